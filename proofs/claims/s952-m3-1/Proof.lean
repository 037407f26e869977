import JvmDerived
import JvmDerived.Pilot.@@N@@Statement
import JvmDerived.Pilot.@@N@@Code
set_option linter.unusedVariables false
set_option linter.unusedSimpArgs false
/- laws to paste: Road.backV, Road.codOf, Road.eqW (cut by pick.py; bodies as the Statement names them) -/
namespace Jvm.Pilot.@@N@@
namespace StrChars
open Jvm Sem ClassFile Op Lib Jvm.Stand Jvm.Free.XT Jvm.Free.ALB Jvm.Free.JM Jvm.Free
open Jvm.Lib.Cold (StaticIs)
/-- a char array whose places are chars -/
def Ch (a : Addr) (A : Cell) (U : State) : Prop := Arr .char a A U ∧ Typed .char A
theorem Ch.mv {a : Addr} {A : Cell} {U U' : State} (h : Ch a A U) (hal : U.vm.Alike U'.vm) (hh : U'.heap = U.heap) : Ch a A U' := ⟨h.1.mv hal hh, h.2⟩
theorem Ch.keep {a : Addr} {A : Cell} {U U' : State} (h : Ch a A U) (hal : U.vm.Alike U'.vm) (hk : U'.heap[a]? = some A) : Ch a A U' := ⟨h.1.keep hal hk, h.2⟩
/-- what place i of a char[]'s cell holds -/
def cv (A : Cell) (i : Nat) : Int32 := match A.slots[i]? with | some (.int x) => x | _ => 0
theorem Ch.get {a : Addr} {A : Cell} {U : State} (h : Ch a A U) {i : Nat} (hi : i < A.slots.size) : A.slots[i]? = some (.int (cv A i)) := by
  have e := Array.getElem?_eq_getElem hi
  have f := h.2 i _ e
  unfold cv; rw [e]
  generalize A.slots[i] = v at f
  cases v <;> simp [fits] at f ⊢
/-- the byte that i2b leaves of a char -/
def lo8 (x : Int32) : Int32 := x.toInt8.toInt32
theorem fits_lo8 (y : Int32) : fits .byte (.int (lo8 y)) = true := by
  have h1 := y.toInt8.le_toInt
  have h2 := y.toInt8.toInt_lt
  simp only [lo8, fits, Bool.and_eq_true, decide_eq_true_eq, Int32.le_iff_toInt_le, Int8.toInt_toInt32, show (-128 : Int32).toInt = -128 from by decide, show (127 : Int32).toInt = 127 from by decide]
  omega
/-- A' is A but that each place j of lo .. hi - 1 holds f j -/
def Laid (A A' : Cell) (lo hi : Nat) (f : Nat → Value) : Prop := A'.cls = A.cls ∧ A'.vm = A.vm ∧ A'.slots.size = A.slots.size ∧ ∀ i, A'.slots[i]? = if lo ≤ i ∧ i < hi then some (f i) else A.slots[i]?
theorem Laid.zero (A : Cell) (lo : Nat) (f : Nat → Value) : Laid A A lo (lo + 0) f := ⟨rfl, rfl, rfl, fun i => by rw [if_neg (by omega)]⟩
theorem Laid.step {A Ak : Cell} {lo k : Nat} {f : Nat → Value} {v : Value} (h : Laid A Ak lo k f) (hlo : lo ≤ k) (hk : k < Ak.slots.size) (hv : v = f k) : Laid A (Ak.setSlot k v) lo (k + 1) f := by
  refine ⟨h.1, h.2.1, by simpa [Cell.setSlot] using h.2.2.1, fun i => ?_⟩
  by_cases e : k = i
  · subst e; rw [Cell.slots_setSlot_self v hk, if_pos (by omega), hv]
  · rw [Cell.slots_setSlot_ne v e, h.2.2.2 i]
    by_cases q : lo ≤ i ∧ i < k
    · rw [if_pos q, if_pos (by omega)]
    · rw [if_neg q, if_neg (by omega)]
def U16 : String := "java/lang/StringUTF16"
namespace Cmp5
def yN : MethodName := ⟨"java/lang/StringUTF16", "compress", "([CI[BII)I"⟩
abbrev yB : ByteArray := jdk_52_method_21_code
theorem d0 : decode yB 0 = .ok (.iconst 0, 1) := by decide +kernel
theorem d1 : decode yB 1 = .ok (.istore 5, 2) := by decide +kernel
theorem d3 : decode yB 3 = .ok (.iload 5, 2) := by decide +kernel
theorem d5 : decode yB 5 = .ok (.iload 4, 2) := by decide +kernel
theorem d7 : decode yB 7 = .ok (.if_icmp (.ge) 37, 3) := by decide +kernel
theorem d10 : decode yB 10 = .ok (.aload_n 0, 1) := by decide +kernel
theorem d11 : decode yB 11 = .ok (.iload_n 1, 1) := by decide +kernel
theorem d12 : decode yB 12 = .ok (.caload, 1) := by decide +kernel
theorem d13 : decode yB 13 = .ok (.istore 6, 2) := by decide +kernel
theorem d15 : decode yB 15 = .ok (.iload 6, 2) := by decide +kernel
theorem d17 : decode yB 17 = .ok (.sipush 255, 3) := by decide +kernel
theorem d20 : decode yB 20 = .ok (.if_icmp (.le) 6, 3) := by decide +kernel
theorem d26 : decode yB 26 = .ok (.aload_n 2, 1) := by decide +kernel
theorem d27 : decode yB 27 = .ok (.iload_n 3, 1) := by decide +kernel
theorem d28 : decode yB 28 = .ok (.iload 6, 2) := by decide +kernel
theorem d30 : decode yB 30 = .ok (.i2b, 1) := by decide +kernel
theorem d31 : decode yB 31 = .ok (.bastore, 1) := by decide +kernel
theorem d32 : decode yB 32 = .ok (.iinc 1 1, 3) := by decide +kernel
theorem d35 : decode yB 35 = .ok (.iinc 3 1, 3) := by decide +kernel
theorem d38 : decode yB 38 = .ok (.iinc 5 1, 3) := by decide +kernel
theorem d41 : decode yB 41 = .ok (.goto (-38), 3) := by decide +kernel
theorem d44 : decode yB 44 = .ok (.iload 4, 2) := by decide +kernel
theorem d46 : decode yB 46 = .ok (.ireturn, 1) := by decide +kernel
def site : List Cond := []
def tab : Cond := tabOf yN yB 7 (some .int) site
def P (b : Addr) (A : Cell) (d : Addr) (B : Cell) (o q len : Nat) (args : Array Value) (s : State) : Prop := args = #[.ref b, .int (Int32.ofNat o), .ref d, .int (Int32.ofNat q), .int (Int32.ofNat len)] ∧ Ch b A s ∧ Arr .byte d B s ∧ b ≠ d ∧ o + len ≤ A.slots.size ∧ q + len ≤ B.slots.size ∧ ∀ i, i < len → ¬ 255 < cv A (o + i)
def E (b : Addr) (A : Cell) (d : Addr) (B : Cell) (o q len : Nat) (r : Option Value) (s u : State) : Prop := r = some (.int (Int32.ofNat len)) ∧ ∃ B', Put d B' s u ∧ Laid B B' q (q + len) (fun j => Value.int (lo8 (cv A (o + (j - q)))))
/-- no char of the range above 255: len; the places written hold each char's low byte -/
theorem law (l : Launch) (b : Addr) (A : Cell) (d : Addr) (B : Cell) (o q len : Nat) : Law l yN 5 5 0 0 yB 7 (some .int) site (P b A d B o q len) (E b A d B o q len) (copyLocs d q len) 0 0 := by
  refine Law.of_walk (plainFor_of_name (by decide +kernel)) (by decide +kernel) (by decide +kernel) (by decide) (fun _ _ h => by rw [h.1]; rfl) (fun _ U U' hal hh h => ⟨h.1, h.2.1.mv hal hh, h.2.2.1.mv hal hh, h.2.2.2⟩) (fun r U U' V V' h1 hal h2 h => ⟨h.1, h.2.elim fun B' q => ⟨B', q.1.mv h1 h2, q.2⟩⟩) ?_
  intro p e s m args below meth c s₁ X0 hexec hbytes hml hret hlk hnm hown hh0 W hP
  obtain ⟨rfl, hA, hB, hne, l1, l2, hp⟩ := hP
  have c1 : Steps p.tables e below (s₁.setTop (entryFrame m #[.ref b, .int (Int32.ofNat o), .ref d, .int (Int32.ofNat q), .int (Int32.ofNat len)] 7)) (s₁.setTop (mkF m 0 #[.val (.ref b), .val (.int (Int32.ofNat o)), .val (.ref d), .val (.int (Int32.ofNat q)), .val (.int (Int32.ofNat len)), .unset, .unset] [])) := entry rfl
  have hA0 := hA.1.mv X0.warmed.alike hh0
  have hB0 := hB.mv X0.warmed.alike hh0
  have a31 := hA.1.2.2.2
  have c2 : Steps p.tables e below (s₁.setTop (entryFrame m #[.ref b, .int (Int32.ofNat o), .ref d, .int (Int32.ofNat q), .int (Int32.ofNat len)] 7)) (s₁.setTop (mkF m 3 #[.val (.ref b), .val (.int (Int32.ofNat o)), .val (.ref d), .val (.int (Int32.ofNat q)), .val (.int (Int32.ofNat len)), .val (.int 0), .unset] [])) := c1.trans (by
    refine iconstV X0.here hexec rfl 0 (hb hbytes d0) (by decide) ?_
    refine XS.istore X0.here hexec rfl (hb hbytes d1) rfl rfl ?_
    exact Steps.refl _)
  have loop : ∀ (r i : Nat), i + r = len → ∀ (z : Slot), (z = .unset ∨ ∃ w, z = .val w ∧ w.category = 1) → ∀ (Tl : State) (Bk : Cell), Stand p l e { frames := 0, locals := 0, cells := 0, slots := 0 } s m #[.ref b, .int (Int32.ofNat o), .ref d, .int (Int32.ofNat q), .int (Int32.ofNat len)] below meth c Tl ([] ++ copyLocs d q i) 0 0 → Put d Bk s₁ Tl → Laid B Bk q (q + i) (fun j => Value.int (lo8 (cv A (o + (j - q))))) →
      Steps p.tables e below (s₁.setTop (entryFrame m #[.ref b, .int (Int32.ofNat o), .ref d, .int (Int32.ofNat q), .int (Int32.ofNat len)] 7)) (Tl.setTop (mkF m 3 #[.val (.ref b), .val (.int (Int32.ofNat (o + i))), .val (.ref d), .val (.int (Int32.ofNat (q + i))), .val (.int (Int32.ofNat len)), .val (.int (Int32.ofNat i)), z] [])) → ∃ (T' : State) (B' : Cell) (z' : Slot), Stand p l e { frames := 0, locals := 0, cells := 0, slots := 0 } s m #[.ref b, .int (Int32.ofNat o), .ref d, .int (Int32.ofNat q), .int (Int32.ofNat len)] below meth c T' ([] ++ copyLocs d q len) 0 0 ∧ Put d B' s₁ T' ∧ Laid B B' q (q + len) (fun j => Value.int (lo8 (cv A (o + (j - q))))) ∧
      Steps p.tables e below (s₁.setTop (entryFrame m #[.ref b, .int (Int32.ofNat o), .ref d, .int (Int32.ofNat q), .int (Int32.ofNat len)] 7)) (T'.setTop (mkF m 3 #[.val (.ref b), .val (.int (Int32.ofNat (o + len))), .val (.ref d), .val (.int (Int32.ofNat (q + len))), .val (.int (Int32.ofNat len)), .val (.int (Int32.ofNat len)), z'] [])) := by
    intro r
    induction r with
    | zero =>
      intro i hi z hz Tl Bk Xl pl fl cl
      have hil : i = len := by omega
      rw [hil] at Xl fl cl
      exact ⟨Tl, Bk, z, Xl, pl, fl, cl⟩
    | succ r ih =>
      intro i hi z hz Tl Bk Xl pl fl cl
      have all := X0.warmed.alike.symm.trans Xl.warmed.alike
      have hAl := hA0.keep all (pl.other hne hA0.1)
      have hBk := hB0.like all pl.1 fl.1 fl.2.1 fl.2.2.1
      have hlt : q + i < Bk.slots.size := by rw [fl.2.2.1]; omega
      have c3 : Steps p.tables e below (s₁.setTop (entryFrame m #[.ref b, .int (Int32.ofNat o), .ref d, .int (Int32.ofNat q), .int (Int32.ofNat len)] 7)) (Tl.setTop (mkF m 12 #[.val (.ref b), .val (.int (Int32.ofNat (o + i))), .val (.ref d), .val (.int (Int32.ofNat (q + i))), .val (.int (Int32.ofNat len)), .val (.int (Int32.ofNat i)), z] [.int (Int32.ofNat (o + i)), .ref b])) := cl.trans (by
        refine XS.iload Xl.here hexec rfl (hb hbytes d3) rfl ?_
        refine XS.iload Xl.here hexec rfl (hb hbytes d5) rfl ?_
        refine XS.icmpNo Xl.here hexec rfl (hb hbytes d7) rfl (ii_ge_f (lt32 (by omega) (by omega))) ?_
        refine XS.aloadN Xl.here hexec rfl (hb hbytes d10) rfl rfl ?_
        refine XS.iloadN Xl.here hexec rfl (hb hbytes d11) rfl ?_
        exact Steps.refl _)
      have c4 : Steps p.tables e below (s₁.setTop (entryFrame m #[.ref b, .int (Int32.ofNat o), .ref d, .int (Int32.ofNat q), .int (Int32.ofNat len)] 7)) (Tl.setTop (mkF m 13 #[.val (.ref b), .val (.int (Int32.ofNat (o + i))), .val (.ref d), .val (.int (Int32.ofNat (q + i))), .val (.int (Int32.ofNat len)), .val (.int (Int32.ofNat i)), z] [.int (cv A (o + i))])) := c3.trans (by
        refine Xl.aget hexec hAl rfl (hA.get (i := o + i) (by omega)) rfl rfl (hb hbytes d12) ?_
        exact Steps.refl _)
      have c5 : Steps p.tables e below (s₁.setTop (entryFrame m #[.ref b, .int (Int32.ofNat o), .ref d, .int (Int32.ofNat q), .int (Int32.ofNat len)] 7)) (Tl.setTop (mkF m 15 #[.val (.ref b), .val (.int (Int32.ofNat (o + i))), .val (.ref d), .val (.int (Int32.ofNat (q + i))), .val (.int (Int32.ofNat len)), .val (.int (Int32.ofNat i)), .val (.int (cv A (o + i)))] [])) := c4.trans (by
        refine XS.istoreS Xl.here hexec rfl (hb hbytes d13) rfl rfl hz ?_
        exact Steps.refl _)
      have c6 : Steps p.tables e below (s₁.setTop (entryFrame m #[.ref b, .int (Int32.ofNat o), .ref d, .int (Int32.ofNat q), .int (Int32.ofNat len)] 7)) (Tl.setTop (mkF m 31 #[.val (.ref b), .val (.int (Int32.ofNat (o + i))), .val (.ref d), .val (.int (Int32.ofNat (q + i))), .val (.int (Int32.ofNat len)), .val (.int (Int32.ofNat i)), .val (.int (cv A (o + i)))] [.int (lo8 (cv A (o + i))), .int (Int32.ofNat (q + i)), .ref d])) := c5.trans (by
        refine XS.iload Xl.here hexec rfl (hb hbytes d15) rfl ?_
        refine sipushV Xl.here hexec rfl 255 (hb hbytes d17) (by decide) ?_
        refine XS.icmpYes Xl.here hexec rfl (pc0 := 20) rfl (hb hbytes d20) rfl (ii_le_t (hp i (by omega))) (by decide) rfl ?_
        refine XS.aloadN Xl.here hexec rfl (hb hbytes d26) rfl rfl ?_
        refine XS.iloadN Xl.here hexec rfl (hb hbytes d27) rfl ?_
        refine XS.iload Xl.here hexec rfl (hb hbytes d28) rfl ?_
        refine i2b Xl.here hexec rfl (hb hbytes d30) rfl ?_
        exact Steps.refl _)
      obtain ⟨T7, X7, p7, st7⟩ := Xl.aput hexec hBk rfl hlt rfl (fits_lo8 (cv A (o + i))) (g := (mkF m 31 #[.val (.ref b), .val (.int (Int32.ofNat (o + i))), .val (.ref d), .val (.int (Int32.ofNat (q + i))), .val (.int (Int32.ofNat len)), .val (.int (Int32.ofNat i)), .val (.int (cv A (o + i)))] [.int (lo8 (cv A (o + i))), .int (Int32.ofNat (q + i)), .ref d])) rfl (rest := []) rfl (hb hbytes d31)
      have c8 : Steps p.tables e below (s₁.setTop (entryFrame m #[.ref b, .int (Int32.ofNat o), .ref d, .int (Int32.ofNat q), .int (Int32.ofNat len)] 7)) (T7.setTop (mkF m 32 #[.val (.ref b), .val (.int (Int32.ofNat (o + i))), .val (.ref d), .val (.int (Int32.ofNat (q + i))), .val (.int (Int32.ofNat len)), .val (.int (Int32.ofNat i)), .val (.int (cv A (o + i)))] [])) := c6.trans (st7 _ (Steps.refl _))
      have c9 : Steps p.tables e below (s₁.setTop (entryFrame m #[.ref b, .int (Int32.ofNat o), .ref d, .int (Int32.ofNat q), .int (Int32.ofNat len)] 7)) (T7.setTop (mkF m 3 #[.val (.ref b), .val (.int (Int32.ofNat (o + i) + 1)), .val (.ref d), .val (.int (Int32.ofNat (q + i) + 1)), .val (.int (Int32.ofNat len)), .val (.int (Int32.ofNat i + 1)), .val (.int (cv A (o + i)))] [])) := c8.trans (by
        refine iincV X7.here hexec rfl 1 (hb hbytes d32) (by decide) rfl rfl ?_
        refine iincV X7.here hexec rfl 1 (hb hbytes d35) (by decide) rfl rfl ?_
        refine iincV X7.here hexec rfl 1 (hb hbytes d38) (by decide) rfl rfl ?_
        refine XS.goto X7.here hexec rfl (pc0 := 41) rfl (hb hbytes d41) (by decide) rfl ?_
        exact Steps.refl _)
      have c10 : Steps p.tables e below (s₁.setTop (entryFrame m #[.ref b, .int (Int32.ofNat o), .ref d, .int (Int32.ofNat q), .int (Int32.ofNat len)] 7)) (T7.setTop (mkF m 3 #[.val (.ref b), .val (.int (Int32.ofNat (o + (i + 1)))), .val (.ref d), .val (.int (Int32.ofNat (q + (i + 1)))), .val (.int (Int32.ofNat len)), .val (.int (Int32.ofNat (i + 1))), .val (.int (cv A (o + i)))] [])) := by
        have := c9
        rw [succ32, succ32, succ32] at this
        exact this
      exact ih (i + 1) (by omega) _ (Or.inr ⟨_, rfl, rfl⟩) T7 _ (by rw [copyLocs_step, ← List.append_assoc]; exact X7) (pl.trans p7) (fl.step (by omega) hlt (by simp)) c10
  obtain ⟨T9, B9, z9, X9, p9, f9, g9⟩ := loop len 0 (by omega) .unset (Or.inl rfl) s₁ B (by simpa [copyLocs] using X0) ⟨hB0.1, fun _ _ => rfl, rfl⟩ (Laid.zero _ _ _) c2
  have c11 : Steps p.tables e below (s₁.setTop (entryFrame m #[.ref b, .int (Int32.ofNat o), .ref d, .int (Int32.ofNat q), .int (Int32.ofNat len)] 7)) (T9.setTop (mkF m 46 #[.val (.ref b), .val (.int (Int32.ofNat (o + len))), .val (.ref d), .val (.int (Int32.ofNat (q + len))), .val (.int (Int32.ofNat len)), .val (.int (Int32.ofNat len)), z9] [.int (Int32.ofNat len)])) := g9.trans (by
    refine XS.iload X9.here hexec rfl (hb hbytes d3) rfl ?_
    refine XS.iload X9.here hexec rfl (hb hbytes d5) rfl ?_
    refine XS.icmpYes X9.here hexec rfl (pc0 := 7) rfl (hb hbytes d7) rfl (ii_ge_t (nlt32 (by omega) (Nat.le_refl _))) (by decide) rfl ?_
    refine XS.iload X9.here hexec rfl (hb hbytes d44) rfl ?_
    exact Steps.refl _)
  exact ⟨T9, some (.int (Int32.ofNat len)), _, _, _, X9, by simp, rfl, rfl, (fun h => by cases h), ⟨rfl, B9, p9.from hh0, f9⟩, fun fs hl => c11.trans (X9.ireturnOut hexec hret rfl (Or.inl rfl) (hb hbytes d46) hl)⟩
end Cmp5
namespace Cmp3
def yN : MethodName := ⟨"java/lang/StringUTF16", "compress", "([CII)[B"⟩
abbrev yB : ByteArray := jdk_52_method_16_code
theorem d0 : decode yB 0 = .ok (.iload_n 2, 1) := by decide +kernel
theorem d1 : decode yB 1 = .ok (.newarray .byte, 2) := by decide +kernel
theorem d3 : decode yB 3 = .ok (.astore_n 3, 1) := by decide +kernel
theorem d4 : decode yB 4 = .ok (.aload_n 0, 1) := by decide +kernel
theorem d5 : decode yB 5 = .ok (.iload_n 1, 1) := by decide +kernel
theorem d6 : decode yB 6 = .ok (.aload_n 3, 1) := by decide +kernel
theorem d7 : decode yB 7 = .ok (.iconst 0, 1) := by decide +kernel
theorem d8 : decode yB 8 = .ok (.iload_n 2, 1) := by decide +kernel
theorem d9 : decode yB 9 = .ok (.invokestatic 115, 3) := by decide +kernel
theorem d12 : decode yB 12 = .ok (.istore 4, 2) := by decide +kernel
theorem d14 : decode yB 14 = .ok (.iload 4, 2) := by decide +kernel
theorem d16 : decode yB 16 = .ok (.iload_n 2, 1) := by decide +kernel
theorem d17 : decode yB 17 = .ok (.if_icmp (.eq) 40, 3) := by decide +kernel
theorem d57 : decode yB 57 = .ok (.aload_n 3, 1) := by decide +kernel
theorem d58 : decode yB 58 = .ok (.areturn, 1) := by decide +kernel
def site : List Cond := [.arrayClass .byte, Cmp5.tab] ++ staticW U16 115 Cmp5.yN
def tab : Cond := tabOf yN yB 6 (some (.array .byte)) site
def P (b : Addr) (A : Cell) (o len : Nat) (args : Array Value) (s : State) : Prop := args = #[.ref b, .int (Int32.ofNat o), .int (Int32.ofNat len)] ∧ Ch b A s ∧ o + len ≤ A.slots.size ∧ len ≤ 536870912 ∧ ∀ i, i < len → ¬ 255 < cv A (o + i)
def E (b : Addr) (A : Cell) (o len : Nat) (r : Option Value) (s u : State) : Prop := NewArr .byte "[B" len (fun j => .int (lo8 (cv A (o + j)))) r s u ∧ u.heap.size = s.heap.size + 1
/-- no char of the range above 255: a new byte[] of their low bytes -/
theorem law (l : Launch) (b : Addr) (A : Cell) (o len : Nat) : Law l yN 3 3 1 18 yB 6 (some (.array .byte)) site (P b A o len) (E b A o len) [] 1 len := by
  refine Law.of_walk (plainFor_of_name (by decide +kernel)) (by decide +kernel) (by decide +kernel) (by decide) (fun _ _ h => by rw [h.1]; rfl) (fun _ U U' hal hh h => ⟨h.1, h.2.1.mv hal hh, h.2.2⟩) (fun r U U' V V' h1 hal h2 h => ⟨NewArr.mv r U U' V V' h1 hal h2 h.1, by rw [h1, h2]; exact h.2⟩) ?_
  intro p e s m args below meth c s₁ X0 hexec hbytes hml hret hlk hnm hown hh0 W hP
  obtain ⟨rfl, hA, l1, l2, hp⟩ := hP
  have a31 := hA.1.2.2.2
  have c1 : Steps p.tables e below (s₁.setTop (entryFrame m #[.ref b, .int (Int32.ofNat o), .int (Int32.ofNat len)] 6)) (s₁.setTop (mkF m 0 #[.val (.ref b), .val (.int (Int32.ofNat o)), .val (.int (Int32.ofNat len)), .unset, .unset, .unset] [])) := entry rfl
  have c2 : Steps p.tables e below (s₁.setTop (entryFrame m #[.ref b, .int (Int32.ofNat o), .int (Int32.ofNat len)] 6)) (s₁.setTop (mkF m 1 #[.val (.ref b), .val (.int (Int32.ofNat o)), .val (.int (Int32.ofNat len)), .unset, .unset, .unset] [.int (Int32.ofNat len)])) := c1.trans (by
    refine XS.iloadN X0.here hexec rfl (hb hbytes d0) rfl ?_
    exact Steps.refl _)
  obtain ⟨T3, B3, X3, ba3, bs3, bv3, bh3, bf3, st3⟩ := X0.anew hexec (atype := .byte) (wk W (.arrayClass .byte)) rfl (by show len * 1 ≤ _; omega) (by omega) (g := (mkF m 1 #[.val (.ref b), .val (.int (Int32.ofNat o)), .val (.int (Int32.ofNat len)), .unset, .unset, .unset] [.int (Int32.ofNat len)])) rfl (hb hbytes d1) (rest := []) rfl (Nat.le_refl _) (by show 0 + len ≤ len; omega)
  rw [hh0] at ba3 st3
  have kp3 : XT.Kept s T3 := (XT.Kept.of_eq hh0).push bh3
  have hA3 := hA.keep X3.warmed.alike (kp3 _ _ hA.1.1)
  have hne : b ≠ s.heap.size := hA.1.ne
  have c4 : Steps p.tables e below (s₁.setTop (entryFrame m #[.ref b, .int (Int32.ofNat o), .int (Int32.ofNat len)] 6)) (T3.setTop (mkF m 3 #[.val (.ref b), .val (.int (Int32.ofNat o)), .val (.int (Int32.ofNat len)), .unset, .unset, .unset] [.ref s.heap.size])) := c2.trans (st3 _ (Steps.refl _))
  have c5 : Steps p.tables e below (s₁.setTop (entryFrame m #[.ref b, .int (Int32.ofNat o), .int (Int32.ofNat len)] 6)) (T3.setTop (mkF m 9 #[.val (.ref b), .val (.int (Int32.ofNat o)), .val (.int (Int32.ofNat len)), .val (.ref s.heap.size), .unset, .unset] [.int (Int32.ofNat len), .int 0, .ref s.heap.size, .int (Int32.ofNat o), .ref b])) := c4.trans (by
    refine XS.astoreN X3.here hexec rfl (hb hbytes d3) rfl rfl rfl ?_
    refine XS.aloadN X3.here hexec rfl (hb hbytes d4) rfl rfl ?_
    refine XS.iloadN X3.here hexec rfl (hb hbytes d5) rfl ?_
    refine XS.aloadN X3.here hexec rfl (hb hbytes d6) rfl rfl ?_
    refine iconstV X3.here hexec rfl 0 (hb hbytes d7) (by decide) ?_
    refine XS.iloadN X3.here hexec rfl (hb hbytes d8) rfl ?_
    exact Steps.refl _)
  obtain ⟨v6, T6, X6, E6, g6⟩ := X3.callS hexec (Cmp5.law l b A s.heap.size B3 o 0 len) hown (wks W (staticW U16 115 Cmp5.yN)) (wk W Cmp5.tab) (W := 0) (Nat.le_of_ble_eq_true rfl) (Nat.le_of_ble_eq_true rfl) (Nat.le_refl _) (by show 0 + len + 0 ≤ len; omega) (g := (mkF m 9 #[.val (.ref b), .val (.int (Int32.ofNat o)), .val (.int (Int32.ofNat len)), .val (.ref s.heap.size), .unset, .unset] [.int (Int32.ofNat len), .int (Int32.ofNat 0), .ref s.heap.size, .int (Int32.ofNat o), .ref b])) rfl (by rw [hml]; rfl) c5 (argsL := [.ref b, .int (Int32.ofNat o), .ref s.heap.size, .int (Int32.ofNat 0), .int (Int32.ofNat len)]) (rest := []) rfl rfl (by show 2 * 0 + 0 ≤ _; decide) (hb hbytes d9) (⟨rfl, hA3, ba3, hne, l1, by rw [bs3]; simp, hp⟩)
  obtain ⟨rfl, B6, p6, f6⟩ := E6
  have c7 : Steps p.tables e below (s₁.setTop (entryFrame m #[.ref b, .int (Int32.ofNat o), .int (Int32.ofNat len)] 6)) (T6.setTop (mkF m 12 #[.val (.ref b), .val (.int (Int32.ofNat o)), .val (.int (Int32.ofNat len)), .val (.ref s.heap.size), .unset, .unset] [.int (Int32.ofNat len)])) := g6
  have c8 : Steps p.tables e below (s₁.setTop (entryFrame m #[.ref b, .int (Int32.ofNat o), .int (Int32.ofNat len)] 6)) (T6.setTop (mkF m 58 #[.val (.ref b), .val (.int (Int32.ofNat o)), .val (.int (Int32.ofNat len)), .val (.ref s.heap.size), .val (.int (Int32.ofNat len)), .unset] [.ref s.heap.size])) := c7.trans (by
    refine XS.istore X6.here hexec rfl (hb hbytes d12) rfl rfl ?_
    refine XS.iload X6.here hexec rfl (hb hbytes d14) rfl ?_
    refine XS.iloadN X6.here hexec rfl (hb hbytes d16) rfl ?_
    refine XS.icmpYes X6.here hexec rfl (pc0 := 17) rfl (hb hbytes d17) rfl (ii_eq_t rfl) (by decide) rfl ?_
    refine XS.aloadN X6.here hexec rfl (hb hbytes d57) rfl rfl ?_
    exact Steps.refl _)
  have X8 := X6.wide (L' := []) (cells' := 1) (slots' := len) (fun x hx hlt => by
    simp only [List.nil_append, copyLocs, List.mem_map, List.mem_range] at hx
    obtain ⟨i, -, rfl⟩ := hx
    exact absurd hlt (Nat.lt_irrefl _)) (Nat.le_refl _) (by omega)
  exact ⟨T6, some (.ref s.heap.size), _, _, _, X8, rfl, rfl, rfl, (fun h => by cases h), ⟨⟨rfl, B6, ba3.like (X3.warmed.alike.symm.trans X6.warmed.alike) p6.1 f6.1 f6.2.1 f6.2.2.1, f6.2.1.trans bv3, by rw [X6.warmed.alike.findClass, f6.1]; exact bf3, by rw [f6.2.2.1, bs3]; simp, fun j hj => by rw [f6.2.2.2 j, if_pos (by omega)]; rfl, kp3.put p6 (Nat.le_refl _)⟩, by rw [p6.2.2, bh3, hh0]; simp⟩, fun fs hl => c8.trans (X8.areturnOut hexec rfl hret rfl (hb hbytes d58) hl)⟩
end Cmp3
namespace CodL
def yN : MethodName := ⟨"java/lang/StringUTF16", "coderFromArrayLen", "([BI)B"⟩
abbrev yB : ByteArray := jdk_52_method_15_code
theorem d0 : decode yB 0 = .ok (.iload_n 1, 1) := by decide +kernel
theorem d1 : decode yB 1 = .ok (.aload_n 0, 1) := by decide +kernel
theorem d2 : decode yB 2 = .ok (.arraylength, 1) := by decide +kernel
theorem d3 : decode yB 3 = .ok (.isub, 1) := by decide +kernel
theorem d4 : decode yB 4 = .ok (.bipush 31, 2) := by decide +kernel
theorem d6 : decode yB 6 = .ok (.iushr, 1) := by decide +kernel
theorem d7 : decode yB 7 = .ok (.i2b, 1) := by decide +kernel
theorem d8 : decode yB 8 = .ok (.ireturn, 1) := by decide +kernel
def site : List Cond := []
def tab : Cond := tabOf yN yB 2 (some .byte) site
def P (d : Addr) (B : Cell) (args : Array Value) (s : State) : Prop := args = #[.ref d, .int (Int32.ofNat B.slots.size)] ∧ Arr .byte d B s
def E (r : Option Value) (s u : State) : Prop := XT.PureE (some (.int 0)) r s u
/-- an array as long as the number of chars: LATIN1 -/
theorem law (l : Launch) (d : Addr) (B : Cell) : Law l yN 2 2 0 0 yB 2 (some .byte) site (P d B) E [] 0 0 := by
  refine Law.of_walk (plainFor_of_name (by decide +kernel)) (by decide +kernel) (by decide +kernel) (by decide) (fun _ _ h => by rw [h.1]; rfl) (fun _ U U' hal hh h => ⟨h.1, h.2.mv hal hh⟩) (fun r U U' V V' h1 hal h2 h => XT.PureE.mv r U U' V V' h1 hal h2 h) ?_
  intro p e s m args below meth c s₁ X0 hexec hbytes hml hret hlk hnm hown hh0 W hP
  obtain ⟨rfl, hB⟩ := hP
  have hB0 := hB.mv X0.warmed.alike hh0
  have c1 : Steps p.tables e below (s₁.setTop (entryFrame m #[.ref d, .int (Int32.ofNat B.slots.size)] 2)) (s₁.setTop (mkF m 0 #[.val (.ref d), .val (.int (Int32.ofNat B.slots.size))] [])) := entry rfl
  have c2 : Steps p.tables e below (s₁.setTop (entryFrame m #[.ref d, .int (Int32.ofNat B.slots.size)] 2)) (s₁.setTop (mkF m 2 #[.val (.ref d), .val (.int (Int32.ofNat B.slots.size))] [.ref d, .int (Int32.ofNat B.slots.size)])) := c1.trans (by
    refine XS.iloadN X0.here hexec rfl (hb hbytes d0) rfl ?_
    refine XS.aloadN X0.here hexec rfl (hb hbytes d1) rfl rfl ?_
    exact Steps.refl _)
  have c3 : Steps p.tables e below (s₁.setTop (entryFrame m #[.ref d, .int (Int32.ofNat B.slots.size)] 2)) (s₁.setTop (mkF m 8 #[.val (.ref d), .val (.int (Int32.ofNat B.slots.size))] [.int (lo8 (ushr (Int32.ofNat B.slots.size - Int32.ofNat B.slots.size) 31))])) := c2.trans (by
    refine X0.alen hexec hB0 rfl rfl (hb hbytes d2) ?_
    refine XS.isub X0.here hexec rfl (hb hbytes d3) rfl ?_
    refine bipushV X0.here hexec rfl 31 (hb hbytes d4) (by decide) ?_
    refine iushr X0.here hexec rfl (hb hbytes d6) rfl ?_
    refine i2b X0.here hexec rfl (hb hbytes d7) rfl ?_
    exact Steps.refl _)
  have e0 : lo8 (ushr (Int32.ofNat B.slots.size - Int32.ofNat B.slots.size) 31) = 0 := by rw [Int32.sub_self]; decide
  rw [e0] at c3
  exact ⟨s₁, some (.int 0), _, _, _, X0, rfl, rfl, rfl, (fun h => by cases h), ⟨rfl, hh0⟩, fun fs hl => c3.trans (X0.ireturnOut hexec hret rfl (Or.inr (Or.inr (Or.inl rfl))) (hb hbytes d8) hl)⟩
end CodL
/-- the String at a is Latin-1 over a new byte[] (the heap's one new cell): the low bytes of the len chars of A from o on; every cell but a is kept -/
def Got (a : Addr) (D : Cell) (fV fC : Field) (A : Cell) (o len : Nat) (r : Option Value) (s u : State) : Prop := r = none ∧ ∃ D' V : Cell, Blank "java/lang/String" a D' u ∧ Same D D' [fV.slot, fC.slot] ∧ D'.slots[fV.slot]? = some (.ref s.heap.size) ∧ D'.slots[fC.slot]? = some (.int 0) ∧ Arr .byte s.heap.size V u ∧ V.vm = .none ∧ u.vm.findClass "[B" = some V.cls ∧ V.slots.size = len ∧ (∀ j, j < len → V.slots[j]? = some (.int (lo8 (cv A (o + j))))) ∧ (∀ (y : Addr) (c : Cell), y ≠ a → s.heap[y]? = some c → u.heap[y]? = some c) ∧ u.heap.size = s.heap.size + 1
theorem Got.mv {a : Addr} {D A : Cell} {fV fC : Field} {o len : Nat} : ∀ r (U U' V V' : State), U'.heap = U.heap → V.vm.Alike V'.vm → V'.heap = V.heap → Got a D fV fC A o len r U V → Got a D fV fC A o len r U' V' :=
  fun r U U' V V' h1 hal h2 ⟨e0, D', X, a1, a2, a3, a4, a5, a6, a7, a8, a9, a10, a11⟩ => ⟨e0, D', X, a1.mv hal h2, a2, by rw [h1]; exact a3, a4, by rw [h1]; exact a5.mv hal h2, a6, by rw [hal.findClass]; exact a7, a8, a9, by rw [h1, h2]; exact a10, by rw [h1, h2]; exact a11⟩
namespace New4
def yN : MethodName := ⟨"java/lang/String", "<init>", "([CIILjava/lang/Void;)V"⟩
abbrev yB : ByteArray := jdk_42_method_149_code
theorem d0 : decode yB 0 = .ok (.aload_n 0, 1) := by decide +kernel
theorem d1 : decode yB 1 = .ok (.invokespecial 1, 3) := by decide +kernel
theorem d4 : decode yB 4 = .ok (.iload_n 3, 1) := by decide +kernel
theorem d5 : decode yB 5 = .ok (.ifCond (.ne) 22, 3) := by decide +kernel
theorem d27 : decode yB 27 = .ok (.getstatic 38, 3) := by decide +kernel
theorem d30 : decode yB 30 = .ok (.ifCond (.eq) 28, 3) := by decide +kernel
theorem d33 : decode yB 33 = .ok (.aload_n 1, 1) := by decide +kernel
theorem d34 : decode yB 34 = .ok (.iload_n 2, 1) := by decide +kernel
theorem d35 : decode yB 35 = .ok (.iload_n 3, 1) := by decide +kernel
theorem d36 : decode yB 36 = .ok (.invokestatic 177, 3) := by decide +kernel
theorem d39 : decode yB 39 = .ok (.astore 5, 2) := by decide +kernel
theorem d41 : decode yB 41 = .ok (.aload_n 0, 1) := by decide +kernel
theorem d42 : decode yB 42 = .ok (.aload 5, 2) := by decide +kernel
theorem d44 : decode yB 44 = .ok (.iload_n 3, 1) := by decide +kernel
theorem d45 : decode yB 45 = .ok (.invokestatic 47, 3) := by decide +kernel
theorem d48 : decode yB 48 = .ok (.putfield 15, 3) := by decide +kernel
theorem d51 : decode yB 51 = .ok (.aload_n 0, 1) := by decide +kernel
theorem d52 : decode yB 52 = .ok (.aload 5, 2) := by decide +kernel
theorem d54 : decode yB 54 = .ok (.putfield 9, 3) := by decide +kernel
theorem d57 : decode yB 57 = .ok (.return_, 1) := by decide +kernel
def site : List Cond := [.fieldLink "java/lang/String" 38 "java/lang/String" "COMPACT_STRINGS" "Z", Cmp3.tab, CodL.tab, .laysFinal "java/lang/String" "java/lang/String" "value" "[B", .fieldLink "java/lang/String" 9 "java/lang/String" "value" "[B", .laysFinal "java/lang/String" "java/lang/String" "coder" "B", .fieldLink "java/lang/String" 15 "java/lang/String" "coder" "B"] ++ objW "java/lang/String" 1 ++ staticW "java/lang/String" 177 Cmp3.yN ++ staticW "java/lang/String" 47 CodL.yN
def tab : Cond := tabOf yN yB 6 none site
def P (a : Addr) (D : Cell) (fV fC : Field) (b : Addr) (A : Cell) (z : Int32) (o len : Nat) (args : Array Value) (s : State) : Prop := args = #[.ref a, .ref b, .int (Int32.ofNat o), .int (Int32.ofNat len), .null] ∧ Blank "java/lang/String" a D s ∧ Found "java/lang/String" "value" "[B" fV s ∧ Found "java/lang/String" "coder" "B" fC s ∧ Ch b A s ∧ StaticIs s "java/lang/String" "COMPACT_STRINGS" "Z" (.int z) ∧ ¬ z = 0 ∧ 0 < len ∧ o + len ≤ A.slots.size ∧ len ≤ 536870912 ∧ ∀ i, i < len → ¬ 255 < cv A (o + i)
def E (a : Addr) (D : Cell) (fV fC : Field) (A : Cell) (o len : Nat) (r : Option Value) (s u : State) : Prop := Got a D fV fC A o len r s u
/-- len > 0, no char of the range above 255: a Latin-1 String of their low bytes -/
theorem law (l : Launch) (a : Addr) (D : Cell) (fV fC : Field) (b : Addr) (A : Cell) (z : Int32) (o len : Nat) : Law l yN 5 4 2 35 yB 6 none site (P a D fV fC b A z o len) (E a D fV fC A o len) [⟨a, fC.slot⟩, ⟨a, fV.slot⟩] 1 len := by
  refine Law.of_walk (plainFor_of_name (by decide +kernel)) (by decide +kernel) (by decide +kernel) (by decide) (fun _ _ h => by rw [h.1]; rfl) (fun _ U U' hal hh h => ⟨h.1, h.2.1.mv hal hh, h.2.2.1.al hal, h.2.2.2.1.al hal, h.2.2.2.2.1.mv hal hh, h.2.2.2.2.2.1.there hal hh, h.2.2.2.2.2.2⟩) (fun r U U' V V' h1 hal h2 h => Got.mv r U U' V V' h1 hal h2 h) ?_
  intro p e s m args below meth c s₁ X0 hexec hbytes hml hret hlk hnm hown hh0 W hP
  obtain ⟨rfl, hB, f1, f2, hA, s1, hz, l0, l1, l2, hp⟩ := hP
  have a31 := hA.1.2.2.2
  have c1 : Steps p.tables e below (s₁.setTop (entryFrame m #[.ref a, .ref b, .int (Int32.ofNat o), .int (Int32.ofNat len), .null] 6)) (s₁.setTop (mkF m 0 #[.val (.ref a), .val (.ref b), .val (.int (Int32.ofNat o)), .val (.int (Int32.ofNat len)), .val .null, .unset] [])) := entry rfl
  have c2 : Steps p.tables e below (s₁.setTop (entryFrame m #[.ref a, .ref b, .int (Int32.ofNat o), .int (Int32.ofNat len), .null] 6)) (s₁.setTop (mkF m 1 #[.val (.ref a), .val (.ref b), .val (.int (Int32.ofNat o)), .val (.int (Int32.ofNat len)), .val .null, .unset] [.ref a])) := c1.trans (by
    refine XS.aloadN X0.here hexec rfl (hb hbytes d0) rfl rfl ?_
    exact Steps.refl _)
  obtain ⟨T3, X3, q3, st3⟩ := X0.oinit hexec hown (wks W (objW "java/lang/String" 1)) (g := (mkF m 1 #[.val (.ref a), .val (.ref b), .val (.int (Int32.ofNat o)), .val (.int (Int32.ofNat len)), .val .null, .unset] [.ref a])) rfl (by rw [hml]; rfl) (rest := []) rfl (hb hbytes d1) (W := 0) (by show 2 * 0 + 0 ≤ _; decide) (Nat.le_of_ble_eq_true rfl) (Nat.le_of_ble_eq_true rfl)
  have hh3 := q3.trans hh0
  have c4 : Steps p.tables e below (s₁.setTop (entryFrame m #[.ref a, .ref b, .int (Int32.ofNat o), .int (Int32.ofNat len), .null] 6)) (T3.setTop (mkF m 27 #[.val (.ref a), .val (.ref b), .val (.int (Int32.ofNat o)), .val (.int (Int32.ofNat len)), .val .null, .unset] [])) := (c2.trans (st3 _ (Steps.refl _))).trans (by
    refine XS.iloadN X3.here hexec rfl (hb hbytes d4) rfl ?_
    refine XS.ifYes X3.here hexec rfl (pc0 := 5) rfl (hb hbytes d5) rfl (i0_ne_t (nz32 (by omega) l0)) (by decide) rfl ?_
    exact Steps.refl _)
  obtain ⟨T5, X5, q5, st5⟩ := X3.sget hexec hown (wk W (.fieldLink "java/lang/String" 38 "java/lang/String" "COMPACT_STRINGS" "Z")) s1 (fun _ _ h => by rw [hh3]; exact h) (g := (mkF m 27 #[.val (.ref a), .val (.ref b), .val (.int (Int32.ofNat o)), .val (.int (Int32.ofNat len)), .val .null, .unset] [])) rfl (hb hbytes d27)
  have hh5 := q5.trans hh3
  have c6 : Steps p.tables e below (s₁.setTop (entryFrame m #[.ref a, .ref b, .int (Int32.ofNat o), .int (Int32.ofNat len), .null] 6)) (T5.setTop (mkF m 30 #[.val (.ref a), .val (.ref b), .val (.int (Int32.ofNat o)), .val (.int (Int32.ofNat len)), .val .null, .unset] [.int z])) := c4.trans (st5 _ (Steps.refl _))
  have c7 : Steps p.tables e below (s₁.setTop (entryFrame m #[.ref a, .ref b, .int (Int32.ofNat o), .int (Int32.ofNat len), .null] 6)) (T5.setTop (mkF m 36 #[.val (.ref a), .val (.ref b), .val (.int (Int32.ofNat o)), .val (.int (Int32.ofNat len)), .val .null, .unset] [.int (Int32.ofNat len), .int (Int32.ofNat o), .ref b])) := c6.trans (by
    refine XS.ifNo X5.here hexec rfl (hb hbytes d30) rfl (i0_eq_f hz) ?_
    refine XS.aloadN X5.here hexec rfl (hb hbytes d33) rfl rfl ?_
    refine XS.iloadN X5.here hexec rfl (hb hbytes d34) rfl ?_
    refine XS.iloadN X5.here hexec rfl (hb hbytes d35) rfl ?_
    exact Steps.refl _)
  obtain ⟨v8, T8, X8, E8, g8⟩ := X5.callS hexec (Cmp3.law l b A o len) hown (wks W (staticW "java/lang/String" 177 Cmp3.yN)) (wk W Cmp3.tab) (W := 0) (Nat.le_of_ble_eq_true rfl) (Nat.le_of_ble_eq_true rfl) (Nat.le_refl _) (by show 0 + len ≤ len; omega) (g := (mkF m 36 #[.val (.ref a), .val (.ref b), .val (.int (Int32.ofNat o)), .val (.int (Int32.ofNat len)), .val .null, .unset] [.int (Int32.ofNat len), .int (Int32.ofNat o), .ref b])) rfl (by rw [hml]; rfl) c7 (argsL := [.ref b, .int (Int32.ofNat o), .int (Int32.ofNat len)]) (rest := []) rfl rfl (by show 2 * 0 + 0 ≤ _; decide) (hb hbytes d36) (⟨rfl, hA.mv X5.warmed.alike hh5, l1, l2, hp⟩)
  obtain ⟨e8, z8⟩ := E8
  obtain ⟨rfl, N, n1, n2, n3, n4, n5, n6⟩ := NewArr.mv _ T5 s _ _ hh5.symm (Vm.Alike.refl _) rfl e8
  rw [hh5] at z8
  have hB1 := hB.keep X8.warmed.alike (n6 _ _ hB.1)
  have hne : s.heap.size ≠ a := (Nat.ne_of_lt (Array.getElem?_eq_some_iff.mp hB.1).1).symm
  have c9 : Steps p.tables e below (s₁.setTop (entryFrame m #[.ref a, .ref b, .int (Int32.ofNat o), .int (Int32.ofNat len), .null] 6)) (T8.setTop (mkF m 39 #[.val (.ref a), .val (.ref b), .val (.int (Int32.ofNat o)), .val (.int (Int32.ofNat len)), .val .null, .unset] [.ref s.heap.size])) := g8
  have c10 : Steps p.tables e below (s₁.setTop (entryFrame m #[.ref a, .ref b, .int (Int32.ofNat o), .int (Int32.ofNat len), .null] 6)) (T8.setTop (mkF m 45 #[.val (.ref a), .val (.ref b), .val (.int (Int32.ofNat o)), .val (.int (Int32.ofNat len)), .val .null, .val (.ref s.heap.size)] [.int (Int32.ofNat N.slots.size), .ref s.heap.size, .ref a])) := by
    have hc : Steps p.tables e below (s₁.setTop (entryFrame m #[.ref a, .ref b, .int (Int32.ofNat o), .int (Int32.ofNat len), .null] 6)) (T8.setTop (mkF m 45 #[.val (.ref a), .val (.ref b), .val (.int (Int32.ofNat o)), .val (.int (Int32.ofNat len)), .val .null, .val (.ref s.heap.size)] [.int (Int32.ofNat len), .ref s.heap.size, .ref a])) := c9.trans (by
      refine XS.astore X8.here hexec rfl (hb hbytes d39) rfl rfl rfl ?_
      refine XS.aloadN X8.here hexec rfl (hb hbytes d41) rfl rfl ?_
      refine XS.aload X8.here hexec rfl (hb hbytes d42) rfl rfl ?_
      refine XS.iloadN X8.here hexec rfl (hb hbytes d44) rfl ?_
      exact Steps.refl _)
    rw [n4]; exact hc
  obtain ⟨v11, T11, X11, E11, g11⟩ := X8.callS hexec (CodL.law l s.heap.size N) hown (wks W (staticW "java/lang/String" 47 CodL.yN)) (wk W CodL.tab) (W := 1) (Nat.le_of_ble_eq_true rfl) (Nat.le_of_ble_eq_true rfl) (Nat.le_refl _) (by show 0 + len + 0 ≤ len; omega) (g := (mkF m 45 #[.val (.ref a), .val (.ref b), .val (.int (Int32.ofNat o)), .val (.int (Int32.ofNat len)), .val .null, .val (.ref s.heap.size)] [.int (Int32.ofNat N.slots.size), .ref s.heap.size, .ref a])) rfl (by rw [hml]; rfl) c10 (argsL := [.ref s.heap.size, .int (Int32.ofNat N.slots.size)]) (rest := [.ref a]) rfl rfl (by show 2 * 0 + (1 + 0) ≤ _; decide) (hb hbytes d45) (⟨rfl, n1⟩)
  obtain ⟨rfl, q11⟩ := E11
  have hB11 := hB1.mv (X8.warmed.alike.symm.trans X11.warmed.alike) q11
  have c12 : Steps p.tables e below (s₁.setTop (entryFrame m #[.ref a, .ref b, .int (Int32.ofNat o), .int (Int32.ofNat len), .null] 6)) (T11.setTop (mkF m 48 #[.val (.ref a), .val (.ref b), .val (.int (Int32.ofNat o)), .val (.int (Int32.ofNat len)), .val .null, .val (.ref s.heap.size)] [.int 0, .ref a])) := g11
  obtain ⟨T13, X13, p13, bl13, sl13, st13⟩ := X11.finit hexec hown (wk W (.fieldLink "java/lang/String" 15 "java/lang/String" "coder" "B")) (Or.inr ⟨_, (wk W (.laysFinal "java/lang/String" "java/lang/String" "coder" "B"))⟩) (Or.inl ⟨rfl, hnm⟩) f2 (Or.inl rfl) hB11 (t := .byte) (by decide +kernel) rfl (g := (mkF m 48 #[.val (.ref a), .val (.ref b), .val (.int (Int32.ofNat o)), .val (.int (Int32.ofNat len)), .val .null, .val (.ref s.heap.size)] [.int 0, .ref a])) rfl (rest := []) rfl (hb hbytes d48)
  have c14 : Steps p.tables e below (s₁.setTop (entryFrame m #[.ref a, .ref b, .int (Int32.ofNat o), .int (Int32.ofNat len), .null] 6)) (T13.setTop (mkF m 54 #[.val (.ref a), .val (.ref b), .val (.int (Int32.ofNat o)), .val (.int (Int32.ofNat len)), .val .null, .val (.ref s.heap.size)] [.ref s.heap.size, .ref a])) := (c12.trans (st13 _ (Steps.refl _))).trans (by
    refine XS.aloadN X13.here hexec rfl (hb hbytes d51) rfl rfl ?_
    refine XS.aload X13.here hexec rfl (hb hbytes d52) rfl rfl ?_
    exact Steps.refl _)
  obtain ⟨T15, X15, p15, bl15, sl15, st15⟩ := X13.finit hexec hown (wk W (.fieldLink "java/lang/String" 9 "java/lang/String" "value" "[B")) (Or.inr ⟨_, (wk W (.laysFinal "java/lang/String" "java/lang/String" "value" "[B"))⟩) (Or.inl ⟨rfl, hnm⟩) f1 (Or.inl rfl) bl13 (t := (.array .byte)) (by decide +kernel) rfl (g := (mkF m 54 #[.val (.ref a), .val (.ref b), .val (.int (Int32.ofNat o)), .val (.int (Int32.ofNat len)), .val .null, .val (.ref s.heap.size)] [.ref s.heap.size, .ref a])) rfl (rest := []) rfl (hb hbytes d54)
  have c16 : Steps p.tables e below (s₁.setTop (entryFrame m #[.ref a, .ref b, .int (Int32.ofNat o), .int (Int32.ofNat len), .null] 6)) (T15.setTop (mkF m 57 #[.val (.ref a), .val (.ref b), .val (.int (Int32.ofNat o)), .val (.int (Int32.ofNat len)), .val .null, .val (.ref s.heap.size)] [])) := c14.trans (st15 _ (Steps.refl _))
  have ap := apart (Or.inr ⟨_, (wk W (.laysFinal "java/lang/String" "java/lang/String" "value" "[B"))⟩) (Or.inr ⟨_, (wk W (.laysFinal "java/lang/String" "java/lang/String" "coder" "B"))⟩) f1 f2 (t₁ := .array .byte) (t₂ := .byte) (by decide +kernel) (by decide +kernel) (by decide)
  have al := X8.warmed.alike.symm.trans X15.warmed.alike
  have n7 : T11.heap[s.heap.size]? = some N := by rw [q11]; exact n1.1
  exact ⟨T15, none, _, _, _, X15, by simp, rfl, by omega, (fun _ => rfl), ⟨rfl, _, N, bl15, ((Same.refl D _).set _ (by simp)).set _ (by simp), sl15, (Cell.slots_setSlot_ne _ ap).trans sl13, n1.keep al (p15.other hne (p13.other hne n7)), n2, by rw [al.findClass]; exact n3, n4, n5, fun y c h1 h2 => p15.other h1 (p13.other h1 (by rw [q11]; exact n6 y c h2)), by rw [p15.2.2, p13.2.2, q11]; exact z8⟩, fun fs hl => c16.trans (X15.returnOut hexec hret (hb hbytes d57) hl)⟩
end New4
namespace New1
def yN : MethodName := ⟨"java/lang/String", "<init>", "([C)V"⟩
abbrev yB : ByteArray := jdk_42_method_3_code
theorem d0 : decode yB 0 = .ok (.aload_n 0, 1) := by decide +kernel
theorem d1 : decode yB 1 = .ok (.aload_n 1, 1) := by decide +kernel
theorem d2 : decode yB 2 = .ok (.iconst 0, 1) := by decide +kernel
theorem d3 : decode yB 3 = .ok (.aload_n 1, 1) := by decide +kernel
theorem d4 : decode yB 4 = .ok (.arraylength, 1) := by decide +kernel
theorem d5 : decode yB 5 = .ok (.aconst_null, 1) := by decide +kernel
theorem d6 : decode yB 6 = .ok (.invokespecial 27, 3) := by decide +kernel
theorem d9 : decode yB 9 = .ok (.return_, 1) := by decide +kernel
def site : List Cond := [New4.tab] ++ initW "java/lang/String" 27 New4.yN
def tab : Cond := tabOf yN yB 2 none site
def P (a : Addr) (D : Cell) (fV fC : Field) (b : Addr) (A : Cell) (z : Int32) (args : Array Value) (s : State) : Prop := args = #[.ref a, .ref b] ∧ Blank "java/lang/String" a D s ∧ Found "java/lang/String" "value" "[B" fV s ∧ Found "java/lang/String" "coder" "B" fC s ∧ Ch b A s ∧ StaticIs s "java/lang/String" "COMPACT_STRINGS" "Z" (.int z) ∧ ¬ z = 0 ∧ 0 < A.slots.size ∧ A.slots.size ≤ 536870912 ∧ ∀ i, i < A.slots.size → ¬ 255 < cv A i
def E (a : Addr) (D : Cell) (fV fC : Field) (A : Cell) (r : Option Value) (s u : State) : Prop := Got a D fV fC A 0 A.slots.size r s u
/-- new String(chars), not empty, no char above 255: a Latin-1 String of their low bytes -/
theorem law (l : Launch) (a : Addr) (D : Cell) (fV fC : Field) (b : Addr) (A : Cell) (z : Int32) : Law l yN 2 1 3 52 yB 2 none site (P a D fV fC b A z) (E a D fV fC A) [⟨a, fC.slot⟩, ⟨a, fV.slot⟩] 1 A.slots.size := by
  refine Law.of_walk (plainFor_of_name (by decide +kernel)) (by decide +kernel) (by decide +kernel) (by decide) (fun _ _ h => by rw [h.1]; rfl) (fun _ U U' hal hh h => ⟨h.1, h.2.1.mv hal hh, h.2.2.1.al hal, h.2.2.2.1.al hal, h.2.2.2.2.1.mv hal hh, h.2.2.2.2.2.1.there hal hh, h.2.2.2.2.2.2⟩) (fun r U U' V V' h1 hal h2 h => Got.mv r U U' V V' h1 hal h2 h) ?_
  intro p e s m args below meth c s₁ X0 hexec hbytes hml hret hlk hnm hown hh0 W hP
  obtain ⟨rfl, hB, f1, f2, hA, s1, hz, l0, l2, hp⟩ := hP
  have c1 : Steps p.tables e below (s₁.setTop (entryFrame m #[.ref a, .ref b] 2)) (s₁.setTop (mkF m 0 #[.val (.ref a), .val (.ref b)] [])) := entry rfl
  have c2 : Steps p.tables e below (s₁.setTop (entryFrame m #[.ref a, .ref b] 2)) (s₁.setTop (mkF m 6 #[.val (.ref a), .val (.ref b)] [.null, .int (Int32.ofNat A.slots.size), .int 0, .ref b, .ref a])) := c1.trans (by
    refine XS.aloadN X0.here hexec rfl (hb hbytes d0) rfl rfl ?_
    refine XS.aloadN X0.here hexec rfl (hb hbytes d1) rfl rfl ?_
    refine iconstV X0.here hexec rfl 0 (hb hbytes d2) (by decide) ?_
    refine XS.aloadN X0.here hexec rfl (hb hbytes d3) rfl rfl ?_
    refine X0.alen hexec (hA.1.mv X0.warmed.alike hh0) rfl rfl (hb hbytes d4) ?_
    refine XS.aconstNull X0.here hexec rfl (hb hbytes d5) ?_
    exact Steps.refl _)
  obtain ⟨v3, T3, X3, E3, g3⟩ := X0.callN hexec (New4.law l a D fV fC b A z 0 A.slots.size) rfl hown (wks W (initW "java/lang/String" 27 New4.yN)) (W New4.tab (by simp only [site, List.mem_cons, List.mem_append, true_or, or_true])) (W := 0) (Nat.le_of_ble_eq_true rfl) (Nat.le_of_ble_eq_true rfl) (Nat.le_refl _) (by show 0 + A.slots.size ≤ A.slots.size; omega) (g := (mkF m 6 #[.val (.ref a), .val (.ref b)] [.null, .int (Int32.ofNat A.slots.size), .int (Int32.ofNat 0), .ref b, .ref a])) rfl (by rw [hml]; rfl) c2 (argsL := [.ref b, .int (Int32.ofNat 0), .int (Int32.ofNat A.slots.size), .null]) (rest := []) rfl rfl (by show 2 * 0 + 0 ≤ _; decide) (hb hbytes d6) (⟨rfl, hB.mv X0.warmed.alike hh0, f1.al X0.warmed.alike, f2.al X0.warmed.alike, hA.mv X0.warmed.alike hh0, s1.there X0.warmed.alike hh0, hz, l0, by omega, l2, fun i hi => by rw [Nat.zero_add]; exact hp i hi⟩)
  have e0 := Got.mv _ s₁ s _ _ hh0.symm (Vm.Alike.refl _) rfl E3
  obtain rfl := e0.1
  have c4 : Steps p.tables e below (s₁.setTop (entryFrame m #[.ref a, .ref b] 2)) (T3.setTop (mkF m 9 #[.val (.ref a), .val (.ref b)] [])) := g3
  exact ⟨T3, none, _, _, _, X3, by simp, rfl, by omega, (fun _ => rfl), e0, fun fs hl => c4.trans (X3.returnOut hexec hret (hb hbytes d9) hl)⟩
theorem pays {l : Launch} {R : Room} {p : Program} {e : Env} {below : List Frame} {s : State} {sargs : Array Value} {len W : Nat} (a : Addr) (D : Cell) (fV fC : Field) (b : Addr) (A : Cell) (z : Int32) (htab : tab.before sargs s = true) (hfr : 4 ≤ R.frames) (hlo : W + 65 ≤ R.locals) :
    Back l R p e below s sargs yN len W (fun A₁ a₁ => A₁.cells + 1 ≤ R.cells ∧ A₁.slots + A.slots.size ≤ R.slots ∧ P a D fV fC b A z a₁ A₁.U) (fun A₁ _ v₁ B₁ => E a D fV fC A v₁ A₁.U B₁.U ∧ B₁.locs = A₁.locs ++ [⟨a, fC.slot⟩, ⟨a, fV.slot⟩] ∧ B₁.cells = A₁.cells + 1 ∧ B₁.slots = A₁.slots + A.slots.size) :=
  (law l a D fV fC b A z).pays htab hfr (by omega)
end New1
/-- the byte, read back as charAt reads it, is the char -/
theorem lo8_mask {x : Int32} (h0 : ¬ x < 0) (h1 : ¬ 255 < x) : lo8 x &&& 255 = x := by
  have t : ∀ k : Fin 256, lo8 (Int32.ofNat k.val) &&& 255 = Int32.ofNat k.val := by decide +kernel
  rw [Int32.lt_iff_toInt_lt] at h0 h1
  have e0 : (0 : Int32).toInt = 0 := rfl
  have e1 : (255 : Int32).toInt = 255 := rfl
  obtain ⟨k, hk⟩ : ∃ k : Nat, x.toInt = k := ⟨x.toInt.toNat, by omega⟩
  have hx : x = Int32.ofNat k := Int32.toInt_inj.mp (by rw [hk, Int32.toInt_ofNat_small (by omega)])
  rw [hx]
  exact t ⟨k, by omega⟩
end StrChars
namespace StrChars.Road
open Jvm Sem ClassFile Op Lib Jvm.Stand Jvm.Free Jvm.Free.XT
open Jvm.Lib.Cold (StaticIs)
abbrev ST : String := "java/lang/String"
/-- every table word that New1's law asks, flat -/
abbrev words : List Jvm.Cond := [.code New1.yN New1.yB 2 none, .initialized ST, .methodLink ST 27 New4.yN, .instanceMethod New4.yN,
  .code New4.yN New4.yB 6 none, .fieldLink ST 38 ST "COMPACT_STRINGS" "Z", .laysFinal ST ST "value" "[B", .fieldLink ST 9 ST "value" "[B", .laysFinal ST ST "coder" "B", .fieldLink ST 15 ST "coder" "B",
  .methodLink ST 1 Lib.objectInit, .instanceMethod Lib.objectInit, .code Lib.objectInit ⟨#[0xb1]⟩ 1 none, .methodLink ST 177 Cmp3.yN, .static Cmp3.yN, .methodLink ST 47 CodL.yN, .static CodL.yN,
  .code Cmp3.yN Cmp3.yB 6 (some (.array .byte)), .initialized U16, .arrayClass .byte, .methodLink U16 115 Cmp5.yN, .static Cmp5.yN, .code Cmp5.yN Cmp5.yB 7 (some .int), .code CodL.yN CodL.yB 2 (some .byte)]
theorem tab_of {a : Array Value} {s : State} (h : ∀ w ∈ words, w.before a s = true) : New1.tab.before a s = true := by
  have h5 : Cmp5.tab.before a s = true := unparts (wk h (.code Cmp5.yN Cmp5.yB 7 (some .int))) (wks h (.initialized Cmp5.yN.cls :: Cmp5.site))
  have hc : CodL.tab.before a s = true := unparts (wk h (.code CodL.yN CodL.yB 2 (some .byte))) (wks h (.initialized CodL.yN.cls :: CodL.site))
  have q5 : ∀ w ∈ Cmp5.tab :: words, w.before a s = true := fun w hw => (List.mem_cons.mp hw).elim (fun e => e ▸ h5) (h w)
  have h3 : Cmp3.tab.before a s = true := unparts (wk q5 (.code Cmp3.yN Cmp3.yB 6 (some (.array .byte)))) (wks q5 (.initialized Cmp3.yN.cls :: Cmp3.site))
  have q3 : ∀ w ∈ Cmp3.tab :: CodL.tab :: words, w.before a s = true := fun w hw => (List.mem_cons.mp hw).elim (fun e => e ▸ h3) fun hw => (List.mem_cons.mp hw).elim (fun e => e ▸ hc) (h w)
  have h4 : New4.tab.before a s = true := unparts (wk q3 (.code New4.yN New4.yB 6 none)) (wks q3 (.initialized New4.yN.cls :: New4.site))
  have q4 : ∀ w ∈ New4.tab :: words, w.before a s = true := fun w hw => (List.mem_cons.mp hw).elim (fun e => e ▸ h4) (h w)
  exact unparts (wk q4 (.code New1.yN New1.yB 2 none)) (wks q4 (.initialized New1.yN.cls :: New1.site))
/-- the words ride from the start Z to the walk's own state -/
theorem moved {Z s : State} {a0 args : Array Value} (hZ : Z.Warmed39 s.vm) (hw : ∀ d ∈ words, d.before a0 Z = true) : ∀ d ∈ words, d.before args s = true := fun d hd => by
  have q := hw d hd
  have t : ∀ d ∈ words, d = .arrayClass .byte ∨ (d.onTables && d.keepsFace) = true := by decide +kernel
  rcases t d hd with rfl | t
  · exact RoadKit.mvA hZ q
  · exact RoadKit.mv hZ q t
/-- WHAT COMES BACK, over the tables of the start Z: h the heap at the call, h' behind it -/
def Q (Z : State) (x : Addr) (A : Cell) (h : Heap) (v : Option Value) (h' : Heap) (L : List Loc) : Prop := v = none ∧ (∀ y ∈ L, y.base = x) ∧ RoadKit.Keep h h' [x] ∧ h'.size = h.size + 1 ∧ RoadKit.Exa Z h' x ST ∧ RoadKit.Fld Z h' x ST "value" "[B" (.ref h.size) ∧ RoadKit.Fld Z h' x ST "coder" "B" (.int 0) ∧
  (∃ V : Cell, RoadKit.Arr Z h' h.size V .byte ∧ V.vm = .none ∧ Z.vm.findClass "[B" = some V.cls ∧ V.slots.size = A.slots.size ∧ ∀ j, j < A.slots.size → V.slots[j]? = some (.int (lo8 (cv A j)))) ∧
  ∀ (O n d : String) (w : Value), RoadKit.Fld Z h x O n d w → RoadKit.slotOf Z O n d ≠ RoadKit.slotOf Z ST "value" "[B" → RoadKit.slotOf Z O n d ≠ RoadKit.slotOf Z ST "coder" "B" → RoadKit.Fld Z h' x O n d w
/-- **new String(chars) AT A CALL, IN THE ROAD'S FORM**: for specialBack behind newO: x the fresh String, b the char[] with the cell A -/
theorem back {p : Program} {l : Launch} {e : Env} {R : Room} {s : State} {args : Array Value} {below : List Frame} {len W : Nat} {Z : State} {a0 : Array Value} {h : Heap} (hZ : Z.Warmed39 s.vm) (hw : ∀ d ∈ words, d.before a0 Z = true) {kI : Nat} (wi : (Jvm.Cond.instantiable ST kI).before a0 Z = true)
    {x b : Addr} {A : Cell} {z : Int32} {v0 c0 : Value} (E : RoadKit.Exa Z h x ST) (V : RoadKit.Fld Z h x ST "value" "[B" v0) (C : RoadKit.Fld Z h x ST "coder" "B" c0) (K : RoadKit.Arr Z h b A .char) (hty : Typed .char A) (S : RoadKit.Sta Z h ST "COMPACT_STRINGS" "Z" (.int z)) (hz : ¬ z = 0)
    (l0 : 0 < A.slots.size) (l2 : A.slots.size ≤ 536870912) (hp : ∀ i, i < A.slots.size → ¬ 255 < cv A i) (hfr : 4 ≤ R.frames) (hlo : W + 65 ≤ R.locals) :
    Back l R p e below s args New1.yN len W (fun P a => a = #[.ref x, .ref b] ∧ P.U.heap = h ∧ P.cells + 1 ≤ R.cells ∧ P.slots + A.slots.size ≤ R.slots)
      (fun P _ v B => ∃ L, Q Z x A h v B.U.heap L ∧ B.locs = P.locs ++ L ∧ B.cells = P.cells + 1 ∧ B.slots = P.slots + A.slots.size) := by
  intro m meth c P g ig mk a X hg hsize hdg hW hn hp'
  obtain ⟨rfl, rfl, r1, r2⟩ := hp'
  have al : Z.vm.Alike P.U.vm := hZ.alike.trans X.warmed.alike
  obtain ⟨D, cfV, kV, iV, fV, hD, gV, stV, knV, obV, asV, slV⟩ := id V
  obtain ⟨D', cfC, kC, iC, fC, hD', gC, stC, -, -, asC, slC⟩ := id C
  cases hD.symm.trans hD'
  obtain ⟨D2, kD, e1, e2, e3, e4, e5⟩ := id E
  cases hD.symm.trans e1
  obtain ⟨c2, k2, i1, i2, i3, -⟩ := Cond.instantiable_spec wi
  cases e2.symm.trans i1
  cases e3.symm.trans i2
  obtain ⟨kU, u1, u2⟩ := al.2.2 _ _ e3
  have hB : Blank ST x D P.U := ⟨hD, ⟨knV, fun q hq => by rw [hq] at obV; cases obV⟩, by rw [al.findClass]; exact e2, kU, u1, by rw [u2]; exact i3, by rw [u2]; exact e5 i3⟩
  have F1 : Found ST "value" "[B" fV P.U := ⟨SBG.found_only al ⟨cfV, kV, iV, gV⟩, stV⟩
  have F2 : Found ST "coder" "B" fC P.U := ⟨SBG.found_only al ⟨cfC, kC, iC, gC⟩, stC⟩
  have hA : Ch b A P.U := ⟨⟨K.1, State.isArrayOf_alike al K.2.1, K.2.2, by omega⟩, hty⟩
  have hS : StaticIs P.U ST "COMPACT_STRINGS" "Z" (.int z) := by
    obtain ⟨cfS, iS, kS, fS, st, cS, t1, t2, t3, t4, t5, t6, t7⟩ := S
    exact StaticIs.there (s := { Z with heap := P.U.heap }) ⟨cfS, iS, kS, fS, st, cS, t1, t2, t3, t4, t5, (fun q => by rw [q] at t6; cases t6), t7⟩ al rfl
  obtain ⟨v, B, X', ⟨⟨hv, E', V', q1, q2, q3, q4, q5, q6, q7, q8, q9, q10, q11⟩, hl, hc, hs⟩, st⟩ := New1.pays x D fV fC b A z (tab_of (moved hZ hw)) hfr hlo m meth c P g ig mk _ X hg hsize hdg hW hn ⟨r1, r2, rfl, hB, F1, F2, hA, hS, hz, l0, l2, hp⟩
  have al' : Z.vm.Alike B.U.vm := hZ.alike.trans X'.warmed.alike
  have hsz : E'.slots.size = D.slots.size := by
    obtain ⟨-, -, -, kB, w1, w2, w3⟩ := q1
    obtain ⟨kB', y1, y2⟩ := al'.2.2 _ _ e3
    rw [q2.2.1] at w1
    cases w1.symm.trans y1
    rw [w3, e5 i3, y2]
  refine ⟨v, B, X', ⟨_, ⟨hv, ?_, ⟨by omega, fun y cy hy hn' => q10 y cy (by simpa using hn') hy, fun y cy hy => ?_⟩, q11, ⟨E', _, q1.1, by rw [q2.2.1]; exact e2, by rw [q2.2.1]; exact e3, by rw [q2.1]; exact obV, fun _ => by rw [hsz]; exact e5 i3⟩,
    ⟨E', cfV, kV, iV, fV, q1.1, gV, stV, by rw [q2.1]; exact knV, by rw [q2.1]; exact obV, by rw [q2.2.1]; exact asV, q3⟩, ⟨E', cfC, kC, iC, fC, q1.1, gC, stC, by rw [q2.1]; exact knV, by rw [q2.1]; exact obV, by rw [q2.2.1]; exact asC, q4⟩,
    ⟨V', ⟨q5.1, State.isArrayOf_alike al'.symm q5.2.1, q5.2.2.1⟩, q6, by rw [← al'.findClass]; exact q7, q8, fun j hj => by have := q9 j hj; rwa [Nat.zero_add] at this⟩, fun O n d w F n1 n2 => ?_⟩, hl, hc, hs⟩, st⟩
  · intro y hy
    simp only [List.mem_cons, List.not_mem_nil, or_false] at hy
    rcases hy with rfl | rfl <;> rfl
  · by_cases q : y = x
    · subst q
      cases hD.symm.trans hy
      exact ⟨E', q1.1, q2.2.1, q2.1, hsz⟩
    · exact ⟨cy, q10 y cy q hy, rfl, rfl, rfl⟩
  · obtain ⟨D3, cf, k, i, f, g1, g2, g3, g4, g5, g6, g7⟩ := F
    cases hD.symm.trans g1
    simp only [RoadKit.slotOf, g2, gV, gC, Option.map_some, Option.getD_some] at n1 n2
    exact ⟨E', cf, k, i, f, q1.1, g2, g3, by rw [q2.1]; exact g4, by rw [q2.1]; exact g5, by rw [q2.2.1]; exact g6, by rw [q2.2.2 f.slot (by simp [n1, n2])]; exact g7⟩
end StrChars.Road
namespace StrChars.Road
open Jvm Sem ClassFile Op Lib Jvm.Stand Jvm.Free Jvm.Free.XT
/-- WHAT COMES BACK, the byte[] as a list of values -/
def QA (Z : State) (x : Addr) (zn : Int32) (cs : List Int32) (h : Heap) (v : Option Value) (h' : Heap) (L : List Loc) : Prop := v = none ∧ (∀ y ∈ L, y.base = x) ∧ RoadKit.Keep h h' [x] ∧ h'.size = h.size + 1 ∧ RoadKit.Exa Z h' x ST ∧ RoadKit.Fld Z h' x ST "value" "[B" (.ref h.size) ∧ RoadKit.Fld Z h' x ST "coder" "B" (.int 0) ∧
  (∃ kb, Z.vm.findClass "[B" = some kb ∧ RoadKit.Arv Z h' h.size kb .byte zn (cs.map fun c => .int (lo8 c)) (.int 0)) ∧
  ∀ (O n d : String) (w : Value), RoadKit.Fld Z h x O n d w → RoadKit.slotOf Z O n d ≠ RoadKit.slotOf Z ST "value" "[B" → RoadKit.slotOf Z O n d ≠ RoadKit.slotOf Z ST "coder" "B" → RoadKit.Fld Z h' x O n d w
/-- **new String(chars) AT A CALL, THE ARRAYS AS LISTS**: the char[] at b holds cs, not empty, no char above 255 -/
theorem backArv {p : Program} {l : Launch} {e : Env} {R : Room} {s : State} {args : Array Value} {below : List Frame} {len W : Nat} {Z : State} {a0 : Array Value} {h : Heap} (hZ : Z.Warmed39 s.vm) (hw : ∀ d ∈ words, d.before a0 Z = true) {kI : Nat} (wi : (Jvm.Cond.instantiable ST kI).before a0 Z = true)
    {x b : Addr} {k : ClassId} {zn z : Int32} {cs : List Int32} {dv v0 c0 : Value} (E : RoadKit.Exa Z h x ST) (V : RoadKit.Fld Z h x ST "value" "[B" v0) (C : RoadKit.Fld Z h x ST "coder" "B" c0) (K : RoadKit.Arv Z h b k .char zn (cs.map Value.int) dv) (S : RoadKit.Sta Z h ST "COMPACT_STRINGS" "Z" (.int z)) (hz : ¬ z = 0)
    (hlen : zn.toNatClampNeg = cs.length) (h0 : 0 < cs.length) (hbig : cs.length ≤ 536870912) (hall : ∀ c ∈ cs, ¬ 255 < c) (hfr : 4 ≤ R.frames) (hlo : W + 65 ≤ R.locals) :
    Back l R p e below s args New1.yN len W (fun P a => a = #[.ref x, .ref b] ∧ P.U.heap = h ∧ P.cells + 1 ≤ R.cells ∧ P.slots + cs.length ≤ R.slots)
      (fun P _ v B => ∃ L, QA Z x zn cs h v B.U.heap L ∧ B.locs = P.locs ++ L ∧ B.cells = P.cells + 1 ∧ B.slots = P.slots + cs.length) := by
  obtain ⟨A, K1, K2, K3, K4, K5, K6⟩ := K
  have e : A.slots.size = cs.length := K3.trans hlen
  have hat : ∀ (i : Nat) (hi : i < cs.length), A.slots[i]? = some (.int cs[i]) := fun i hi => by rw [K5 i (by omega)]; simp [List.getD_eq_getElem?_getD, hi]
  have hcv : ∀ (i : Nat) (hi : i < cs.length), cv A i = cs[i] := fun i hi => by unfold cv; rw [hat i hi]
  have hty : Typed .char A := fun i v hv => by
    have hi : i < A.slots.size := (Array.getElem?_eq_some_iff.mp hv).1
    have q := K5 i hi
    rw [hv] at q
    rw [Option.some.inj q]
    exact K6 i hi
  refine Back.mono (back hZ hw wi E V C K1 hty S hz (by omega) (by omega) (fun i hi => by rw [hcv i (by omega)]; exact hall _ (List.getElem_mem _)) hfr hlo) (fun P a hp => ⟨hp.1, hp.2.1, hp.2.2.1, by rw [e]; exact hp.2.2.2⟩) (fun P a v B hp hq => ?_)
  obtain ⟨L, ⟨q1, q2, q3, q4, q5, q6, q7, ⟨V', v1, v2, v3, v4, v5⟩, q9⟩, hl, hc, hs⟩ := hq
  refine ⟨L, ⟨q1, q2, q3, q4, q5, q6, q7, ⟨V'.cls, v3, V', v1, rfl, by rw [v4, e, hlen], K4, fun i hi => ?_, fun i hi => ?_⟩, q9⟩, hl, hc, by rw [hs, e]⟩
  · have hi' : i < cs.length := by omega
    rw [v5 i (by omega), hcv i hi']; simp [List.getD_eq_getElem?_getD, hi']
  · have hi' : i < cs.length := by omega
    simp only [List.getD_eq_getElem?_getD, List.getElem?_map, List.getElem?_eq_getElem hi', Option.map_some, Option.getD_some]
    exact fits_lo8 _
end StrChars.Road
namespace StrChars.Road
open Jvm Sem ClassFile Op Lib Jvm.Stand Jvm.Free Jvm.Free.XT
/-- WHAT COMES BACK, in the writer's own shape -/
def QV (Z : State) (x : Addr) (N : Int32) (bs : List Int32) (h : Heap) (n0 : Nat) (v : Option Value) (h' : Heap) (L : List Loc) : Prop := v = none ∧ RoadKit.Fr n0 L ∧ RoadKit.Keep h h' [x] ∧ RoadKit.Exa Z h' x ST ∧ RoadKit.Fld Z h' x ST "coder" "B" (.int 0) ∧
  ∃ (t : Addr) (kb : ClassId), n0 ≤ t ∧ h.size ≤ t ∧ ¬ t = x ∧ RoadKit.Fld Z h' x ST "value" "[B" (.ref t) ∧ RoadKit.Arv Z h' t kb .byte N (bs.map Value.int) (.int 0)
/-- **new String(chars) AT A CALL, FOR THE WRITER**: a char[] of n known ints, each 0 to 255 -/
theorem backV {p : Program} {l : Launch} {e : Env} {R : Room} {s : State} {args : Array Value} {below : List Frame} {len W : Nat} {Z : State} {a0 : Array Value} {h : Heap} (hZ : Z.Warmed39 s.vm) (hw : ∀ d ∈ words, d.before a0 Z = true) {kI : Nat} (wi : (Jvm.Cond.instantiable ST kI).before a0 Z = true)
    {x b : Addr} {kC : ClassId} {cs bs : List Int32} {d v0 c0 : Value} {z N : Int32} {n n0 : Nat} (hx0 : n0 ≤ x) (hh0 : n0 ≤ h.size) (E : RoadKit.Exa Z h x ST) (V : RoadKit.Fld Z h x ST "value" "[B" v0) (C : RoadKit.Fld Z h x ST "coder" "B" c0) (K : RoadKit.Arv Z h b kC .char N (cs.map Value.int) d) (S : RoadKit.Sta Z h ST "COMPACT_STRINGS" "Z" (.int z)) (hz : ¬ z = 0)
    (hn : cs.length = n) (hN : N = Int32.ofNat n) (l0 : 0 < n) (l2 : n ≤ 4000) (hp : ∀ c ∈ cs, ¬ c < 0 ∧ ¬ (255 : Int32) < c) (hb : bs = cs.map (fun c => c.toInt8.toInt32)) (hfr : 4 ≤ R.frames) (hlo : W + 65 ≤ R.locals) :
    Back l R p e below s args (⟨"java/lang/String", "<init>", "([C)V"⟩ : MethodName) len W (fun P a => a = #[.ref x, .ref b] ∧ P.U.heap = h ∧ P.cells + 1 ≤ R.cells ∧ P.slots + n ≤ R.slots)
      (fun P _ v B => ∃ L, QV Z x N bs h n0 v B.U.heap L ∧ B.locs = P.locs ++ L ∧ B.cells = P.cells + 1 ∧ B.slots = P.slots + n) := by
  subst hn hN hb
  refine Back.mono (backArv hZ hw wi E V C K S hz (n32 (by omega)) l0 (by omega) (fun c hc => (hp c hc).2) hfr hlo) (fun P a hp => hp) (fun P a v B hp hq => ?_)
  obtain ⟨L, ⟨q1, q2, q3, q4, q5, q6, q7, ⟨kb, v1, v2⟩, q9⟩, hl, hc, hs⟩ := hq
  exact ⟨L, ⟨q1, fun y hy => by rw [q2 y hy]; exact hx0, q3, q5, q7, h.size, kb, hh0, Nat.le_refl _, Nat.ne_of_gt E.lt, q6, by rw [List.map_map]; exact v2⟩, hl, hc, hs⟩
end StrChars.Road
namespace StrChars
open Jvm Sem ClassFile Op Lib Jvm.Stand Jvm.Free.XT Jvm.Free.ALB Jvm.Free.JM Jvm.Free
open Jvm.Lib.Cold (StaticIs)
def hi8 (x : Int32) : Int32 := lo8 (x >>> ((8 : Int32) &&& 31))
/-- what StringUTF16.getChar makes of two bytes -/
def pairCh (u v : Int32) : Int32 := (((u &&& 255) <<< ((0 : Int32) &&& 31)) ||| ((v &&& 255) <<< ((8 : Int32) &&& 31))).toUInt32.toUInt16.toUInt32.toInt32
theorem lo8_and (x : Int32) : (lo8 x &&& 255).toBitVec.toNat = x.toBitVec.toNat % 256 := by
  have h : (lo8 x).toBitVec = (x.toBitVec.signExtend 8).signExtend 32 := by rw [lo8, Int8.toBitVec_toInt32, Int32.toBitVec_toInt8]
  rw [Int32.toBitVec_and, BitVec.toNat_and, h]
  have e : ((x.toBitVec.signExtend 8).signExtend 32).toNat % 256 = x.toBitVec.toNat % 256 := by
    rw [BitVec.toNat_signExtend]
    have hlt := x.toBitVec.isLt
    simp only [BitVec.toNat_setWidth, BitVec.toNat_signExtend]
    split <;> split <;> omega
  rw [← e]
  exact Nat.and_two_pow_sub_one_eq_mod _ 8
theorem pair_says {c : Int32} (h0 : ¬ c < 0) (h1 : ¬ 65535 < c) : pairCh (lo8 c) (hi8 c) = c := by
  rw [Int32.lt_iff_toInt_lt] at h0 h1
  have e0 : (0 : Int32).toInt = 0 := rfl
  have e1 : (65535 : Int32).toInt = 65535 := rfl
  have hc : c.toInt = c.toBitVec.toNat := by
    have := c.toBitVec.isLt
    have e : c.toInt = c.toBitVec.toInt := rfl
    rw [e] at h0 h1
    rw [e]
    rw [BitVec.toInt_eq_toNat_cond] at h0 h1 ⊢
    split at h0 <;> split <;> omega
  have hn : c.toBitVec.toNat < 65536 := by omega
  have a1 := lo8_and c
  have a2 : (hi8 c &&& 255).toBitVec.toNat = c.toBitVec.toNat / 256 := by
    rw [hi8, lo8_and]
    have e : ((8 : Int32) &&& 31) = 8 := by decide
    rw [e, Int32.toBitVec_shiftRight]
    have e2 : ((8 : Int32).toBitVec.smod 32) = 8#32 := by decide
    rw [e2, BitVec.sshiftRight_eq', BitVec.toNat_sshiftRight_of_msb_false (by rw [BitVec.msb_eq_false_iff_two_mul_lt]; omega)]
    show c.toBitVec.toNat >>> 8 % 256 = _
    rw [Nat.shiftRight_eq_div_pow]
    omega
  unfold pairCh
  apply Int32.toBitVec_inj.mp
  apply BitVec.eq_of_toNat_eq
  have f0 : ((0 : Int32) &&& 31) = 0 := by decide
  have f8 : ((8 : Int32) &&& 31) = 8 := by decide
  rw [f0, f8]
  have g : (((lo8 c &&& 255) <<< (0 : Int32)) ||| ((hi8 c &&& 255) <<< (8 : Int32))).toBitVec.toNat = c.toBitVec.toNat := by
    rw [Int32.toBitVec_or, Int32.toBitVec_shiftLeft, Int32.toBitVec_shiftLeft]
    have s0 : ((0 : Int32).toBitVec.smod 32) = 0#32 := by decide
    have s8 : ((8 : Int32).toBitVec.smod 32) = 8#32 := by decide
    rw [s0, s8, BitVec.toNat_or]
    simp only [BitVec.shiftLeft_eq', BitVec.toNat_shiftLeft, a1, a2]
    show (c.toBitVec.toNat % 256) <<< 0 % 2 ^ 32 ||| (c.toBitVec.toNat / 256) <<< 8 % 2 ^ 32 = _
    rw [Nat.shiftLeft_zero, Nat.mod_eq_of_lt (show c.toBitVec.toNat % 256 < 2 ^ 32 by omega), Nat.mod_eq_of_lt (show (c.toBitVec.toNat / 256) <<< 8 < 2 ^ 32 by rw [Nat.shiftLeft_eq]; omega), Nat.or_comm, ← Nat.shiftLeft_add_eq_or_of_lt (by omega), Nat.shiftLeft_eq]
    omega
  show BitVec.toNat (((((lo8 c &&& 255) <<< (0 : Int32)) ||| ((hi8 c &&& 255) <<< (8 : Int32))).toBitVec.setWidth 16).setWidth 32) = _
  rw [BitVec.toNat_setWidth, BitVec.toNat_setWidth, g]
  omega
end StrChars
namespace StrChars
open Jvm Sem ClassFile Op Lib Jvm.Stand Jvm.Free.XT Jvm.Free.ALB Jvm.Free.JM Jvm.Free
open Jvm.Lib.Cold (StaticIs)
/-- the array's cell V codes the n chars f 0 .. f (n - 1) by the coder cd, as the JDK does: coder 1 just where some char is above 255 -/
def Cod (cd : Int32) (n : Nat) (f : Nat → Int32) (V : Cell) : Prop := (cd = 0 ∧ V.slots.size = n ∧ ∀ j, j < n → V.slots[j]? = some (.int (lo8 (f j))) ∧ ¬ 255 < f j) ∨ (cd = 1 ∧ V.slots.size = 2 * n ∧ (∀ j, j < n → V.slots[2 * j]? = some (.int (lo8 (f j))) ∧ V.slots[2 * j + 1]? = some (.int (hi8 (f j)))) ∧ ∃ j, j < n ∧ 255 < f j)
/-- **x is a String of the n chars f 0 .. f (n - 1)**, Latin-1 or UTF-16; its array at t has the cell V -/
def Txt (x t : Addr) (V : Cell) (cd : Int32) (n : Nat) (f : Nat → Int32) (U : State) : Prop := Exact "java/lang/String" x U ∧ Has x "java/lang/String" "value" "[B" (.ref t) U ∧ Has x "java/lang/String" "coder" "B" (.int cd) U ∧ XT.Arr .byte t V U ∧ Cod cd n f V ∧ ∀ j, j < n → ¬ f j < 0 ∧ ¬ 65535 < f j
theorem Txt.mv {x t : Addr} {V : Cell} {cd : Int32} {n : Nat} {f : Nat → Int32} {U U' : State} (h : Txt x t V cd n f U) (hal : U.vm.Alike U'.vm) (hh : U'.heap = U.heap) : Txt x t V cd n f U' := ⟨h.1.mv hal hh, h.2.1.mv hal hh, h.2.2.1.mv hal hh, h.2.2.2.1.mv hal hh, h.2.2.2.2⟩
end StrChars
namespace StrChars.Road
open Jvm Sem ClassFile Op Lib Jvm.Stand Jvm.Free Jvm.Free.XT
open Jvm.Lib.Cold (StaticIs)
theorem consq {a : Array Value} {s : State} {c : Jvm.Cond} {L : List Jvm.Cond} (h0 : c.before a s = true) (h : ∀ w ∈ L, w.before a s = true) : ∀ w ∈ c :: L, w.before a s = true := fun w hw => (List.mem_cons.mp hw).elim (fun e => e ▸ h0) (h w)
/-- the bytes of the chars cs, low before high -/
def wideBytes : List Int32 → List Value
  | [] => []
  | c :: cs => .int (lo8 c) :: .int (hi8 c) :: wideBytes cs
theorem wide_lo (d : Value) : ∀ (cs : List Int32) (j : Nat), j < cs.length → (wideBytes cs).getD (2 * j) d = .int (lo8 (cs.getD j 0))
  | [], j, h => absurd h (Nat.not_lt_zero j)
  | c :: cs, 0, _ => rfl
  | c :: cs, j + 1, h => by
    have q := wide_lo d cs j (by simpa using h)
    rw [show 2 * (j + 1) = 2 * j + 1 + 1 from by omega]
    simpa [wideBytes] using q
theorem wide_hi (d : Value) : ∀ (cs : List Int32) (j : Nat), j < cs.length → (wideBytes cs).getD (2 * j + 1) d = .int (hi8 (cs.getD j 0))
  | [], j, h => absurd h (Nat.not_lt_zero j)
  | c :: cs, 0, _ => rfl
  | c :: cs, j + 1, h => by
    have q := wide_hi d cs j (by simpa using h)
    rw [show 2 * (j + 1) + 1 = 2 * j + 1 + 1 + 1 from by omega]
    simpa [wideBytes] using q
theorem low_at (d : Value) (cs : List Int32) (j : Nat) (h : j < cs.length) : (cs.map fun c => Value.int (lo8 c)).getD j d = .int (lo8 (cs.getD j 0)) := by
  simp [List.getD_eq_getElem?_getD, h]
/-- an array of N2 bytes vs codes the chars cs by the coder cd -/
def CodA (cs : List Int32) (cd N2 : Int32) (vs : List Value) : Prop := (cd = 0 ∧ N2 = Int32.ofNat cs.length ∧ vs = (cs.map fun c => Value.int (lo8 c)) ∧ ∀ c ∈ cs, ¬ 255 < c) ∨ (cd = 1 ∧ N2 = Int32.ofNat (2 * cs.length) ∧ vs = wideBytes cs ∧ ∃ c ∈ cs, 255 < c)
theorem CodA.cod {cs : List Int32} {cd N2 : Int32} {vs : List Value} {V : Cell} (h : CodA cs cd N2 vs) (hn : 2 * cs.length < 2 ^ 31) (hs : V.slots.size = N2.toNatClampNeg) (hv : RoadKit.Has V vs (.int 0)) : Cod cd cs.length (fun j => cs.getD j 0) V := by
  rcases h with ⟨rfl, rfl, rfl, h⟩ | ⟨rfl, rfl, rfl, c, hc, hw⟩
  · rw [n32 (by omega)] at hs
    exact Or.inl ⟨rfl, hs, fun j hj => ⟨by rw [hv j (by omega), low_at _ _ _ hj], by
      have e : cs.getD j 0 = cs[j] := by simp [List.getD_eq_getElem?_getD, hj]
      show ¬ 255 < cs.getD j 0
      rw [e]; exact h _ (List.getElem_mem _)⟩⟩
  · rw [n32 (by omega)] at hs
    obtain ⟨j, hj, rfl⟩ := List.getElem_of_mem hc
    exact Or.inr ⟨rfl, hs, fun j hj => ⟨by rw [hv _ (by omega), wide_lo _ _ _ hj], by rw [hv _ (by omega), wide_hi _ _ _ hj]⟩, j, hj, by
      have e : cs.getD j 0 = cs[j] := by simp [List.getD_eq_getElem?_getD, hj]
      show 255 < cs.getD j 0
      rw [e]; exact hw⟩
/-- an object of exactly java/lang/String, its two fields found: as the laws ask it -/
theorem strObj {Z U : State} {a0 : Array Value} {kI : Nat} (wi : (Jvm.Cond.instantiable ST kI).before a0 Z = true) (al : Z.vm.Alike U.vm) {x : Addr} {v0 c0 : Value} (E : RoadKit.Exa Z U.heap x ST) (V : RoadKit.Fld Z U.heap x ST "value" "[B" v0) (C : RoadKit.Fld Z U.heap x ST "coder" "B" c0) :
    ∃ (D : Cell) (fV fC : Field), Blank ST x D U ∧ Found ST "value" "[B" fV U ∧ Found ST "coder" "B" fC U ∧ D.slots[fV.slot]? = some v0 ∧ D.slots[fC.slot]? = some c0 ∧ RoadKit.slotOf Z ST "value" "[B" = fV.slot ∧ RoadKit.slotOf Z ST "coder" "B" = fC.slot := by
  obtain ⟨D, cfV, kV, iV, fV, hD, gV, stV, knV, obV, asV, slV⟩ := V
  obtain ⟨D', cfC, kC, iC, fC, hD', gC, stC, -, -, asC, slC⟩ := C
  cases hD.symm.trans hD'
  obtain ⟨D2, kD, e1, e2, e3, e4, e5⟩ := E
  cases hD.symm.trans e1
  obtain ⟨c2, k2, i1, i2, i3, -⟩ := Cond.instantiable_spec wi
  cases e2.symm.trans i1
  cases e3.symm.trans i2
  obtain ⟨kU, u1, u2⟩ := al.2.2 _ _ e3
  exact ⟨D, fV, fC, ⟨hD, ⟨knV, fun q hq => by rw [hq] at obV; cases obV⟩, by rw [al.findClass]; exact e2, kU, u1, by rw [u2]; exact i3, by rw [u2]; exact e5 i3⟩, ⟨SBG.found_only al ⟨cfV, kV, iV, gV⟩, stV⟩, ⟨SBG.found_only al ⟨cfC, kC, iC, gC⟩, stC⟩, slV, slC, by simp [RoadKit.slotOf, gV], by simp [RoadKit.slotOf, gC]⟩
theorem sta_is {Z U : State} (al : Z.vm.Alike U.vm) {C n d : String} {v : Value} (S : RoadKit.Sta Z U.heap C n d v) : StaticIs U C n d v := by
  obtain ⟨cfS, iS, kS, fS, st, cS, t1, t2, t3, t4, t5, t6, t7⟩ := S
  exact StaticIs.there (s := { Z with heap := U.heap }) ⟨cfS, iS, kS, fS, st, cS, t1, t2, t3, t4, t5, (fun q => by rw [q] at t6; cases t6), t7⟩ al rfl
end StrChars.Road
namespace StrChars
open Jvm Sem ClassFile Op Lib Jvm.Stand Jvm.Free.XT Jvm.Free.ALB Jvm.Free.JM Jvm.Free
open Jvm.Lib.Cold (StaticIs)
/-- what place i of a byte[]'s cell holds -/
def yv (A : Cell) (i : Nat) : Int32 := match A.slots[i]? with | some (.int x) => x | _ => 0
theorem yv_get {a : Addr} {A : Cell} {U : State} (h : XT.Arr .byte a A U) (ht : Typed .byte A) {i : Nat} (hi : i < A.slots.size) : A.slots[i]? = some (.int (yv A i)) := by
  have e := Array.getElem?_eq_getElem hi
  have f := ht i _ e
  unfold yv; rw [e]
  generalize A.slots[i] = v at f
  cases v <;> simp [fits] at f ⊢
/-- the two arrays are equal, place for place -/
def EqC (A B : Cell) : Prop := A.slots.size = B.slots.size ∧ ∀ i, i < A.slots.size → yv A i = yv B i
/-- a boolean that says whether p -/
def Says01 (q : Prop) (r : Option Value) (s u : State) : Prop := ∃ v : Int32, r = some (.int v) ∧ u.heap = s.heap ∧ ((v = 1 ∧ q) ∨ (v = 0 ∧ ¬ q))
theorem Says01.mv {q : Prop} : ∀ r (U U' V V' : State), U'.heap = U.heap → V.vm.Alike V'.vm → V'.heap = V.heap → Says01 q r U V → Says01 q r U' V' :=
  fun r U U' V V' h1 _ h2 ⟨v, a, b, c⟩ => ⟨v, a, by rw [h1, h2]; exact b, c⟩
namespace LEq
def yN : MethodName := ⟨"java/lang/StringLatin1", "equals", "([B[B)Z"⟩
abbrev yB : ByteArray := jdk_43_method_13_code
theorem d0 : decode yB 0 = .ok (.aload_n 0, 1) := by decide +kernel
theorem d1 : decode yB 1 = .ok (.arraylength, 1) := by decide +kernel
theorem d2 : decode yB 2 = .ok (.aload_n 1, 1) := by decide +kernel
theorem d3 : decode yB 3 = .ok (.arraylength, 1) := by decide +kernel
theorem d4 : decode yB 4 = .ok (.if_icmp (.ne) 30, 3) := by decide +kernel
theorem d7 : decode yB 7 = .ok (.iconst 0, 1) := by decide +kernel
theorem d8 : decode yB 8 = .ok (.istore_n 2, 1) := by decide +kernel
theorem d9 : decode yB 9 = .ok (.iload_n 2, 1) := by decide +kernel
theorem d10 : decode yB 10 = .ok (.aload_n 0, 1) := by decide +kernel
theorem d11 : decode yB 11 = .ok (.arraylength, 1) := by decide +kernel
theorem d12 : decode yB 12 = .ok (.if_icmp (.ge) 20, 3) := by decide +kernel
theorem d15 : decode yB 15 = .ok (.aload_n 0, 1) := by decide +kernel
theorem d16 : decode yB 16 = .ok (.iload_n 2, 1) := by decide +kernel
theorem d17 : decode yB 17 = .ok (.baload, 1) := by decide +kernel
theorem d18 : decode yB 18 = .ok (.aload_n 1, 1) := by decide +kernel
theorem d19 : decode yB 19 = .ok (.iload_n 2, 1) := by decide +kernel
theorem d20 : decode yB 20 = .ok (.baload, 1) := by decide +kernel
theorem d21 : decode yB 21 = .ok (.if_icmp (.eq) 5, 3) := by decide +kernel
theorem d24 : decode yB 24 = .ok (.iconst 0, 1) := by decide +kernel
theorem d25 : decode yB 25 = .ok (.ireturn, 1) := by decide +kernel
theorem d26 : decode yB 26 = .ok (.iinc 2 1, 3) := by decide +kernel
theorem d29 : decode yB 29 = .ok (.goto (-20), 3) := by decide +kernel
theorem d32 : decode yB 32 = .ok (.iconst 1, 1) := by decide +kernel
theorem d33 : decode yB 33 = .ok (.ireturn, 1) := by decide +kernel
theorem d34 : decode yB 34 = .ok (.iconst 0, 1) := by decide +kernel
theorem d35 : decode yB 35 = .ok (.ireturn, 1) := by decide +kernel
def site : List Cond := []
def tab : Cond := tabOf yN yB 3 (some .boolean) site
def P (a : Addr) (A : Cell) (b : Addr) (B : Cell) (args : Array Value) (s : State) : Prop := args = #[.ref a, .ref b] ∧ XT.Arr .byte a A s ∧ Typed .byte A ∧ XT.Arr .byte b B s ∧ Typed .byte B
/-- whether two byte[] are equal, place for place -/
theorem law (l : Launch) (a : Addr) (A : Cell) (b : Addr) (B : Cell) : Law l yN 2 2 0 0 yB 3 (some .boolean) site (P a A b B) (Says01 (EqC A B)) [] 0 0 := by
  refine Law.of_walk (plainFor_of_name (by decide +kernel)) (by decide +kernel) (by decide +kernel) (by decide) (fun _ _ h => by rw [h.1]; rfl) (fun _ U U' hal hh h => ⟨h.1, h.2.1.mv hal hh, h.2.2.1, h.2.2.2.1.mv hal hh, h.2.2.2.2⟩) (fun r U U' V V' h1 hal h2 h => Says01.mv r U U' V V' h1 hal h2 h) ?_
  intro p e s m args below meth c s₁ X0 hexec hbytes hml hret hlk hnm hown hh0 W hP
  obtain ⟨rfl, hA, tA, hB, tB⟩ := hP
  have a31 := hA.2.2.2
  have b31 := hB.2.2.2
  have hA0 := hA.mv X0.warmed.alike hh0
  have hB0 := hB.mv X0.warmed.alike hh0
  have c1 : Steps p.tables e below (s₁.setTop (entryFrame m #[.ref a, .ref b] 3)) (s₁.setTop (mkF m 0 #[.val (.ref a), .val (.ref b), .unset] [])) := entry rfl
  have c2 : Steps p.tables e below (s₁.setTop (entryFrame m #[.ref a, .ref b] 3)) (s₁.setTop (mkF m 4 #[.val (.ref a), .val (.ref b), .unset] [.int (Int32.ofNat B.slots.size), .int (Int32.ofNat A.slots.size)])) := c1.trans (by
    refine XS.aloadN X0.here hexec rfl (hb hbytes d0) rfl rfl ?_
    refine X0.alen hexec hA0 rfl rfl (hb hbytes d1) ?_
    refine XS.aloadN X0.here hexec rfl (hb hbytes d2) rfl rfl ?_
    refine X0.alen hexec hB0 rfl rfl (hb hbytes d3) ?_
    exact Steps.refl _)
  by_cases hs : A.slots.size = B.slots.size
  · have c3 : Steps p.tables e below (s₁.setTop (entryFrame m #[.ref a, .ref b] 3)) (s₁.setTop (mkF m 9 #[.val (.ref a), .val (.ref b), .val (.int 0)] [])) := c2.trans (by
      refine XS.icmpNo X0.here hexec rfl (hb hbytes d4) rfl (ii_ne_f (by rw [hs])) ?_
      refine iconstV X0.here hexec rfl 0 (hb hbytes d7) (by decide) ?_
      refine XS.istoreN X0.here hexec rfl (hb hbytes d8) rfl rfl ?_
      exact Steps.refl _)
    have loop : ∀ (r i : Nat), i + r = A.slots.size → (∀ j, j < i → yv A j = yv B j) → Steps p.tables e below (s₁.setTop (entryFrame m #[.ref a, .ref b] 3)) (s₁.setTop (mkF m 9 #[.val (.ref a), .val (.ref b), .val (.int (Int32.ofNat i))] [])) → ∃ (pc : Nat) (Ls : Array Slot) (v : Int32), (pc = 25 ∨ pc = 33) ∧ ((v = 1 ∧ EqC A B) ∨ (v = 0 ∧ ¬ EqC A B)) ∧ Steps p.tables e below (s₁.setTop (entryFrame m #[.ref a, .ref b] 3)) (s₁.setTop (mkF m pc Ls [.int v])) := by
      intro r
      induction r with
      | zero =>
        intro i hi he cl
        exact ⟨33, _, 1, Or.inr rfl, Or.inl ⟨rfl, hs, fun j hj => he j (by omega)⟩, cl.trans (by
          refine XS.iloadN X0.here hexec rfl (hb hbytes d9) rfl ?_
          refine XS.aloadN X0.here hexec rfl (hb hbytes d10) rfl rfl ?_
          refine X0.alen hexec hA0 rfl rfl (hb hbytes d11) ?_
          refine XS.icmpYes X0.here hexec rfl (pc0 := 12) rfl (hb hbytes d12) rfl (ii_ge_t (nlt32 (by omega) (by omega))) (by decide) rfl ?_
          refine iconstV X0.here hexec rfl 1 (hb hbytes d32) (by decide) ?_
          exact Steps.refl _)⟩
      | succ r ih =>
        intro i hi he cl
        have c4 : Steps p.tables e below (s₁.setTop (entryFrame m #[.ref a, .ref b] 3)) (s₁.setTop (mkF m 21 #[.val (.ref a), .val (.ref b), .val (.int (Int32.ofNat i))] [.int (yv B i), .int (yv A i)])) := cl.trans (by
          refine XS.iloadN X0.here hexec rfl (hb hbytes d9) rfl ?_
          refine XS.aloadN X0.here hexec rfl (hb hbytes d10) rfl rfl ?_
          refine X0.alen hexec hA0 rfl rfl (hb hbytes d11) ?_
          refine XS.icmpNo X0.here hexec rfl (hb hbytes d12) rfl (ii_ge_f (lt32 (by omega) (by omega))) ?_
          refine XS.aloadN X0.here hexec rfl (hb hbytes d15) rfl rfl ?_
          refine XS.iloadN X0.here hexec rfl (hb hbytes d16) rfl ?_
          refine X0.aget hexec hA0 rfl (yv_get hA tA (i := i) (by omega)) rfl rfl (hb hbytes d17) ?_
          refine XS.aloadN X0.here hexec rfl (hb hbytes d18) rfl rfl ?_
          refine XS.iloadN X0.here hexec rfl (hb hbytes d19) rfl ?_
          refine X0.aget hexec hB0 rfl (yv_get hB tB (i := i) (by omega)) rfl rfl (hb hbytes d20) ?_
          exact Steps.refl _)
        by_cases hv : yv A i = yv B i
        · have c5 : Steps p.tables e below (s₁.setTop (entryFrame m #[.ref a, .ref b] 3)) (s₁.setTop (mkF m 9 #[.val (.ref a), .val (.ref b), .val (.int (Int32.ofNat i + 1))] [])) := c4.trans (by
            refine XS.icmpYes X0.here hexec rfl (pc0 := 21) rfl (hb hbytes d21) rfl (ii_eq_t hv) (by decide) rfl ?_
            refine iincV X0.here hexec rfl 1 (hb hbytes d26) (by decide) rfl rfl ?_
            refine XS.goto X0.here hexec rfl (pc0 := 29) rfl (hb hbytes d29) (by decide) rfl ?_
            exact Steps.refl _)
          rw [succ32] at c5
          exact ih (i + 1) (by omega) (fun j hj => by
            by_cases e : j = i
            · rw [e]; exact hv
            · exact he j (by omega)) c5
        · exact ⟨25, _, 0, Or.inl rfl, Or.inr ⟨rfl, fun q => hv (q.2 i (by omega))⟩, c4.trans (by
            refine XS.icmpNo X0.here hexec rfl (hb hbytes d21) rfl (ii_eq_f hv) ?_
            refine iconstV X0.here hexec rfl 0 (hb hbytes d24) (by decide) ?_
            exact Steps.refl _)⟩
    obtain ⟨pc, Ls, v, hpc, hv, cz⟩ := loop A.slots.size 0 (by omega) (fun j hj => absurd hj (Nat.not_lt_zero j)) c3
    have nv : narrow .boolean (.int v) = .int v := by rcases hv with ⟨rfl, -⟩ | ⟨rfl, -⟩ <;> rfl
    rcases hpc with rfl | rfl
    · exact ⟨s₁, some (.int v), _, _, _, X0, rfl, rfl, rfl, (fun h => by cases h), ⟨v, rfl, hh0, hv⟩, fun fs hl => cz.trans (X0.ireturnOut hexec hret nv (Or.inr (Or.inl rfl)) (hb hbytes d25) hl)⟩
    · exact ⟨s₁, some (.int v), _, _, _, X0, rfl, rfl, rfl, (fun h => by cases h), ⟨v, rfl, hh0, hv⟩, fun fs hl => cz.trans (X0.ireturnOut hexec hret nv (Or.inr (Or.inl rfl)) (hb hbytes d33) hl)⟩
  · have c3 : Steps p.tables e below (s₁.setTop (entryFrame m #[.ref a, .ref b] 3)) (s₁.setTop (mkF m 35 #[.val (.ref a), .val (.ref b), .unset] [.int 0])) := c2.trans (by
      refine XS.icmpYes X0.here hexec rfl (pc0 := 4) rfl (hb hbytes d4) rfl (ii_ne_t (ne32 a31 b31 hs)) (by decide) rfl ?_
      refine iconstV X0.here hexec rfl 0 (hb hbytes d34) (by decide) ?_
      exact Steps.refl _)
    exact ⟨s₁, some (.int 0), _, _, _, X0, rfl, rfl, rfl, (fun h => by cases h), ⟨0, rfl, hh0, Or.inr ⟨rfl, fun q => hs q.1⟩⟩, fun fs hl => c3.trans (X0.ireturnOut hexec hret rfl (Or.inr (Or.inl rfl)) (hb hbytes d35) hl)⟩
end LEq
theorem Cod.ty {cd : Int32} {n : Nat} {f : Nat → Int32} {V : Cell} (h : Cod cd n f V) : Typed .byte V := fun i v hv => by
  have hi : i < V.slots.size := (Array.getElem?_eq_some_iff.mp hv).1
  rcases h with ⟨-, k1, k2⟩ | ⟨-, k1, k2, -⟩
  · rw [(k2 i (by omega)).1] at hv; cases hv; exact fits_lo8 _
  · rcases Nat.mod_two_eq_zero_or_one i with e | e
    · obtain ⟨j, rfl⟩ : ∃ j, i = 2 * j := ⟨i / 2, by omega⟩
      rw [(k2 j (by omega)).1] at hv; cases hv; exact fits_lo8 _
    · obtain ⟨j, rfl⟩ : ∃ j, i = 2 * j + 1 := ⟨i / 2, by omega⟩
      rw [(k2 j (by omega)).2] at hv; cases hv; exact fits_lo8 _
/-- the same text -/
def SameT (n : Nat) (f : Nat → Int32) (k : Nat) (g : Nat → Int32) : Prop := n = k ∧ ∀ j, j < n → f j = g j
theorem lo8_inj {x y : Int32} (h0 : ¬ x < 0) (h1 : ¬ 255 < x) (k0 : ¬ y < 0) (k1 : ¬ 255 < y) (h : lo8 x = lo8 y) : x = y := by
  rw [← lo8_mask h0 h1, ← lo8_mask k0 k1, h]
/-- arrays coded by one coder are equal just where the texts are -/
theorem Cod.eqv {cd : Int32} {n k : Nat} {f g : Nat → Int32} {V V' : Cell} (h : Cod cd n f V) (h' : Cod cd k g V') (hf : ∀ j, j < n → ¬ f j < 0 ∧ ¬ 65535 < f j) (hg : ∀ j, j < k → ¬ g j < 0 ∧ ¬ 65535 < g j) : EqC V V' ↔ SameT n f k g := by
  have yvv : ∀ {W : Cell} {i : Nat} {x : Int32}, W.slots[i]? = some (.int x) → yv W i = x := fun q => by unfold yv; rw [q]
  rcases h with ⟨rfl, k1, k2⟩ | ⟨rfl, k1, k2, -⟩
  · rcases h' with ⟨-, m1, m2⟩ | ⟨e, -⟩
    · constructor
      · rintro ⟨e1, e2⟩
        refine ⟨by omega, fun j hj => ?_⟩
        have q := e2 j (by omega)
        rw [yvv (k2 j hj).1, yvv (m2 j (by omega)).1] at q
        exact lo8_inj (hf j hj).1 (k2 j hj).2 (hg j (by omega)).1 (m2 j (by omega)).2 q
      · rintro ⟨rfl, e2⟩
        refine ⟨by omega, fun j hj => ?_⟩
        rw [yvv (k2 j (by omega)).1, yvv (m2 j (by omega)).1, e2 j (by omega)]
    · exact absurd e (by decide)
  · rcases h' with ⟨e, -⟩ | ⟨-, m1, m2, -⟩
    · exact absurd e (by decide)
    · constructor
      · rintro ⟨e1, e2⟩
        refine ⟨by omega, fun j hj => ?_⟩
        have q1 := e2 (2 * j) (by omega)
        have q2 := e2 (2 * j + 1) (by omega)
        rw [yvv (k2 j hj).1, yvv (m2 j (by omega)).1] at q1
        rw [yvv (k2 j hj).2, yvv (m2 j (by omega)).2] at q2
        rw [← pair_says (hf j hj).1 (hf j hj).2, ← pair_says (hg j (by omega)).1 (hg j (by omega)).2, q1, q2]
      · rintro ⟨rfl, e2⟩
        refine ⟨by omega, fun i hi => ?_⟩
        rcases Nat.mod_two_eq_zero_or_one i with e | e
        · obtain ⟨j, rfl⟩ : ∃ j, i = 2 * j := ⟨i / 2, by omega⟩
          rw [yvv (k2 j (by omega)).1, yvv (m2 j (by omega)).1, e2 j (by omega)]
        · obtain ⟨j, rfl⟩ : ∃ j, i = 2 * j + 1 := ⟨i / 2, by omega⟩
          rw [yvv (k2 j (by omega)).2, yvv (m2 j (by omega)).2, e2 j (by omega)]
/-- two codings differ: so do the texts -/
theorem Cod.dif {cd cd' : Int32} {n k : Nat} {f g : Nat → Int32} {V V' : Cell} (h : Cod cd n f V) (h' : Cod cd' k g V') (hne : ¬ cd = cd') : ¬ SameT n f k g := by
  rintro ⟨rfl, e⟩
  rcases h with ⟨rfl, -, k2⟩ | ⟨rfl, -, -, j, hj, hw⟩
  · rcases h' with ⟨rfl, -⟩ | ⟨-, -, -, j, hj, hw⟩
    · exact hne rfl
    · exact (k2 j hj).2 (by rw [e j hj]; exact hw)
  · rcases h' with ⟨-, -, m2⟩ | ⟨rfl, -⟩
    · exact (m2 j hj).2 (by rw [← e j hj]; exact hw)
    · exact hne rfl
/-- an object of exactly C is an instance of C -/
theorem cinst {p : Program} {l : Launch} {e : Env} {R : Room} {s : State} {m : MethodId} {args : Array Value} {below : List Frame} {meth : Method} {c : Code} {T : State} {locs : List Loc} {cells slots : Nat} (X : Stand p l e R s m args below meth c T locs cells slots) (hexec : p.tables.exec = Jvm.exec) {own C : String} {index : Nat} (hown : s.vm.findClass own = some m.cls) (hlink : (Cond.classLink own index C).before args s = true) {a : Addr} (hE : Exact C a T)
    {g : JFrame} (hg : g.method = m) {rest : List Value} (hstack : g.stack = .ref a :: rest) (hdg : decode c.code g.pc = .ok (.instanceof index, 3)) :
    ∃ T', Stand p l e R s m args below meth c T' locs cells slots ∧ T'.heap = T.heap ∧ ∀ target, Steps p.tables e below (T'.setTop { g with pc := g.pc + 3, stack := .int 1 :: rest }) target → Steps p.tables e below (T.setTop g) target := by
  obtain ⟨cB, h1, D, h2, h3, h4⟩ := hE
  have h1' : s.vm.findClass C = some cB := by rw [← X.warmed.alike.findClass]; exact h1
  obtain ⟨vm', X', st⟩ := X.instanceofYes hexec hown hlink h2 h4 h1' (by rw [h3]; exact Jvm.Free.SB.assignable_self _ _) hg hstack hdg
  exact ⟨_, X', rfl, st⟩
theorem cself {p : Program} {l : Launch} {e : Env} {R : Room} {s : State} {m : MethodId} {args : Array Value} {below : List Frame} {meth : Method} {c : Code} {T : State} {locs : List Loc} {cells slots : Nat} (X : Stand p l e R s m args below meth c T locs cells slots) (hexec : p.tables.exec = Jvm.exec) {own C : String} {index : Nat} (hown : s.vm.findClass own = some m.cls) (hlink : (Cond.classLink own index C).before args s = true) {a : Addr} (hE : Exact C a T)
    {g : JFrame} (hg : g.method = m) {rest : List Value} (hstack : g.stack = .ref a :: rest) (hdg : decode c.code g.pc = .ok (.checkcast index, 3)) :
    ∃ T', Stand p l e R s m args below meth c T' locs cells slots ∧ T'.heap = T.heap ∧ ∀ target, Steps p.tables e below (T'.setTop { g with pc := g.pc + 3, stack := .ref a :: rest }) target → Steps p.tables e below (T.setTop g) target := by
  obtain ⟨cB, h1, D, h2, h3, h4⟩ := hE
  have h1' : s.vm.findClass C = some cB := by rw [← X.warmed.alike.findClass]; exact h1
  obtain ⟨vm', X', st⟩ := X.checkcastYes hexec hown hlink h2 h4 h1' (by rw [h3]; exact Jvm.Free.SB.assignable_self _ _) hg hstack hdg
  exact ⟨_, X', rfl, fun t h => st t (by rw [← hstack] at h; exact h)⟩
namespace SEq
def yN : MethodName := ⟨"java/lang/String", "equals", "(Ljava/lang/Object;)Z"⟩
abbrev yB : ByteArray := jdk_42_method_66_code
theorem d0 : decode yB 0 = .ok (.aload_n 0, 1) := by decide +kernel
theorem d1 : decode yB 1 = .ok (.aload_n 1, 1) := by decide +kernel
theorem d2 : decode yB 2 = .ok (.if_acmp (.ne) 5, 3) := by decide +kernel
theorem d5 : decode yB 5 = .ok (.iconst 1, 1) := by decide +kernel
theorem d6 : decode yB 6 = .ok (.ireturn, 1) := by decide +kernel
theorem d7 : decode yB 7 = .ok (.aload_n 1, 1) := by decide +kernel
theorem d8 : decode yB 8 = .ok (.instanceof 10, 3) := by decide +kernel
theorem d11 : decode yB 11 = .ok (.ifCond (.eq) 43, 3) := by decide +kernel
theorem d14 : decode yB 14 = .ok (.aload_n 1, 1) := by decide +kernel
theorem d15 : decode yB 15 = .ok (.checkcast 10, 3) := by decide +kernel
theorem d18 : decode yB 18 = .ok (.astore_n 2, 1) := by decide +kernel
theorem d19 : decode yB 19 = .ok (.getstatic 38, 3) := by decide +kernel
theorem d22 : decode yB 22 = .ok (.ifCond (.eq) 14, 3) := by decide +kernel
theorem d25 : decode yB 25 = .ok (.aload_n 0, 1) := by decide +kernel
theorem d26 : decode yB 26 = .ok (.getfield 15, 3) := by decide +kernel
theorem d29 : decode yB 29 = .ok (.aload_n 2, 1) := by decide +kernel
theorem d30 : decode yB 30 = .ok (.getfield 15, 3) := by decide +kernel
theorem d33 : decode yB 33 = .ok (.if_icmp (.ne) 21, 3) := by decide +kernel
theorem d36 : decode yB 36 = .ok (.aload_n 0, 1) := by decide +kernel
theorem d37 : decode yB 37 = .ok (.getfield 9, 3) := by decide +kernel
theorem d40 : decode yB 40 = .ok (.aload_n 2, 1) := by decide +kernel
theorem d41 : decode yB 41 = .ok (.getfield 9, 3) := by decide +kernel
theorem d44 : decode yB 44 = .ok (.invokestatic 541, 3) := by decide +kernel
theorem d47 : decode yB 47 = .ok (.ifCond (.eq) 7, 3) := by decide +kernel
theorem d50 : decode yB 50 = .ok (.iconst 1, 1) := by decide +kernel
theorem d51 : decode yB 51 = .ok (.goto 4, 3) := by decide +kernel
theorem d54 : decode yB 54 = .ok (.iconst 0, 1) := by decide +kernel
theorem d55 : decode yB 55 = .ok (.ireturn, 1) := by decide +kernel
def site : List Cond := [.classLink "java/lang/String" 10 "java/lang/String", .fieldLink "java/lang/String" 38 "java/lang/String" "COMPACT_STRINGS" "Z", .fieldLink "java/lang/String" 15 "java/lang/String" "coder" "B", .fieldLink "java/lang/String" 9 "java/lang/String" "value" "[B", LEq.tab] ++ staticW "java/lang/String" 541 LEq.yN
def tab : Cond := tabOf yN yB 3 (some .boolean) site
def P (x t : Addr) (V : Cell) (cd : Int32) (n : Nat) (f : Nat → Int32) (y t' : Addr) (V' : Cell) (cd' : Int32) (k : Nat) (g : Nat → Int32) (z : Int32) (args : Array Value) (s : State) : Prop := args = #[.ref x, .ref y] ∧ Txt x t V cd n f s ∧ Txt y t' V' cd' k g s ∧ StaticIs s "java/lang/String" "COMPACT_STRINGS" "Z" (.int z) ∧ ¬ z = 0
/-- equals(Object) of two Strings: whether the texts are the same -/
theorem law (l : Launch) (x t : Addr) (V : Cell) (cd : Int32) (n : Nat) (f : Nat → Int32) (y t' : Addr) (V' : Cell) (cd' : Int32) (k : Nat) (g : Nat → Int32) (z : Int32) : Law l yN 2 1 1 14 yB 3 (some .boolean) site (P x t V cd n f y t' V' cd' k g z) (Says01 (SameT n f k g)) [] 0 0 := by
  refine Law.of_walk (plainFor_of_name (by decide +kernel)) (by decide +kernel) (by decide +kernel) (by decide) (fun _ _ h => by rw [h.1]; rfl) (fun _ U U' hal hh h => ⟨h.1, h.2.1.mv hal hh, h.2.2.1.mv hal hh, h.2.2.2.1.there hal hh, h.2.2.2.2⟩) (fun r U U' V V' h1 hal h2 h => Says01.mv r U U' V V' h1 hal h2 h) ?_
  intro p e s m args below meth c s₁ X0 hexec hbytes hml hret hlk hnm hown hh0 W hP
  obtain ⟨rfl, hx, hy, s1, hz⟩ := hP
  have c1 : Steps p.tables e below (s₁.setTop (entryFrame m #[.ref x, .ref y] 3)) (s₁.setTop (mkF m 2 #[.val (.ref x), .val (.ref y), .unset] [.ref y, .ref x])) := Steps.trans (entry rfl) (by
    show Steps p.tables e below (s₁.setTop (mkF m 0 #[.val (.ref x), .val (.ref y), .unset] [])) _
    refine XS.aloadN X0.here hexec rfl (hb hbytes d0) rfl rfl ?_
    refine XS.aloadN X0.here hexec rfl (hb hbytes d1) rfl rfl ?_
    exact Steps.refl _)
  by_cases hxy : x = y
  · have c2 : Steps p.tables e below (s₁.setTop (entryFrame m #[.ref x, .ref y] 3)) (s₁.setTop (mkF m 6 #[.val (.ref x), .val (.ref y), .unset] [.int 1])) := c1.trans (by
      refine acmpNo X0.here hexec rfl (hb hbytes d2) rfl rfl rfl (by simp [acmp, hxy]) ?_
      refine iconstV X0.here hexec rfl 1 (hb hbytes d5) (by decide) ?_
      exact Steps.refl _)
    subst hxy
    have ec : cd = cd' := by
      obtain ⟨D, fd, a1, a2, a3⟩ := hx.2.2.1
      obtain ⟨D', fd', b1, b2, b3⟩ := hy.2.2.1
      cases a1.symm.trans b1
      obtain ⟨q1, q2, q3, q4⟩ := a2.1
      obtain ⟨r1, r2, r3, r4⟩ := b2.1
      cases q4.symm.trans r4
      cases a3.symm.trans b3; rfl
    have et : t = t' := by
      obtain ⟨D, fd, a1, a2, a3⟩ := hx.2.1
      obtain ⟨D', fd', b1, b2, b3⟩ := hy.2.1
      cases a1.symm.trans b1
      obtain ⟨q1, q2, q3, q4⟩ := a2.1
      obtain ⟨r1, r2, r3, r4⟩ := b2.1
      cases q4.symm.trans r4
      cases a3.symm.trans b3; rfl
    subst ec et
    have ev : V = V' := by cases hx.2.2.2.1.1.symm.trans hy.2.2.2.1.1; rfl
    subst ev
    have hs : SameT n f k g := (Cod.eqv hx.2.2.2.2.1 hy.2.2.2.2.1 hx.2.2.2.2.2 hy.2.2.2.2.2).mp ⟨rfl, fun _ _ => rfl⟩
    exact ⟨s₁, some (.int 1), _, _, _, X0, rfl, rfl, rfl, (fun h => by cases h), ⟨1, rfl, hh0, Or.inl ⟨rfl, hs⟩⟩, fun fs hl => c2.trans (X0.ireturnOut hexec hret rfl (Or.inr (Or.inl rfl)) (hb hbytes d6) hl)⟩
  · have c2 : Steps p.tables e below (s₁.setTop (entryFrame m #[.ref x, .ref y] 3)) (s₁.setTop (mkF m 8 #[.val (.ref x), .val (.ref y), .unset] [.ref y])) := c1.trans (by
      refine acmpYes X0.here hexec rfl (pc0 := 2) rfl (hb hbytes d2) rfl rfl rfl (by simp [acmp, hxy]) (by decide) rfl ?_
      refine XS.aloadN X0.here hexec rfl (hb hbytes d7) rfl rfl ?_
      exact Steps.refl _)
    obtain ⟨T3, X3, q3, st3⟩ := cinst X0 hexec hown (wk W (.classLink "java/lang/String" 10 "java/lang/String")) (hy.mv X0.warmed.alike hh0).1 (g := (mkF m 8 #[.val (.ref x), .val (.ref y), .unset] [.ref y])) rfl (rest := []) rfl (hb hbytes d8)
    have hh3 := q3.trans hh0
    have c4 : Steps p.tables e below (s₁.setTop (entryFrame m #[.ref x, .ref y] 3)) (T3.setTop (mkF m 15 #[.val (.ref x), .val (.ref y), .unset] [.ref y])) := (c2.trans (st3 _ (Steps.refl _))).trans (by
      refine XS.ifNo X3.here hexec rfl (hb hbytes d11) rfl (i0_eq_f (by decide)) ?_
      refine XS.aloadN X3.here hexec rfl (hb hbytes d14) rfl rfl ?_
      exact Steps.refl _)
    obtain ⟨T5, X5, q5, st5⟩ := cself X3 hexec hown (wk W (.classLink "java/lang/String" 10 "java/lang/String")) (hy.mv X3.warmed.alike hh3).1 (g := (mkF m 15 #[.val (.ref x), .val (.ref y), .unset] [.ref y])) rfl (rest := []) rfl (hb hbytes d15)
    have hh5 := q5.trans hh3
    have c6 : Steps p.tables e below (s₁.setTop (entryFrame m #[.ref x, .ref y] 3)) (T5.setTop (mkF m 19 #[.val (.ref x), .val (.ref y), .val (.ref y)] [])) := (c4.trans (st5 _ (Steps.refl _))).trans (by
      refine XS.astoreN X5.here hexec rfl (hb hbytes d18) rfl rfl rfl ?_
      exact Steps.refl _)
    obtain ⟨T7, X7, q7, st7⟩ := X5.sget hexec hown (wk W (.fieldLink "java/lang/String" 38 "java/lang/String" "COMPACT_STRINGS" "Z")) s1 (fun _ _ h => by rw [hh5]; exact h) (g := (mkF m 19 #[.val (.ref x), .val (.ref y), .val (.ref y)] [])) rfl (hb hbytes d19)
    have hh7 := q7.trans hh5
    have c8 : Steps p.tables e below (s₁.setTop (entryFrame m #[.ref x, .ref y] 3)) (T7.setTop (mkF m 26 #[.val (.ref x), .val (.ref y), .val (.ref y)] [.ref x])) := (c6.trans (st7 _ (Steps.refl _))).trans (by
      refine XS.ifNo X7.here hexec rfl (hb hbytes d22) rfl (i0_eq_f hz) ?_
      refine XS.aloadN X7.here hexec rfl (hb hbytes d25) rfl rfl ?_
      exact Steps.refl _)
    obtain ⟨T9, X9, q9, st9⟩ := X7.hget hexec hown (wk W (.fieldLink "java/lang/String" 15 "java/lang/String" "coder" "B")) (hx.mv X7.warmed.alike hh7).2.2.1 (g := (mkF m 26 #[.val (.ref x), .val (.ref y), .val (.ref y)] [.ref x])) rfl (rest := []) rfl (hb hbytes d26)
    have hh9 := q9.trans hh7
    have c10 : Steps p.tables e below (s₁.setTop (entryFrame m #[.ref x, .ref y] 3)) (T9.setTop (mkF m 30 #[.val (.ref x), .val (.ref y), .val (.ref y)] [.ref y, .int cd])) := (c8.trans (st9 _ (Steps.refl _))).trans (by
      refine XS.aloadN X9.here hexec rfl (hb hbytes d29) rfl rfl ?_
      exact Steps.refl _)
    obtain ⟨T11, X11, q11, st11⟩ := X9.hget hexec hown (wk W (.fieldLink "java/lang/String" 15 "java/lang/String" "coder" "B")) (hy.mv X9.warmed.alike hh9).2.2.1 (g := (mkF m 30 #[.val (.ref x), .val (.ref y), .val (.ref y)] [.ref y, .int cd])) rfl (rest := [.int cd]) rfl (hb hbytes d30)
    have hh11 := q11.trans hh9
    have c12 : Steps p.tables e below (s₁.setTop (entryFrame m #[.ref x, .ref y] 3)) (T11.setTop (mkF m 33 #[.val (.ref x), .val (.ref y), .val (.ref y)] [.int cd', .int cd])) := c10.trans (st11 _ (Steps.refl _))
    by_cases hcd : cd = cd'
    · subst hcd
      have c13 : Steps p.tables e below (s₁.setTop (entryFrame m #[.ref x, .ref y] 3)) (T11.setTop (mkF m 37 #[.val (.ref x), .val (.ref y), .val (.ref y)] [.ref x])) := c12.trans (by
        refine XS.icmpNo X11.here hexec rfl (hb hbytes d33) rfl (ii_ne_f rfl) ?_
        refine XS.aloadN X11.here hexec rfl (hb hbytes d36) rfl rfl ?_
        exact Steps.refl _)
      obtain ⟨T14, X14, q14, st14⟩ := X11.hget hexec hown (wk W (.fieldLink "java/lang/String" 9 "java/lang/String" "value" "[B")) (hx.mv X11.warmed.alike hh11).2.1 (g := (mkF m 37 #[.val (.ref x), .val (.ref y), .val (.ref y)] [.ref x])) rfl (rest := []) rfl (hb hbytes d37)
      have hh14 := q14.trans hh11
      have c15 : Steps p.tables e below (s₁.setTop (entryFrame m #[.ref x, .ref y] 3)) (T14.setTop (mkF m 41 #[.val (.ref x), .val (.ref y), .val (.ref y)] [.ref y, .ref t])) := (c13.trans (st14 _ (Steps.refl _))).trans (by
        refine XS.aloadN X14.here hexec rfl (hb hbytes d40) rfl rfl ?_
        exact Steps.refl _)
      obtain ⟨T16, X16, q16, st16⟩ := X14.hget hexec hown (wk W (.fieldLink "java/lang/String" 9 "java/lang/String" "value" "[B")) (hy.mv X14.warmed.alike hh14).2.1 (g := (mkF m 41 #[.val (.ref x), .val (.ref y), .val (.ref y)] [.ref y, .ref t])) rfl (rest := [.ref t]) rfl (hb hbytes d41)
      have hh16 := q16.trans hh14
      have c17 : Steps p.tables e below (s₁.setTop (entryFrame m #[.ref x, .ref y] 3)) (T16.setTop (mkF m 44 #[.val (.ref x), .val (.ref y), .val (.ref y)] [.ref t', .ref t])) := c15.trans (st16 _ (Steps.refl _))
      obtain ⟨v18, T18, X18, E18, g18⟩ := X16.callS hexec (LEq.law l t V t' V') hown (wks W (staticW "java/lang/String" 541 LEq.yN)) (wk W LEq.tab) (W := 0) (Nat.le_of_ble_eq_true rfl) (Nat.le_of_ble_eq_true rfl) (Nat.le_refl _) (Nat.le_refl _) (g := (mkF m 44 #[.val (.ref x), .val (.ref y), .val (.ref y)] [.ref t', .ref t])) rfl (by rw [hml]; rfl) c17 (argsL := [.ref t, .ref t']) (rest := []) rfl rfl (by show 2 * 0 + 0 ≤ _; decide) (hb hbytes d44) (⟨rfl, hx.2.2.2.1.mv X16.warmed.alike hh16, hx.2.2.2.2.1.ty, hy.2.2.2.1.mv X16.warmed.alike hh16, hy.2.2.2.2.1.ty⟩)
      obtain ⟨v, rfl, q18, hv⟩ := E18
      have iff := Cod.eqv hx.2.2.2.2.1 hy.2.2.2.2.1 hx.2.2.2.2.2 hy.2.2.2.2.2
      rcases hv with ⟨rfl, he⟩ | ⟨rfl, he⟩
      · have c19 : Steps p.tables e below (s₁.setTop (entryFrame m #[.ref x, .ref y] 3)) (T18.setTop (mkF m 55 #[.val (.ref x), .val (.ref y), .val (.ref y)] [.int 1])) := Steps.trans g18 (by
          refine XS.ifNo X18.here hexec rfl (hb hbytes d47) rfl (i0_eq_f (by decide)) ?_
          refine iconstV X18.here hexec rfl 1 (hb hbytes d50) (by decide) ?_
          refine XS.goto X18.here hexec rfl (pc0 := 51) rfl (hb hbytes d51) (by decide) rfl ?_
          exact Steps.refl _)
        exact ⟨T18, some (.int 1), _, _, _, X18, rfl, rfl, rfl, (fun h => by cases h), ⟨1, rfl, q18.trans hh16, Or.inl ⟨rfl, iff.mp he⟩⟩, fun fs hl => c19.trans (X18.ireturnOut hexec hret rfl (Or.inr (Or.inl rfl)) (hb hbytes d55) hl)⟩
      · have c19 : Steps p.tables e below (s₁.setTop (entryFrame m #[.ref x, .ref y] 3)) (T18.setTop (mkF m 55 #[.val (.ref x), .val (.ref y), .val (.ref y)] [.int 0])) := Steps.trans g18 (by
          refine XS.ifYes X18.here hexec rfl (pc0 := 47) rfl (hb hbytes d47) rfl (i0_eq_t rfl) (by decide) rfl ?_
          refine iconstV X18.here hexec rfl 0 (hb hbytes d54) (by decide) ?_
          exact Steps.refl _)
        exact ⟨T18, some (.int 0), _, _, _, X18, rfl, rfl, rfl, (fun h => by cases h), ⟨0, rfl, q18.trans hh16, Or.inr ⟨rfl, fun q => he (iff.mpr q)⟩⟩, fun fs hl => c19.trans (X18.ireturnOut hexec hret rfl (Or.inr (Or.inl rfl)) (hb hbytes d55) hl)⟩
    · have c13 : Steps p.tables e below (s₁.setTop (entryFrame m #[.ref x, .ref y] 3)) (T11.setTop (mkF m 55 #[.val (.ref x), .val (.ref y), .val (.ref y)] [.int 0])) := c12.trans (by
        refine XS.icmpYes X11.here hexec rfl (pc0 := 33) rfl (hb hbytes d33) rfl (ii_ne_t hcd) (by decide) rfl ?_
        refine iconstV X11.here hexec rfl 0 (hb hbytes d54) (by decide) ?_
        exact Steps.refl _)
      exact ⟨T11, some (.int 0), _, _, _, X11, rfl, rfl, rfl, (fun h => by cases h), ⟨0, rfl, hh11, Or.inr ⟨rfl, Cod.dif hx.2.2.2.2.1 hy.2.2.2.2.1 hcd⟩⟩, fun fs hl => c13.trans (X11.ireturnOut hexec hret rfl (Or.inr (Or.inl rfl)) (hb hbytes d55) hl)⟩
theorem pays {l : Launch} {R : Room} {p : Program} {e : Env} {below : List Frame} {s : State} {sargs : Array Value} {len W : Nat} (x t : Addr) (V : Cell) (cd : Int32) (n : Nat) (f : Nat → Int32) (y t' : Addr) (V' : Cell) (cd' : Int32) (k : Nat) (g : Nat → Int32) (z : Int32) (htab : tab.before sargs s = true) (hfr : 2 ≤ R.frames) (hlo : W + 28 ≤ R.locals) :
    Back l R p e below s sargs yN len W (fun A₁ a₁ => A₁.cells + 0 ≤ R.cells ∧ A₁.slots + 0 ≤ R.slots ∧ P x t V cd n f y t' V' cd' k g z a₁ A₁.U) (fun A₁ _ v₁ B₁ => Says01 (SameT n f k g) v₁ A₁.U B₁.U ∧ B₁.locs = A₁.locs ++ [] ∧ B₁.cells = A₁.cells + 0 ∧ B₁.slots = A₁.slots + 0) :=
  (law l x t V cd n f y t' V' cd' k g z).pays htab hfr (by omega)
end SEq
end StrChars
namespace StrChars.Road
open Jvm Sem ClassFile Op Lib Jvm.Stand Jvm.Free Jvm.Free.XT
open Jvm.Lib.Cold (StaticIs)
/-- the words of String.equals(Object) -/
abbrev wordsEq : List Jvm.Cond := [.code SEq.yN SEq.yB 3 (some .boolean), .initialized ST, .classLink ST 10 ST, .fieldLink ST 38 ST "COMPACT_STRINGS" "Z", .fieldLink ST 15 ST "coder" "B", .fieldLink ST 9 ST "value" "[B", .methodLink ST 541 LEq.yN, .static LEq.yN, .code LEq.yN LEq.yB 3 (some .boolean), .initialized "java/lang/StringLatin1"]
theorem tabEq_of {a : Array Value} {s : State} (h : ∀ w ∈ wordsEq, w.before a s = true) : SEq.tab.before a s = true := by
  have hl : LEq.tab.before a s = true := unparts (wk h (.code LEq.yN LEq.yB 3 (some .boolean))) (wks h (.initialized LEq.yN.cls :: LEq.site))
  have q := consq hl h
  exact unparts (wk q (.code SEq.yN SEq.yB 3 (some .boolean))) (wks q (.initialized SEq.yN.cls :: SEq.site))
theorem movedEq {Z s : State} {a0 args : Array Value} (hZ : Z.Warmed39 s.vm) (hw : ∀ d ∈ wordsEq, d.before a0 Z = true) : ∀ d ∈ wordsEq, d.before args s = true := fun d hd => by
  have t : ∀ d ∈ wordsEq, (d.onTables && d.keepsFace) = true := by decide +kernel
  exact RoadKit.mv hZ (hw d hd) (t d hd)
/-- the road's facts of a String, as the laws ask it -/
theorem txt_of {Z U : State} {a0 : Array Value} {kI : Nat} (wi : (Jvm.Cond.instantiable ST kI).before a0 Z = true) (al : Z.vm.Alike U.vm) {x t : Addr} {kb : ClassId} {cs : List Int32} {cd N2 : Int32} {vs : List Value} (E : RoadKit.Exa Z U.heap x ST) (V : RoadKit.Fld Z U.heap x ST "value" "[B" (.ref t)) (C : RoadKit.Fld Z U.heap x ST "coder" "B" (.int cd)) (K : RoadKit.Arv Z U.heap t kb .byte N2 vs (.int 0)) (hc : CodA cs cd N2 vs) (hb : ∀ c ∈ cs, ¬ c < 0 ∧ ¬ (65535 : Int32) < c) (l2 : cs.length ≤ 4000) :
    ∃ A, Txt x t A cd cs.length (fun j => cs.getD j 0) U := by
  obtain ⟨A, K1, K2, K3, K4, K5, K6⟩ := K
  have hcod := hc.cod (by omega) K3 K5
  obtain ⟨D, fV, fC, hB, F1, F2, g1, g2, -, -⟩ := strObj wi al E V C
  exact ⟨A, ⟨_, hB.2.2.1, D, hB.1, rfl, by cases q : D.vm <;> first | rfl | exact absurd q (hB.2.1.2 _)⟩, Has.of hB F1 g1, Has.of hB F2 g2, ⟨K1.1, State.isArrayOf_alike al K1.2.1, K1.2.2, by rcases hcod with ⟨-, q, -⟩ | ⟨-, q, -⟩ <;> omega⟩, hcod, fun j hj => by
    have e : cs.getD j 0 = cs[j] := by simp [List.getD_eq_getElem?_getD, hj]
    show ¬ cs.getD j 0 < 0 ∧ ¬ 65535 < cs.getD j 0
    rw [e]; exact hb _ (List.getElem_mem _)⟩
theorem same_list (cs ds : List Int32) : SameT cs.length (fun j => cs.getD j 0) ds.length (fun j => ds.getD j 0) ↔ cs = ds := by
  constructor
  · rintro ⟨e, q⟩
    refine List.ext_getElem e fun j h1 h2 => ?_
    have := q j h1
    simpa [List.getD_eq_getElem?_getD, h1, h2] using this
  · rintro rfl
    exact ⟨rfl, fun _ _ => rfl⟩
/-- **equals(Object) OF TWO SUCH STRINGS**: 1 just where the chars are the same -/
theorem eqW {p : Program} {l : Launch} {e : Env} {R : Room} {s : State} {args : Array Value} {below : List Frame} {len W : Nat} {Z : State} {a0 : Array Value} {h : Heap} (hZ : Z.Warmed39 s.vm) (hw : ∀ d ∈ wordsEq, d.before a0 Z = true) {kI : Nat} (wi : (Jvm.Cond.instantiable ST kI).before a0 Z = true)
    {x t : Addr} {kb : ClassId} {cs : List Int32} {cd N2 : Int32} {vs : List Value} (E : RoadKit.Exa Z h x ST) (V : RoadKit.Fld Z h x ST "value" "[B" (.ref t)) (C : RoadKit.Fld Z h x ST "coder" "B" (.int cd)) (K : RoadKit.Arv Z h t kb .byte N2 vs (.int 0)) (hc : CodA cs cd N2 vs) (hb : ∀ c ∈ cs, ¬ c < 0 ∧ ¬ (65535 : Int32) < c) (l2 : cs.length ≤ 4000)
    {y t' : Addr} {kb' : ClassId} {ds : List Int32} {cd' N2' : Int32} {vs' : List Value} (E' : RoadKit.Exa Z h y ST) (V' : RoadKit.Fld Z h y ST "value" "[B" (.ref t')) (C' : RoadKit.Fld Z h y ST "coder" "B" (.int cd')) (K' : RoadKit.Arv Z h t' kb' .byte N2' vs' (.int 0)) (hc' : CodA ds cd' N2' vs') (hb' : ∀ c ∈ ds, ¬ c < 0 ∧ ¬ (65535 : Int32) < c) (l2' : ds.length ≤ 4000)
    {z : Int32} (S : RoadKit.Sta Z h ST "COMPACT_STRINGS" "Z" (.int z)) (hz : ¬ z = 0) (hfr : 2 ≤ R.frames) (hlo : W + 28 ≤ R.locals) :
    Back l R p e below s args (⟨"java/lang/String", "equals", "(Ljava/lang/Object;)Z"⟩ : MethodName) len W (fun P a => a = #[.ref x, .ref y] ∧ P.U.heap = h ∧ P.cells + 0 ≤ R.cells ∧ P.slots + 0 ≤ R.slots)
      (fun P _ v B => ∃ L, (((v = some (.int 1) ∧ cs = ds) ∨ (v = some (.int 0) ∧ ¬ cs = ds)) ∧ L = [] ∧ B.U.heap = h) ∧ B.locs = P.locs ++ L ∧ B.cells = P.cells + 0 ∧ B.slots = P.slots + 0) := by
  intro m meth c P g ig mk a X hg hsize hdg hW hn hp'
  obtain ⟨rfl, rfl, r1, r2⟩ := hp'
  have al : Z.vm.Alike P.U.vm := hZ.alike.trans X.warmed.alike
  obtain ⟨A, hx⟩ := txt_of wi al E V C K hc hb l2
  obtain ⟨A', hy⟩ := txt_of wi al E' V' C' K' hc' hb' l2'
  obtain ⟨v, B, X', ⟨⟨w, hv, hh, hq⟩, hl, hk, hs⟩, st⟩ := SEq.pays x t A cd cs.length (fun j => cs.getD j 0) y t' A' cd' ds.length (fun j => ds.getD j 0) z (tabEq_of (movedEq hZ hw)) hfr hlo m meth c P g ig mk _ X hg hsize hdg hW hn ⟨r1, r2, rfl, hx, hy, sta_is al S, hz⟩
  refine ⟨v, B, X', ⟨[], ⟨?_, rfl, hh⟩, hl, hk, hs⟩, st⟩
  rcases hq with ⟨rfl, q⟩ | ⟨rfl, q⟩
  · exact Or.inl ⟨hv, (same_list cs ds).mp q⟩
  · exact Or.inr ⟨hv, fun e => q ((same_list cs ds).mpr e)⟩
end StrChars.Road
namespace StrChars.Road
open Jvm Sem ClassFile Op Lib Jvm.Stand Jvm.Free Jvm.Free.XT
open Jvm.Lib.Cold (StaticIs)
/-- what backV says of its String, as the contracts of this text ask it: cs's low bytes, coder 0 -/
theorem codOf {cs : List Int32} {n : Nat} (hn : cs.length = n) (hb : ∀ c ∈ cs, ¬ 255 < c) : CodA cs 0 (Int32.ofNat n) ((cs.map lo8).map Value.int) := Or.inl ⟨rfl, by rw [hn], by simp [List.map_map, Function.comp_def], hb⟩
end StrChars.Road
end Jvm.Pilot.@@N@@
namespace Jvm.Pilot.@@N@@
open Jvm Jvm.ClassFile Sem Op Lib Jvm.Free Jvm.Stand Jvm.LawKit Jvm.RoadKit Bundle Jvm.Pilot.@@N@@.Jvm.D
set_option maxRecDepth 65536
set_option maxHeartbeats 40000000
section Kit
variable {p : Program} {l : Launch} {e : Env} {R : Room} {s : State} {m : MethodId} {args : Array Value} {below : List Frame} {meth : Method} {c : Code} {Z : State} {a0 : Array Value} {EL : List (String × Nat)} {own : String} {sf : List Addr} {T : State} {h h' h0 : Heap} {k n k' n' rc rs pc : Nat} {Ls : Array Slot} {stk rest : List Value} {Q : Option Value → Heap → Prop}
/-- where a walk stands: the library's Stand over the start with the tables at hand, and what rides along -/
def Wk (p : Program) (l : Launch) (e : Env) (R : Room) (s : State) (m : MethodId) (args : Array Value) (below : List Frame) (meth : Method) (c : Code) (Z : State) (a0 : Array Value) (EL : List (String × Nat)) (own : String) (sf : List Addr) (T : State) (h : Heap) (k n : Nat) : Prop :=
  p.tables.exec = Jvm.exec ∧ meth.locks = false ∧ EW Z a0 EL ∧ Ext Z.heap s.heap ∧ ∃ (vm0 : Vm) (k0 : Nat) (L : List Loc), Stand p l e R (s.setVm vm0) m args below meth c T L k n ∧ T.heap = h ∧ s.Since vm0 k0 ∧ k0 ≤ h.size ∧ Z.Warmed39 vm0 ∧ vm0.findClass own = some m.cls ∧ CHr Z EL s.vm s.heap vm0 h ∧ (∀ x ∈ sf, x < h.size ∧ Safe Z EL vm0 h x) ∧ Fr Z.heap.size L
/-- from the state st the invocation ends, with Q of its value and heap -/
def Go (p : Program) (e : Env) (below : List Frame) (s : State) (Z : State) (EL : List (String × Nat)) (rc rs : Nat) (Q : Option Value → Heap → Prop) (st : State) : Prop :=
  ∃ t o, Steps p.tables e below st t ∧ t.status = .running ∧ Ended t below o ∧ ∃ v L, o = .returned v ∧ (Q v t.heap ∧ Fr Z.heap.size L) ∧ CHr Z EL s.vm s.heap t.vm t.heap ∧ ReturnedEndW s o t L rc rs
/-- a method's contract: at these arguments and this heap it ends, with Q of its value and heap -/
def Con (l : Launch) (Z : State) (EL : List (String × Nat)) (sf : List Addr) (y : MethodName) (bytes : ByteArray) (maxL : Nat) (ret : Option FieldType) (ws : List Cond) (rm : Room) (as' : Array Value) (h : Heap) (Q : Option Value → Heap → Prop) : Prop :=
  MetFree l y (head1 (Cond.code y bytes maxL ret :: ws) rm) (fun a U => a = as' ∧ Z.Warmed39 U.vm ∧ U.heap = h ∧ CHv Z EL U.vm h ∧ ∀ x ∈ sf, Safe Z EL U.vm h x) (fun _ _ _ _ _ => True) (fun _ U o U' => ∃ v L, o = .returned v ∧ (Q v U'.heap ∧ Fr Z.heap.size L) ∧ CHr Z EL U.vm U.heap U'.vm U'.heap ∧ ReturnedEndW U o U' L rm.cells rm.slots)
theorem Go.by {st st' : State} (q : ∀ t, Steps p.tables e below st' t → Steps p.tables e below st t) (f : Go p e below s Z EL rc rs Q st') : Go p e below s Z EL rc rs Q st := by
  obtain ⟨t, o, h1, r⟩ := f; exact ⟨t, o, q t h1, r⟩
theorem Go.of {st st' : State} (q : Steps p.tables e below st st') (f : Go p e below s Z EL rc rs Q st') : Go p e below s Z EL rc rs Q st := f.by fun t r => q.trans r
theorem Wk.hx (W : Wk p l e R s m args below meth c Z a0 EL own sf T h k n) : p.tables.exec = Jvm.exec := W.1
theorem Wk.here (W : Wk p l e R s m args below meth c Z a0 EL own sf T h k n) : At T m c below := by obtain ⟨-, -, -, -, vm0, k0, L, X, -⟩ := W; exact X.here
theorem Wk.old (W : Wk p l e R s m args below meth c Z a0 EL own sf T h k n) : Ext Z.heap h := by
  obtain ⟨-, -, -, hE, vm0, k0, L, X, rfl, -, -, -, -, -, -, N⟩ := W
  refine ⟨Nat.le_trans hE.1 X.same.2.1, fun b cl hb => ?_⟩
  obtain ⟨c', h1, h2, -, h4⟩ := X.same.2.2.2.2.2 b cl (hE.2 b cl hb)
  have hlt := (Array.getElem?_eq_some_iff.mp hb).1
  have hsl : c'.slots = cl.slots := Array.ext_getElem? fun i => h4 i fun hm => absurd (N _ hm) (Nat.not_le.mpr hlt)
  have hcc : c' = cl := by rw [h2, hsl]
  rw [← hcc]; exact h1
theorem Wk.mono (W : Wk p l e R s m args below meth c Z a0 EL own sf T h k n) (hk : k ≤ k') (hn : n ≤ n') : Wk p l e R s m args below meth c Z a0 EL own sf T h k' n' := by
  obtain ⟨w1, w2, w3, w4, vm0, k0, L, X, r⟩ := W; exact ⟨w1, w2, w3, w4, vm0, k0, L, X.mono hk hn, r⟩
theorem Wk.less {sf' : List Addr} (W : Wk p l e R s m args below meth c Z a0 EL own sf T h k n) (q : ∀ x ∈ sf', x ∈ sf) : Wk p l e R s m args below meth c Z a0 EL own sf' T h k n := by
  obtain ⟨w1, w2, w3, w4, vm0, k0, L, X, r1, r2, r3, r4, r5, r6, r7, r8⟩ := W; exact ⟨w1, w2, w3, w4, vm0, k0, L, X, r1, r2, r3, r4, r5, r6, fun x hx => r7 x (q x hx), r8⟩
/-- what is safe by its class -/
theorem Wk.safeE {C : String} {x : Addr} (W : Wk p l e R s m args below meth c Z a0 EL own sf T h k n) (E : Exa Z h x C) (h1 : C ≠ "java/lang/String") (h2 : C ≠ "[B") : Wk p l e R s m args below meth c Z a0 EL own (x :: sf) T h k n := by
  obtain ⟨w1, w2, w3, w4, vm0, k0, L, X, r1, r2, r3, r4, r5, r6, r7, r8⟩ := W
  exact ⟨w1, w2, w3, w4, vm0, k0, L, X, r1, r2, r3, r4, r5, r6, fun y hy => by
    rcases List.mem_cons.mp hy with rfl | hy
    · exact ⟨E.lt, Safe.exa r4.alike E h1 h2⟩
    · exact r7 y hy, r8⟩
/-- a contract by its body's walk -/
theorem Con.mk {y : MethodName} {bytes : ByteArray} {maxL : Nat} {ret : Option FieldType} {ws : List Cond} {rm : Room} {as' : Array Value} (hp : plainFor y = true) (hEL : EW Z a0 EL) (hE : Ext Z.heap h) (hsf : ∀ x ∈ sf, x < h.size)
    (body : ∀ (p : Program) (e : Env) (s : State) (m : MethodId) (below : List Frame) (meth : Method) (c : Code) (T : State), c.code = bytes → c.maxLocals = maxL → meth.sig.returnType = ret → meth.name = y.name → Wk p l e rm s m as' below meth c Z a0 EL y.cls sf T h 0 0 → Go p e below s Z EL rm.cells rm.slots Q (T.setTop (entryFrame m as' maxL))) :
    Con l Z EL sf y bytes maxL ret ws rm as' h Q := by
  refine MetFree.of_bodySF hp hisR ?_
  intro p e s m args below meth c s₁ Bd hml0 hP hK
  obtain ⟨rfl, hZ, hh, hC, hS⟩ := hP
  have X0 : Stand p l e rm s m args below meth c s₁ [] 0 0 := Stand.of_body Bd
  have e0 : s₁.heap = h := by rw [← hh, Bd.state]; rfl
  subst hh
  obtain ⟨t, o, h1, h2, h3, h4⟩ := body p e s m below meth c s₁ Bd.bytes hml0 Bd.returns (name_of_methodNamed Bd.named Bd.method).1
    ⟨Bd.exec, Bd.notSynchronized, hEL, hE, s.vm, 0, [], X0, e0, (State.WarmedH.refl s).since 0, Nat.zero_le _, hZ, findClass_of_methodNamed Bd.named, CHr.refl hC, fun x hx => ⟨hsf x hx, hS x hx⟩, Fr.nil _⟩
  exact ⟨t, o, h1, h2, h3, h4⟩
/-! returns -/
theorem Wk.ret {st : State} {v : Option Value} (W : Wk p l e R s m args below meth c Z a0 EL own sf T h k n) (hk : k ≤ rc) (hn : n ≤ rs) (hv : meth.sig.returnType = none → v = none) (q : Q v h)
    (go : ∀ {L : List Loc} {vm0 : Vm}, Stand p l e R (s.setVm vm0) m args below meth c T L k n → ∀ fs : List Frame, (∀ (f : JFrame) (acts : List Action), f.method = m → f.locked = none → f.entered = [] → (doReturn e (T.setTop f) acts v).1 = T.setFrames fs) → Steps p.tables e below st (T.setFrames fs)) : Go p e below s Z EL rc rs Q st := by
  obtain ⟨w1, w2, w3, w4, vm0, k0, L, X, rfl, r2, r3, r4, r5, r6, r7, r8⟩ := W
  obtain ⟨fs, hr, hrun, hended, hW⟩ := (X.mono hk hn).leaveW r2 r3 hv w2
  have hc : CHr Z EL s.vm s.heap T.vm T.heap := r6.trans (CHv.at X r4 w3 r6.1)
  exact ⟨_, _, go X fs hr, hrun, hended, v, L, rfl, ⟨q, r8⟩, hc, hW⟩
theorem Wk.retV (W : Wk p l e R s m args below meth c Z a0 EL own sf T h k n) (hk : k ≤ rc) (hn : n ≤ rs) (hret : meth.sig.returnType = none) (hd : decode c.code pc = .ok (.return_, 1)) (q : Q none h) : Go p e below s Z EL rc rs Q (T.setTop (mkF m pc Ls [])) :=
  W.ret hk hn (fun _ => rfl) q fun X fs hr => X.returnOut W.hx hret hd hr
theorem Wk.retN {t : FieldType} {z z' : Int32} (W : Wk p l e R s m args below meth c Z a0 EL own sf T h k n) (hk : k ≤ rc) (hn : n ≤ rs) (hret : meth.sig.returnType = some t) (ht : t = .boolean ∨ t = .byte ∨ t = .char ∨ t = .short) (hd : decode c.code pc = .ok (.ireturn, 1)) (hz : nar t z = z') (q : Q (some (.int z')) h) : Go p e below s Z EL rc rs Q (T.setTop (mkF m pc Ls (.int z :: rest))) := by
  subst hz
  exact W.ret hk hn (fun h => by rw [hret] at h; cases h) q fun X fs hr => Jvm.RoadKit.retN X W.hx hret ht hd hr
theorem Wk.retI {z : Int32} (W : Wk p l e R s m args below meth c Z a0 EL own sf T h k n) (hk : k ≤ rc) (hn : n ≤ rs) (hret : meth.sig.returnType = some .int) (hd : decode c.code pc = .ok (.ireturn, 1)) (q : Q (some (.int z)) h) : Go p e below s Z EL rc rs Q (T.setTop (mkF m pc Ls (.int z :: rest))) :=
  W.ret hk hn (fun h => by rw [hret] at h; cases h) q fun X fs hr => retOut X W.hx hret rfl (Or.inl ⟨rfl, by simp, z, rfl⟩) hd hr
theorem Wk.retA {t : FieldType} {w : Value} (W : Wk p l e R s m args below meth c Z a0 EL own sf T h k n) (hk : k ≤ rc) (hn : n ≤ rs) (hret : meth.sig.returnType = some t) (ht : t.isReference = true) (hw : w.isRef = true) (hd : decode c.code pc = .ok (.areturn, 1)) (q : Q (some w) h) : Go p e below s Z EL rc rs Q (T.setTop (mkF m pc Ls (w :: rest))) :=
  W.ret hk hn (fun h => by rw [hret] at h; cases h) q fun X fs hr => retOut X W.hx hret (by rcases ref_cases hw with rfl | ⟨z, rfl⟩ <;> cases t <;> first | rfl | cases ht) (Or.inr (Or.inr (Or.inr (Or.inr ⟨rfl, ht, hw⟩)))) hd hr
/-! fields -/
theorem Wk.getf {R0 O nm d host : String} {index : Nat} {a : Addr} {v : Value} (W : Wk p l e R s m args below meth c Z a0 EL own sf T h k n) (w : (Cond.fieldLink own index R0 nm d).before a0 Z = true ∨ (Cond.fieldLinkNest own index R0 nm d host).before a0 Z = true) (via : Via Z R0 O nm d) (F : Fld Z h a O nm d v) (hd : decode c.code pc = .ok (.getfield index, 3))
    (go : ∀ T', Wk p l e R s m args below meth c Z a0 EL own sf T' h k n → Go p e below s Z EL rc rs Q (T'.setTop (mkF m (pc + 3) Ls (v :: rest)))) : Go p e below s Z EL rc rs Q (T.setTop (mkF m pc Ls (.ref a :: rest))) := by
  obtain ⟨w1, w2, w3, w4, vm0, k0, L, X, r1, r2, r3, r4, r5, r⟩ := W
  obtain ⟨T', X', e', st⟩ := getF X w1 r4 r5 w via r1 F (g := mkF m pc Ls (.ref a :: rest)) rfl rfl hd
  exact Go.by st (go T' ⟨w1, w2, w3, w4, vm0, k0, L, X', e', r2, r3, r4, r5, r⟩)
theorem Wk.gets {R0 O nm d host : String} {index : Nat} {v : Value} (W : Wk p l e R s m args below meth c Z a0 EL own sf T h k n) (w : (Cond.fieldLink own index R0 nm d).before a0 Z = true ∨ (Cond.fieldLinkNest own index R0 nm d host).before a0 Z = true) (via : Via Z R0 O nm d) (F : Sta Z h O nm d v) (hd : decode c.code pc = .ok (.getstatic index, 3))
    (go : ∀ T', Wk p l e R s m args below meth c Z a0 EL own sf T' h k n → Go p e below s Z EL rc rs Q (T'.setTop (mkF m (pc + 3) Ls (v :: stk)))) : Go p e below s Z EL rc rs Q (T.setTop (mkF m pc Ls stk)) := by
  obtain ⟨w1, w2, w3, w4, vm0, k0, L, X, r1, r2, r3, r4, r5, r⟩ := W
  obtain ⟨T', X', e', st⟩ := getS2 X w1 r4 r5 w via r1 F (g := mkF m pc Ls stk) rfl hd
  exact Go.by st (go T' ⟨w1, w2, w3, w4, vm0, k0, L, X', e', r2, r3, r4, r5, r⟩)
theorem Wk.wrote {a : Addr} {sl : Nat} {v : Value} {T' : State} {L : List Loc} {vm0 : Vm} (hxm : p.tables.exec = Jvm.exec) (hl : meth.locks = false) (hEW : EW Z a0 EL) (hE : Ext Z.heap s.heap) {k0 : Nat} (X' : Stand p l e R (s.setVm vm0) m args below meth c T' (L ++ [⟨a, sl⟩]) k n) (e' : T'.heap = h') (W' : Wr h h' a sl v) (r2 : s.Since vm0 k0) (r3 : k0 ≤ h.size) (r4 : Z.Warmed39 vm0) (r5 : vm0.findClass own = some m.cls) (r6 : CHr Z EL s.vm s.heap vm0 h) (r7 : ∀ x ∈ sf, x < h.size ∧ Safe Z EL vm0 h x) (r8 : Fr Z.heap.size L) (ha : Z.heap.size ≤ a) (hs : a ∈ sf) :
    Wk p l e R s m args below meth c Z a0 EL own sf T' h' k n := by
  have hsz : h'.size = h.size := W'.size
  exact ⟨hxm, hl, hEW, hE, vm0, k0, _, X', e', r2, by rw [hsz]; exact r3, r4, r5, r6.trans (CHr.wr W' (r7 a hs).2 r6.1), fun x hx => ⟨by rw [hsz]; exact (r7 x hx).1, Safe.wr W' (r7 a hs).2 r6.1 (r7 x hx).2⟩, Fr.snoc X' r8 ha⟩
theorem Wk.putf {R0 O nm d host C : String} {index kk : Nat} {ty : FieldType} {a : Addr} {v old : Value} (W : Wk p l e R s m args below meth c Z a0 EL own sf T h k n) (w : (Cond.fieldLink own index R0 nm d).before a0 Z = true ∨ (Cond.fieldLinkNest own index R0 nm d host).before a0 Z = true) (via : Via Z R0 O nm d) (F : Fld Z h a O nm d old) (E : Exa Z h a C) (Lw : (Cond.lays C O nm d).before a0 Z = true ∨ ((Cond.laysFinal C O nm d).before a0 Z = true ∧ own = O ∧ meth.name = "<init>")) (wi : (Cond.instantiable C kk).before a0 Z = true)
    (hty : parseFieldDescriptor d = some ty) (hn : narrow ty v = v) (hf : fits ty v = true) (ha : Z.heap.size ≤ a) (hs : a ∈ sf) (hd : decode c.code pc = .ok (.putfield index, 3))
    (go : ∀ T' h', Wk p l e R s m args below meth c Z a0 EL own sf T' h' k n → Wr h h' a (RoadKit.slotOf Z O nm d) v → Go p e below s Z EL rc rs Q (T'.setTop (mkF m (pc + 3) Ls rest))) : Go p e below s Z EL rc rs Q (T.setTop (mkF m pc Ls (v :: .ref a :: rest))) := by
  obtain ⟨w1, w2, w3, w4, vm0, k0, L, X, r1, r2, r3, r4, r5, r6, r7, r8⟩ := W
  obtain ⟨T', h', X', e', W', st⟩ := putF X w1 r4 r5 w via r1 F E Lw wi hty hn hf (g := mkF m pc Ls (v :: .ref a :: rest)) rfl rfl hd
  exact Go.by st (go T' h' (Wk.wrote w1 w2 w3 w4 X' e' W' r2 r3 r4 r5 r6 r7 r8 ha hs) W')
/-! making -/
theorem Wk.grew {x : Addr} {T' : State} {L : List Loc} {vm0 : Vm} {k0 : Nat} (hxm : p.tables.exec = Jvm.exec) (hl : meth.locks = false) (hEW : EW Z a0 EL) (hE : Ext Z.heap s.heap) (X' : Stand p l e R (s.setVm vm0) m args below meth c T' L k' n') (e' : T'.heap = h') (E : Ext h h') (hx : x < h'.size) (hn : h.size ≤ x) (r2 : s.Since vm0 k0) (r3 : k0 ≤ h.size) (r4 : Z.Warmed39 vm0) (r5 : vm0.findClass own = some m.cls) (r6 : CHr Z EL s.vm s.heap vm0 h) (r7 : ∀ x ∈ sf, x < h.size ∧ Safe Z EL vm0 h x) (r8 : Fr Z.heap.size L) :
    Wk p l e R s m args below meth c Z a0 EL own (x :: sf) T' h' k' n' :=
  ⟨hxm, hl, hEW, hE, vm0, k0, L, X', e', r2, Nat.le_trans r3 E.1, r4, r5, r6.trans (CHr.ext E r6.1), fun y hy => by
    rcases List.mem_cons.mp hy with rfl | hy
    · exact ⟨hx, Safe.ext E r6.1 (Safe.new hn)⟩
    · exact ⟨Nat.lt_of_lt_of_le (r7 y hy).1 E.1, Safe.ext E r6.1 (r7 y hy).2⟩, r8⟩
theorem Wk.new {C : String} {index N : Nat} (W : Wk p l e R s m args below meth c Z a0 EL own sf T h k n) (w : (Cond.classLink own index C).before a0 Z = true) (wi : (Cond.instantiable C N).before a0 Z = true) (wz : (Cond.initialized C).before a0 Z = true) (hd : decode c.code pc = .ok (.new index, 3)) (ek : k + 1 = k') (en : n + N = n') (hk : k' ≤ R.cells) (hn : n' ≤ R.slots)
    (go : ∀ T' h' x, Wk p l e R s m args below meth c Z a0 EL own (x :: sf) T' h' k' n' → Ext h h' → h.size = x → Z.heap.size ≤ x → Exa Z h' x C → (∀ {O nm d : String} {ty : FieldType}, Laid Z a0 C O nm d → parseFieldDescriptor d = some ty → Fld Z h' x O nm d (defaultValue ty)) → Go p e below s Z EL rc rs Q (T'.setTop (mkF m (pc + 3) Ls (.ref x :: stk)))) : Go p e below s Z EL rc rs Q (T.setTop (mkF m pc Ls stk)) := by
  have hO := W.old
  obtain ⟨w1, w2, w3, w4, vm0, k0, L, X, r1, r2, r3, r4, r5, r6, r7, r8⟩ := W
  subst ek en
  obtain ⟨T', h', X', e', E, A, D, -, st⟩ := newO X w1 r4 r5 w wi wz r1 (g := mkF m pc Ls stk) rfl hd hk hn
  exact Go.by st (go T' h' _ (Wk.grew w1 w2 w3 w4 X' e' E A.lt (Nat.le_refl _) r2 r3 r4 r5 r6 r7 r8) E rfl hO.1 A D)
theorem Wk.newp {aty : ArrayType} {z : Int32} {cap : Nat} {ad : String} (W : Wk p l e R s m args below meth c Z a0 EL own sf T h k n) (w : (Cond.arrayClass (newarray.typeOf aty)).before a0 Z = true) (hd : decode c.code pc = .ok (.newarray aty, 2)) (hz : ¬ z < 0) (hcap : z.toNatClampNeg ≤ cap) (hb : cap * 8 ≤ 536870912) (ek : k + 1 = k') (en : n + cap = n') (hk : k' ≤ R.cells) (hn : n' ≤ R.slots) (had : "[" ++ (newarray.typeOf aty).toString = ad)
    (go : ∀ T' h' x kA, Wk p l e R s m args below meth c Z a0 EL own (x :: sf) T' h' k' n' → Ext h h' → h.size = x → Z.heap.size ≤ x → Exa Z h' x ad → Arv Z h' x kA (newarray.typeOf aty) z [] (defaultValue (newarray.typeOf aty)) → Go p e below s Z EL rc rs Q (T'.setTop (mkF m (pc + 2) Ls (.ref x :: rest)))) : Go p e below s Z EL rc rs Q (T.setTop (mkF m pc Ls (.int z :: rest))) := by
  have hO := W.old
  obtain ⟨w1, w2, w3, w4, vm0, k0, L, X, r1, r2, r3, r4, r5, r6, r7, r8⟩ := W
  subst ek en
  obtain ⟨T', h', cA, X', e', E, A, D, st⟩ := newPE X w1 r4 w r1 (g := mkF m pc Ls (.int z :: rest)) rfl hd rfl hz hcap hb hk hn had
  exact Go.by st (go T' h' _ cA (Wk.grew w1 w2 w3 w4 X' e' E D.lt (Nat.le_refl _) r2 r3 r4 r5 r6 r7 r8) E rfl hO.1 D (Arv.new A hz))
theorem Wk.newr {C : String} {index : Nat} {z : Int32} {cap : Nat} {ad : String} (W : Wk p l e R s m args below meth c Z a0 EL own sf T h k n) (wl : (Cond.classLink own index C).before a0 Z = true) (w : (Cond.arrayOver (.object C)).before a0 Z = true) (hd : decode c.code pc = .ok (.anewarray index, 3)) (hz : ¬ z < 0) (hcap : z.toNatClampNeg ≤ cap) (hb : cap * 8 ≤ 536870912) (ek : k + 1 = k') (en : n + cap = n') (hk : k' ≤ R.cells) (hn : n' ≤ R.slots) (had : "[" ++ (FieldType.object C).toString = ad)
    (go : ∀ T' h' x kA, Wk p l e R s m args below meth c Z a0 EL own (x :: sf) T' h' k' n' → Ext h h' → h.size = x → Z.heap.size ≤ x → Exa Z h' x ad → Arv Z h' x kA (.object C) z [] .null → Ovr Z kA C → Go p e below s Z EL rc rs Q (T'.setTop (mkF m (pc + 3) Ls (.ref x :: rest)))) : Go p e below s Z EL rc rs Q (T.setTop (mkF m pc Ls (.int z :: rest))) := by
  have hO := W.old
  obtain ⟨w1, w2, w3, w4, vm0, k0, L, X, r1, r2, r3, r4, r5, r6, r7, r8⟩ := W
  subst ek en
  obtain ⟨T', h', cA, X', e', E, A, D, O, st⟩ := newRE X w1 r4 r5 wl w r1 (g := mkF m pc Ls (.int z :: rest)) rfl hd rfl hz hcap hb hk hn had
  exact Go.by st (go T' h' _ cA (Wk.grew w1 w2 w3 w4 X' e' E D.lt (Nat.le_refl _) r2 r3 r4 r5 r6 r7 r8) E rfl hO.1 D (Arv.new A hz) O)
theorem Wk.initO {index Wt : Nat} {a : Addr} (W : Wk p l e R s m args below meth c Z a0 EL own sf T h k n) (w1 : (Cond.methodLink own index Lib.objectInit).before a0 Z = true) (w2 : (Cond.instanceMethod Lib.objectInit).before a0 Z = true) (w3 : (Cond.code Lib.objectInit ⟨#[0xb1]⟩ 1 none).before a0 Z = true) (hsz : Ls.size = c.maxLocals) (hd : decode c.code pc = .ok (.invokespecial index, 3)) (hf : 1 ≤ R.frames) (hW : (rest.map fun v => v.category).sum ≤ Wt) (hl : Wt + 12 ≤ R.locals)
    (go : ∀ T', Wk p l e R s m args below meth c Z a0 EL own sf T' h k n → Go p e below s Z EL rc rs Q (T'.setTop (mkF m (pc + 3) Ls rest))) : Go p e below s Z EL rc rs Q (T.setTop (mkF m pc Ls (.ref a :: rest))) := by
  obtain ⟨u1, u2, u3, u4, vm0, k0, L, X, r1, r2, r3, r4, r5, r⟩ := W
  obtain ⟨T', X', e', st⟩ := Jvm.RoadKit.initO X u1 r4 r5 w1 w2 w3 r1 (g := mkF m pc Ls (.ref a :: rest)) rfl hsz rfl hd hf (W := Wt) (by show 2 * 0 + _ ≤ _; omega) hl
  exact Go.by st (go T' ⟨u1, u2, u3, u4, vm0, k0, L, X', e', r2, r3, r4, r5, r⟩)
/-! calls -/
theorem backK {y : MethodName} {bytes : ByteArray} {maxL : Nat} {ret : Option FieldType} {rm : Room} {len Wt : Nat} {as' : Array Value} {vm0 : Vm} {sf' : List Addr} {Qc : Option Value → Heap → Prop}
    (hM : Con l Z EL sf' y bytes maxL ret [] rm as' h Qc) (hZ : Z.Warmed39 vm0) (wc : (Cond.code y bytes maxL ret).before a0 Z = true) (wz : (Cond.initialized y.cls).before a0 Z = true) (hf : rm.frames + 1 ≤ R.frames) (hl : Wt + (maxL + 11) + rm.locals ≤ R.locals) (hEL : EW Z a0 EL) (H : CHv Z EL vm0 h) (hsf : ∀ x ∈ sf', x < h.size ∧ Safe Z EL vm0 h x) :
    BackS l R p e below (s.setVm vm0) args y len Wt (fun A a => a = as' ∧ A.U.heap = h ∧ A.cells + rm.cells ≤ R.cells ∧ A.slots + rm.slots ≤ R.slots)
      (fun A _ v B => ∃ L, (Qc v B.U.heap ∧ Fr Z.heap.size L) ∧ B.locs = A.locs ++ L ∧ B.cells = A.cells + rm.cells ∧ B.slots = A.slots + rm.slots ∧ CHr Z EL vm0 h B.U.vm B.U.heap) :=
  BackS.of_freeW (bytes := bytes) (maxL := maxL) (ret := ret) (E := fun _ first o t L k n => k = rm.cells ∧ n = rm.slots ∧ (∃ v, o = .returned v ∧ (Qc v t.heap ∧ Fr Z.heap.size L)) ∧ CHr Z EL first.vm first.heap t.vm t.heap) hM hf hl
    (fun m meth c A a Y hp => have hU : Z.Warmed39 A.U.vm := wtrans (s := s.setVm vm0) hZ Y.warmed
      ⟨by show (Cond.and _ .tt).before a A.U = true; rw [Cond.before_and, mv hU wc]; rfl, mv hU wc, mv hU wz, hp.2.2.1, hp.2.2.2⟩)
    (fun m meth c A a g mk Y hp => ⟨hp.1, wtrans (s := s.setVm vm0) hZ Y.warmed, hp.2.1, (CHv.at Y hZ hEL H).1, fun x hx => (CHv.at Y hZ hEL H).safe (hsf x hx).1 (hsf x hx).2⟩) (fun _ _ _ _ _ _ _ _ _ => trivial)
    (fun _ _ _ _ ⟨v, L, h1, h2, h3, h4⟩ => ⟨L, _, _, h4, rfl, rfl, ⟨v, h1, h2⟩, h3⟩)
    (fun m meth c A a g mk v t L k n Y hp _ _ ⟨e1, e2, ⟨v', e3, e4⟩, e5⟩ => by
      cases e3; subst e1 e2
      refine ⟨L, e4, rfl, rfl, rfl, (CHv.at Y hZ hEL H).trans ?_⟩
      rw [← hp.2.1]; exact e5)
theorem Wk.came {B : Pt} {v : Option Value} {rm : Room} {vm0 : Vm} {k0 : Nat} {L Lc : List Loc} {Qc : Option Value → Heap → Prop} (hxm : p.tables.exec = Jvm.exec) (hl : meth.locks = false) (hEW : EW Z a0 EL) (hE : Ext Z.heap s.heap) (X' : Stand p l e R ((s.setVm vm0).setVm B.U.vm) m args below meth c B.U B.locs B.cells B.slots) (hS : (s.setVm vm0).Since B.U.vm B.U.heap.size) (hg : h.size ≤ B.U.heap.size)
    (q : (Qc v B.U.heap ∧ Fr Z.heap.size Lc) ∧ B.locs = L ++ Lc ∧ B.cells = k + rm.cells ∧ B.slots = n + rm.slots ∧ CHr Z EL vm0 h B.U.vm B.U.heap) (r2 : s.Since vm0 k0) (r3 : k0 ≤ h.size) (r4 : Z.Warmed39 vm0) (r5 : vm0.findClass own = some m.cls) (r6 : CHr Z EL s.vm s.heap vm0 h) (r7 : ∀ x ∈ sf, x < h.size ∧ Safe Z EL vm0 h x) (r8 : Fr Z.heap.size L) (ek : k + rm.cells = k') (en : n + rm.slots = n') :
    Wk p l e R s m args below meth c Z a0 EL own sf B.U B.U.heap k' n' := by
  obtain ⟨⟨q1, q2⟩, q3, q4, q5, q6⟩ := q
  rw [q3, q4, q5, ek, en] at X'
  obtain ⟨Y1, Y2, Y3, Y4⟩ := rebS r2 r3 X' hS hg r4 r5
  exact ⟨hxm, hl, hEW, hE, _, _, _, Y1, rfl, Y2, Nat.le_refl _, Y3, Y4, r6.trans q6, fun x hx => ⟨Nat.lt_of_lt_of_le (r7 x hx).1 hg, q6.safe (r7 x hx).1 (r7 x hx).2⟩, r8.app q2⟩
theorem Wk.callS {y : MethodName} {index Wt maxL : Nat} {bytes : ByteArray} {ret : Option FieldType} {rm : Room} {as' : Array Value} {sf' : List Addr} {argsL : List Value} {Qc : Option Value → Heap → Prop} (W : Wk p l e R s m args below meth c Z a0 EL own sf T h k n) (w1 : (Cond.methodLink own index y).before a0 Z = true) (w2 : (Cond.static y).before a0 Z = true) (w3 : (Cond.initialized y.cls).before a0 Z = true) (w4 : (Cond.code y bytes maxL ret).before a0 Z = true) (hy : y.cls ≠ "java/lang/invoke/MethodHandle" ∧ y.cls ≠ "java/lang/invoke/VarHandle")
    (hM : Con l Z EL sf' y bytes maxL ret [] rm as' h Qc) (hsf : ∀ x ∈ sf', x ∈ sf) (hf : rm.frames + 1 ≤ R.frames) (hl : Wt + (maxL + 11) + rm.locals ≤ R.locals) (ek : k + rm.cells = k') (en : n + rm.slots = n') (hk : k' ≤ R.cells) (hn : n' ≤ R.slots) (hsz : Ls.size = c.maxLocals) (hlen : ∀ sig, parseMethodDescriptor y.desc = some sig → argsL.length = sig.parameters.length) (hst : stk = argsL.reverse ++ rest) (has : argsL.toArray = as') (hW : (rest.map fun v => v.category).sum ≤ Wt) (hd : decode c.code pc = .ok (.invokestatic index, 3))
    (go : ∀ v T' h', Wk p l e R s m args below meth c Z a0 EL own sf T' h' k' n' → Qc v h' → Go p e below s Z EL rc rs Q (T'.setTop (mkF m (pc + 3) Ls (v.toList ++ rest)))) : Go p e below s Z EL rc rs Q (T.setTop (mkF m pc Ls stk)) := by
  obtain ⟨u1, u2, u3, u4, vm0, k0, L, X, rfl, r2, r3, r4, r5, r6, r7, r8⟩ := W
  obtain ⟨v, vm₁, B, -, X', hS, hg, ⟨Lc, q⟩, st⟩ := callSS X u1 (y := y) r5 (mvT (s := s.setVm vm0) r4 w1) (mvT (s := s.setVm vm0) r4 w2) (mvT (s := s.setVm vm0) r4 w3) (mvT (s := s.setVm vm0) r4 w4) hy (backK (Wt := Wt) hM r4 w4 w3 hf hl u3 r6.1 fun x hx => r7 x (hsf x hx)) (g := mkF m pc Ls stk) rfl hsz (argsL := argsL) (rest := rest) hlen hst (by show 2 * 0 + _ ≤ _; omega) hd (fun _ _ => ⟨has, rfl, by rw [ek]; exact hk, by rw [en]; exact hn⟩)
  exact Go.of st (go v B.U B.U.heap (Wk.came u1 u2 u3 u4 X' hS hg q r2 r3 r4 r5 r6 r7 r8 ek en) q.1.1)
theorem Wk.callI {y : MethodName} {index Wt maxL : Nat} {bytes : ByteArray} {rm : Room} {as' : Array Value} {sf' : List Addr} {a : Addr} {argsL : List Value} {Qc : Option Value → Heap → Prop} (W : Wk p l e R s m args below meth c Z a0 EL own sf T h k n) (hy1 : y.name = "<init>") (w1 : (Cond.methodLink own index y).before a0 Z = true) (w2 : (Cond.instanceMethod y).before a0 Z = true) (w3 : (Cond.initialized y.cls).before a0 Z = true) (w4 : (Cond.code y bytes maxL none).before a0 Z = true) (hy : y.cls ≠ "java/lang/invoke/MethodHandle" ∧ y.cls ≠ "java/lang/invoke/VarHandle")
    (hM : Con l Z EL sf' y bytes maxL none [] rm as' h Qc) (hsf : ∀ x ∈ sf', x ∈ sf) (hf : rm.frames + 1 ≤ R.frames) (hl : Wt + (maxL + 11) + rm.locals ≤ R.locals) (ek : k + rm.cells = k') (en : n + rm.slots = n') (hk : k' ≤ R.cells) (hn : n' ≤ R.slots) (hsz : Ls.size = c.maxLocals) (hlen : ∀ sig, parseMethodDescriptor y.desc = some sig → argsL.length = sig.parameters.length) (hst : stk = argsL.reverse ++ .ref a :: rest) (has : (.ref a :: argsL).toArray = as') (hW : (rest.map fun v => v.category).sum ≤ Wt) (hd : decode c.code pc = .ok (.invokespecial index, 3))
    (go : ∀ v T' h', Wk p l e R s m args below meth c Z a0 EL own sf T' h' k' n' → Qc v h' → Go p e below s Z EL rc rs Q (T'.setTop (mkF m (pc + 3) Ls (v.toList ++ rest)))) : Go p e below s Z EL rc rs Q (T.setTop (mkF m pc Ls stk)) := by
  obtain ⟨u1, u2, u3, u4, vm0, k0, L, X, rfl, r2, r3, r4, r5, r6, r7, r8⟩ := W
  obtain ⟨v, vm₁, B, -, X', hS, hg, ⟨Lc, q⟩, st⟩ := X.specialBackS u1 (y := y) hy1 r5 (mvT (s := s.setVm vm0) r4 w1) (mvT (s := s.setVm vm0) r4 w2) (mvT (s := s.setVm vm0) r4 w4) hy (backK (Wt := Wt) hM r4 w4 w3 hf hl u3 r6.1 fun x hx => r7 x (hsf x hx)) (g := mkF m pc Ls stk) rfl hsz (Steps.refl _) (a := a) (argsL := argsL) (rest := rest) hlen hst (by show 2 * 0 + _ ≤ _; omega) hd (fun _ _ => ⟨has, rfl, by rw [ek]; exact hk, by rw [en]; exact hn⟩)
  exact Go.of st (go v B.U B.U.heap (Wk.came u1 u2 u3 u4 X' hS hg q r2 r3 r4 r5 r6 r7 r8 ek en) q.1.1)
theorem Wk.callV {y z : MethodName} {index Wt maxL : Nat} {C : String} {bytes : ByteArray} {ret : Option FieldType} {rm : Room} {as' : Array Value} {sf' : List Addr} {a : Addr} {argsL : List Value} {Qc : Option Value → Heap → Prop} (W : Wk p l e R s m args below meth c Z a0 EL own sf T h k n) (w1 : (Cond.methodLink own index y).before a0 Z = true) (w2 : (Cond.declares y).before a0 Z = true) (hnf : ∀ vm : Vm, Z.Warmed39 vm → NotFace (s.setVm vm) y) (w3 : (Cond.selects C y z).before a0 Z = true) (w5 : (Cond.instanceMethod z).before a0 Z = true) (w6 : (Cond.initialized z.cls).before a0 Z = true) (w4 : (Cond.code z bytes maxL ret).before a0 Z = true) (hy : y.cls ≠ "java/lang/invoke/MethodHandle" ∧ y.cls ≠ "java/lang/invoke/VarHandle") (E : Exa Z h a C)
    (hM : Con l Z EL sf' z bytes maxL ret [] rm as' h Qc) (hsf : ∀ x ∈ sf', x ∈ sf) (hf : rm.frames + 1 ≤ R.frames) (hl : Wt + (maxL + 11) + rm.locals ≤ R.locals) (ek : k + rm.cells = k') (en : n + rm.slots = n') (hk : k' ≤ R.cells) (hn : n' ≤ R.slots) (hsz : Ls.size = c.maxLocals) (hlen : ∀ sig, parseMethodDescriptor y.desc = some sig → argsL.length = sig.parameters.length) (hst : stk = argsL.reverse ++ .ref a :: rest) (has : (.ref a :: argsL).toArray = as') (hW : (rest.map fun v => v.category).sum ≤ Wt) (hd : decode c.code pc = .ok (.invokevirtual index, 3))
    (go : ∀ v T' h', Wk p l e R s m args below meth c Z a0 EL own sf T' h' k' n' → Qc v h' → Go p e below s Z EL rc rs Q (T'.setTop (mkF m (pc + 3) Ls (v.toList ++ rest)))) : Go p e below s Z EL rc rs Q (T.setTop (mkF m pc Ls stk)) := by
  obtain ⟨u1, u2, u3, u4, vm0, k0, L, X, rfl, r2, r3, r4, r5, r6, r7, r8⟩ := W
  obtain ⟨cq, kq, qa, qb, qc⟩ := isOf (s := s.setVm vm0) (T := T) r4 rfl E
  obtain ⟨v, vm₁, B, -, X', hS, hg, ⟨Lc, q⟩, st⟩ := X.virtualBackS u1 (y := y) (z := z) r5 (mvT (s := s.setVm vm0) r4 w1) (mvT (s := s.setVm vm0) r4 w2) (hnf vm0 r4) (mvT (s := s.setVm vm0) r4 w3) (mvT (s := s.setVm vm0) r4 w5) hy (backK (Wt := Wt) hM r4 w4 w6 hf hl u3 r6.1 fun x hx => r7 x (hsf x hx)) qa qc (g := mkF m pc Ls stk) rfl hsz (Steps.refl _) (argsL := argsL) (rest := rest) hlen hst (by show 2 * 0 + _ ≤ _; omega) hd (fun _ _ => ⟨has, rfl, by rw [ek]; exact hk, by rw [en]; exact hn⟩)
  exact Go.of st (go v B.U B.U.heap (Wk.came u1 u2 u3 u4 X' hS hg q r2 r3 r4 r5 r6 r7 r8 ek en) q.1.1)
theorem nf_sel {y z : MethodName} {C : String} (hyz : y = z) (w3 : (Cond.selects C y z).before a0 Z = true) : ∀ vm : Vm, Z.Warmed39 vm → NotFace (s.setVm vm) y := fun vm hv => by
  subst hyz; exact notFace_of_selects (args := #[]) (mvT (s := s.setVm vm) hv w3)
theorem acmpW {g : JFrame} {target : State} (W : Wk p l e R s m args below meth c Z a0 EL own sf T h k n) (hg : g.method = m) {cd : ACond} {x y : Value} (h1 : x.isRef = true) (h2 : y.isRef = true) {o : Int} {pc0 pc' : Nat} {same : Bool} (hpc : g.pc = pc0) (hd : decode c.code g.pc = .ok (.if_acmp cd o, 3)) (hs : g.stack = y :: x :: rest) (hq : decide (x = y) = same) (ho : 0 ≤ (pc0 : Int) + o) (hp : pc' = if acV cd same = true then ((pc0 : Int) + o).toNat else pc0 + 3)
    (hr : Steps p.tables e below (T.setTop { g with pc := pc', stack := rest }) target) : Steps p.tables e below (T.setTop g) target := by
  obtain ⟨w1, w2, w3, w4, vm0, k0, L, X, r⟩ := W
  exact Jvm.RoadKit.acmp X w1 hg h1 h2 hpc hd hs hq ho hp hr
theorem Wk.callSp {y : MethodName} {index Wt maxL : Nat} {bytes : ByteArray} {ret : Option FieldType} {rm : Room} {as' : Array Value} {sf' : List Addr} {argsL : List Value} {r : Option Value} (W : Wk p l e R s m args below meth c Z a0 EL own sf T h k n) (w1 : (Cond.methodLink own index y).before a0 Z = true) (w2 : (Cond.static y).before a0 Z = true) (w3 : (Cond.initialized y.cls).before a0 Z = true) (w4 : (Cond.code y bytes maxL ret).before a0 Z = true) (hy : y.cls ≠ "java/lang/invoke/MethodHandle" ∧ y.cls ≠ "java/lang/invoke/VarHandle")
    (hM : Con l Z EL sf' y bytes maxL ret [] rm as' h (fun v h' => v = r ∧ h' = h)) (hsf : ∀ x ∈ sf', x ∈ sf) (hf : rm.frames + 1 ≤ R.frames) (hl : Wt + (maxL + 11) + rm.locals ≤ R.locals) (ek : k + rm.cells = k') (en : n + rm.slots = n') (hk : k' ≤ R.cells) (hn : n' ≤ R.slots) (hsz : Ls.size = c.maxLocals) (hlen : ∀ sig, parseMethodDescriptor y.desc = some sig → argsL.length = sig.parameters.length) (hst : stk = argsL.reverse ++ rest) (has : argsL.toArray = as') (hW : (rest.map fun v => v.category).sum ≤ Wt) (hd : decode c.code pc = .ok (.invokestatic index, 3))
    (go : ∀ T', Wk p l e R s m args below meth c Z a0 EL own sf T' h k' n' → Go p e below s Z EL rc rs Q (T'.setTop (mkF m (pc + 3) Ls (r.toList ++ rest)))) : Go p e below s Z EL rc rs Q (T.setTop (mkF m pc Ls stk)) :=
  W.callS w1 w2 w3 w4 hy hM hsf hf hl ek en hk hn hsz hlen hst has hW hd fun v T' h' W' ⟨q1, q2⟩ => by subst q1 q2; exact go T' W'
theorem Wk.callIp {y : MethodName} {index Wt maxL : Nat} {bytes : ByteArray} {rm : Room} {as' : Array Value} {sf' : List Addr} {a : Addr} {argsL : List Value} {r : Option Value} (W : Wk p l e R s m args below meth c Z a0 EL own sf T h k n) (hy1 : y.name = "<init>") (w1 : (Cond.methodLink own index y).before a0 Z = true) (w2 : (Cond.instanceMethod y).before a0 Z = true) (w3 : (Cond.initialized y.cls).before a0 Z = true) (w4 : (Cond.code y bytes maxL none).before a0 Z = true) (hy : y.cls ≠ "java/lang/invoke/MethodHandle" ∧ y.cls ≠ "java/lang/invoke/VarHandle")
    (hM : Con l Z EL sf' y bytes maxL none [] rm as' h (fun v h' => v = r ∧ h' = h)) (hsf : ∀ x ∈ sf', x ∈ sf) (hf : rm.frames + 1 ≤ R.frames) (hl : Wt + (maxL + 11) + rm.locals ≤ R.locals) (ek : k + rm.cells = k') (en : n + rm.slots = n') (hk : k' ≤ R.cells) (hn : n' ≤ R.slots) (hsz : Ls.size = c.maxLocals) (hlen : ∀ sig, parseMethodDescriptor y.desc = some sig → argsL.length = sig.parameters.length) (hst : stk = argsL.reverse ++ .ref a :: rest) (has : (.ref a :: argsL).toArray = as') (hW : (rest.map fun v => v.category).sum ≤ Wt) (hd : decode c.code pc = .ok (.invokespecial index, 3))
    (go : ∀ T', Wk p l e R s m args below meth c Z a0 EL own sf T' h k' n' → Go p e below s Z EL rc rs Q (T'.setTop (mkF m (pc + 3) Ls (r.toList ++ rest)))) : Go p e below s Z EL rc rs Q (T.setTop (mkF m pc Ls stk)) :=
  W.callI hy1 w1 w2 w3 w4 hy hM hsf hf hl ek en hk hn hsz hlen hst has hW hd fun v T' h' W' ⟨q1, q2⟩ => by subst q1 q2; exact go T' W'
theorem Wk.callVp {y z : MethodName} {index Wt maxL : Nat} {C : String} {bytes : ByteArray} {ret : Option FieldType} {rm : Room} {as' : Array Value} {sf' : List Addr} {a : Addr} {argsL : List Value} {r : Option Value} (W : Wk p l e R s m args below meth c Z a0 EL own sf T h k n) (w1 : (Cond.methodLink own index y).before a0 Z = true) (w2 : (Cond.declares y).before a0 Z = true) (hnf : ∀ vm : Vm, Z.Warmed39 vm → NotFace (s.setVm vm) y) (w3 : (Cond.selects C y z).before a0 Z = true) (w5 : (Cond.instanceMethod z).before a0 Z = true) (w6 : (Cond.initialized z.cls).before a0 Z = true) (w4 : (Cond.code z bytes maxL ret).before a0 Z = true) (hy : y.cls ≠ "java/lang/invoke/MethodHandle" ∧ y.cls ≠ "java/lang/invoke/VarHandle") (E : Exa Z h a C)
    (hM : Con l Z EL sf' z bytes maxL ret [] rm as' h (fun v h' => v = r ∧ h' = h)) (hsf : ∀ x ∈ sf', x ∈ sf) (hf : rm.frames + 1 ≤ R.frames) (hl : Wt + (maxL + 11) + rm.locals ≤ R.locals) (ek : k + rm.cells = k') (en : n + rm.slots = n') (hk : k' ≤ R.cells) (hn : n' ≤ R.slots) (hsz : Ls.size = c.maxLocals) (hlen : ∀ sig, parseMethodDescriptor y.desc = some sig → argsL.length = sig.parameters.length) (hst : stk = argsL.reverse ++ .ref a :: rest) (has : (.ref a :: argsL).toArray = as') (hW : (rest.map fun v => v.category).sum ≤ Wt) (hd : decode c.code pc = .ok (.invokevirtual index, 3))
    (go : ∀ T', Wk p l e R s m args below meth c Z a0 EL own sf T' h k' n' → Go p e below s Z EL rc rs Q (T'.setTop (mkF m (pc + 3) Ls (r.toList ++ rest)))) : Go p e below s Z EL rc rs Q (T.setTop (mkF m pc Ls stk)) :=
  W.callV w1 w2 hnf w3 w5 w6 w4 hy E hM hsf hf hl ek en hk hn hsz hlen hst has hW hd fun v T' h' W' ⟨q1, q2⟩ => by subst q1 q2; exact go T' W'
theorem Wk.callP {y : MethodName} {index Wt maxL : Nat} {C : String} {bytes : ByteArray} {ret : Option FieldType} {rm : Room} {as' : Array Value} {sf' : List Addr} {a : Addr} {argsL : List Value} {Qc : Option Value → Heap → Prop} (W : Wk p l e R s m args below meth c Z a0 EL own sf T h k n) (w1 : (Cond.methodLink own index y).before a0 Z = true) (w2 : (Cond.instanceMethod y).before a0 Z = true) (w3 : (Cond.selects y.cls y y).before a0 Z = true) (w5 : (Cond.privateMethod y).before a0 Z = true) (w6 : (Cond.initialized y.cls).before a0 Z = true) (w4 : (Cond.code y bytes maxL ret).before a0 Z = true) (hy : y.cls ≠ "java/lang/invoke/MethodHandle" ∧ y.cls ≠ "java/lang/invoke/VarHandle") (E : Exa Z h a C)
    (hM : Con l Z EL sf' y bytes maxL ret [] rm as' h Qc) (hsf : ∀ x ∈ sf', x ∈ sf) (hf : rm.frames + 1 ≤ R.frames) (hl : Wt + (maxL + 11) + rm.locals ≤ R.locals) (ek : k + rm.cells = k') (en : n + rm.slots = n') (hk : k' ≤ R.cells) (hn : n' ≤ R.slots) (hsz : Ls.size = c.maxLocals) (hlen : ∀ sig, parseMethodDescriptor y.desc = some sig → argsL.length = sig.parameters.length) (hst : stk = argsL.reverse ++ .ref a :: rest) (has : (.ref a :: argsL).toArray = as') (hW : (rest.map fun v => v.category).sum ≤ Wt) (hd : decode c.code pc = .ok (.invokevirtual index, 3))
    (go : ∀ v T' h', Wk p l e R s m args below meth c Z a0 EL own sf T' h' k' n' → Qc v h' → Go p e below s Z EL rc rs Q (T'.setTop (mkF m (pc + 3) Ls (v.toList ++ rest)))) : Go p e below s Z EL rc rs Q (T.setTop (mkF m pc Ls stk)) := by
  obtain ⟨u1, u2, u3, u4, vm0, k0, L, X, rfl, r2, r3, r4, r5, r6, r7, r8⟩ := W
  obtain ⟨cq, q1, q2⟩ := E.cell
  obtain ⟨v, vm₁, B, -, X', hS, hg, ⟨Lc, q⟩, st⟩ := X.privateBackS u1 (y := y) r5 (mvT (s := s.setVm vm0) r4 w1) (mvT (s := s.setVm vm0) r4 w2) (mvT (s := s.setVm vm0) r4 w3) (Cond.privateMethod_at (mvP (s := s.setVm vm0) r4 w5 (args := #[]))) (mvT (s := s.setVm vm0) r4 w4) hy (backK (Wt := Wt) hM r4 w4 w6 hf hl u3 r6.1 fun x hx => r7 x (hsf x hx)) (g := mkF m pc Ls stk) rfl hsz (Steps.refl _) (a := a) q1 q2 (argsL := argsL) (rest := rest) hlen hst (by show 2 * 0 + _ ≤ _; omega) hd (fun _ _ => ⟨has, rfl, by rw [ek]; exact hk, by rw [en]; exact hn⟩)
  exact Go.of st (go v B.U B.U.heap (Wk.came u1 u2 u3 u4 X' hS hg q r2 r3 r4 r5 r6 r7 r8 ek en) q.1.1)
theorem Wk.ldcJ {index : Nat} {v : Int64} (W : Wk p l e R s m args below meth c Z a0 EL own sf T h k n) (w : (Cond.constantLong own index v).before a0 Z = true) (hd : decode c.code pc = .ok (.ldc2_w index, 3)) (go : Go p e below s Z EL rc rs Q (T.setTop (mkF m (pc + 3) Ls (.long v :: stk)))) : Go p e below s Z EL rc rs Q (T.setTop (mkF m pc Ls stk)) := by
  obtain ⟨w1, w2, w3, w4, vm0, k0, L, X, r1, r2, r3, r4, r5, r⟩ := W
  exact Go.by (X.ldc2Long w1 r5 (mvT (s := s.setVm vm0) r4 w) (g := mkF m pc Ls stk) rfl hd) go
/-- the terms elem t i, elem t (i + 1), .. hold vs -/
def HasE (args : Array Value) (Z : State) (t : Term) : Nat → List Value → Prop
  | _, [] => True
  | i, v :: vs => (Term.elem t (.int (Int32.ofNat i))).eval args Z none [] Z = some v ∧ HasE args Z t (i + 1) vs
theorem clampN {i : Nat} (h : i < 2 ^ 31) : (Int32.ofNat i).toNatClampNeg = i := by
  have := Int32.toInt_ofNat_small h
  rw [Int32.toNatClampNeg, this]; simp
theorem HasE.has {t : Term} {a : Addr} {cl : Cell} (ev : t.eval args Z none [] Z = some (.ref a)) (hc : Z.heap[a]? = some cl) : ∀ (vs : List Value) (i : Nat), i + vs.length < 2 ^ 31 → HasE args Z t i vs → HasL cl i vs
  | [], i, _, _ => trivial
  | v :: vs, i, hi, H => by
    have hl : (v :: vs).length = vs.length + 1 := rfl
    refine ⟨?_, HasE.has ev hc vs (i + 1) (by omega) H.2⟩
    have q := (elem_in H.1 ev (Term.int_eval _) hc).2
    rwa [clampN (by omega)] at q
theorem arv_of {t : Term} {a : Addr} {ty : FieldType} {z : Int32} {vs : List Value} {dv : Value} (hf : Fit Z) (ev : t.eval args Z none [] Z = some (.ref a)) (hA : (Cond.arrayOf t ty).value args Z none Z [] = some true) (hl : (Term.length t).eval args Z none [] Z = some (.int z)) (hz : ¬ z < 0) (hn : z.toNatClampNeg = vs.length) (hb : vs.length < 2 ^ 31) (H : HasE args Z t 0 vs) : ∃ k, Arv Z Z.heap a k ty z vs dv := by
  obtain ⟨cl, A⟩ := Arr.start ev hA
  have h1 := A.fin (Vm.Alike.refl _)
  have h31 := Jvm.Free.SBG.length_lt ev h1 hl
  have e1 := len_f ev h1 h31
  have e2 : cl.slots.size.toInt32 = z := by simpa using Option.some.inj (e1.symm.trans hl)
  exact ⟨cl.cls, Arv.start hf A h31 e2 hz hn (HasE.has ev A.1 vs 0 (by omega) H)⟩
end Kit
section KitStr
variable {p : Program} {l : Launch} {e : Env} {R : Room} {s : State} {m : MethodId} {args : Array Value} {below : List Frame} {meth : Method} {c : Code} {Z : State} {a0 : Array Value} {EL : List (String × Nat)} {own : String} {sf : List Addr} {T : State} {h h' h0 : Heap} {k n k' n' rc rs pc : Nat} {Ls : Array Slot} {stk rest : List Value} {Q : Option Value → Heap → Prop} {a x : Addr} {cs ds : List Int32}
/-- the object at a is a String that spells cs -/
def Str (Z : State) (h : Heap) (a : Addr) (cs : List Int32) : Prop := ∃ (t : Addr) (kb : ClassId) (cd N2 : Int32) (vs : List Value), Exa Z h a "java/lang/String" ∧ Fld Z h a "java/lang/String" "value" "[B" (.ref t) ∧ Fld Z h a "java/lang/String" "coder" "B" (.int cd) ∧ Arv Z h t kb .byte N2 vs (.int 0) ∧ StrChars.Road.CodA cs cd N2 vs ∧ (∀ c ∈ cs, ¬ c < 0 ∧ ¬ (65535 : Int32) < c)
theorem Str.ext (S : Str Z h a cs) (E : Ext h h') : Str Z h' a cs := by
  obtain ⟨t, kb, cd, N2, vs, s1, s2, s3, s4, s5, s6⟩ := S; exact ⟨t, kb, cd, N2, vs, s1.ext E, s2.ext E, s3.ext E, s4.ext E, s5, s6⟩
theorem Str.exa (S : Str Z h a cs) : Exa Z h a "java/lang/String" := by obtain ⟨t, kb, cd, N2, vs, s1, -⟩ := S; exact s1
theorem Str.lt (S : Str Z h a cs) : a < h.size := S.exa.lt
theorem Str.keep {C : String} {N : Nat} (S : Str Z h a cs) (K : Keep h h' [x]) (E : Exa Z h x C) (wi : (Cond.instantiable C N).before a0 Z = true) (ne : a ≠ x) : Str Z h' a cs := by
  obtain ⟨t, kb, cd, N2, vs, s1, s2, s3, s4, s5, s6⟩ := S
  exact ⟨t, kb, cd, N2, vs, s1.keep K, s2.keep K (ninS ne nin0), s3.keep K (ninS ne nin0), s4.keep K (ninS (Ne.symm (E.neArv s4 wi)) nin0), s5, s6⟩
theorem Str.wr {C : String} {N sl : Nat} {v : Value} (S : Str Z h a cs) (W : Wr h h' x sl v) (E : Exa Z h x C) (wi : (Cond.instantiable C N).before a0 Z = true) (ne : a ≠ x) : Str Z h' a cs := S.keep (Keep.of_wr W) E wi ne
theorem Ext.trans' {h h1 h2 : Heap} (A : Ext h h1) (B : Ext h1 h2) : Ext h h2 := ⟨Nat.le_trans A.1 B.1, fun a c q => B.2 a c (A.2 a c q)⟩
theorem Ext.refl' (h : Heap) : Ext h h := ⟨Nat.le_refl _, fun _ _ q => q⟩
theorem Ext.keep' {h h1 h2 : Heap} {ws : List Addr} (A : Ext h h1) (K : Keep h1 h2 ws) (q : ∀ x ∈ ws, h.size ≤ x) : Ext h h2 := ⟨Nat.le_trans A.1 K.1, fun a c r => K.2.1 a c (A.2 a c r) fun z => absurd (Array.getElem?_eq_some_iff.mp r).1 (Nat.not_lt.mpr (q a z))⟩
theorem Ext.wr' {h h1 h2 : Heap} {x : Addr} {sl : Nat} {v : Value} (A : Ext h h1) (W : Wr h1 h2 x sl v) (q : h.size ≤ x) : Ext h h2 := Ext.keep' A (Keep.of_wr W) (allS q all0)
theorem Wk.kept {ws : List Addr} {T' : State} {L : List Loc} {vm0 : Vm} {k0 : Nat} (hxm : p.tables.exec = Jvm.exec) (hl : meth.locks = false) (hEW : EW Z a0 EL) (hE : Ext Z.heap s.heap) (X' : Stand p l e R (s.setVm vm0) m args below meth c T' L k' n') (e' : T'.heap = h') (K : Keep h h' ws) (hws : ∀ x ∈ ws, x ∈ sf) (r2 : s.Since vm0 k0) (r3 : k0 ≤ h.size) (r4 : Z.Warmed39 vm0) (r5 : vm0.findClass own = some m.cls) (r6 : CHr Z EL s.vm s.heap vm0 h) (r7 : ∀ x ∈ sf, x < h.size ∧ Safe Z EL vm0 h x) (r8 : Fr Z.heap.size L) :
    Wk p l e R s m args below meth c Z a0 EL own sf T' h' k' n' :=
  ⟨hxm, hl, hEW, hE, vm0, k0, L, X', e', r2, Nat.le_trans r3 K.1, r4, r5, r6.trans (CHr.keep K (fun x hx => (r7 x (hws x hx)).2) r6.1), fun y hy => ⟨Nat.lt_of_lt_of_le (r7 y hy).1 K.1, Safe.keep K (fun x hx => (r7 x (hws x hx)).2) r6.1 (r7 y hy).2⟩, r8⟩
theorem pdCs : parseMethodDescriptor "([C)V" = some ⟨[(.array .char)], none⟩ := by decide +kernel
/-- new String(chars): 1 to 4000 chars, each below 256 -/
theorem Wk.strV {index Wt q : Nat} {b : Addr} {kC : ClassId} {dv v0 c0 : Value} {z N : Int32} (W : Wk p l e R s m args below meth c Z a0 EL own sf T h k n) (hws : ∀ d ∈ StrChars.Road.words, d.before a0 Z = true) (wi : (Cond.instantiable "java/lang/String" 4).before a0 Z = true) (w1 : (Cond.methodLink own index ⟨"java/lang/String", "<init>", "([C)V"⟩).before a0 Z = true) (w2 : (Cond.instanceMethod ⟨"java/lang/String", "<init>", "([C)V"⟩).before a0 Z = true)
    (E : Exa Z h x "java/lang/String") (V : Fld Z h x "java/lang/String" "value" "[B" v0) (C : Fld Z h x "java/lang/String" "coder" "B" c0) (K : Arv Z h b kC .char N (cs.map Value.int) dv) (S : Sta Z h "java/lang/String" "COMPACT_STRINGS" "Z" (.int z)) (hz : ¬ z = 0) (hq : cs.length = q) (hN : N = Int32.ofNat q) (l0 : 0 < q) (l2 : q ≤ 4000) (hp : ∀ c ∈ cs, ¬ c < 0 ∧ ¬ (255 : Int32) < c) (hx : Z.heap.size ≤ x) (hs : x ∈ sf)
    (hf : 4 ≤ R.frames) (hl : Wt + 65 ≤ R.locals) (ek : k + 1 = k') (en : n + q = n') (hk : k' ≤ R.cells) (hn : n' ≤ R.slots) (hsz : Ls.size = c.maxLocals) (hW : (rest.map fun v => v.category).sum ≤ Wt) (hd : decode c.code pc = .ok (.invokespecial index, 3))
    (go : ∀ T' h', Wk p l e R s m args below meth c Z a0 EL own sf T' h' k' n' → Keep h h' [x] → Str Z h' x cs → Go p e below s Z EL rc rs Q (T'.setTop (mkF m (pc + 3) Ls rest))) : Go p e below s Z EL rc rs Q (T.setTop (mkF m pc Ls (.ref b :: .ref x :: rest))) := by
  have hO := W.old
  obtain ⟨u1, u2, u3, u4, vm0, k0, L, X, rfl, r2, r3, r4, r5, r6, r7, r8⟩ := W
  obtain ⟨v, vm₁, ⟨T', L', k1, n1⟩, -, X', ⟨Lc, hQ, l', y', z'⟩, st⟩ := X.specialBack u1 (y := (⟨"java/lang/String", "<init>", "([C)V"⟩ : MethodName)) rfl r5 (mvT (s := s.setVm vm0) r4 w1) (mvT (s := s.setVm vm0) r4 w2) (mvT (s := s.setVm vm0) r4 (hws _ (List.mem_cons_self ..))) (by decide)
    (StrChars.Road.backV (W := Wt) (s := s.setVm vm0) r4 hws wi (bs := cs.map (fun c => c.toInt8.toInt32)) hx hO.1 E V C K S hz hq hN l0 l2 hp rfl hf hl) (g := mkF m pc Ls (.ref b :: .ref x :: rest)) rfl hsz (Steps.refl _) (a := x) (argsL := [.ref b]) (rest := rest) (lenOf pdCs rfl) rfl (by show 2 * 0 + _ ≤ _; omega) hd (fun _ _ => ⟨rfl, rfl, by rw [ek]; exact hk, by rw [en]; exact hn⟩)
  dsimp only [Pt.U, Pt.locs, Pt.cells, Pt.slots] at X' l' y' z' st hQ
  subst l' y' z'
  obtain ⟨rfl, N', K', g1, g2, t, kb, -, -, -, g3, g4⟩ := hQ
  rw [ek, en] at X'
  subst hq hN
  exact Go.of st (go T' T'.heap (Wk.kept u1 u2 u3 u4 X' rfl K' (allS hs all0) r2 r3 r4 r5 r6 r7 (r8.app N')) K' ⟨t, kb, 0, _, _, g1, g3, g2, g4, StrChars.Road.codOf rfl (fun c hc => (hp c hc).2), fun c hc => ⟨(hp c hc).1, fun q => (hp c hc).2 (by rw [Int32.lt_iff_toInt_lt] at q ⊢; have e1 : (65535 : Int32).toInt = 65535 := rfl; have e2 : (255 : Int32).toInt = 255 := rfl; omega)⟩⟩)
/-! literals -/
/-- ldc of a String literal, whose text isn't asked -/
theorem Wk.ldcO {index q : Nat} {text : String} (W : Wk p l e R s m args below meth c Z a0 EL own sf T h k n) (w : (Cond.stringLink own index text).before a0 Z = true) (wS : ∀ a ∈ Bundle.stringAtoms, a.before a0 Z = true) (hd : decode c.code pc = .ok (.ldc index, 2)) (hq : 4 * text.toList.length ≤ q) (hbig : q ≤ 536870912) (ek : k + 2 = k') (en : n + (q + 4) = n') (hk : k' ≤ R.cells) (hn : n' ≤ R.slots)
    (go : ∀ T' h' a, Wk p l e R s m args below meth c Z a0 EL own sf T' h' k' n' → Ext h h' → Go p e below s Z EL rc rs Q (T'.setTop (mkF m (pc + 2) Ls (.ref a :: stk)))) : Go p e below s Z EL rc rs Q (T.setTop (mkF m pc Ls stk)) := by
  obtain ⟨u1, u2, u3, u4, vm0, k0, L, X, r1, r2, r3, r4, r5, r6, r7, r8⟩ := W
  subst ek en
  obtain ⟨a, T', h', k1, X', e', E, hS, hk1, hW, hf, hC, -, st⟩ := ldcOH X u1 r4 r5 w wS r1 r2 r3 u3 r6.1 (g := mkF m pc Ls stk) rfl hd hq hbig hk hn
  exact Go.by st (go T' h' a ⟨u1, u2, u3, u4, T'.vm, k1, L, X', e', hS, hk1, hW, hf, r6.trans hC, fun x hx => ⟨Nat.lt_of_lt_of_le (r7 x hx).1 E.1, hC.safe (r7 x hx).1 (r7 x hx).2⟩, r8⟩ E)
/-- ldc of a String literal, read -/
theorem Wk.ldcC {index q : Nat} {text : String} (W : Wk p l e R s m args below meth c Z a0 EL own sf T h k n) (w : (Cond.stringLink own index text).before a0 Z = true) (wS : ∀ a ∈ Bundle.stringAtoms, a.before a0 Z = true) (hmem : (own, index) ∈ EL) (ht : (∀ c ∈ text.toList, c.toNat < 256) ∧ text.toList.map (fun c => Value.int (Jvm.Lit.byteI c.toNat.toUInt16)) = cs.map (fun c => Value.int (StrChars.lo8 c))) (hz : ¬ (Int32.ofNat cs.length) < 0) (hl : (Int32.ofNat cs.length).toNatClampNeg = cs.length) (hb : ∀ c ∈ cs, ¬ c < 0 ∧ ¬ (255 : Int32) < c ∧ ¬ (65535 : Int32) < c)
    (hd : decode c.code pc = .ok (.ldc index, 2)) (hq : 4 * text.toList.length ≤ q) (hbig : q ≤ 536870912) (ek : k + 2 = k') (en : n + (q + 4) = n') (hk : k' ≤ R.cells) (hn : n' ≤ R.slots)
    (go : ∀ T' h' a, Wk p l e R s m args below meth c Z a0 EL own sf T' h' k' n' → Ext h h' → Str Z h' a cs → (∀ x ∈ sf, x ≠ a) → Go p e below s Z EL rc rs Q (T'.setTop (mkF m (pc + 2) Ls (.ref a :: stk)))) : Go p e below s Z EL rc rs Q (T.setTop (mkF m pc Ls stk)) := by
  obtain ⟨u1, u2, u3, u4, vm0, k0, L, X, r1, r2, r3, r4, r5, r6, r7, r8⟩ := W
  subst ek en
  obtain ⟨a, T', h', k1, b, kb, X', e', E, hS, hk1, hW, hf, g1, g2, g3, g4, -, -, hC, -, hne, st⟩ := ldcCH X u1 r4 r5 w wS r1 r2 r3 u3 hmem r6.1 ht hz (by rw [hl, List.length_map]) (g := mkF m pc Ls stk) rfl hd hq hbig hk hn
  exact Go.by st (go T' h' a ⟨u1, u2, u3, u4, T'.vm, k1, L, X', e', hS, hk1, hW, hf, r6.trans hC, fun x hx => ⟨Nat.lt_of_lt_of_le (r7 x hx).1 E.1, hC.safe (r7 x hx).1 (r7 x hx).2⟩, r8⟩ E ⟨b, kb, 0, _, _, g1, g3, g2, g4, Or.inl ⟨rfl, rfl, rfl, fun c hc => (hb c hc).2.1⟩, fun c hc => ⟨(hb c hc).1, (hb c hc).2.2⟩⟩ fun x hx => (hne x (hC.safe (r7 x hx).1 (r7 x hx).2)).1)
/-! casts -/
theorem Wk.castY {index : Nat} {K : String} (W : Wk p l e R s m args below meth c Z a0 EL own sf T h k n) (w : (Cond.classLink own index K).before a0 Z = true) (F : Ins Z h a K true) (hd : decode c.code pc = .ok (.checkcast index, 3))
    (go : ∀ T', Wk p l e R s m args below meth c Z a0 EL own sf T' h k n → Go p e below s Z EL rc rs Q (T'.setTop (mkF m (pc + 3) Ls (.ref a :: rest)))) : Go p e below s Z EL rc rs Q (T.setTop (mkF m pc Ls (.ref a :: rest))) := by
  obtain ⟨w1, w2, w3, w4, vm0, k0, L, X, r1, r2, r3, r4, r5, r⟩ := W
  obtain ⟨T', X', e', st⟩ := Jvm.RoadKit.castY X w1 r4 r5 w r1 F (g := mkF m pc Ls (.ref a :: rest)) rfl rfl hd
  exact Go.by st (go T' ⟨w1, w2, w3, w4, vm0, k0, L, X', e', r2, r3, r4, r5, r⟩)
theorem Wk.instNo {index : Nat} {K C : String} (W : Wk p l e R s m args below meth c Z a0 EL own sf T h k n) (w : (Cond.classLink own index K).before a0 Z = true) (E : Exa Z h a C) (F : ∃ c t, Z.vm.findClass C = some c ∧ Z.vm.findClass K = some t ∧ Z.vm.assignable c t = false) (hd : decode c.code pc = .ok (.instanceof index, 3))
    (go : ∀ T', Wk p l e R s m args below meth c Z a0 EL own sf T' h k n → Go p e below s Z EL rc rs Q (T'.setTop (mkF m (pc + 3) Ls (.int 0 :: rest)))) : Go p e below s Z EL rc rs Q (T.setTop (mkF m pc Ls (.ref a :: rest))) := by
  obtain ⟨w1, w2, w3, w4, vm0, k0, L, X, r1, r2, r3, r4, r5, r⟩ := W
  obtain ⟨T', X', e', st⟩ := Jvm.RoadKit.instNo X w1 r4 r5 w r1 E F (g := mkF m pc Ls (.ref a :: rest)) rfl rfl hd
  exact Go.by st (go T' ⟨w1, w2, w3, w4, vm0, k0, L, X', e', r2, r3, r4, r5, r⟩)
/-! arrays -/
theorem Wk.alen {kA : ClassId} {ty : FieldType} {z : Int32} {vs : List Value} {dv : Value} (W : Wk p l e R s m args below meth c Z a0 EL own sf T h k n) (A : Arv Z h a kA ty z vs dv) (hd : decode c.code pc = .ok (.arraylength, 1)) (go : Go p e below s Z EL rc rs Q (T.setTop (mkF m (pc + 1) Ls (.int z :: rest)))) : Go p e below s Z EL rc rs Q (T.setTop (mkF m pc Ls (.ref a :: rest))) := by
  obtain ⟨w1, w2, w3, w4, vm0, k0, L, X, rfl, r2, r3, r4, r⟩ := W
  obtain ⟨cl, A1, -, S, N, -, -⟩ := A
  refine Go.by (X.arraylength w1 A1.1 (State.isArrayOf_alike (T := s.setVm vm0) r4.alike A1.2.1) (g := mkF m pc Ls (.ref a :: rest)) rfl rfl hd) ?_
  rw [len_of S N]; exact go
theorem inA {kA : ClassId} {ty : FieldType} {z j : Int32} {vs : List Value} {dv v : Value} (A : Arv Z h a kA ty z vs dv) (hj : ¬ j < 0 ∧ j < z) (hv : vs.getD j.toNatClampNeg dv = v) : ∃ cl : Cell, RoadKit.Arr Z h a cl ty ∧ ¬ (j < 0 ∨ cl.slots.size ≤ j.toNatClampNeg) ∧ cl.slots[j.toNatClampNeg]? = some v ∧ fits ty v = true := by
  obtain ⟨cl, A1, -, S, N, H, G⟩ := A
  have hi := inb_of S hj
  exact ⟨cl, A1, hi, H.at hi hv, hv ▸ G _ (Nat.lt_of_not_le fun y => hi (Or.inr y))⟩
theorem Wk.aald {kA : ClassId} {ty : FieldType} {z j : Int32} {vs : List Value} {dv v : Value} (W : Wk p l e R s m args below meth c Z a0 EL own sf T h k n) (A : Arv Z h a kA ty z vs dv) (hty : ty.isReference = true) (hj : ¬ j < 0 ∧ j < z) (hv : vs.getD j.toNatClampNeg dv = v) (hd : decode c.code pc = .ok (.aaload, 1)) (go : Go p e below s Z EL rc rs Q (T.setTop (mkF m (pc + 1) Ls (v :: rest)))) : Go p e below s Z EL rc rs Q (T.setTop (mkF m pc Ls (.int j :: .ref a :: rest))) := by
  obtain ⟨w1, w2, w3, w4, vm0, k0, L, X, rfl, r2, r3, r4, r⟩ := W
  obtain ⟨cl, A1, hi, hat, -⟩ := inA A hj hv
  exact Go.by (X.aaload w1 (j := j) (v := v) A1.1 (State.isArrayOf_alike (T := s.setVm vm0) r4.alike A1.2.1) hty A1.2.2 hi hat (g := mkF m pc Ls (.int j :: .ref a :: rest)) rfl rfl hd) go
theorem Wk.cast_ {kA : ClassId} {z j v v' : Int32} {vs : List Value} {dv : Value} {i : Nat} (W : Wk p l e R s m args below meth c Z a0 EL own sf T h k n) (A : Arv Z h a kA .char z vs dv) (hj : ¬ j < 0 ∧ j < z) (hi : j.toNatClampNeg = i) (hlt : i < vs.length) (hv : nar .char v = v') (ha : Z.heap.size ≤ a) (hs : a ∈ sf) (hd : decode c.code pc = .ok (.castore, 1))
    (go : ∀ T' h', Wk p l e R s m args below meth c Z a0 EL own sf T' h' k n → Wr h h' a j.toNatClampNeg (.int v') → Arv Z h' a kA .char z (vs.set i (.int v')) dv → Go p e below s Z EL rc rs Q (T'.setTop (mkF m (pc + 1) Ls rest))) : Go p e below s Z EL rc rs Q (T.setTop (mkF m pc Ls (.int v :: .int j :: .ref a :: rest))) := by
  subst hv
  obtain ⟨w1, w2, w3, w4, vm0, k0, L, X, r1, r2, r3, r4, r5, r6, r7, r8⟩ := W
  obtain ⟨cl, A1, A2, S, N, H, G⟩ := A
  obtain ⟨T', h', X', e', W', st⟩ := stC X w1 r4 r1 A1 (j := j) (inb_of S hj) (g := mkF m pc Ls (.int v :: .int j :: .ref a :: rest)) rfl rfl hd
  exact Go.by st (go T' h' (Wk.wrote w1 w2 w3 w4 X' e' W' r2 r3 r4 r5 r6 r7 r8 ha hs) W' (Arv.set A1 A2 S N H G (fits_nar_char _) W' i hi hlt))
theorem Wk.aast {kA : ClassId} {ty : FieldType} {z j : Int32} {v : Value} {vs : List Value} {dv : Value} {i : Nat} (W : Wk p l e R s m args below meth c Z a0 EL own sf T h k n) (A : Arv Z h a kA ty z vs dv) (hty : ty.isReference = true) (hj : ¬ j < 0 ∧ j < z) (hi : j.toNatClampNeg = i) (hlt : i < vs.length) (F : Sto Z h a v) (hv : fits ty v = true) (ha : Z.heap.size ≤ a) (hs : a ∈ sf) (hd : decode c.code pc = .ok (.aastore, 1))
    (go : ∀ T' h', Wk p l e R s m args below meth c Z a0 EL own sf T' h' k n → Wr h h' a j.toNatClampNeg v → Arv Z h' a kA ty z (vs.set i v) dv → Go p e below s Z EL rc rs Q (T'.setTop (mkF m (pc + 1) Ls rest))) : Go p e below s Z EL rc rs Q (T.setTop (mkF m pc Ls (v :: .int j :: .ref a :: rest))) := by
  obtain ⟨w1, w2, w3, w4, vm0, k0, L, X, r1, r2, r3, r4, r5, r6, r7, r8⟩ := W
  obtain ⟨cl, A1, A2, S, N, H, G⟩ := A
  obtain ⟨T', h', X', e', W', st⟩ := stR X w1 r4 r1 A1 (j := j) (inb_of S hj) hty F (g := mkF m pc Ls (v :: .int j :: .ref a :: rest)) rfl rfl hd
  exact Go.by st (go T' h' (Wk.wrote w1 w2 w3 w4 X' e' W' r2 r3 r4 r5 r6 r7 r8 ha hs) W' (Arv.set A1 A2 S N H G hv W' i hi hlt))
end KitStr
section KitFace
variable {p : Program} {l : Launch} {e : Env} {R : Room} {s : State} {m : MethodId} {args : Array Value} {below : List Frame} {meth : Method} {c : Code} {Z : State} {a0 : Array Value} {EL : List (String × Nat)} {own : String} {sf : List Addr} {T : State} {h h' h0 : Heap} {k n k' n' rc rs pc : Nat} {Ls : Array Slot} {stk rest : List Value} {Q : Option Value → Heap → Prop} {a x : Addr}
/-- what a call's contract pays, in the walk's shape -/
abbrev PayK (l : Launch) (R : Room) (p : Program) (e : Env) (below : List Frame) (s : State) (args : Array Value) (y : MethodName) (len Wt : Nat) (Z : State) (EL : List (String × Nat)) (vm0 : Vm) (rm : Room) (as' : Array Value) (h : Heap) (Qc : Option Value → Heap → Prop) : Prop :=
  BackS l R p e below (s.setVm vm0) args y len Wt (fun A a => a = as' ∧ A.U.heap = h ∧ A.cells + rm.cells ≤ R.cells ∧ A.slots + rm.slots ≤ R.slots)
      (fun A _ v B => ∃ L, (Qc v B.U.heap ∧ Fr Z.heap.size L) ∧ B.locs = A.locs ++ L ∧ B.cells = A.cells + rm.cells ∧ B.slots = A.slots + rm.slots ∧ CHr Z EL vm0 h B.U.vm B.U.heap)
/-- invokeinterface, the callee by what it pays -/
theorem Wk.callFB {xi y : MethodName} {index count Wt : Nat} {C : String} {rm : Room} {as' : Array Value} {sf' : List Addr} {argsL : List Value} {Qc : Option Value → Heap → Prop} (W : Wk p l e R s m args below meth c Z a0 EL own sf T h k n) (w1 : (Cond.methodLink own index xi).before a0 Z = true) (w2 : (Cond.declares xi).before a0 Z = true) (w3 : (Cond.interfaceMethod xi.cls xi.cls xi.name xi.desc).before a0 Z = true) (w5 : (Cond.selects C xi y).before a0 Z = true) (w6 : (Cond.instanceMethod y).before a0 Z = true) (w7 : (Cond.publicMethod y).before a0 Z = true) (w8 : (Cond.unhidden C xi.name xi.desc).before a0 Z = true) (w9 : (Cond.castable C xi.cls).before a0 Z = true) (hy : xi.cls ≠ "java/lang/invoke/MethodHandle" ∧ xi.cls ≠ "java/lang/invoke/VarHandle") (E : Exa Z h a C)
    (hK : ∀ vm0 : Vm, Z.Warmed39 vm0 → CHv Z EL vm0 h → (∀ x ∈ sf', x < h.size ∧ Safe Z EL vm0 h x) → PayK l R p e below s args y 5 Wt Z EL vm0 rm as' h Qc) (hsf : ∀ x ∈ sf', x ∈ sf) (ek : k + rm.cells = k') (en : n + rm.slots = n') (hk : k' ≤ R.cells) (hn : n' ≤ R.slots) (hsz : Ls.size = c.maxLocals) (hlen : ∀ sig, parseMethodDescriptor xi.desc = some sig → argsL.length = sig.parameters.length) (hst : stk = argsL.reverse ++ .ref a :: rest) (has : (.ref a :: argsL).toArray = as') (hW : (rest.map fun v => v.category).sum ≤ Wt) (hd : decode c.code pc = .ok (.invokeinterface index count, 5))
    (go : ∀ v T' h', Wk p l e R s m args below meth c Z a0 EL own sf T' h' k' n' → Qc v h' → Go p e below s Z EL rc rs Q (T'.setTop (mkF m (pc + 5) Ls (v.toList ++ rest)))) : Go p e below s Z EL rc rs Q (T.setTop (mkF m pc Ls stk)) := by
  obtain ⟨u1, u2, u3, u4, vm0, k0, L, X, rfl, r2, r3, r4, r5, r6, r7, r8⟩ := W
  obtain ⟨cq, kq, qa, qb, qc⟩ := isOf (s := s.setVm vm0) (T := T) r4 rfl E
  obtain ⟨v, vm₁, B, -, X', hS, hg, ⟨Lc, q⟩, st⟩ := X.interfaceBackS u1 (xi := xi) (y := y) r5 (mvT (s := s.setVm vm0) r4 w1) (mvT (s := s.setVm vm0) r4 w2) (mvT (s := s.setVm vm0) r4 w3 (by simp [Cond.onTables, Cond.keepsFace, Cond.faceAtom, hy.1, hy.2])) (mvT (s := s.setVm vm0) r4 w5) (mvT (s := s.setVm vm0) r4 w6) (mvT (s := s.setVm vm0) r4 w7) (mvT (s := s.setVm vm0) r4 w8) (mvT (s := s.setVm vm0) r4 w9) hy (hK vm0 r4 r6.1 fun x hx => r7 x (hsf x hx)) qa qb qc (g := mkF m pc Ls stk) rfl hsz (Steps.refl _) (argsL := argsL) (rest := rest) hlen hst (by show 2 * 0 + _ ≤ _; omega) hd (fun _ _ => ⟨has, rfl, by rw [ek]; exact hk, by rw [en]; exact hn⟩)
  exact Go.of st (go v B.U B.U.heap (Wk.came u1 u2 u3 u4 X' hS hg q r2 r3 r4 r5 r6 r7 r8 ek en) q.1.1)
theorem Wk.callF {xi y : MethodName} {index count Wt maxL : Nat} {C : String} {bytes : ByteArray} {ret : Option FieldType} {rm : Room} {as' : Array Value} {sf' : List Addr} {argsL : List Value} {Qc : Option Value → Heap → Prop} (W : Wk p l e R s m args below meth c Z a0 EL own sf T h k n) (w1 : (Cond.methodLink own index xi).before a0 Z = true) (w2 : (Cond.declares xi).before a0 Z = true) (w3 : (Cond.interfaceMethod xi.cls xi.cls xi.name xi.desc).before a0 Z = true) (w5 : (Cond.selects C xi y).before a0 Z = true) (w6 : (Cond.instanceMethod y).before a0 Z = true) (w7 : (Cond.publicMethod y).before a0 Z = true) (w8 : (Cond.unhidden C xi.name xi.desc).before a0 Z = true) (w9 : (Cond.castable C xi.cls).before a0 Z = true) (w10 : (Cond.initialized y.cls).before a0 Z = true) (w4 : (Cond.code y bytes maxL ret).before a0 Z = true) (hy : xi.cls ≠ "java/lang/invoke/MethodHandle" ∧ xi.cls ≠ "java/lang/invoke/VarHandle") (E : Exa Z h a C)
    (hM : Con l Z EL sf' y bytes maxL ret [] rm as' h Qc) (hsf : ∀ x ∈ sf', x ∈ sf) (hf : rm.frames + 1 ≤ R.frames) (hl : Wt + (maxL + 11) + rm.locals ≤ R.locals) (ek : k + rm.cells = k') (en : n + rm.slots = n') (hk : k' ≤ R.cells) (hn : n' ≤ R.slots) (hsz : Ls.size = c.maxLocals) (hlen : ∀ sig, parseMethodDescriptor xi.desc = some sig → argsL.length = sig.parameters.length) (hst : stk = argsL.reverse ++ .ref a :: rest) (has : (.ref a :: argsL).toArray = as') (hW : (rest.map fun v => v.category).sum ≤ Wt) (hd : decode c.code pc = .ok (.invokeinterface index count, 5))
    (go : ∀ v T' h', Wk p l e R s m args below meth c Z a0 EL own sf T' h' k' n' → Qc v h' → Go p e below s Z EL rc rs Q (T'.setTop (mkF m (pc + 5) Ls (v.toList ++ rest)))) : Go p e below s Z EL rc rs Q (T.setTop (mkF m pc Ls stk)) :=
  W.callFB w1 w2 w3 w5 w6 w7 w8 w9 hy E (fun vm0 q1 q2 q3 => backK (Wt := Wt) hM q1 w4 w10 hf hl W.2.2.1 q2 q3) hsf ek en hk hn hsz hlen hst has hW hd go
theorem Wk.callFp {xi y : MethodName} {index count Wt maxL : Nat} {C : String} {bytes : ByteArray} {ret : Option FieldType} {rm : Room} {as' : Array Value} {sf' : List Addr} {argsL : List Value} {r : Option Value} (W : Wk p l e R s m args below meth c Z a0 EL own sf T h k n) (w1 : (Cond.methodLink own index xi).before a0 Z = true) (w2 : (Cond.declares xi).before a0 Z = true) (w3 : (Cond.interfaceMethod xi.cls xi.cls xi.name xi.desc).before a0 Z = true) (w5 : (Cond.selects C xi y).before a0 Z = true) (w6 : (Cond.instanceMethod y).before a0 Z = true) (w7 : (Cond.publicMethod y).before a0 Z = true) (w8 : (Cond.unhidden C xi.name xi.desc).before a0 Z = true) (w9 : (Cond.castable C xi.cls).before a0 Z = true) (w10 : (Cond.initialized y.cls).before a0 Z = true) (w4 : (Cond.code y bytes maxL ret).before a0 Z = true) (hy : xi.cls ≠ "java/lang/invoke/MethodHandle" ∧ xi.cls ≠ "java/lang/invoke/VarHandle") (E : Exa Z h a C)
    (hM : Con l Z EL sf' y bytes maxL ret [] rm as' h (fun v h' => v = r ∧ h' = h)) (hsf : ∀ x ∈ sf', x ∈ sf) (hf : rm.frames + 1 ≤ R.frames) (hl : Wt + (maxL + 11) + rm.locals ≤ R.locals) (ek : k + rm.cells = k') (en : n + rm.slots = n') (hk : k' ≤ R.cells) (hn : n' ≤ R.slots) (hsz : Ls.size = c.maxLocals) (hlen : ∀ sig, parseMethodDescriptor xi.desc = some sig → argsL.length = sig.parameters.length) (hst : stk = argsL.reverse ++ .ref a :: rest) (has : (.ref a :: argsL).toArray = as') (hW : (rest.map fun v => v.category).sum ≤ Wt) (hd : decode c.code pc = .ok (.invokeinterface index count, 5))
    (go : ∀ T', Wk p l e R s m args below meth c Z a0 EL own sf T' h k' n' → Go p e below s Z EL rc rs Q (T'.setTop (mkF m (pc + 5) Ls (r.toList ++ rest)))) : Go p e below s Z EL rc rs Q (T.setTop (mkF m pc Ls stk)) :=
  W.callF w1 w2 w3 w5 w6 w7 w8 w9 w10 w4 hy E hM hsf hf hl ek en hk hn hsz hlen hst has hW hd fun v T' h' W' ⟨q1, q2⟩ => by subst q1 q2; exact go T' W'
/-- a class that isn't assignable to K, by its chain of superclasses -/
theorem ns_root {O K : String} {N : Nat} (w : (Cond.noSuperclass O).before a0 Z = true) (wk : (Cond.instantiable K N).before a0 Z = true) (hn : O ≠ K) : NS Z O K := by
  obtain ⟨c, k, h1, h2, h3, -, -⟩ := Cond.noSuperclass_spec w
  obtain ⟨t, kt, g1, -⟩ := Cond.instantiable_spec wk
  have ne := ids_ne h1 g1 hn
  exact ⟨c, t, h1, g1, fun fuel => by cases fuel <;> simp [Vm.isSubclassAux, ne, h2, h3]⟩
theorem ns_no {C S K : String} {N : Nat} (w : (Cond.superclass C S).before a0 Z = true) (wk : (Cond.instantiable K N).before a0 Z = true) (q : NS Z C K) (hn : C ≠ K) : ∃ c t, Z.vm.findClass C = some c ∧ Z.vm.findClass K = some t ∧ Z.vm.assignable c t = false := by
  obtain ⟨c, t, h0, g0, n3⟩ := q
  obtain ⟨p, k, kp, h1, h2, h3, h4, h5, -, h7⟩ := Cond.superclass_spec h0 w
  obtain ⟨t', k', g0', g2, g5, g7, -, -⟩ := Cond.instantiable_spec wk
  cases g0.symm.trans g0'
  have ne := ids_ne h0 g0 hn
  have gi : k'.isInterface = false := (Bool.or_eq_false_iff.mp g7).1
  refine ⟨c, t, h0, g0, ?_⟩
  show Z.vm.assignableAux (255 + 1) c t = false
  simp [Vm.assignableAux, ne, h2, g2, h5, g5, gi, Vm.isSubclass, n3]
end KitFace
section KitFace2
variable {p : Program} {l : Launch} {e : Env} {R : Room} {s : State} {m : MethodId} {args : Array Value} {below : List Frame} {meth : Method} {c : Code} {Z : State} {a0 : Array Value} {EL : List (String × Nat)} {own : String} {sf : List Addr} {T : State} {h h' h0 : Heap} {k n k' n' rc rs pc : Nat} {Ls : Array Slot} {stk rest : List Value} {Q : Option Value → Heap → Prop} {a x : Addr}
/-- invokevirtual through a class that inherits the method -/
theorem Wk.callUp {x y : MethodName} {owner : String} {index Wt maxL : Nat} {C : String} {bytes : ByteArray} {ret : Option FieldType} {rm : Room} {as' : Array Value} {sf' : List Addr} {argsL : List Value} {r : Option Value} (W : Wk p l e R s m args below meth c Z a0 EL own sf T h k n) (w1 : (Cond.methodLink own index x).before a0 Z = true) (w2 : (Cond.sameMethod x.cls owner x.name x.desc).before a0 Z = true) (w3 : (Cond.declares ⟨owner, x.name, x.desc⟩).before a0 Z = true) (ho : owner ≠ "java/lang/invoke/MethodHandle" ∧ owner ≠ "java/lang/invoke/VarHandle") (w5 : (Cond.selects C x y).before a0 Z = true) (w6 : (Cond.instanceMethod y).before a0 Z = true) (w7 : (Cond.initialized y.cls).before a0 Z = true) (w4 : (Cond.code y bytes maxL ret).before a0 Z = true) (E : Exa Z h a C)
    (hM : Con l Z EL sf' y bytes maxL ret [] rm as' h (fun v h' => v = r ∧ h' = h)) (hsf : ∀ x ∈ sf', x ∈ sf) (hf : rm.frames + 1 ≤ R.frames) (hl : Wt + (maxL + 11) + rm.locals ≤ R.locals) (ek : k + rm.cells = k') (en : n + rm.slots = n') (hk : k' ≤ R.cells) (hn : n' ≤ R.slots) (hsz : Ls.size = c.maxLocals) (hlen : ∀ sig, parseMethodDescriptor x.desc = some sig → argsL.length = sig.parameters.length) (hst : stk = argsL.reverse ++ .ref a :: rest) (has : (.ref a :: argsL).toArray = as') (hW : (rest.map fun v => v.category).sum ≤ Wt) (hd : decode c.code pc = .ok (.invokevirtual index, 3))
    (go : ∀ T', Wk p l e R s m args below meth c Z a0 EL own sf T' h k' n' → Go p e below s Z EL rc rs Q (T'.setTop (mkF m (pc + 3) Ls (r.toList ++ rest)))) : Go p e below s Z EL rc rs Q (T.setTop (mkF m pc Ls stk)) := by
  obtain ⟨u1, u2, u3, u4, vm0, k0, L, X, rfl, r2, r3, r4, r5, r6, r7, r8⟩ := W
  obtain ⟨cq, kq, qa, qb, qc⟩ := isOf (s := s.setVm vm0) (T := T) r4 rfl E
  obtain ⟨v, vm₁, B, -, X', hS, hg, ⟨Lc, q⟩, st⟩ := X.virtualBackUpS u1 (x := x) (y := y) r5 (mvT (s := s.setVm vm0) r4 w1) (mvT (s := s.setVm vm0) r4 w2) (mvT (s := s.setVm vm0) r4 w3) ho (mvT (s := s.setVm vm0) r4 w5) (mvT (s := s.setVm vm0) r4 w6) (backK (Wt := Wt) hM r4 w4 w7 hf hl u3 r6.1 fun x hx => r7 x (hsf x hx)) qa qc (g := mkF m pc Ls stk) rfl hsz (Steps.refl _) (argsL := argsL) (rest := rest) hlen hst (by show 2 * 0 + _ ≤ _; omega) hd (fun _ _ => ⟨has, rfl, by rw [ek]; exact hk, by rw [en]; exact hn⟩)
  have W' := Wk.came (Qc := fun v h' => v = r ∧ h' = T.heap) u1 u2 u3 u4 X' hS hg q r2 r3 r4 r5 r6 r7 r8 ek en
  obtain ⟨⟨⟨q1, q2⟩, -⟩, -⟩ := q
  subst q1
  rw [q2] at W'
  exact Go.of st (go _ W')
/-- invokespecial of a constructor through a nest-mate's entry -/
theorem Wk.callIN {y : MethodName} {host : String} {index Wt maxL : Nat} {bytes : ByteArray} {rm : Room} {as' : Array Value} {sf' : List Addr} {argsL : List Value} {Qc : Option Value → Heap → Prop} (W : Wk p l e R s m args below meth c Z a0 EL own sf T h k n) (hy1 : y.name = "<init>") (w1 : (Cond.methodLinkNest own index y host).before a0 Z = true) (w2 : (Cond.instanceMethod y).before a0 Z = true) (w3 : (Cond.initialized y.cls).before a0 Z = true) (w4 : (Cond.code y bytes maxL none).before a0 Z = true) (hy : y.cls ≠ "java/lang/invoke/MethodHandle" ∧ y.cls ≠ "java/lang/invoke/VarHandle")
    (hM : Con l Z EL sf' y bytes maxL none [] rm as' h Qc) (hsf : ∀ x ∈ sf', x ∈ sf) (hf : rm.frames + 1 ≤ R.frames) (hl : Wt + (maxL + 11) + rm.locals ≤ R.locals) (ek : k + rm.cells = k') (en : n + rm.slots = n') (hk : k' ≤ R.cells) (hn : n' ≤ R.slots) (hsz : Ls.size = c.maxLocals) (hlen : ∀ sig, parseMethodDescriptor y.desc = some sig → argsL.length = sig.parameters.length) (hst : stk = argsL.reverse ++ .ref a :: rest) (has : (.ref a :: argsL).toArray = as') (hW : (rest.map fun v => v.category).sum ≤ Wt) (hd : decode c.code pc = .ok (.invokespecial index, 3))
    (go : ∀ v T' h', Wk p l e R s m args below meth c Z a0 EL own sf T' h' k' n' → Qc v h' → Go p e below s Z EL rc rs Q (T'.setTop (mkF m (pc + 3) Ls (v.toList ++ rest)))) : Go p e below s Z EL rc rs Q (T.setTop (mkF m pc Ls stk)) := by
  obtain ⟨u1, u2, u3, u4, vm0, k0, L, X, rfl, r2, r3, r4, r5, r6, r7, r8⟩ := W
  have w1' : (Cond.methodLinkNest own index y host).before args (s.setVm vm0) = true := (Cond.methodLinkNest_wide r4 w1 :)
  obtain ⟨v, vm₁, B, -, X', hS, hg, ⟨Lc, q⟩, st⟩ := X.specialBackNestS u1 (y := y) hy1 r5 w1' (mvT (s := s.setVm vm0) r4 w2) (mvT (s := s.setVm vm0) r4 w4) hy (backK (Wt := Wt) hM r4 w4 w3 hf hl u3 r6.1 fun x hx => r7 x (hsf x hx)) (g := mkF m pc Ls stk) rfl hsz (Steps.refl _) (a := a) (argsL := argsL) (rest := rest) hlen hst (by show 2 * 0 + _ ≤ _; omega) hd (fun _ _ => ⟨has, rfl, by rw [ek]; exact hk, by rw [en]; exact hn⟩)
  exact Go.of st (go v B.U B.U.heap (Wk.came u1 u2 u3 u4 X' hS hg q r2 r3 r4 r5 r6 r7 r8 ek en) q.1.1)
/-- the Class object of C -/
def MirA (Z : State) (C : String) (mr : Addr) : Prop := ∃ (c : ClassId) (k : Class), Z.vm.findClass C = some c ∧ Z.vm.classes[c]? = some k ∧ k.mirror = some mr
theorem Wk.gcl {index Wt : Nat} {C : String} {mr : Addr} (W : Wk p l e R s m args below meth c Z a0 EL own sf T h k n) (w1 : (Cond.methodLink own index Jvm.Stand.gcN).before a0 Z = true) (w2 : (Cond.declares Jvm.Stand.gcN).before a0 Z = true) (w3 : (Cond.noSuperclass "java/lang/Object").before a0 Z = true) (w4 : (Cond.selects C Jvm.Stand.gcN Jvm.Stand.gcN).before a0 Z = true) (w5 : (Cond.instanceMethod Jvm.Stand.gcN).before a0 Z = true) (w6 : (Cond.native Jvm.Stand.gcN).before a0 Z = true) (E : Exa Z h a C) (M : MirA Z C mr) (hsz : Ls.size = c.maxLocals) (hd : decode c.code pc = .ok (.invokevirtual index, 3)) (hf : 1 ≤ R.frames) (hW : (rest.map fun v => v.category).sum ≤ Wt) (hl : Wt + (nativeFrameWords "java/lang/Object" "getClass" 1 + 11) ≤ R.locals)
    (go : ∀ T', Wk p l e R s m args below meth c Z a0 EL own sf T' h k n → Go p e below s Z EL rc rs Q (T'.setTop (mkF m (pc + 3) Ls (.ref mr :: rest)))) : Go p e below s Z EL rc rs Q (T.setTop (mkF m pc Ls (.ref a :: rest))) := by
  obtain ⟨u1, u2, u3, u4, vm0, k0, L, X, rfl, r2, r3, r4, r5, r⟩ := W
  obtain ⟨cq, kq, qa, qb, qc⟩ := isOf (s := s.setVm vm0) (T := T) r4 rfl E
  obtain ⟨cc, kc, m1, m2, m3⟩ := M
  have e1 : (s.setVm vm0).vm.findClass C = some cc := by show vm0.findClass C = some cc; rw [r4.alike.findClass]; exact m1
  cases qa.symm.trans e1
  obtain ⟨k', q, ek⟩ := r4.alike.2.2 _ _ m2
  obtain ⟨vm', X', st⟩ := X.getClassOf u1 r5 (mvT (s := s.setVm vm0) r4 w1) (mvT (s := s.setVm vm0) r4 w2) (nf_top (args := #[]) (mvT (s := s.setVm vm0) r4 w3)) (mvT (s := s.setVm vm0) r4 w4) (mvT (s := s.setVm vm0) r4 w5) (mvT (s := s.setVm vm0) r4 w6) e1 qc q (by rw [ek]; exact m3) (g := mkF m pc Ls (.ref a :: rest)) rfl hsz rfl hd hf (by show 2 * 0 + _ + _ ≤ _; omega)
  exact Go.by st (go _ ⟨u1, u2, u3, u4, vm0, k0, L, X', rfl, r2, r3, r4, r5, r⟩)
theorem Wk.ldcM {index : Nat} {C : String} {mr : Addr} (W : Wk p l e R s m args below meth c Z a0 EL own sf T h k n) (w : (Cond.classLink own index C).before a0 Z = true) (M : MirA Z C mr) (hd : decode c.code pc = .ok (.ldc index, 2))
    (go : ∀ T', Wk p l e R s m args below meth c Z a0 EL own sf T' h k n → Go p e below s Z EL rc rs Q (T'.setTop (mkF m (pc + 2) Ls (.ref mr :: stk)))) : Go p e below s Z EL rc rs Q (T.setTop (mkF m pc Ls stk)) := by
  obtain ⟨u1, u2, u3, u4, vm0, k0, L, X, rfl, r2, r3, r4, r5, r⟩ := W
  obtain ⟨cc, kc, m1, m2, m3⟩ := M
  have e1 : (s.setVm vm0).vm.findClass C = some cc := by show vm0.findClass C = some cc; rw [r4.alike.findClass]; exact m1
  obtain ⟨k', q, ek⟩ := r4.alike.2.2 _ _ m2
  have q' : (s.setVm vm0).vm.classes[cc]? = some k' := q
  have ev : (Term.mirror C).eval args (s.setVm vm0) none [] (s.setVm vm0) = some (.ref mr) := by
    simp only [Term.eval, Option.bind_eq_bind, e1, q', Option.bind_some, show k'.mirror = some mr from by rw [ek]; exact m3]; rfl
  obtain ⟨vm', X', st⟩ := X.ldcMirror u1 r5 (mvT (s := s.setVm vm0) r4 w) ev (g := mkF m pc Ls stk) rfl hd
  exact Go.by st (go _ ⟨u1, u2, u3, u4, vm0, k0, L, X', rfl, r2, r3, r4, r5, r⟩)
/-- System.arraycopy of references into an array made by the walk -/
theorem Wk.cpy {index Wt : Nat} {b : Addr} {kA kB : ClassId} {ty ty' : FieldType} {z z' sp dp nn : Int32} {vs vd us : List Value} {dv dd : Value} (W : Wk p l e R s m args below meth c Z a0 EL own sf T h k n) (w1 : (Cond.methodLink own index Jvm.Stand.acN).before a0 Z = true) (w2 : (Cond.native Jvm.Stand.acN).before a0 Z = true) (w3 : (Cond.static Jvm.Stand.acN).before a0 Z = true) (w4 : (Cond.initialized "java/lang/System").before a0 Z = true) (A : Arv Z h a kA ty z vs dv) (B : Arv Z h b kB ty' z' vd dd) (hty : refKind ty = true ∧ refKind ty' = true) (hst : StoL Z h b us)
    (h1 : ¬ sp < 0) (h2 : ¬ dp < 0) (h3 : ¬ nn < 0) (h4 : sp.toNatClampNeg + nn.toNatClampNeg ≤ z.toNatClampNeg) (h5 : dp.toNatClampNeg + nn.toNatClampNeg ≤ z'.toNatClampNeg) (hus : us = (List.range nn.toNatClampNeg).map fun i => vs.getD (sp.toNatClampNeg + i) dv) (hl : dp.toNatClampNeg + nn.toNatClampNeg ≤ vd.length) (ge : Z.heap.size ≤ b) (hs : b ∈ sf) (hsz : Ls.size = c.maxLocals) (hd : decode c.code pc = .ok (.invokestatic index, 3)) (hf : 1 ≤ R.frames) (hW : (rest.map fun v => v.category).sum ≤ Wt) (hlo : Wt + (nativeFrameWords "java/lang/System" "arraycopy" 5 + 11) ≤ R.locals)
    (go : ∀ T' h', Wk p l e R s m args below meth c Z a0 EL own sf T' h' k n → Keep h h' [b] → Arv Z h' b kB ty' z' (vd.take dp.toNatClampNeg ++ us ++ vd.drop (dp.toNatClampNeg + nn.toNatClampNeg)) dd → Go p e below s Z EL rc rs Q (T'.setTop (mkF m (pc + 3) Ls rest))) : Go p e below s Z EL rc rs Q (T.setTop (mkF m pc Ls (.int nn :: .int dp :: .ref b :: .int sp :: .ref a :: rest))) := by
  obtain ⟨u1, u2, u3, u4, vm0, k0, L, X, r1, r2, r3, r4, r5, r6, r7, r8⟩ := W
  obtain ⟨T', h', L', X', e', N', K', B', st⟩ := cpA X u1 r4 r5 w1 w2 w3 w4 r1 A B (Or.inr ⟨hty.1, hty.2, hst⟩) h1 h2 h3 h4 h5 hus hl r8 ge (g := mkF m pc Ls (.int nn :: .int dp :: .ref b :: .int sp :: .ref a :: rest)) rfl hsz rfl hd hf (W := Wt) (by show 2 * 0 + _ ≤ _; omega) hlo
  exact Go.by st (go T' h' (Wk.kept u1 u2 u3 u4 X' e' K' (allS hs all0) r2 r3 r4 r5 r6 r7 N') K' B')
/-- tableswitch, the case known -/
theorem Wk.tsw {dflt low high o : Int} {offs : Array Int} {len pc' : Nat} {i : Int32} (W : Wk p l e R s m args below meth c Z a0 EL own sf T h k n) (hd : decode c.code pc = .ok (.tableswitch dflt low high offs, len)) (hin : ¬ (i.toInt < low ∨ i.toInt > high)) (hoff : offs[(i.toInt - low).toNat]? = some o) (ho : 0 ≤ (pc : Int) + o) (hp : ((pc : Int) + o).toNat = pc')
    (go : Go p e below s Z EL rc rs Q (T.setTop (mkF m pc' Ls rest))) : Go p e below s Z EL rc rs Q (T.setTop (mkF m pc Ls (.int i :: rest))) :=
  Go.by (fun t q => XS.tswIn W.here W.hx (g := mkF m pc Ls (.int i :: rest)) rfl (pc0 := pc) rfl hd rfl hin hoff ho hp q) go
theorem Wk.tswD {dflt low high : Int} {offs : Array Int} {len pc' : Nat} {i : Int32} (W : Wk p l e R s m args below meth c Z a0 EL own sf T h k n) (hd : decode c.code pc = .ok (.tableswitch dflt low high offs, len)) (hout : i.toInt < low ∨ i.toInt > high) (ho : 0 ≤ (pc : Int) + dflt) (hp : ((pc : Int) + dflt).toNat = pc')
    (go : Go p e below s Z EL rc rs Q (T.setTop (mkF m pc' Ls rest))) : Go p e below s Z EL rc rs Q (T.setTop (mkF m pc Ls (.int i :: rest))) :=
  Go.by (fun t q => XS.tswOut W.here W.hx (g := mkF m pc Ls (.int i :: rest)) rfl (pc0 := pc) rfl hd rfl hout ho hp q) go
end KitFace2
def CHrN (Z : State) (EL : List (String × Nat)) (vm : Vm) (h : Heap) (vm1 : Vm) (h' : Heap) : Prop := CHr Z EL vm h vm1 h' ∧ ∀ s : State, s.vm = vm → s.WarmedH vm1
section Narrow
variable {p : Program} {l : Launch} {e : Env} {R : Room} {s : State} {m : MethodId} {args : Array Value} {below : List Frame} {meth : Method} {c : Code} {T : State} {locs : List Loc} {cells slots : Nat} {Z : State} {a0 : Array Value} {EL : List (String × Nat)} {vm vm0 vm1 vm2 : Vm} {h h' h2 : Heap}
theorem wh_refl (s : State) (e : s.vm = vm) : s.WarmedH vm := e ▸ State.WarmedH.refl s
theorem CHrN.refl (H : CHv Z EL vm h) : CHrN Z EL vm h vm h := ⟨CHr.refl H, wh_refl⟩
theorem CHrN.trans (A : CHrN Z EL vm h vm1 h') (B : CHrN Z EL vm1 h' vm2 h2) : CHrN Z EL vm h vm2 h2 := ⟨A.1.trans B.1, fun s e => State.WarmedH.trans (t := s.setVm vm1) (A.2 s e) (B.2 (s.setVm vm1) rfl)⟩
theorem CHrN.ext (E : Ext h h') (H : CHv Z EL vm h) : CHrN Z EL vm h vm h' := ⟨CHr.ext E H, wh_refl⟩
theorem CHrN.keep {ws : List Addr} (K : Keep h h' ws) (hs : ∀ x ∈ ws, Safe Z EL vm h x) (H : CHv Z EL vm h) : CHrN Z EL vm h vm h' := ⟨CHr.keep K hs H, wh_refl⟩
theorem CHrN.wr {a : Addr} {sl : Nat} {v : Value} (W : Wr h h' a sl v) (S : Safe Z EL vm h a) (H : CHv Z EL vm h) : CHrN Z EL vm h vm h' := ⟨CHr.wr W S H, wh_refl⟩
theorem CHrN.safe (A : CHrN Z EL vm h vm1 h') {x : Addr} (hx : x < h.size) (S : Safe Z EL vm h x) : Safe Z EL vm1 h' x := A.1.safe hx S
theorem CHvN.at (X : Stand p l e R (s.setVm vm0) m args below meth c T locs cells slots) (hZ : Z.Warmed39 vm0) (w : EW Z a0 EL) (H : CHv Z EL vm0 h) : CHrN Z EL vm0 h T.vm h := ⟨CHv.at X hZ w H, fun s' e' => State.WarmedH.of_rootvm (s := s.setVm vm0) e' X.warmed⟩
end Narrow
namespace Nar
section Kit
variable {p : Program} {l : Launch} {e : Env} {R : Room} {s : State} {m : MethodId} {args : Array Value} {below : List Frame} {meth : Method} {c : Code} {Z : State} {a0 : Array Value} {EL : List (String × Nat)} {own : String} {sf : List Addr} {T : State} {h h' h0 : Heap} {k n k' n' rc rs pc : Nat} {Ls : Array Slot} {stk rest : List Value} {Q : Option Value → Heap → Prop}
/-- where a walk stands: the library's Stand over the start with the tables at hand, and what rides along -/
def Wk (p : Program) (l : Launch) (e : Env) (R : Room) (s : State) (m : MethodId) (args : Array Value) (below : List Frame) (meth : Method) (c : Code) (Z : State) (a0 : Array Value) (EL : List (String × Nat)) (own : String) (sf : List Addr) (T : State) (h : Heap) (k n : Nat) : Prop :=
  p.tables.exec = Jvm.exec ∧ meth.locks = false ∧ EW Z a0 EL ∧ Ext Z.heap s.heap ∧ ∃ (vm0 : Vm) (k0 : Nat) (L : List Loc), Stand p l e R (s.setVm vm0) m args below meth c T L k n ∧ T.heap = h ∧ s.Since vm0 k0 ∧ k0 ≤ h.size ∧ Z.Warmed39 vm0 ∧ vm0.findClass own = some m.cls ∧ CHrN Z EL s.vm s.heap vm0 h ∧ (∀ x ∈ sf, x < h.size ∧ Safe Z EL vm0 h x) ∧ Fr Z.heap.size L
/-- from the state st the invocation ends, with Q of its value and heap -/
def Go (p : Program) (e : Env) (below : List Frame) (s : State) (Z : State) (EL : List (String × Nat)) (rc rs : Nat) (Q : Option Value → Heap → Prop) (st : State) : Prop :=
  ∃ t o, Steps p.tables e below st t ∧ t.status = .running ∧ Ended t below o ∧ ∃ v L, o = .returned v ∧ (Q v t.heap ∧ Fr Z.heap.size L) ∧ CHrN Z EL s.vm s.heap t.vm t.heap ∧ ReturnedEndW s o t L rc rs
/-- a method's contract: at these arguments and this heap it ends, with Q of its value and heap -/
def Con (l : Launch) (Z : State) (EL : List (String × Nat)) (sf : List Addr) (y : MethodName) (bytes : ByteArray) (maxL : Nat) (ret : Option FieldType) (ws : List Cond) (rm : Room) (as' : Array Value) (h : Heap) (Q : Option Value → Heap → Prop) : Prop :=
  MetFree l y (head1 (Cond.code y bytes maxL ret :: ws) rm) (fun a U => a = as' ∧ Z.Warmed39 U.vm ∧ U.heap = h ∧ CHv Z EL U.vm h ∧ ∀ x ∈ sf, Safe Z EL U.vm h x) (fun _ _ _ _ _ => True) (fun _ U o U' => ∃ v L, o = .returned v ∧ (Q v U'.heap ∧ Fr Z.heap.size L) ∧ CHrN Z EL U.vm U.heap U'.vm U'.heap ∧ ReturnedEndW U o U' L rm.cells rm.slots)
theorem Go.by {st st' : State} (q : ∀ t, Steps p.tables e below st' t → Steps p.tables e below st t) (f : Go p e below s Z EL rc rs Q st') : Go p e below s Z EL rc rs Q st := by
  obtain ⟨t, o, h1, r⟩ := f; exact ⟨t, o, q t h1, r⟩
theorem Go.of {st st' : State} (q : Steps p.tables e below st st') (f : Go p e below s Z EL rc rs Q st') : Go p e below s Z EL rc rs Q st := f.by fun t r => q.trans r
theorem Wk.hx (W : Wk p l e R s m args below meth c Z a0 EL own sf T h k n) : p.tables.exec = Jvm.exec := W.1
theorem Wk.here (W : Wk p l e R s m args below meth c Z a0 EL own sf T h k n) : At T m c below := by obtain ⟨-, -, -, -, vm0, k0, L, X, -⟩ := W; exact X.here
theorem Wk.old (W : Wk p l e R s m args below meth c Z a0 EL own sf T h k n) : Ext Z.heap h := by
  obtain ⟨-, -, -, hE, vm0, k0, L, X, rfl, -, -, -, -, -, -, N⟩ := W
  refine ⟨Nat.le_trans hE.1 X.same.2.1, fun b cl hb => ?_⟩
  obtain ⟨c', h1, h2, -, h4⟩ := X.same.2.2.2.2.2 b cl (hE.2 b cl hb)
  have hlt := (Array.getElem?_eq_some_iff.mp hb).1
  have hsl : c'.slots = cl.slots := Array.ext_getElem? fun i => h4 i fun hm => absurd (N _ hm) (Nat.not_le.mpr hlt)
  have hcc : c' = cl := by rw [h2, hsl]
  rw [← hcc]; exact h1
theorem Wk.mono (W : Wk p l e R s m args below meth c Z a0 EL own sf T h k n) (hk : k ≤ k') (hn : n ≤ n') : Wk p l e R s m args below meth c Z a0 EL own sf T h k' n' := by
  obtain ⟨w1, w2, w3, w4, vm0, k0, L, X, r⟩ := W; exact ⟨w1, w2, w3, w4, vm0, k0, L, X.mono hk hn, r⟩
/-- a contract by its body's walk -/
theorem Con.mk {y : MethodName} {bytes : ByteArray} {maxL : Nat} {ret : Option FieldType} {ws : List Cond} {rm : Room} {as' : Array Value} (hp : plainFor y = true) (hEL : EW Z a0 EL) (hE : Ext Z.heap h) (hsf : ∀ x ∈ sf, x < h.size)
    (body : ∀ (p : Program) (e : Env) (s : State) (m : MethodId) (below : List Frame) (meth : Method) (c : Code) (T : State), c.code = bytes → c.maxLocals = maxL → meth.sig.returnType = ret → meth.name = y.name → Wk p l e rm s m as' below meth c Z a0 EL y.cls sf T h 0 0 → Go p e below s Z EL rm.cells rm.slots Q (T.setTop (entryFrame m as' maxL))) :
    Con l Z EL sf y bytes maxL ret ws rm as' h Q := by
  refine MetFree.of_bodySF hp hisR ?_
  intro p e s m args below meth c s₁ Bd hml0 hP hK
  obtain ⟨rfl, hZ, hh, hC, hS⟩ := hP
  have X0 : Stand p l e rm s m args below meth c s₁ [] 0 0 := Stand.of_body Bd
  have e0 : s₁.heap = h := by rw [← hh, Bd.state]; rfl
  subst hh
  obtain ⟨t, o, h1, h2, h3, h4⟩ := body p e s m below meth c s₁ Bd.bytes hml0 Bd.returns (name_of_methodNamed Bd.named Bd.method).1
    ⟨Bd.exec, Bd.notSynchronized, hEL, hE, s.vm, 0, [], X0, e0, (State.WarmedH.refl s).since 0, Nat.zero_le _, hZ, findClass_of_methodNamed Bd.named, CHrN.refl hC, fun x hx => ⟨hsf x hx, hS x hx⟩, Fr.nil _⟩
  exact ⟨t, o, h1, h2, h3, h4⟩
/-! returns -/
theorem Wk.ret {st : State} {v : Option Value} (W : Wk p l e R s m args below meth c Z a0 EL own sf T h k n) (hk : k ≤ rc) (hn : n ≤ rs) (hv : meth.sig.returnType = none → v = none) (q : Q v h)
    (go : ∀ {L : List Loc} {vm0 : Vm}, Stand p l e R (s.setVm vm0) m args below meth c T L k n → ∀ fs : List Frame, (∀ (f : JFrame) (acts : List Action), f.method = m → f.locked = none → f.entered = [] → (doReturn e (T.setTop f) acts v).1 = T.setFrames fs) → Steps p.tables e below st (T.setFrames fs)) : Go p e below s Z EL rc rs Q st := by
  obtain ⟨w1, w2, w3, w4, vm0, k0, L, X, rfl, r2, r3, r4, r5, r6, r7, r8⟩ := W
  obtain ⟨fs, hr, hrun, hended, hW⟩ := (X.mono hk hn).leaveW r2 r3 hv w2
  have hc : CHrN Z EL s.vm s.heap T.vm T.heap := r6.trans (CHvN.at X r4 w3 r6.1.1)
  exact ⟨_, _, go X fs hr, hrun, hended, v, L, rfl, ⟨q, r8⟩, hc, hW⟩
theorem Wk.retA {t : FieldType} {w : Value} (W : Wk p l e R s m args below meth c Z a0 EL own sf T h k n) (hk : k ≤ rc) (hn : n ≤ rs) (hret : meth.sig.returnType = some t) (ht : t.isReference = true) (hw : w.isRef = true) (hd : decode c.code pc = .ok (.areturn, 1)) (q : Q (some w) h) : Go p e below s Z EL rc rs Q (T.setTop (mkF m pc Ls (w :: rest))) :=
  W.ret hk hn (fun h => by rw [hret] at h; cases h) q fun X fs hr => retOut X W.hx hret (by rcases ref_cases hw with rfl | ⟨z, rfl⟩ <;> cases t <;> first | rfl | cases ht) (Or.inr (Or.inr (Or.inr (Or.inr ⟨rfl, ht, hw⟩)))) hd hr
/-! fields -/
theorem Wk.getf {R0 O nm d host : String} {index : Nat} {a : Addr} {v : Value} (W : Wk p l e R s m args below meth c Z a0 EL own sf T h k n) (w : (Cond.fieldLink own index R0 nm d).before a0 Z = true ∨ (Cond.fieldLinkNest own index R0 nm d host).before a0 Z = true) (via : Via Z R0 O nm d) (F : Fld Z h a O nm d v) (hd : decode c.code pc = .ok (.getfield index, 3))
    (go : ∀ T', Wk p l e R s m args below meth c Z a0 EL own sf T' h k n → Go p e below s Z EL rc rs Q (T'.setTop (mkF m (pc + 3) Ls (v :: rest)))) : Go p e below s Z EL rc rs Q (T.setTop (mkF m pc Ls (.ref a :: rest))) := by
  obtain ⟨w1, w2, w3, w4, vm0, k0, L, X, r1, r2, r3, r4, r5, r⟩ := W
  obtain ⟨T', X', e', st⟩ := getF X w1 r4 r5 w via r1 F (g := mkF m pc Ls (.ref a :: rest)) rfl rfl hd
  exact Go.by st (go T' ⟨w1, w2, w3, w4, vm0, k0, L, X', e', r2, r3, r4, r5, r⟩)
theorem Wk.gets {R0 O nm d host : String} {index : Nat} {v : Value} (W : Wk p l e R s m args below meth c Z a0 EL own sf T h k n) (w : (Cond.fieldLink own index R0 nm d).before a0 Z = true ∨ (Cond.fieldLinkNest own index R0 nm d host).before a0 Z = true) (via : Via Z R0 O nm d) (F : Sta Z h O nm d v) (hd : decode c.code pc = .ok (.getstatic index, 3))
    (go : ∀ T', Wk p l e R s m args below meth c Z a0 EL own sf T' h k n → Go p e below s Z EL rc rs Q (T'.setTop (mkF m (pc + 3) Ls (v :: stk)))) : Go p e below s Z EL rc rs Q (T.setTop (mkF m pc Ls stk)) := by
  obtain ⟨w1, w2, w3, w4, vm0, k0, L, X, r1, r2, r3, r4, r5, r⟩ := W
  obtain ⟨T', X', e', st⟩ := getS2 X w1 r4 r5 w via r1 F (g := mkF m pc Ls stk) rfl hd
  exact Go.by st (go T' ⟨w1, w2, w3, w4, vm0, k0, L, X', e', r2, r3, r4, r5, r⟩)
theorem Wk.wrote {a : Addr} {sl : Nat} {v : Value} {T' : State} {L : List Loc} {vm0 : Vm} (hxm : p.tables.exec = Jvm.exec) (hl : meth.locks = false) (hEW : EW Z a0 EL) (hE : Ext Z.heap s.heap) {k0 : Nat} (X' : Stand p l e R (s.setVm vm0) m args below meth c T' (L ++ [⟨a, sl⟩]) k n) (e' : T'.heap = h') (W' : Wr h h' a sl v) (r2 : s.Since vm0 k0) (r3 : k0 ≤ h.size) (r4 : Z.Warmed39 vm0) (r5 : vm0.findClass own = some m.cls) (r6 : CHrN Z EL s.vm s.heap vm0 h) (r7 : ∀ x ∈ sf, x < h.size ∧ Safe Z EL vm0 h x) (r8 : Fr Z.heap.size L) (ha : Z.heap.size ≤ a) (hs : a ∈ sf) :
    Wk p l e R s m args below meth c Z a0 EL own sf T' h' k n := by
  have hsz : h'.size = h.size := W'.size
  exact ⟨hxm, hl, hEW, hE, vm0, k0, _, X', e', r2, by rw [hsz]; exact r3, r4, r5, r6.trans (CHrN.wr W' (r7 a hs).2 r6.1.1), fun x hx => ⟨by rw [hsz]; exact (r7 x hx).1, Safe.wr W' (r7 a hs).2 r6.1.1 (r7 x hx).2⟩, Fr.snoc X' r8 ha⟩
theorem Wk.putf {R0 O nm d host C : String} {index kk : Nat} {ty : FieldType} {a : Addr} {v old : Value} (W : Wk p l e R s m args below meth c Z a0 EL own sf T h k n) (w : (Cond.fieldLink own index R0 nm d).before a0 Z = true ∨ (Cond.fieldLinkNest own index R0 nm d host).before a0 Z = true) (via : Via Z R0 O nm d) (F : Fld Z h a O nm d old) (E : Exa Z h a C) (Lw : (Cond.lays C O nm d).before a0 Z = true ∨ ((Cond.laysFinal C O nm d).before a0 Z = true ∧ own = O ∧ meth.name = "<init>")) (wi : (Cond.instantiable C kk).before a0 Z = true)
    (hty : parseFieldDescriptor d = some ty) (hn : narrow ty v = v) (hf : fits ty v = true) (ha : Z.heap.size ≤ a) (hs : a ∈ sf) (hd : decode c.code pc = .ok (.putfield index, 3))
    (go : ∀ T' h', Wk p l e R s m args below meth c Z a0 EL own sf T' h' k n → Wr h h' a (RoadKit.slotOf Z O nm d) v → Go p e below s Z EL rc rs Q (T'.setTop (mkF m (pc + 3) Ls rest))) : Go p e below s Z EL rc rs Q (T.setTop (mkF m pc Ls (v :: .ref a :: rest))) := by
  obtain ⟨w1, w2, w3, w4, vm0, k0, L, X, r1, r2, r3, r4, r5, r6, r7, r8⟩ := W
  obtain ⟨T', h', X', e', W', st⟩ := putF X w1 r4 r5 w via r1 F E Lw wi hty hn hf (g := mkF m pc Ls (v :: .ref a :: rest)) rfl rfl hd
  exact Go.by st (go T' h' (Wk.wrote w1 w2 w3 w4 X' e' W' r2 r3 r4 r5 r6 r7 r8 ha hs) W')
/-! making -/
theorem Wk.grew {x : Addr} {T' : State} {L : List Loc} {vm0 : Vm} {k0 : Nat} (hxm : p.tables.exec = Jvm.exec) (hl : meth.locks = false) (hEW : EW Z a0 EL) (hE : Ext Z.heap s.heap) (X' : Stand p l e R (s.setVm vm0) m args below meth c T' L k' n') (e' : T'.heap = h') (E : Ext h h') (hx : x < h'.size) (hn : h.size ≤ x) (r2 : s.Since vm0 k0) (r3 : k0 ≤ h.size) (r4 : Z.Warmed39 vm0) (r5 : vm0.findClass own = some m.cls) (r6 : CHrN Z EL s.vm s.heap vm0 h) (r7 : ∀ x ∈ sf, x < h.size ∧ Safe Z EL vm0 h x) (r8 : Fr Z.heap.size L) :
    Wk p l e R s m args below meth c Z a0 EL own (x :: sf) T' h' k' n' :=
  ⟨hxm, hl, hEW, hE, vm0, k0, L, X', e', r2, Nat.le_trans r3 E.1, r4, r5, r6.trans (CHrN.ext E r6.1.1), fun y hy => by
    rcases List.mem_cons.mp hy with rfl | hy
    · exact ⟨hx, Safe.ext E r6.1.1 (Safe.new hn)⟩
    · exact ⟨Nat.lt_of_lt_of_le (r7 y hy).1 E.1, Safe.ext E r6.1.1 (r7 y hy).2⟩, r8⟩
theorem Wk.new {C : String} {index N : Nat} (W : Wk p l e R s m args below meth c Z a0 EL own sf T h k n) (w : (Cond.classLink own index C).before a0 Z = true) (wi : (Cond.instantiable C N).before a0 Z = true) (wz : (Cond.initialized C).before a0 Z = true) (hd : decode c.code pc = .ok (.new index, 3)) (ek : k + 1 = k') (en : n + N = n') (hk : k' ≤ R.cells) (hn : n' ≤ R.slots)
    (go : ∀ T' h' x, Wk p l e R s m args below meth c Z a0 EL own (x :: sf) T' h' k' n' → Ext h h' → h.size = x → Z.heap.size ≤ x → Exa Z h' x C → (∀ {O nm d : String} {ty : FieldType}, Laid Z a0 C O nm d → parseFieldDescriptor d = some ty → Fld Z h' x O nm d (defaultValue ty)) → Go p e below s Z EL rc rs Q (T'.setTop (mkF m (pc + 3) Ls (.ref x :: stk)))) : Go p e below s Z EL rc rs Q (T.setTop (mkF m pc Ls stk)) := by
  have hO := W.old
  obtain ⟨w1, w2, w3, w4, vm0, k0, L, X, r1, r2, r3, r4, r5, r6, r7, r8⟩ := W
  subst ek en
  obtain ⟨T', h', X', e', E, A, D, -, st⟩ := newO X w1 r4 r5 w wi wz r1 (g := mkF m pc Ls stk) rfl hd hk hn
  exact Go.by st (go T' h' _ (Wk.grew w1 w2 w3 w4 X' e' E A.lt (Nat.le_refl _) r2 r3 r4 r5 r6 r7 r8) E rfl hO.1 A D)
/-! calls -/
theorem backK {y : MethodName} {bytes : ByteArray} {maxL : Nat} {ret : Option FieldType} {rm : Room} {len Wt : Nat} {as' : Array Value} {vm0 : Vm} {sf' : List Addr} {Qc : Option Value → Heap → Prop}
    (hM : Con l Z EL sf' y bytes maxL ret [] rm as' h Qc) (hZ : Z.Warmed39 vm0) (wc : (Cond.code y bytes maxL ret).before a0 Z = true) (wz : (Cond.initialized y.cls).before a0 Z = true) (hf : rm.frames + 1 ≤ R.frames) (hl : Wt + (maxL + 11) + rm.locals ≤ R.locals) (hEL : EW Z a0 EL) (H : CHv Z EL vm0 h) (hsf : ∀ x ∈ sf', x < h.size ∧ Safe Z EL vm0 h x) :
    BackS l R p e below (s.setVm vm0) args y len Wt (fun A a => a = as' ∧ A.U.heap = h ∧ A.cells + rm.cells ≤ R.cells ∧ A.slots + rm.slots ≤ R.slots)
      (fun A _ v B => ∃ L, (Qc v B.U.heap ∧ Fr Z.heap.size L) ∧ B.locs = A.locs ++ L ∧ B.cells = A.cells + rm.cells ∧ B.slots = A.slots + rm.slots ∧ CHrN Z EL vm0 h B.U.vm B.U.heap) :=
  BackS.of_freeW (bytes := bytes) (maxL := maxL) (ret := ret) (E := fun _ first o t L k n => k = rm.cells ∧ n = rm.slots ∧ (∃ v, o = .returned v ∧ (Qc v t.heap ∧ Fr Z.heap.size L)) ∧ CHrN Z EL first.vm first.heap t.vm t.heap) hM hf hl
    (fun m meth c A a Y hp => have hU : Z.Warmed39 A.U.vm := wtrans (s := s.setVm vm0) hZ Y.warmed
      ⟨by show (Cond.and _ .tt).before a A.U = true; rw [Cond.before_and, mv hU wc]; rfl, mv hU wc, mv hU wz, hp.2.2.1, hp.2.2.2⟩)
    (fun m meth c A a g mk Y hp => ⟨hp.1, wtrans (s := s.setVm vm0) hZ Y.warmed, hp.2.1, (CHv.at Y hZ hEL H).1, fun x hx => (CHv.at Y hZ hEL H).safe (hsf x hx).1 (hsf x hx).2⟩) (fun _ _ _ _ _ _ _ _ _ => trivial)
    (fun _ _ _ _ ⟨v, L, h1, h2, h3, h4⟩ => ⟨L, _, _, h4, rfl, rfl, ⟨v, h1, h2⟩, h3⟩)
    (fun m meth c A a g mk v t L k n Y hp _ _ ⟨e1, e2, ⟨v', e3, e4⟩, e5⟩ => by
      cases e3; subst e1 e2
      refine ⟨L, e4, rfl, rfl, rfl, (CHvN.at Y hZ hEL H).trans ?_⟩
      rw [← hp.2.1]; exact e5)
theorem Wk.came {B : Pt} {v : Option Value} {rm : Room} {vm0 : Vm} {k0 : Nat} {L Lc : List Loc} {Qc : Option Value → Heap → Prop} (hxm : p.tables.exec = Jvm.exec) (hl : meth.locks = false) (hEW : EW Z a0 EL) (hE : Ext Z.heap s.heap) (X' : Stand p l e R ((s.setVm vm0).setVm B.U.vm) m args below meth c B.U B.locs B.cells B.slots) (hS : (s.setVm vm0).Since B.U.vm B.U.heap.size) (hg : h.size ≤ B.U.heap.size)
    (q : (Qc v B.U.heap ∧ Fr Z.heap.size Lc) ∧ B.locs = L ++ Lc ∧ B.cells = k + rm.cells ∧ B.slots = n + rm.slots ∧ CHrN Z EL vm0 h B.U.vm B.U.heap) (r2 : s.Since vm0 k0) (r3 : k0 ≤ h.size) (r4 : Z.Warmed39 vm0) (r5 : vm0.findClass own = some m.cls) (r6 : CHrN Z EL s.vm s.heap vm0 h) (r7 : ∀ x ∈ sf, x < h.size ∧ Safe Z EL vm0 h x) (r8 : Fr Z.heap.size L) (ek : k + rm.cells = k') (en : n + rm.slots = n') :
    Wk p l e R s m args below meth c Z a0 EL own sf B.U B.U.heap k' n' := by
  obtain ⟨⟨q1, q2⟩, q3, q4, q5, q6⟩ := q
  rw [q3, q4, q5, ek, en] at X'
  obtain ⟨Y1, Y2, Y3, Y4⟩ := rebS r2 r3 X' hS hg r4 r5
  exact ⟨hxm, hl, hEW, hE, _, _, _, Y1, rfl, Y2, Nat.le_refl _, Y3, Y4, r6.trans q6, fun x hx => ⟨Nat.lt_of_lt_of_le (r7 x hx).1 hg, q6.safe (r7 x hx).1 (r7 x hx).2⟩, r8.app q2⟩
theorem acmpW {g : JFrame} {target : State} (W : Wk p l e R s m args below meth c Z a0 EL own sf T h k n) (hg : g.method = m) {cd : ACond} {x y : Value} (h1 : x.isRef = true) (h2 : y.isRef = true) {o : Int} {pc0 pc' : Nat} {same : Bool} (hpc : g.pc = pc0) (hd : decode c.code g.pc = .ok (.if_acmp cd o, 3)) (hs : g.stack = y :: x :: rest) (hq : decide (x = y) = same) (ho : 0 ≤ (pc0 : Int) + o) (hp : pc' = if acV cd same = true then ((pc0 : Int) + o).toNat else pc0 + 3)
    (hr : Steps p.tables e below (T.setTop { g with pc := pc', stack := rest }) target) : Steps p.tables e below (T.setTop g) target := by
  obtain ⟨w1, w2, w3, w4, vm0, k0, L, X, r⟩ := W
  exact Jvm.RoadKit.acmp X w1 hg h1 h2 hpc hd hs hq ho hp hr
/-- the terms elem t i, elem t (i + 1), .. hold vs -/
def HasE (args : Array Value) (Z : State) (t : Term) : Nat → List Value → Prop
  | _, [] => True
  | i, v :: vs => (Term.elem t (.int (Int32.ofNat i))).eval args Z none [] Z = some v ∧ HasE args Z t (i + 1) vs
theorem clampN {i : Nat} (h : i < 2 ^ 31) : (Int32.ofNat i).toNatClampNeg = i := by
  have := Int32.toInt_ofNat_small h
  rw [Int32.toNatClampNeg, this]; simp
theorem HasE.has {t : Term} {a : Addr} {cl : Cell} (ev : t.eval args Z none [] Z = some (.ref a)) (hc : Z.heap[a]? = some cl) : ∀ (vs : List Value) (i : Nat), i + vs.length < 2 ^ 31 → HasE args Z t i vs → HasL cl i vs
  | [], i, _, _ => trivial
  | v :: vs, i, hi, H => by
    have hl : (v :: vs).length = vs.length + 1 := rfl
    refine ⟨?_, HasE.has ev hc vs (i + 1) (by omega) H.2⟩
    have q := (elem_in H.1 ev (Term.int_eval _) hc).2
    rwa [clampN (by omega)] at q
end Kit
section Arrays
variable {p : Program} {l : Launch} {e : Env} {R : Room} {s : State} {m : MethodId} {args : Array Value} {below : List Frame} {meth : Method} {c : Code} {Z : State} {a0 : Array Value} {EL : List (String × Nat)} {own : String} {sf : List Addr} {T : State} {h h' h0 : Heap} {k n k' n' rc rs pc : Nat} {Ls : Array Slot} {stk rest : List Value} {Q : Option Value → Heap → Prop} {a x : Addr} {cs ds : List Int32}
theorem inA {kA : ClassId} {ty : FieldType} {z j : Int32} {vs : List Value} {dv v : Value} (A : Arv Z h a kA ty z vs dv) (hj : ¬ j < 0 ∧ j < z) (hv : vs.getD j.toNatClampNeg dv = v) : ∃ cl : Cell, RoadKit.Arr Z h a cl ty ∧ ¬ (j < 0 ∨ cl.slots.size ≤ j.toNatClampNeg) ∧ cl.slots[j.toNatClampNeg]? = some v ∧ fits ty v = true := by
  obtain ⟨cl, A1, -, S, N, H, G⟩ := A
  have hi := inb_of S hj
  exact ⟨cl, A1, hi, H.at hi hv, hv ▸ G _ (Nat.lt_of_not_le fun y => hi (Or.inr y))⟩
theorem Wk.aald {kA : ClassId} {ty : FieldType} {z j : Int32} {vs : List Value} {dv v : Value} (W : Wk p l e R s m args below meth c Z a0 EL own sf T h k n) (A : Arv Z h a kA ty z vs dv) (hty : ty.isReference = true) (hj : ¬ j < 0 ∧ j < z) (hv : vs.getD j.toNatClampNeg dv = v) (hd : decode c.code pc = .ok (.aaload, 1)) (go : Go p e below s Z EL rc rs Q (T.setTop (mkF m (pc + 1) Ls (v :: rest)))) : Go p e below s Z EL rc rs Q (T.setTop (mkF m pc Ls (.int j :: .ref a :: rest))) := by
  obtain ⟨w1, w2, w3, w4, vm0, k0, L, X, rfl, r2, r3, r4, r⟩ := W
  obtain ⟨cl, A1, hi, hat, -⟩ := inA A hj hv
  exact Go.by (X.aaload w1 (j := j) (v := v) A1.1 (State.isArrayOf_alike (T := s.setVm vm0) r4.alike A1.2.1) hty A1.2.2 hi hat (g := mkF m pc Ls (.int j :: .ref a :: rest)) rfl rfl hd) go
end Arrays
section KitFace
variable {p : Program} {l : Launch} {e : Env} {R : Room} {s : State} {m : MethodId} {args : Array Value} {below : List Frame} {meth : Method} {c : Code} {Z : State} {a0 : Array Value} {EL : List (String × Nat)} {own : String} {sf : List Addr} {T : State} {h h' h0 : Heap} {k n k' n' rc rs pc : Nat} {Ls : Array Slot} {stk rest : List Value} {Q : Option Value → Heap → Prop} {a x : Addr}
/-- what a call's contract pays, in the walk's shape -/
abbrev PayK (l : Launch) (R : Room) (p : Program) (e : Env) (below : List Frame) (s : State) (args : Array Value) (y : MethodName) (len Wt : Nat) (Z : State) (EL : List (String × Nat)) (vm0 : Vm) (rm : Room) (as' : Array Value) (h : Heap) (Qc : Option Value → Heap → Prop) : Prop :=
  BackS l R p e below (s.setVm vm0) args y len Wt (fun A a => a = as' ∧ A.U.heap = h ∧ A.cells + rm.cells ≤ R.cells ∧ A.slots + rm.slots ≤ R.slots)
      (fun A _ v B => ∃ L, (Qc v B.U.heap ∧ Fr Z.heap.size L) ∧ B.locs = A.locs ++ L ∧ B.cells = A.cells + rm.cells ∧ B.slots = A.slots + rm.slots ∧ CHrN Z EL vm0 h B.U.vm B.U.heap)
/-- invokeinterface, the callee by what it pays -/
theorem Wk.callFB {xi y : MethodName} {index count Wt : Nat} {C : String} {rm : Room} {as' : Array Value} {sf' : List Addr} {argsL : List Value} {Qc : Option Value → Heap → Prop} (W : Wk p l e R s m args below meth c Z a0 EL own sf T h k n) (w1 : (Cond.methodLink own index xi).before a0 Z = true) (w2 : (Cond.declares xi).before a0 Z = true) (w3 : (Cond.interfaceMethod xi.cls xi.cls xi.name xi.desc).before a0 Z = true) (w5 : (Cond.selects C xi y).before a0 Z = true) (w6 : (Cond.instanceMethod y).before a0 Z = true) (w7 : (Cond.publicMethod y).before a0 Z = true) (w8 : (Cond.unhidden C xi.name xi.desc).before a0 Z = true) (w9 : (Cond.castable C xi.cls).before a0 Z = true) (hy : xi.cls ≠ "java/lang/invoke/MethodHandle" ∧ xi.cls ≠ "java/lang/invoke/VarHandle") (E : Exa Z h a C)
    (hK : ∀ vm0 : Vm, Z.Warmed39 vm0 → CHv Z EL vm0 h → (∀ x ∈ sf', x < h.size ∧ Safe Z EL vm0 h x) → PayK l R p e below s args y 5 Wt Z EL vm0 rm as' h Qc) (hsf : ∀ x ∈ sf', x ∈ sf) (ek : k + rm.cells = k') (en : n + rm.slots = n') (hk : k' ≤ R.cells) (hn : n' ≤ R.slots) (hsz : Ls.size = c.maxLocals) (hlen : ∀ sig, parseMethodDescriptor xi.desc = some sig → argsL.length = sig.parameters.length) (hst : stk = argsL.reverse ++ .ref a :: rest) (has : (.ref a :: argsL).toArray = as') (hW : (rest.map fun v => v.category).sum ≤ Wt) (hd : decode c.code pc = .ok (.invokeinterface index count, 5))
    (go : ∀ v T' h', Wk p l e R s m args below meth c Z a0 EL own sf T' h' k' n' → Qc v h' → Go p e below s Z EL rc rs Q (T'.setTop (mkF m (pc + 5) Ls (v.toList ++ rest)))) : Go p e below s Z EL rc rs Q (T.setTop (mkF m pc Ls stk)) := by
  obtain ⟨u1, u2, u3, u4, vm0, k0, L, X, rfl, r2, r3, r4, r5, r6, r7, r8⟩ := W
  obtain ⟨cq, kq, qa, qb, qc⟩ := isOf (s := s.setVm vm0) (T := T) r4 rfl E
  obtain ⟨v, vm₁, B, -, X', hS, hg, ⟨Lc, q⟩, st⟩ := X.interfaceBackS u1 (xi := xi) (y := y) r5 (mvT (s := s.setVm vm0) r4 w1) (mvT (s := s.setVm vm0) r4 w2) (mvT (s := s.setVm vm0) r4 w3 (by simp [Cond.onTables, Cond.keepsFace, Cond.faceAtom, hy.1, hy.2])) (mvT (s := s.setVm vm0) r4 w5) (mvT (s := s.setVm vm0) r4 w6) (mvT (s := s.setVm vm0) r4 w7) (mvT (s := s.setVm vm0) r4 w8) (mvT (s := s.setVm vm0) r4 w9) hy (hK vm0 r4 r6.1.1 fun x hx => r7 x (hsf x hx)) qa qb qc (g := mkF m pc Ls stk) rfl hsz (Steps.refl _) (argsL := argsL) (rest := rest) hlen hst (by show 2 * 0 + _ ≤ _; omega) hd (fun _ _ => ⟨has, rfl, by rw [ek]; exact hk, by rw [en]; exact hn⟩)
  exact Go.of st (go v B.U B.U.heap (Wk.came u1 u2 u3 u4 X' hS hg q r2 r3 r4 r5 r6 r7 r8 ek en) q.1.1)
theorem Wk.callF {xi y : MethodName} {index count Wt maxL : Nat} {C : String} {bytes : ByteArray} {ret : Option FieldType} {rm : Room} {as' : Array Value} {sf' : List Addr} {argsL : List Value} {Qc : Option Value → Heap → Prop} (W : Wk p l e R s m args below meth c Z a0 EL own sf T h k n) (w1 : (Cond.methodLink own index xi).before a0 Z = true) (w2 : (Cond.declares xi).before a0 Z = true) (w3 : (Cond.interfaceMethod xi.cls xi.cls xi.name xi.desc).before a0 Z = true) (w5 : (Cond.selects C xi y).before a0 Z = true) (w6 : (Cond.instanceMethod y).before a0 Z = true) (w7 : (Cond.publicMethod y).before a0 Z = true) (w8 : (Cond.unhidden C xi.name xi.desc).before a0 Z = true) (w9 : (Cond.castable C xi.cls).before a0 Z = true) (w10 : (Cond.initialized y.cls).before a0 Z = true) (w4 : (Cond.code y bytes maxL ret).before a0 Z = true) (hy : xi.cls ≠ "java/lang/invoke/MethodHandle" ∧ xi.cls ≠ "java/lang/invoke/VarHandle") (E : Exa Z h a C)
    (hM : Con l Z EL sf' y bytes maxL ret [] rm as' h Qc) (hsf : ∀ x ∈ sf', x ∈ sf) (hf : rm.frames + 1 ≤ R.frames) (hl : Wt + (maxL + 11) + rm.locals ≤ R.locals) (ek : k + rm.cells = k') (en : n + rm.slots = n') (hk : k' ≤ R.cells) (hn : n' ≤ R.slots) (hsz : Ls.size = c.maxLocals) (hlen : ∀ sig, parseMethodDescriptor xi.desc = some sig → argsL.length = sig.parameters.length) (hst : stk = argsL.reverse ++ .ref a :: rest) (has : (.ref a :: argsL).toArray = as') (hW : (rest.map fun v => v.category).sum ≤ Wt) (hd : decode c.code pc = .ok (.invokeinterface index count, 5))
    (go : ∀ v T' h', Wk p l e R s m args below meth c Z a0 EL own sf T' h' k' n' → Qc v h' → Go p e below s Z EL rc rs Q (T'.setTop (mkF m (pc + 5) Ls (v.toList ++ rest)))) : Go p e below s Z EL rc rs Q (T.setTop (mkF m pc Ls stk)) :=
  W.callFB w1 w2 w3 w5 w6 w7 w8 w9 hy E (fun vm0 q1 q2 q3 => backK (Wt := Wt) hM q1 w4 w10 hf hl W.2.2.1 q2 q3) hsf ek en hk hn hsz hlen hst has hW hd go
theorem Wk.callFp {xi y : MethodName} {index count Wt maxL : Nat} {C : String} {bytes : ByteArray} {ret : Option FieldType} {rm : Room} {as' : Array Value} {sf' : List Addr} {argsL : List Value} {r : Option Value} (W : Wk p l e R s m args below meth c Z a0 EL own sf T h k n) (w1 : (Cond.methodLink own index xi).before a0 Z = true) (w2 : (Cond.declares xi).before a0 Z = true) (w3 : (Cond.interfaceMethod xi.cls xi.cls xi.name xi.desc).before a0 Z = true) (w5 : (Cond.selects C xi y).before a0 Z = true) (w6 : (Cond.instanceMethod y).before a0 Z = true) (w7 : (Cond.publicMethod y).before a0 Z = true) (w8 : (Cond.unhidden C xi.name xi.desc).before a0 Z = true) (w9 : (Cond.castable C xi.cls).before a0 Z = true) (w10 : (Cond.initialized y.cls).before a0 Z = true) (w4 : (Cond.code y bytes maxL ret).before a0 Z = true) (hy : xi.cls ≠ "java/lang/invoke/MethodHandle" ∧ xi.cls ≠ "java/lang/invoke/VarHandle") (E : Exa Z h a C)
    (hM : Con l Z EL sf' y bytes maxL ret [] rm as' h (fun v h' => v = r ∧ h' = h)) (hsf : ∀ x ∈ sf', x ∈ sf) (hf : rm.frames + 1 ≤ R.frames) (hl : Wt + (maxL + 11) + rm.locals ≤ R.locals) (ek : k + rm.cells = k') (en : n + rm.slots = n') (hk : k' ≤ R.cells) (hn : n' ≤ R.slots) (hsz : Ls.size = c.maxLocals) (hlen : ∀ sig, parseMethodDescriptor xi.desc = some sig → argsL.length = sig.parameters.length) (hst : stk = argsL.reverse ++ .ref a :: rest) (has : (.ref a :: argsL).toArray = as') (hW : (rest.map fun v => v.category).sum ≤ Wt) (hd : decode c.code pc = .ok (.invokeinterface index count, 5))
    (go : ∀ T', Wk p l e R s m args below meth c Z a0 EL own sf T' h k' n' → Go p e below s Z EL rc rs Q (T'.setTop (mkF m (pc + 5) Ls (r.toList ++ rest)))) : Go p e below s Z EL rc rs Q (T.setTop (mkF m pc Ls stk)) :=
  W.callF w1 w2 w3 w5 w6 w7 w8 w9 w10 w4 hy E hM hsf hf hl ek en hk hn hsz hlen hst has hW hd fun v T' h' W' ⟨q1, q2⟩ => by subst q1 q2; exact go T' W'
end KitFace
section KitNar
variable {l : Launch} {Z : State} {a0 : Array Value} {EL : List (String × Nat)} {sf : List Addr} {h : Heap} {Q : Option Value → Heap → Prop}
/-- a contract of a method with an exception table, whose walk throws nothing -/
def ConW (l : Launch) (Z : State) (EL : List (String × Nat)) (sf : List Addr) (y : MethodName) (bytes : ByteArray) (maxL : Nat) (ret : Option FieldType) (hs : List (Nat × Nat × Nat × Nat)) (rm : Room) (as' : Array Value) (h : Heap) (Q : Option Value → Heap → Prop) : Prop :=
  MetFree l y (head1 [Cond.codeWith y bytes maxL ret hs] rm) (fun a U => a = as' ∧ Z.Warmed39 U.vm ∧ U.heap = h ∧ CHv Z EL U.vm h ∧ ∀ x ∈ sf, Safe Z EL U.vm h x) (fun _ _ _ _ _ => True) (fun _ U o U' => ∃ v L, o = .returned v ∧ (Q v U'.heap ∧ Fr Z.heap.size L) ∧ CHrN Z EL U.vm U.heap U'.vm U'.heap ∧ ReturnedEndW U o U' L rm.cells rm.slots)
theorem ConW.mk {y : MethodName} {bytes : ByteArray} {maxL : Nat} {ret : Option FieldType} {hs : List (Nat × Nat × Nat × Nat)} {rm : Room} {as' : Array Value} (hp : plainFor y = true) (hEL : EW Z a0 EL) (hE : Ext Z.heap h) (hsf : ∀ x ∈ sf, x < h.size)
    (body : ∀ (p : Program) (e : Env) (s : State) (m : MethodId) (below : List Frame) (meth : Method) (c : Code) (T : State), c.code = bytes → c.maxLocals = maxL → meth.sig.returnType = ret → meth.name = y.name → Wk p l e rm s m as' below meth c Z a0 EL y.cls sf T h 0 0 → Go p e below s Z EL rm.cells rm.slots Q (T.setTop (entryFrame m as' maxL))) :
    ConW l Z EL sf y bytes maxL ret hs rm as' h Q := by
  refine MetFree.of_bodySF hp hisWith ?_
  intro p e s m args below meth c s₁ Bd hml0 hP hK
  obtain ⟨rfl, hZ, hh, hC, hS⟩ := hP
  have X0 : Stand p l e rm s m args below meth c s₁ [] 0 0 := Stand.of_body Bd
  have e0 : s₁.heap = h := by rw [← hh, Bd.state]; rfl
  subst hh
  obtain ⟨t, o, h1, h2, h3, h4⟩ := body p e s m below meth c s₁ Bd.bytes hml0 Bd.returns (name_of_methodNamed Bd.named Bd.method).1
    ⟨Bd.exec, Bd.notSynchronized, hEL, hE, s.vm, 0, [], X0, e0, (State.WarmedH.refl s).since 0, Nat.zero_le _, hZ, findClass_of_methodNamed Bd.named, CHrN.refl hC, fun x hx => ⟨hsf x hx, hS x hx⟩, Fr.nil _⟩
  exact ⟨t, o, h1, h2, h3, h4⟩
end KitNar
end Nar
section KitHand
variable {p : Program} {l : Launch} {e : Env} {R : Room} {s : State} {m : MethodId} {args : Array Value} {below : List Frame} {meth : Method} {c : Code} {Z : State} {a0 : Array Value} {EL : List (String × Nat)} {own : String} {sf : List Addr} {T : State} {h h' h0 : Heap} {k n k' n' rc rs pc : Nat} {Ls : Array Slot} {stk rest : List Value} {Q : Option Value → Heap → Prop} {a x : Addr}
/-- what a method with an exception table pays -/
theorem backW {y : MethodName} {bytes : ByteArray} {maxL : Nat} {ret : Option FieldType} {hs : List (Nat × Nat × Nat × Nat)} {rm : Room} {len Wt : Nat} {as' : Array Value} {vm0 : Vm} {sf' : List Addr} {Qc : Option Value → Heap → Prop}
    (hM : Nar.ConW l Z EL sf' y bytes maxL ret hs rm as' h Qc) (hZ : Z.Warmed39 vm0) (wc : (Cond.codeWith y bytes maxL ret hs).before a0 Z = true) (wz : (Cond.initialized y.cls).before a0 Z = true) (hf : rm.frames + 1 ≤ R.frames) (hl : Wt + (maxL + 11) + rm.locals ≤ R.locals) (hEL : EW Z a0 EL) (H : CHv Z EL vm0 h) (hsf : ∀ x ∈ sf', x < h.size ∧ Safe Z EL vm0 h x) :
    PayK l R p e below s args y len Wt Z EL vm0 rm as' h Qc := by
  have B0 := Back.of_freeWith (l := l) (R := R) (p := p) (e := e) (below := below) (s := s.setVm vm0) (sargs := args) (y := y) (len := len) (W := Wt) (Pre := fun A a => a = as' ∧ A.U.heap = h ∧ A.cells + rm.cells ≤ R.cells ∧ A.slots + rm.slots ≤ R.slots)
    (Post := fun A _ v B => A.U.heap.size ≤ B.U.heap.size ∧ ∃ L, (Qc v B.U.heap ∧ Fr Z.heap.size L) ∧ B.locs = A.locs ++ L ∧ B.cells = A.cells + rm.cells ∧ B.slots = A.slots + rm.slots ∧ CHr Z EL vm0 h B.U.vm B.U.heap)
    (bytes := bytes) (maxL := maxL) (ret := ret) (handlers := hs) (E := fun _ first o t L k n => k = rm.cells ∧ n = rm.slots ∧ (∃ v, o = .returned v ∧ (Qc v t.heap ∧ Fr Z.heap.size L)) ∧ CHr Z EL first.vm first.heap t.vm t.heap) hM hf hl
    (fun m meth c A a Y hp => have hU : Z.Warmed39 A.U.vm := wtrans (s := s.setVm vm0) hZ Y.warmed
      ⟨by show (Cond.and _ .tt).before a A.U = true; rw [Cond.before_and, mv hU wc]; rfl, mv hU wc, mv hU wz, hp.2.2.1, hp.2.2.2⟩)
    (fun m meth c A a g mk Y hp => ⟨hp.1, wtrans (s := s.setVm vm0) hZ Y.warmed, hp.2.1, (CHv.at Y hZ hEL H).1, fun x hx => (CHv.at Y hZ hEL H).safe (hsf x hx).1 (hsf x hx).2⟩) (fun _ _ _ _ _ _ _ _ _ => trivial)
    (fun _ first o t ⟨v, L, h1, h2, h3, h4⟩ => ⟨L, _, _, ⟨h4.1, h3.2 first rfl, h4.2.2.2⟩, rfl, rfl, ⟨v, h1, h2⟩, h3.1⟩)
    (fun m meth c A a g mk v t L k n Y hp _ hfe ⟨e1, e2, ⟨v', e3, e4⟩, e5⟩ => by
      cases e3; subst e1 e2
      refine ⟨hfe.2.2.2.1, L, e4, rfl, rfl, rfl, (CHv.at Y hZ hEL H).trans ?_⟩
      rw [← hp.2.1]; exact e5)
  intro m meth c A g ig mk a X q1 q2 q3 q4 q5 q6
  obtain ⟨v, B, y1, y2, y3, y4, y5⟩ := BackS.of_back B0 (fun A a v B q => q.1) m meth c A g ig mk a X q1 q2 q3 q4 q5 q6
  exact ⟨v, B, y1, y2, y3, y4.2, y5⟩
theorem Wk.callFH {xi y : MethodName} {index count Wt maxL : Nat} {C : String} {bytes : ByteArray} {ret : Option FieldType} {hs : List (Nat × Nat × Nat × Nat)} {rm : Room} {as' : Array Value} {sf' : List Addr} {argsL : List Value} {Qc : Option Value → Heap → Prop} (W : Wk p l e R s m args below meth c Z a0 EL own sf T h k n) (w1 : (Cond.methodLink own index xi).before a0 Z = true) (w2 : (Cond.declares xi).before a0 Z = true) (w3 : (Cond.interfaceMethod xi.cls xi.cls xi.name xi.desc).before a0 Z = true) (w5 : (Cond.selects C xi y).before a0 Z = true) (w6 : (Cond.instanceMethod y).before a0 Z = true) (w7 : (Cond.publicMethod y).before a0 Z = true) (w8 : (Cond.unhidden C xi.name xi.desc).before a0 Z = true) (w9 : (Cond.castable C xi.cls).before a0 Z = true) (w10 : (Cond.initialized y.cls).before a0 Z = true) (w4 : (Cond.codeWith y bytes maxL ret hs).before a0 Z = true) (hy : xi.cls ≠ "java/lang/invoke/MethodHandle" ∧ xi.cls ≠ "java/lang/invoke/VarHandle") (E : Exa Z h a C)
    (hM : Nar.ConW l Z EL sf' y bytes maxL ret hs rm as' h Qc) (hsf : ∀ x ∈ sf', x ∈ sf) (hf : rm.frames + 1 ≤ R.frames) (hl : Wt + (maxL + 11) + rm.locals ≤ R.locals) (ek : k + rm.cells = k') (en : n + rm.slots = n') (hk : k' ≤ R.cells) (hn : n' ≤ R.slots) (hsz : Ls.size = c.maxLocals) (hlen : ∀ sig, parseMethodDescriptor xi.desc = some sig → argsL.length = sig.parameters.length) (hst : stk = argsL.reverse ++ .ref a :: rest) (has : (.ref a :: argsL).toArray = as') (hW : (rest.map fun v => v.category).sum ≤ Wt) (hd : decode c.code pc = .ok (.invokeinterface index count, 5))
    (go : ∀ v T' h', Wk p l e R s m args below meth c Z a0 EL own sf T' h' k' n' → Qc v h' → Go p e below s Z EL rc rs Q (T'.setTop (mkF m (pc + 5) Ls (v.toList ++ rest)))) : Go p e below s Z EL rc rs Q (T.setTop (mkF m pc Ls stk)) :=
  W.callFB w1 w2 w3 w5 w6 w7 w8 w9 hy E (fun vm0 q1 q2 q3 => backW (Wt := Wt) hM q1 w4 w10 hf hl W.2.2.1 q2 q3) hsf ek en hk hn hsz hlen hst has hW hd go
end KitHand
section KitStrEq
variable {p : Program} {l : Launch} {e : Env} {R : Room} {s : State} {m : MethodId} {args : Array Value} {below : List Frame} {meth : Method} {c : Code} {Z : State} {a0 : Array Value} {EL : List (String × Nat)} {own : String} {sf : List Addr} {T : State} {h h' h0 : Heap} {k n k' n' rc rs pc : Nat} {Ls : Array Slot} {stk rest : List Value} {Q : Option Value → Heap → Prop} {a x y : Addr} {cs ds : List Int32}
theorem pdEq : parseMethodDescriptor "(Ljava/lang/Object;)Z" = some ⟨[(.object "java/lang/Object")], some .boolean⟩ := by decide +kernel
/-- s.equals(t) of two Strings -/
theorem Wk.strEq {index Wt : Nat} {z : Int32} (W : Wk p l e R s m args below meth c Z a0 EL own sf T h k n) (hws : ∀ d ∈ StrChars.Road.wordsEq, d.before a0 Z = true) (wi : (Cond.instantiable "java/lang/String" 4).before a0 Z = true) (w1 : (Cond.methodLink own index ⟨"java/lang/String", "equals", "(Ljava/lang/Object;)Z"⟩).before a0 Z = true) (w2 : (Cond.declares ⟨"java/lang/String", "equals", "(Ljava/lang/Object;)Z"⟩).before a0 Z = true) (w3 : (Cond.selects "java/lang/String" ⟨"java/lang/String", "equals", "(Ljava/lang/Object;)Z"⟩ ⟨"java/lang/String", "equals", "(Ljava/lang/Object;)Z"⟩).before a0 Z = true) (w4 : (Cond.instanceMethod ⟨"java/lang/String", "equals", "(Ljava/lang/Object;)Z"⟩).before a0 Z = true)
    (S1 : Str Z h x cs) (S2 : Str Z h y ds) (l1 : cs.length ≤ 4000) (l2 : ds.length ≤ 4000) (S : Sta Z h "java/lang/String" "COMPACT_STRINGS" "Z" (.int z)) (hz : ¬ z = 0) (hf : 2 ≤ R.frames) (hl : Wt + 28 ≤ R.locals) (hsz : Ls.size = c.maxLocals) (hW : (rest.map fun v => v.category).sum ≤ Wt) (hk : k ≤ R.cells) (hn : n ≤ R.slots) (hd : decode c.code pc = .ok (.invokevirtual index, 3))
    (go : ∀ T' r, Wk p l e R s m args below meth c Z a0 EL own sf T' h k n → r = (if cs = ds then (1 : Int32) else 0) → Go p e below s Z EL rc rs Q (T'.setTop (mkF m (pc + 3) Ls (.int r :: rest)))) : Go p e below s Z EL rc rs Q (T.setTop (mkF m pc Ls (.ref y :: .ref x :: rest))) := by
  obtain ⟨u1, u2, u3, u4, vm0, k0, L, X, rfl, r2, r3, r4, r5, r6, r7, r8⟩ := W
  obtain ⟨t, kb, cd, N2, vs, s1, s2, s3, s4, s5, s6⟩ := S1
  obtain ⟨t', kb', cd', N2', vs', e1, e2, e3, e4, e5, e6⟩ := S2
  obtain ⟨cq, kq, qa, qb, qc⟩ := isOf (s := s.setVm vm0) (T := T) r4 rfl s1
  obtain ⟨v, vm₁, ⟨T', L', k1, n1⟩, -, X', ⟨Lc, hQ, l', y', z'⟩, st⟩ := X.virtualBack u1 (y := (⟨"java/lang/String", "equals", "(Ljava/lang/Object;)Z"⟩ : MethodName)) (z := (⟨"java/lang/String", "equals", "(Ljava/lang/Object;)Z"⟩ : MethodName)) r5 (mvT (s := s.setVm vm0) r4 w1) (mvT (s := s.setVm vm0) r4 w2) (notFace_of_selects (args := #[]) (mvT (s := s.setVm vm0) r4 w3)) (mvT (s := s.setVm vm0) r4 w3) (mvT (s := s.setVm vm0) r4 w4) (by decide)
    (StrChars.Road.eqW (W := Wt) (s := s.setVm vm0) r4 hws wi s1 s2 s3 s4 s5 s6 l1 e1 e2 e3 e4 e5 e6 l2 S hz hf hl) qa qc (g := mkF m pc Ls (.ref y :: .ref x :: rest)) rfl hsz (Steps.refl _) (argsL := [.ref y]) (rest := rest) (lenOf pdEq rfl) rfl (by show 2 * 0 + _ ≤ _; omega) hd (fun _ _ => ⟨rfl, rfl, hk, hn⟩)
  dsimp only [Pt.U, Pt.locs, Pt.cells, Pt.slots] at X' l' y' z' st hQ
  subst l' y' z'
  obtain ⟨hv, rfl, e'⟩ := hQ
  rw [List.append_nil] at X'
  have K : Wk p l e R s m args below meth c Z a0 EL own sf T' T.heap _ _ := ⟨u1, u2, u3, u4, vm0, k0, L, X', e', r2, r3, r4, r5, r6, r7, r8⟩
  rcases hv with ⟨rfl, q⟩ | ⟨rfl, q⟩
  · exact Go.of st (go T' 1 K (by rw [if_pos q]))
  · exact Go.of st (go T' 0 K (by rw [if_neg q]))
end KitStrEq
theorem i2c_id {x : Int32} (h : ¬ x < 0 ∧ ¬ (65535 : Int32) < x) : x.toUInt32.toUInt16.toUInt32.toInt32 = x := by
  have h1 := c_i2c x
  apply Int32.toInt_inj.mp
  rw [Int32.lt_iff_toInt_lt, Int32.lt_iff_toInt_lt] at h
  have e : (65535 : Int32).toInt = 65535 := rfl
  have e0 : (0 : Int32).toInt = 0 := rfl
  omega
theorem nar_id {x : Int32} (h : ¬ x < 0 ∧ ¬ (65535 : Int32) < x) : nar .char x = x := i2c_id h
theorem up16 {x : Int32} (h : ¬ x < 0 ∧ ¬ (255 : Int32) < x) : ¬ x < 0 ∧ ¬ (65535 : Int32) < x := ⟨h.1, fun q => h.2 (by rw [Int32.lt_iff_toInt_lt] at q ⊢; have e1 : (65535 : Int32).toInt = 65535 := rfl; have e2 : (255 : Int32).toInt = 255 := rfl; omega)⟩
theorem and255 (x : Int32) : ¬ (x &&& (255 : Int32)) < 0 ∧ ¬ (255 : Int32) < (x &&& (255 : Int32)) := by
  have h := c_and x 255 (by decide)
  have e : (255 : Int32).toInt = 255 := rfl
  rw [Int32.lt_iff_toInt_lt, Int32.lt_iff_toInt_lt, e]
  have e0 : (0 : Int32).toInt = 0 := rfl
  omega
theorem k_mask (x : Int32) : ¬ (x &&& (255 : Int32)).toUInt32.toUInt16.toUInt32.toInt32 < 0 ∧ ¬ (255 : Int32) < (x &&& (255 : Int32)).toUInt32.toUInt16.toUInt32.toInt32 := by
  rw [i2c_mask]; exact and255 x
abbrev HW (Z : State) (a0 : Array Value) : Prop := ∀ d ∈ tables_1, d.before a0 Z = true
theorem k_sa {Z : State} {a0 : Array Value} (hw : ∀ d ∈ tables_1, d.before a0 Z = true) : ∀ a ∈ Bundle.stringAtoms, a.before a0 Z = true := fun d hd => hw d ((by decide +kernel : ∀ d ∈ Bundle.stringAtoms, d ∈ tables_1) d hd)
theorem k_words {Z : State} {a0 : Array Value} (hw : ∀ d ∈ tables_1, d.before a0 Z = true) : ∀ d ∈ StrChars.Road.words, d.before a0 Z = true := fun d hd => hw d ((by decide +kernel : ∀ d ∈ StrChars.Road.words, d ∈ tables_1) d hd)
theorem k_eq {Z : State} {a0 : Array Value} (hw : ∀ d ∈ tables_1, d.before a0 Z = true) : ∀ d ∈ StrChars.Road.wordsEq, d.before a0 Z = true := fun d hd => hw d ((by decide +kernel : ∀ d ∈ StrChars.Road.wordsEq, d ∈ tables_1) d hd)
theorem sta_exa {args : Array Value} {Z : State} {C n d K : String} (hx : (Cond.exactly (.static C n d) K).value args Z none Z [] = some true) (hi : (Cond.initializedFor C n d).before args Z = true ∨ ((Cond.initialized C).before args Z = true ∧ (Cond.laysStatic C n d).before args Z = true)) : ∃ a, Sta Z Z.heap C n d (.ref a) ∧ Exa Z Z.heap a K ∧ (Term.static C n d).eval args Z none [] Z = some (.ref a) := by
  obtain ⟨a, c', cell, k, e1, -⟩ := Cond.exactly_spec (Cond.before_iff.mpr hx)
  exact ⟨a, Sta.start e1 hi, Exa.start e1 hx, e1⟩
theorem lo8_lo8 (z : Int32) : z.toInt8.toInt32.toInt8.toInt32 = z.toInt8.toInt32 := by simp
abbrev cLI : String := "java/util/ImmutableCollections$ListItr"
abbrev cSC : String := "com/example/cuenta/cuenta/FuelSchemes$Scheme"
abbrev cL2 : String := "java/util/ImmutableCollections$List12"
abbrev cLN : String := "java/util/ImmutableCollections$ListN"
abbrev cAL : String := "java/util/ArrayList"
abbrev cFS : String := "com/example/cuenta/cuenta/FuelScheme"
abbrev cFF : String := "com/example/cuenta/cuenta/FuelSchemes"
abbrev cIC : String := "java/util/ImmutableCollections"
abbrev N0 : MethodName := ⟨"java/lang/String", "<init>", "([CIILjava/lang/Void;)V"⟩
abbrev N1 : MethodName := ⟨"java/lang/String", "<init>", "([C)V"⟩
abbrev N2 : MethodName := ⟨"com/example/cuenta/cuenta/FuelSchemesSchemePinLaw", "name", "(I)Ljava/lang/String;"⟩
abbrev N3 : MethodName := ⟨"java/lang/Record", "<init>", "()V"⟩
abbrev N4 : MethodName := ⟨"java/lang/Long", "signum", "(J)I"⟩
abbrev N5 : MethodName := ⟨"java/math/BigDecimal", "signum", "()I"⟩
abbrev N6 : MethodName := ⟨"com/example/cuenta/cuenta/Checks", "notNegative", "(Ljava/math/BigDecimal;Ljava/lang/String;)Ljava/math/BigDecimal;"⟩
abbrev N7 : MethodName := ⟨cFS, "<init>", "(Ljava/math/BigDecimal;Ljava/math/BigDecimal;Ljava/math/BigDecimal;JLjava/math/BigDecimal;)V"⟩
abbrev N8 : MethodName := ⟨"java/util/Objects", "requireNonNull", "(Ljava/lang/Object;Ljava/lang/String;)Ljava/lang/Object;"⟩
abbrev N9 : MethodName := ⟨"java/util/Objects", "requireNonNull", "(Ljava/lang/Object;)Ljava/lang/Object;"⟩
abbrev N10 : MethodName := ⟨cSC, "<init>", "(Ljava/lang/String;Lcom/example/cuenta/cuenta/FuelScheme;Ljava/util/Optional;)V"⟩
abbrev N11 : MethodName := ⟨"java/util/Optional", "empty", "()Ljava/util/Optional;"⟩
abbrev N12 : MethodName := ⟨"java/util/AbstractCollection", "<init>", "()V"⟩
abbrev N13 : MethodName := ⟨"java/util/AbstractList", "<init>", "()V"⟩
abbrev N14 : MethodName := ⟨cAL, "<init>", "()V"⟩
abbrev N15 : MethodName := ⟨"java/lang/Math", "max", "(II)I"⟩
abbrev N16 : MethodName := ⟨"java/lang/Math", "min", "(II)I"⟩
abbrev N17 : MethodName := ⟨cAL, "grow", "(I)[Ljava/lang/Object;"⟩
abbrev N18 : MethodName := ⟨cAL, "grow", "()[Ljava/lang/Object;"⟩
abbrev N19 : MethodName := ⟨cAL, "add", "(Ljava/lang/Object;[Ljava/lang/Object;I)V"⟩
abbrev N20 : MethodName := ⟨cAL, "add", "(Ljava/lang/Object;)Z"⟩
abbrev N21 : MethodName := ⟨"java/util/Arrays", "copyOf", "([Ljava/lang/Object;ILjava/lang/Class;)[Ljava/lang/Object;"⟩
abbrev N22 : MethodName := ⟨"java/util/Arrays", "copyOf", "([Ljava/lang/Object;I)[Ljava/lang/Object;"⟩
abbrev N23 : MethodName := ⟨cAL, "toArray", "()[Ljava/lang/Object;"⟩
abbrev N24 : MethodName := ⟨"java/util/ImmutableCollections$AbstractImmutableCollection", "<init>", "()V"⟩
abbrev N25 : MethodName := ⟨"java/util/ImmutableCollections$AbstractImmutableList", "<init>", "()V"⟩
abbrev N26 : MethodName := ⟨cL2, "<init>", "(Ljava/lang/Object;)V"⟩
abbrev N27 : MethodName := ⟨cL2, "<init>", "(Ljava/lang/Object;Ljava/lang/Object;)V"⟩
abbrev N28 : MethodName := ⟨cLN, "<init>", "([Ljava/lang/Object;Z)V"⟩
abbrev N29 : MethodName := ⟨cIC, "listFromArray", "([Ljava/lang/Object;)Ljava/util/List;"⟩
abbrev N30 : MethodName := ⟨"java/util/List", "of", "([Ljava/lang/Object;)Ljava/util/List;"⟩
abbrev N31 : MethodName := ⟨"java/util/List", "of", "()Ljava/util/List;"⟩
abbrev N32 : MethodName := ⟨cAL, "isEmpty", "()Z"⟩
abbrev N33 : MethodName := ⟨"java/util/Collection", "isEmpty", "()Z"⟩
abbrev N34 : MethodName := ⟨cIC, "listCopy", "(Ljava/util/Collection;)Ljava/util/List;"⟩
abbrev N35 : MethodName := ⟨"java/util/List", "copyOf", "(Ljava/util/Collection;)Ljava/util/List;"⟩
abbrev N36 : MethodName := ⟨cFF, "<init>", "(Ljava/util/List;)V"⟩
abbrev N37 : MethodName := ⟨"java/util/Collection", "toArray", "()[Ljava/lang/Object;"⟩
abbrev N38 : MethodName := ⟨cLI, "<init>", "(Ljava/util/List;I)V"⟩
abbrev N39 : MethodName := ⟨cLN, "size", "()I"⟩
abbrev N40 : MethodName := ⟨cL2, "size", "()I"⟩
abbrev N41 : MethodName := ⟨"java/util/ImmutableCollections$AbstractImmutableList", "size", "()I"⟩
abbrev N42 : MethodName := ⟨"java/util/ImmutableCollections$AbstractImmutableList", "iterator", "()Ljava/util/Iterator;"⟩
abbrev N43 : MethodName := ⟨cLI, "hasNext", "()Z"⟩
abbrev N44 : MethodName := ⟨cL2, "get", "(I)Ljava/lang/Object;"⟩
abbrev N45 : MethodName := ⟨"java/util/List", "get", "(I)Ljava/lang/Object;"⟩
abbrev N46 : MethodName := ⟨cLI, "next", "()Ljava/lang/Object;"⟩
abbrev N47 : MethodName := ⟨cLN, "get", "(I)Ljava/lang/Object;"⟩
abbrev N48 : MethodName := ⟨cSC, "name", "()Ljava/lang/String;"⟩
abbrev N49 : MethodName := ⟨"java/util/Optional", "<init>", "(Ljava/lang/Object;)V"⟩
abbrev N50 : MethodName := ⟨"java/util/Optional", "of", "(Ljava/lang/Object;)Ljava/util/Optional;"⟩
abbrev N51 : MethodName := ⟨"java/util/Optional", "isPresent", "()Z"⟩
abbrev N52 : MethodName := ⟨"java/util/Optional", "get", "()Ljava/lang/Object;"⟩
abbrev N53 : MethodName := ⟨"java/util/List", "iterator", "()Ljava/util/Iterator;"⟩
abbrev N54 : MethodName := ⟨"java/util/Iterator", "hasNext", "()Z"⟩
abbrev N55 : MethodName := ⟨cFF, "scheme", "(Ljava/lang/String;)Ljava/util/Optional;"⟩
abbrev N56 : MethodName := ⟨"java/util/Iterator", "next", "()Ljava/lang/Object;"⟩
abbrev N57 : MethodName := ⟨"java/util/List", "add", "(Ljava/lang/Object;)Z"⟩
abbrev N58 : MethodName := ⟨"java/lang/Object", "<init>", "()V"⟩
abbrev N59 : MethodName := ⟨"java/util/AbstractCollection", "size", "()I"⟩
abbrev N60 : MethodName := ⟨"java/lang/Object", "getClass", "()Ljava/lang/Class;"⟩
abbrev N61 : MethodName := ⟨"java/lang/System", "arraycopy", "(Ljava/lang/Object;ILjava/lang/Object;II)V"⟩
abbrev N62 : MethodName := ⟨"java/lang/String", "equals", "(Ljava/lang/Object;)Z"⟩
section Words
variable {Z : State} {a0 : Array Value}
theorem mg (i : Nat) {d : Cond} (h : tables_1[i]? = some d) : d ∈ tables_1 := List.mem_of_getElem? h
theorem wd0 (hw : HW Z a0) : (Cond.methodLink "com/example/cuenta/cuenta/FuelSchemesSchemePinLaw" 7 N2).before a0 Z = true := hw _ (mg 0 rfl)
theorem wd1 (hw : HW Z a0) : (Cond.static N2).before a0 Z = true := hw _ (mg 1 rfl)
theorem wd2 (hw : HW Z a0) : (Cond.initialized "com/example/cuenta/cuenta/FuelSchemesSchemePinLaw").before a0 Z = true := hw _ (mg 2 rfl)
theorem wd3 (hw : HW Z a0) : (Cond.code N2 method_3_code 3 (Option.some (FieldType.object "java/lang/String"))).before a0 Z = true := hw _ (mg 3 rfl)
theorem wd4 (hw : HW Z a0) : (Cond.classLink "com/example/cuenta/cuenta/FuelSchemesSchemePinLaw" 50 "java/lang/String").before a0 Z = true := hw _ (mg 4 rfl)
theorem wd5 (hw : HW Z a0) : (Cond.instantiable "java/lang/String" 4).before a0 Z = true := hw _ (mg 5 rfl)
theorem wd6 (hw : HW Z a0) : (Cond.initialized "java/lang/String").before a0 Z = true := hw _ (mg 6 rfl)
theorem wd7 (hw : HW Z a0) : (Cond.arrayClass FieldType.char).before a0 Z = true := hw _ (mg 7 rfl)
theorem wd8 (hw : HW Z a0) : (Cond.methodLink "com/example/cuenta/cuenta/FuelSchemesSchemePinLaw" 66 N1).before a0 Z = true := hw _ (mg 8 rfl)
theorem wd9 (hw : HW Z a0) : (Cond.instanceMethod N1).before a0 Z = true := hw _ (mg 9 rfl)
theorem wd10 (hw : HW Z a0) : (Cond.code N1 jdk_42_method_3_code 2 (Option.none : Option Jvm.ClassFile.FieldType)).before a0 Z = true := hw _ (mg 10 rfl)
theorem wd11 (hw : HW Z a0) : (Cond.methodLink "java/lang/String" 27 N0).before a0 Z = true := hw _ (mg 11 rfl)
theorem wd12 (hw : HW Z a0) : (Cond.instanceMethod N0).before a0 Z = true := hw _ (mg 12 rfl)
theorem wd14 (hw : HW Z a0) : (Cond.code N0 jdk_42_method_149_code 6 (Option.none : Option Jvm.ClassFile.FieldType)).before a0 Z = true := hw _ (mg 14 rfl)
theorem wd15 (hw : HW Z a0) : (Cond.methodLink "java/lang/String" 1 N58).before a0 Z = true := hw _ (mg 15 rfl)
theorem wd16 (hw : HW Z a0) : (Cond.instanceMethod N58).before a0 Z = true := hw _ (mg 16 rfl)
theorem wd17 (hw : HW Z a0) : (Cond.code N58 object_method_1_code 1 (Option.none : Option Jvm.ClassFile.FieldType)).before a0 Z = true := hw _ (mg 17 rfl)
theorem wd18 (hw : HW Z a0) : (Cond.stringLink "java/lang/String" 7 "").before a0 Z = true := hw _ (mg 18 rfl)
theorem wd19 (hw : HW Z a0) : (Cond.arrayClass FieldType.byte).before a0 Z = true := hw _ (mg 19 rfl)
theorem wd20 (hw : HW Z a0) : (Cond.laysFinal "java/lang/String" "java/lang/String" "value" "[B").before a0 Z = true := hw _ (mg 20 rfl)
theorem wd21 (hw : HW Z a0) : (Cond.laysFinal "java/lang/String" "java/lang/String" "coder" "B").before a0 Z = true := hw _ (mg 21 rfl)
theorem wd24 (hw : HW Z a0) : (Cond.fieldLink "java/lang/String" 9 "java/lang/String" "value" "[B").before a0 Z = true := hw _ (mg 24 rfl)
theorem wd25 (hw : HW Z a0) : (Cond.fieldLink "java/lang/String" 15 "java/lang/String" "coder" "B").before a0 Z = true := hw _ (mg 25 rfl)
theorem wd37 (hw : HW Z a0) : (Cond.classLink "com/example/cuenta/cuenta/FuelSchemesSchemePinLaw" 13 cFS).before a0 Z = true := hw _ (mg 37 rfl)
theorem wd38 (hw : HW Z a0) : (Cond.instantiable cFS 5).before a0 Z = true := hw _ (mg 38 rfl)
theorem wd39 (hw : HW Z a0) : (Cond.initialized cFS).before a0 Z = true := hw _ (mg 39 rfl)
theorem wd40 (hw : HW Z a0) : (Cond.fieldLink "com/example/cuenta/cuenta/FuelSchemesSchemePinLaw" 15 "java/math/BigDecimal" "ZERO" "Ljava/math/BigDecimal;").before a0 Z = true := hw _ (mg 40 rfl)
theorem wd41 (hw : HW Z a0) : (Cond.initialized "java/math/BigDecimal").before a0 Z = true := hw _ (mg 41 rfl)
theorem wd42 (hw : HW Z a0) : (Cond.methodLink "com/example/cuenta/cuenta/FuelSchemesSchemePinLaw" 21 N7).before a0 Z = true := hw _ (mg 42 rfl)
theorem wd43 (hw : HW Z a0) : (Cond.instanceMethod N7).before a0 Z = true := hw _ (mg 43 rfl)
theorem wd44 (hw : HW Z a0) : (Cond.code N7 prog_25_method_1_code 7 (Option.none : Option Jvm.ClassFile.FieldType)).before a0 Z = true := hw _ (mg 44 rfl)
theorem wd45 (hw : HW Z a0) : (Cond.methodLink cFS 1 N3).before a0 Z = true := hw _ (mg 45 rfl)
theorem wd46 (hw : HW Z a0) : (Cond.instanceMethod N3).before a0 Z = true := hw _ (mg 46 rfl)
theorem wd48 (hw : HW Z a0) : (Cond.initialized "java/lang/Record").before a0 Z = true := hw _ (mg 48 rfl)
theorem wd49 (hw : HW Z a0) : (Cond.code N3 jdk_30_method_1_code 1 (Option.none : Option Jvm.ClassFile.FieldType)).before a0 Z = true := hw _ (mg 49 rfl)
theorem wd50 (hw : HW Z a0) : (Cond.methodLink "java/lang/Record" 1 N58).before a0 Z = true := hw _ (mg 50 rfl)
theorem wd51 (hw : HW Z a0) : (Cond.stringLink cFS 7 "crude_oil_coefficient").before a0 Z = true := hw _ (mg 51 rfl)
theorem wd52 (hw : HW Z a0) : (Cond.methodLink cFS 9 N6).before a0 Z = true := hw _ (mg 52 rfl)
theorem wd53 (hw : HW Z a0) : (Cond.static N6).before a0 Z = true := hw _ (mg 53 rfl)
theorem wd54 (hw : HW Z a0) : (Cond.initialized "com/example/cuenta/cuenta/Checks").before a0 Z = true := hw _ (mg 54 rfl)
theorem wd55 (hw : HW Z a0) : (Cond.code N6 prog_4_method_2_code 2 (Option.some (FieldType.object "java/math/BigDecimal"))).before a0 Z = true := hw _ (mg 55 rfl)
theorem wd56 (hw : HW Z a0) : (Cond.methodLink "com/example/cuenta/cuenta/Checks" 16 N5).before a0 Z = true := hw _ (mg 56 rfl)
theorem wd57 (hw : HW Z a0) : (Cond.declares N5).before a0 Z = true := hw _ (mg 57 rfl)
theorem wd58 (hw : HW Z a0) : (Cond.instanceMethod N5).before a0 Z = true := hw _ (mg 58 rfl)
theorem wd59 (hw : HW Z a0) : (Cond.selects "java/math/BigDecimal" N5 N5).before a0 Z = true := hw _ (mg 59 rfl)
theorem wd60 (hw : HW Z a0) : (Cond.code N5 jdk_17_method_58_code 1 (Option.some FieldType.int)).before a0 Z = true := hw _ (mg 60 rfl)
theorem wd61 (hw : HW Z a0) : (Cond.fieldLink "java/math/BigDecimal" 24 "java/math/BigDecimal" "intCompact" "J").before a0 Z = true := hw _ (mg 61 rfl)
theorem wd63 (hw : HW Z a0) : (Cond.constantLong "java/math/BigDecimal" 125 (-9223372036854775808 : Int64)).before a0 Z = true := hw _ (mg 63 rfl)
theorem wd64 (hw : HW Z a0) : (Cond.methodLink "java/math/BigDecimal" 596 N4).before a0 Z = true := hw _ (mg 64 rfl)
theorem wd65 (hw : HW Z a0) : (Cond.static N4).before a0 Z = true := hw _ (mg 65 rfl)
theorem wd66 (hw : HW Z a0) : (Cond.initialized "java/lang/Long").before a0 Z = true := hw _ (mg 66 rfl)
theorem wd67 (hw : HW Z a0) : (Cond.code N4 jdk_35_method_57_code 2 (Option.some FieldType.int)).before a0 Z = true := hw _ (mg 67 rfl)
theorem wd68 (hw : HW Z a0) : (Cond.stringLink cFS 15 "lng_coefficient").before a0 Z = true := hw _ (mg 68 rfl)
theorem wd69 (hw : HW Z a0) : (Cond.stringLink cFS 17 "coal_coefficient").before a0 Z = true := hw _ (mg 69 rfl)
theorem wd70 (hw : HW Z a0) : (Cond.stringLink cFS 28 "base_unit_price").before a0 Z = true := hw _ (mg 70 rfl)
theorem wd71 (hw : HW Z a0) : (Cond.fieldLink cFS 30 cFS "crudeOilCoefficient" "Ljava/math/BigDecimal;").before a0 Z = true := hw _ (mg 71 rfl)
theorem wd72 (hw : HW Z a0) : (Cond.laysFinal cFS cFS "crudeOilCoefficient" "Ljava/math/BigDecimal;").before a0 Z = true := hw _ (mg 72 rfl)
theorem wd73 (hw : HW Z a0) : (Cond.fieldLink cFS 36 cFS "lngCoefficient" "Ljava/math/BigDecimal;").before a0 Z = true := hw _ (mg 73 rfl)
theorem wd74 (hw : HW Z a0) : (Cond.laysFinal cFS cFS "lngCoefficient" "Ljava/math/BigDecimal;").before a0 Z = true := hw _ (mg 74 rfl)
theorem wd75 (hw : HW Z a0) : (Cond.fieldLink cFS 39 cFS "coalCoefficient" "Ljava/math/BigDecimal;").before a0 Z = true := hw _ (mg 75 rfl)
theorem wd76 (hw : HW Z a0) : (Cond.laysFinal cFS cFS "coalCoefficient" "Ljava/math/BigDecimal;").before a0 Z = true := hw _ (mg 76 rfl)
theorem wd77 (hw : HW Z a0) : (Cond.fieldLink cFS 42 cFS "baseFuelPrice" "J").before a0 Z = true := hw _ (mg 77 rfl)
theorem wd78 (hw : HW Z a0) : (Cond.laysFinal cFS cFS "baseFuelPrice" "J").before a0 Z = true := hw _ (mg 78 rfl)
theorem wd79 (hw : HW Z a0) : (Cond.fieldLink cFS 46 cFS "baseUnitPrice" "Ljava/math/BigDecimal;").before a0 Z = true := hw _ (mg 79 rfl)
theorem wd80 (hw : HW Z a0) : (Cond.laysFinal cFS cFS "baseUnitPrice" "Ljava/math/BigDecimal;").before a0 Z = true := hw _ (mg 80 rfl)
theorem wd81 (hw : HW Z a0) : (Cond.classLink "com/example/cuenta/cuenta/FuelSchemesSchemePinLaw" 24 cSC).before a0 Z = true := hw _ (mg 81 rfl)
theorem wd82 (hw : HW Z a0) : (Cond.instantiable cSC 3).before a0 Z = true := hw _ (mg 82 rfl)
theorem wd83 (hw : HW Z a0) : (Cond.initialized cSC).before a0 Z = true := hw _ (mg 83 rfl)
theorem wd84 (hw : HW Z a0) : (Cond.methodLink "com/example/cuenta/cuenta/FuelSchemesSchemePinLaw" 26 N11).before a0 Z = true := hw _ (mg 84 rfl)
theorem wd85 (hw : HW Z a0) : (Cond.static N11).before a0 Z = true := hw _ (mg 85 rfl)
theorem wd86 (hw : HW Z a0) : (Cond.initialized "java/util/Optional").before a0 Z = true := hw _ (mg 86 rfl)
theorem wd87 (hw : HW Z a0) : (Cond.code N11 jdk_32_method_1_code 1 (Option.some (FieldType.object "java/util/Optional"))).before a0 Z = true := hw _ (mg 87 rfl)
theorem wd88 (hw : HW Z a0) : (Cond.fieldLink "java/util/Optional" 1 "java/util/Optional" "EMPTY" "Ljava/util/Optional;").before a0 Z = true := hw _ (mg 88 rfl)
theorem wd89 (hw : HW Z a0) : (Cond.methodLink "com/example/cuenta/cuenta/FuelSchemesSchemePinLaw" 32 N10).before a0 Z = true := hw _ (mg 89 rfl)
theorem wd90 (hw : HW Z a0) : (Cond.instanceMethod N10).before a0 Z = true := hw _ (mg 90 rfl)
theorem wd91 (hw : HW Z a0) : (Cond.code N10 prog_27_method_1_code 4 (Option.none : Option Jvm.ClassFile.FieldType)).before a0 Z = true := hw _ (mg 91 rfl)
theorem wd92 (hw : HW Z a0) : (Cond.methodLink cSC 1 N3).before a0 Z = true := hw _ (mg 92 rfl)
theorem wd93 (hw : HW Z a0) : (Cond.stringLink cSC 7 "name").before a0 Z = true := hw _ (mg 93 rfl)
theorem wd94 (hw : HW Z a0) : (Cond.methodLink cSC 9 N8).before a0 Z = true := hw _ (mg 94 rfl)
theorem wd95 (hw : HW Z a0) : (Cond.static N8).before a0 Z = true := hw _ (mg 95 rfl)
theorem wd96 (hw : HW Z a0) : (Cond.initialized "java/util/Objects").before a0 Z = true := hw _ (mg 96 rfl)
theorem wd97 (hw : HW Z a0) : (Cond.code N8 jdk_31_method_11_code 2 (Option.some (FieldType.object "java/lang/Object"))).before a0 Z = true := hw _ (mg 97 rfl)
theorem wd98 (hw : HW Z a0) : (Cond.stringLink cSC 15 "fuelCost").before a0 Z = true := hw _ (mg 98 rfl)
theorem wd99 (hw : HW Z a0) : (Cond.stringLink cSC 17 "island").before a0 Z = true := hw _ (mg 99 rfl)
theorem wd100 (hw : HW Z a0) : (Cond.fieldLink cSC 19 cSC "name" "Ljava/lang/String;").before a0 Z = true := hw _ (mg 100 rfl)
theorem wd101 (hw : HW Z a0) : (Cond.laysFinal cSC cSC "name" "Ljava/lang/String;").before a0 Z = true := hw _ (mg 101 rfl)
theorem wd102 (hw : HW Z a0) : (Cond.fieldLink cSC 24 cSC "fuelCost" "Lcom/example/cuenta/cuenta/FuelScheme;").before a0 Z = true := hw _ (mg 102 rfl)
theorem wd103 (hw : HW Z a0) : (Cond.laysFinal cSC cSC "fuelCost" "Lcom/example/cuenta/cuenta/FuelScheme;").before a0 Z = true := hw _ (mg 103 rfl)
theorem wd104 (hw : HW Z a0) : (Cond.fieldLink cSC 27 cSC "island" "Ljava/util/Optional;").before a0 Z = true := hw _ (mg 104 rfl)
theorem wd105 (hw : HW Z a0) : (Cond.laysFinal cSC cSC "island" "Ljava/util/Optional;").before a0 Z = true := hw _ (mg 105 rfl)
theorem wd106 (hw : HW Z a0) : (Cond.classLink "com/example/cuenta/cuenta/FuelSchemesSchemePinLaw" 35 cAL).before a0 Z = true := hw _ (mg 106 rfl)
theorem wd107 (hw : HW Z a0) : (Cond.instantiable cAL 3).before a0 Z = true := hw _ (mg 107 rfl)
theorem wd108 (hw : HW Z a0) : (Cond.initialized cAL).before a0 Z = true := hw _ (mg 108 rfl)
theorem wd109 (hw : HW Z a0) : (Cond.methodLink "com/example/cuenta/cuenta/FuelSchemesSchemePinLaw" 37 N14).before a0 Z = true := hw _ (mg 109 rfl)
theorem wd110 (hw : HW Z a0) : (Cond.instanceMethod N14).before a0 Z = true := hw _ (mg 110 rfl)
theorem wd111 (hw : HW Z a0) : (Cond.code N14 jdk_38_method_2_code 1 (Option.none : Option Jvm.ClassFile.FieldType)).before a0 Z = true := hw _ (mg 111 rfl)
theorem wd112 (hw : HW Z a0) : (Cond.methodLink cAL 1 N13).before a0 Z = true := hw _ (mg 112 rfl)
theorem wd113 (hw : HW Z a0) : (Cond.instanceMethod N13).before a0 Z = true := hw _ (mg 113 rfl)
theorem wd116 (hw : HW Z a0) : (Cond.initialized "java/util/AbstractList").before a0 Z = true := hw _ (mg 116 rfl)
theorem wd117 (hw : HW Z a0) : (Cond.code N13 jdk_39_method_1_code 1 (Option.none : Option Jvm.ClassFile.FieldType)).before a0 Z = true := hw _ (mg 117 rfl)
theorem wd118 (hw : HW Z a0) : (Cond.methodLink "java/util/AbstractList" 1 N12).before a0 Z = true := hw _ (mg 118 rfl)
theorem wd119 (hw : HW Z a0) : (Cond.instanceMethod N12).before a0 Z = true := hw _ (mg 119 rfl)
theorem wd122 (hw : HW Z a0) : (Cond.initialized "java/util/AbstractCollection").before a0 Z = true := hw _ (mg 122 rfl)
theorem wd123 (hw : HW Z a0) : (Cond.code N12 jdk_22_method_1_code 1 (Option.none : Option Jvm.ClassFile.FieldType)).before a0 Z = true := hw _ (mg 123 rfl)
theorem wd124 (hw : HW Z a0) : (Cond.methodLink "java/util/AbstractCollection" 1 N58).before a0 Z = true := hw _ (mg 124 rfl)
theorem wd125 (hw : HW Z a0) : (Cond.fieldLink "java/util/AbstractList" 7 "java/util/AbstractList" "modCount" "I").before a0 Z = true := hw _ (mg 125 rfl)
theorem wd126 (hw : HW Z a0) : (Cond.lays cAL "java/util/AbstractList" "modCount" "I").before a0 Z = true := hw _ (mg 126 rfl)
theorem wd127 (hw : HW Z a0) : (Cond.fieldLink cAL 39 cAL "DEFAULTCAPACITY_EMPTY_ELEMENTDATA" "[Ljava/lang/Object;").before a0 Z = true := hw _ (mg 127 rfl)
theorem wd128 (hw : HW Z a0) : (Cond.fieldLink cAL 9 cAL "elementData" "[Ljava/lang/Object;").before a0 Z = true := hw _ (mg 128 rfl)
theorem wd129 (hw : HW Z a0) : (Cond.lays cAL cAL "elementData" "[Ljava/lang/Object;").before a0 Z = true := hw _ (mg 129 rfl)
theorem wd130 (hw : HW Z a0) : (Cond.classLink "com/example/cuenta/cuenta/FuelSchemesSchemePinLaw" 44 cFF).before a0 Z = true := hw _ (mg 130 rfl)
theorem wd131 (hw : HW Z a0) : (Cond.instantiable cFF 1).before a0 Z = true := hw _ (mg 131 rfl)
theorem wd132 (hw : HW Z a0) : (Cond.initialized cFF).before a0 Z = true := hw _ (mg 132 rfl)
theorem wd133 (hw : HW Z a0) : (Cond.methodLink "com/example/cuenta/cuenta/FuelSchemesSchemePinLaw" 46 N36).before a0 Z = true := hw _ (mg 133 rfl)
theorem wd134 (hw : HW Z a0) : (Cond.instanceMethod N36).before a0 Z = true := hw _ (mg 134 rfl)
theorem wd135 (hw : HW Z a0) : (Cond.code N36 prog_26_method_1_code 2 (Option.none : Option Jvm.ClassFile.FieldType)).before a0 Z = true := hw _ (mg 135 rfl)
theorem wd136 (hw : HW Z a0) : (Cond.methodLink cFF 1 N3).before a0 Z = true := hw _ (mg 136 rfl)
theorem wd137 (hw : HW Z a0) : (Cond.methodLink cFF 7 N35).before a0 Z = true := hw _ (mg 137 rfl)
theorem wd138 (hw : HW Z a0) : (Cond.static N35).before a0 Z = true := hw _ (mg 138 rfl)
theorem wd139 (hw : HW Z a0) : (Cond.initialized "java/util/List").before a0 Z = true := hw _ (mg 139 rfl)
theorem wd140 (hw : HW Z a0) : (Cond.code N35 jdk_40_method_48_code 1 (Option.some (FieldType.object "java/util/List"))).before a0 Z = true := hw _ (mg 140 rfl)
theorem wd141 (hw : HW Z a0) : (Cond.methodLink "java/util/List" 112 N34).before a0 Z = true := hw _ (mg 141 rfl)
theorem wd142 (hw : HW Z a0) : (Cond.static N34).before a0 Z = true := hw _ (mg 142 rfl)
theorem wd143 (hw : HW Z a0) : (Cond.initialized cIC).before a0 Z = true := hw _ (mg 143 rfl)
theorem wd144 (hw : HW Z a0) : (Cond.code N34 jdk_56_method_3_code 2 (Option.some (FieldType.object "java/util/List"))).before a0 Z = true := hw _ (mg 144 rfl)
theorem wd145 (hw : HW Z a0) : (Cond.classLink cIC 10 cL2).before a0 Z = true := hw _ (mg 145 rfl)
theorem wd146 (hw : HW Z a0) : (Cond.superclass cAL "java/util/AbstractList").before a0 Z = true := hw _ (mg 146 rfl)
theorem wd147 (hw : HW Z a0) : (Cond.superclass "java/util/AbstractList" "java/util/AbstractCollection").before a0 Z = true := hw _ (mg 147 rfl)
theorem wd148 (hw : HW Z a0) : (Cond.superclass "java/util/AbstractCollection" "java/lang/Object").before a0 Z = true := hw _ (mg 148 rfl)
theorem wd149 (hw : HW Z a0) : (Cond.noSuperclass "java/lang/Object").before a0 Z = true := hw _ (mg 149 rfl)
theorem wd150 (hw : HW Z a0) : (Cond.classLink cIC 12 cLN).before a0 Z = true := hw _ (mg 150 rfl)
theorem wd151 (hw : HW Z a0) : (Cond.methodLink cIC 20 N33).before a0 Z = true := hw _ (mg 151 rfl)
theorem wd152 (hw : HW Z a0) : (Cond.declares N33).before a0 Z = true := hw _ (mg 152 rfl)
theorem wd153 (hw : HW Z a0) : (Cond.interfaceMethod "java/util/Collection" "java/util/Collection" "isEmpty" "()Z").before a0 Z = true := hw _ (mg 153 rfl)
theorem wd154 (hw : HW Z a0) : (Cond.selects cAL N33 N32).before a0 Z = true := hw _ (mg 154 rfl)
theorem wd155 (hw : HW Z a0) : (Cond.instanceMethod N32).before a0 Z = true := hw _ (mg 155 rfl)
theorem wd156 (hw : HW Z a0) : (Cond.publicMethod N32).before a0 Z = true := hw _ (mg 156 rfl)
theorem wd157 (hw : HW Z a0) : (Cond.unhidden cAL "isEmpty" "()Z").before a0 Z = true := hw _ (mg 157 rfl)
theorem wd158 (hw : HW Z a0) : (Cond.castable cAL "java/util/Collection").before a0 Z = true := hw _ (mg 158 rfl)
theorem wd159 (hw : HW Z a0) : (Cond.code N32 jdk_38_method_9_code 1 (Option.some FieldType.boolean)).before a0 Z = true := hw _ (mg 159 rfl)
theorem wd160 (hw : HW Z a0) : (Cond.fieldLink cAL 48 cAL "size" "I").before a0 Z = true := hw _ (mg 160 rfl)
theorem wd161 (hw : HW Z a0) : (Cond.lays cAL cAL "size" "I").before a0 Z = true := hw _ (mg 161 rfl)
theorem wd162 (hw : HW Z a0) : (Cond.methodLink cIC 26 N31).before a0 Z = true := hw _ (mg 162 rfl)
theorem wd163 (hw : HW Z a0) : (Cond.static N31).before a0 Z = true := hw _ (mg 163 rfl)
theorem wd164 (hw : HW Z a0) : (Cond.code N31 jdk_40_method_36_code 0 (Option.some (FieldType.object "java/util/List"))).before a0 Z = true := hw _ (mg 164 rfl)
theorem wd165 (hw : HW Z a0) : (Cond.fieldLink "java/util/List" 90 cIC "EMPTY_LIST" "Ljava/util/ImmutableCollections$ListN;").before a0 Z = true := hw _ (mg 165 rfl)
theorem wd166 (hw : HW Z a0) : (Cond.fieldLink cFF 13 cFF "schemes" "Ljava/util/List;").before a0 Z = true := hw _ (mg 166 rfl)
theorem wd167 (hw : HW Z a0) : (Cond.laysFinal cFF cFF "schemes" "Ljava/util/List;").before a0 Z = true := hw _ (mg 167 rfl)
theorem wd168 (hw : HW Z a0) : (Cond.methodLink "com/example/cuenta/cuenta/FuelSchemesSchemePinLaw" 54 N55).before a0 Z = true := hw _ (mg 168 rfl)
theorem wd169 (hw : HW Z a0) : (Cond.declares N55).before a0 Z = true := hw _ (mg 169 rfl)
theorem wd170 (hw : HW Z a0) : (Cond.instanceMethod N55).before a0 Z = true := hw _ (mg 170 rfl)
theorem wd171 (hw : HW Z a0) : (Cond.selects cFF N55 N55).before a0 Z = true := hw _ (mg 171 rfl)
theorem wd172 (hw : HW Z a0) : (Cond.code N55 prog_26_method_2_code 4 (Option.some (FieldType.object "java/util/Optional"))).before a0 Z = true := hw _ (mg 172 rfl)
theorem wd173 (hw : HW Z a0) : (Cond.methodLink cFF 19 N53).before a0 Z = true := hw _ (mg 173 rfl)
theorem wd174 (hw : HW Z a0) : (Cond.declares N53).before a0 Z = true := hw _ (mg 174 rfl)
theorem wd175 (hw : HW Z a0) : (Cond.interfaceMethod "java/util/List" "java/util/List" "iterator" "()Ljava/util/Iterator;").before a0 Z = true := hw _ (mg 175 rfl)
theorem wd176 (hw : HW Z a0) : (Cond.selects cLN N53 N42).before a0 Z = true := hw _ (mg 176 rfl)
theorem wd177 (hw : HW Z a0) : (Cond.instanceMethod N42).before a0 Z = true := hw _ (mg 177 rfl)
theorem wd178 (hw : HW Z a0) : (Cond.publicMethod N42).before a0 Z = true := hw _ (mg 178 rfl)
theorem wd179 (hw : HW Z a0) : (Cond.unhidden cLN "iterator" "()Ljava/util/Iterator;").before a0 Z = true := hw _ (mg 179 rfl)
theorem wd180 (hw : HW Z a0) : (Cond.castable cLN "java/util/List").before a0 Z = true := hw _ (mg 180 rfl)
theorem wd181 (hw : HW Z a0) : (Cond.initialized "java/util/ImmutableCollections$AbstractImmutableList").before a0 Z = true := hw _ (mg 181 rfl)
theorem wd182 (hw : HW Z a0) : (Cond.code N42 jdk_46_method_10_code 1 (Option.some (FieldType.object "java/util/Iterator"))).before a0 Z = true := hw _ (mg 182 rfl)
theorem wd183 (hw : HW Z a0) : (Cond.classLink "java/util/ImmutableCollections$AbstractImmutableList" 61 cLI).before a0 Z = true := hw _ (mg 183 rfl)
theorem wd184 (hw : HW Z a0) : (Cond.instantiable cLI 4).before a0 Z = true := hw _ (mg 184 rfl)
theorem wd185 (hw : HW Z a0) : (Cond.initialized cLI).before a0 Z = true := hw _ (mg 185 rfl)
theorem wd186 (hw : HW Z a0) : (Cond.methodLink "java/util/ImmutableCollections$AbstractImmutableList" 13 N41).before a0 Z = true := hw _ (mg 186 rfl)
theorem wd187 (hw : HW Z a0) : (Cond.sameMethod "java/util/ImmutableCollections$AbstractImmutableList" "java/util/AbstractCollection" "size" "()I").before a0 Z = true := hw _ (mg 187 rfl)
theorem wd188 (hw : HW Z a0) : (Cond.declares N59).before a0 Z = true := hw _ (mg 188 rfl)
theorem wd189 (hw : HW Z a0) : (Cond.selects cLN N41 N39).before a0 Z = true := hw _ (mg 189 rfl)
theorem wd190 (hw : HW Z a0) : (Cond.instanceMethod N39).before a0 Z = true := hw _ (mg 190 rfl)
theorem wd191 (hw : HW Z a0) : (Cond.initialized cLN).before a0 Z = true := hw _ (mg 191 rfl)
theorem wd192 (hw : HW Z a0) : (Cond.code N39 jdk_45_method_3_code 1 (Option.some FieldType.int)).before a0 Z = true := hw _ (mg 192 rfl)
theorem wd193 (hw : HW Z a0) : (Cond.fieldLink cLN 7 cLN "elements" "[Ljava/lang/Object;").before a0 Z = true := hw _ (mg 193 rfl)
theorem wd194 (hw : HW Z a0) : (Cond.laysFinal cLN cLN "elements" "[Ljava/lang/Object;").before a0 Z = true := hw _ (mg 194 rfl)
theorem wd195 (hw : HW Z a0) : (Cond.methodLink "java/util/ImmutableCollections$AbstractImmutableList" 63 N38).before a0 Z = true := hw _ (mg 195 rfl)
theorem wd196 (hw : HW Z a0) : (Cond.instanceMethod N38).before a0 Z = true := hw _ (mg 196 rfl)
theorem wd198 (hw : HW Z a0) : (Cond.code N38 jdk_53_method_1_code 3 (Option.none : Option Jvm.ClassFile.FieldType)).before a0 Z = true := hw _ (mg 198 rfl)
theorem wd199 (hw : HW Z a0) : (Cond.methodLink cLI 1 N58).before a0 Z = true := hw _ (mg 199 rfl)
theorem wd200 (hw : HW Z a0) : (Cond.fieldLink cLI 7 cLI "list" "Ljava/util/List;").before a0 Z = true := hw _ (mg 200 rfl)
theorem wd201 (hw : HW Z a0) : (Cond.laysFinal cLI cLI "list" "Ljava/util/List;").before a0 Z = true := hw _ (mg 201 rfl)
theorem wd202 (hw : HW Z a0) : (Cond.fieldLink cLI 13 cLI "size" "I").before a0 Z = true := hw _ (mg 202 rfl)
theorem wd203 (hw : HW Z a0) : (Cond.laysFinal cLI cLI "size" "I").before a0 Z = true := hw _ (mg 203 rfl)
theorem wd204 (hw : HW Z a0) : (Cond.fieldLink cLI 17 cLI "cursor" "I").before a0 Z = true := hw _ (mg 204 rfl)
theorem wd205 (hw : HW Z a0) : (Cond.lays cLI cLI "cursor" "I").before a0 Z = true := hw _ (mg 205 rfl)
theorem wd206 (hw : HW Z a0) : (Cond.fieldLink cLI 20 cLI "isListIterator" "Z").before a0 Z = true := hw _ (mg 206 rfl)
theorem wd207 (hw : HW Z a0) : (Cond.laysFinal cLI cLI "isListIterator" "Z").before a0 Z = true := hw _ (mg 207 rfl)
theorem wd208 (hw : HW Z a0) : (Cond.methodLink cFF 23 N54).before a0 Z = true := hw _ (mg 208 rfl)
theorem wd209 (hw : HW Z a0) : (Cond.declares N54).before a0 Z = true := hw _ (mg 209 rfl)
theorem wd210 (hw : HW Z a0) : (Cond.interfaceMethod "java/util/Iterator" "java/util/Iterator" "hasNext" "()Z").before a0 Z = true := hw _ (mg 210 rfl)
theorem wd211 (hw : HW Z a0) : (Cond.selects cLI N54 N43).before a0 Z = true := hw _ (mg 211 rfl)
theorem wd212 (hw : HW Z a0) : (Cond.instanceMethod N43).before a0 Z = true := hw _ (mg 212 rfl)
theorem wd213 (hw : HW Z a0) : (Cond.publicMethod N43).before a0 Z = true := hw _ (mg 213 rfl)
theorem wd214 (hw : HW Z a0) : (Cond.unhidden cLI "hasNext" "()Z").before a0 Z = true := hw _ (mg 214 rfl)
theorem wd215 (hw : HW Z a0) : (Cond.castable cLI "java/util/Iterator").before a0 Z = true := hw _ (mg 215 rfl)
theorem wd216 (hw : HW Z a0) : (Cond.code N43 jdk_53_method_3_code 1 (Option.some FieldType.boolean)).before a0 Z = true := hw _ (mg 216 rfl)
theorem wd217 (hw : HW Z a0) : (Cond.methodLink cFF 51 N11).before a0 Z = true := hw _ (mg 217 rfl)
theorem wd218 (hw : HW Z a0) : (Cond.methodLink "com/example/cuenta/cuenta/FuelSchemesSchemePinLaw" 58 N51).before a0 Z = true := hw _ (mg 218 rfl)
theorem wd219 (hw : HW Z a0) : (Cond.declares N51).before a0 Z = true := hw _ (mg 219 rfl)
theorem wd220 (hw : HW Z a0) : (Cond.instanceMethod N51).before a0 Z = true := hw _ (mg 220 rfl)
theorem wd221 (hw : HW Z a0) : (Cond.selects "java/util/Optional" N51 N51).before a0 Z = true := hw _ (mg 221 rfl)
theorem wd222 (hw : HW Z a0) : (Cond.code N51 jdk_32_method_6_code 1 (Option.some FieldType.boolean)).before a0 Z = true := hw _ (mg 222 rfl)
theorem wd223 (hw : HW Z a0) : (Cond.fieldLink "java/util/Optional" 13 "java/util/Optional" "value" "Ljava/lang/Object;").before a0 Z = true := hw _ (mg 223 rfl)
theorem wd224 (hw : HW Z a0) : (Cond.laysFinal "java/util/Optional" "java/util/Optional" "value" "Ljava/lang/Object;").before a0 Z = true := hw _ (mg 224 rfl)
theorem wd225 (hw : HW Z a0) : (Cond.methodLink "com/example/cuenta/cuenta/FuelSchemesSchemePinLaw" 38 N57).before a0 Z = true := hw _ (mg 225 rfl)
theorem wd226 (hw : HW Z a0) : (Cond.declares N57).before a0 Z = true := hw _ (mg 226 rfl)
theorem wd227 (hw : HW Z a0) : (Cond.interfaceMethod "java/util/List" "java/util/List" "add" "(Ljava/lang/Object;)Z").before a0 Z = true := hw _ (mg 227 rfl)
theorem wd228 (hw : HW Z a0) : (Cond.selects cAL N57 N20).before a0 Z = true := hw _ (mg 228 rfl)
theorem wd229 (hw : HW Z a0) : (Cond.instanceMethod N20).before a0 Z = true := hw _ (mg 229 rfl)
theorem wd230 (hw : HW Z a0) : (Cond.publicMethod N20).before a0 Z = true := hw _ (mg 230 rfl)
theorem wd231 (hw : HW Z a0) : (Cond.unhidden cAL "add" "(Ljava/lang/Object;)Z").before a0 Z = true := hw _ (mg 231 rfl)
theorem wd232 (hw : HW Z a0) : (Cond.castable cAL "java/util/List").before a0 Z = true := hw _ (mg 232 rfl)
theorem wd233 (hw : HW Z a0) : (Cond.code N20 jdk_38_method_25_code 2 (Option.some FieldType.boolean)).before a0 Z = true := hw _ (mg 233 rfl)
theorem wd234 (hw : HW Z a0) : (Cond.fieldLink cAL 63 cAL "modCount" "I").before a0 Z = true := hw _ (mg 234 rfl)
theorem wd235 (hw : HW Z a0) : (Cond.sameField cAL "java/util/AbstractList" "modCount" "I").before a0 Z = true := hw _ (mg 235 rfl)
theorem wd236 (hw : HW Z a0) : (Cond.methodLink cAL 131 N19).before a0 Z = true := hw _ (mg 236 rfl)
theorem wd237 (hw : HW Z a0) : (Cond.instanceMethod N19).before a0 Z = true := hw _ (mg 237 rfl)
theorem wd238 (hw : HW Z a0) : (Cond.privateMethod N19).before a0 Z = true := hw _ (mg 238 rfl)
theorem wd239 (hw : HW Z a0) : (Cond.selects cAL N19 N19).before a0 Z = true := hw _ (mg 239 rfl)
theorem wd240 (hw : HW Z a0) : (Cond.code N19 jdk_38_method_24_code 4 (Option.none : Option Jvm.ClassFile.FieldType)).before a0 Z = true := hw _ (mg 240 rfl)
theorem wd241 (hw : HW Z a0) : (Cond.methodLink cAL 129 N18).before a0 Z = true := hw _ (mg 241 rfl)
theorem wd242 (hw : HW Z a0) : (Cond.instanceMethod N18).before a0 Z = true := hw _ (mg 242 rfl)
theorem wd243 (hw : HW Z a0) : (Cond.privateMethod N18).before a0 Z = true := hw _ (mg 243 rfl)
theorem wd244 (hw : HW Z a0) : (Cond.selects cAL N18 N18).before a0 Z = true := hw _ (mg 244 rfl)
theorem wd245 (hw : HW Z a0) : (Cond.code N18 jdk_38_method_7_code 1 (Option.some (FieldType.array (FieldType.object "java/lang/Object")))).before a0 Z = true := hw _ (mg 245 rfl)
theorem wd246 (hw : HW Z a0) : (Cond.methodLink cAL 69 N17).before a0 Z = true := hw _ (mg 246 rfl)
theorem wd247 (hw : HW Z a0) : (Cond.instanceMethod N17).before a0 Z = true := hw _ (mg 247 rfl)
theorem wd248 (hw : HW Z a0) : (Cond.privateMethod N17).before a0 Z = true := hw _ (mg 248 rfl)
theorem wd249 (hw : HW Z a0) : (Cond.selects cAL N17 N17).before a0 Z = true := hw _ (mg 249 rfl)
theorem wd250 (hw : HW Z a0) : (Cond.code N17 jdk_38_method_6_code 4 (Option.some (FieldType.array (FieldType.object "java/lang/Object")))).before a0 Z = true := hw _ (mg 250 rfl)
theorem wd251 (hw : HW Z a0) : (Cond.methodLink cAL 79 N15).before a0 Z = true := hw _ (mg 251 rfl)
theorem wd252 (hw : HW Z a0) : (Cond.static N15).before a0 Z = true := hw _ (mg 252 rfl)
theorem wd253 (hw : HW Z a0) : (Cond.initialized "java/lang/Math").before a0 Z = true := hw _ (mg 253 rfl)
theorem wd254 (hw : HW Z a0) : (Cond.code N15 jdk_29_method_65_code 2 (Option.some FieldType.int)).before a0 Z = true := hw _ (mg 254 rfl)
theorem wd255 (hw : HW Z a0) : (Cond.classLink cAL 7 "java/lang/Object").before a0 Z = true := hw _ (mg 255 rfl)
theorem wd256 (hw : HW Z a0) : (Cond.arrayOver (FieldType.object "java/lang/Object")).before a0 Z = true := hw _ (mg 256 rfl)
theorem wd257 (hw : HW Z a0) : (Cond.castable cSC "java/lang/Object").before a0 Z = true := hw _ (mg 257 rfl)
theorem wd258 (hw : HW Z a0) : (Cond.methodLink cIC 30 N37).before a0 Z = true := hw _ (mg 258 rfl)
theorem wd259 (hw : HW Z a0) : (Cond.declares N37).before a0 Z = true := hw _ (mg 259 rfl)
theorem wd260 (hw : HW Z a0) : (Cond.interfaceMethod "java/util/Collection" "java/util/Collection" "toArray" "()[Ljava/lang/Object;").before a0 Z = true := hw _ (mg 260 rfl)
theorem wd261 (hw : HW Z a0) : (Cond.selects cAL N37 N23).before a0 Z = true := hw _ (mg 261 rfl)
theorem wd262 (hw : HW Z a0) : (Cond.instanceMethod N23).before a0 Z = true := hw _ (mg 262 rfl)
theorem wd263 (hw : HW Z a0) : (Cond.publicMethod N23).before a0 Z = true := hw _ (mg 263 rfl)
theorem wd264 (hw : HW Z a0) : (Cond.unhidden cAL "toArray" "()[Ljava/lang/Object;").before a0 Z = true := hw _ (mg 264 rfl)
theorem wd265 (hw : HW Z a0) : (Cond.code N23 jdk_38_method_16_code 1 (Option.some (FieldType.array (FieldType.object "java/lang/Object")))).before a0 Z = true := hw _ (mg 265 rfl)
theorem wd266 (hw : HW Z a0) : (Cond.methodLink cAL 66 N22).before a0 Z = true := hw _ (mg 266 rfl)
theorem wd267 (hw : HW Z a0) : (Cond.static N22).before a0 Z = true := hw _ (mg 267 rfl)
theorem wd268 (hw : HW Z a0) : (Cond.initialized "java/util/Arrays").before a0 Z = true := hw _ (mg 268 rfl)
theorem wd269 (hw : HW Z a0) : (Cond.code N22 jdk_65_method_119_code 2 (Option.some (FieldType.array (FieldType.object "java/lang/Object")))).before a0 Z = true := hw _ (mg 269 rfl)
theorem wd270 (hw : HW Z a0) : (Cond.methodLink "java/util/Arrays" 86 N60).before a0 Z = true := hw _ (mg 270 rfl)
theorem wd271 (hw : HW Z a0) : (Cond.declares N60).before a0 Z = true := hw _ (mg 271 rfl)
theorem wd272 (hw : HW Z a0) : (Cond.instanceMethod N60).before a0 Z = true := hw _ (mg 272 rfl)
theorem wd273 (hw : HW Z a0) : (Cond.selects "[Ljava/lang/Object;" N60 N60).before a0 Z = true := hw _ (mg 273 rfl)
theorem wd274 (hw : HW Z a0) : (Cond.native N60).before a0 Z = true := hw _ (mg 274 rfl)
theorem wd276 (hw : HW Z a0) : (Cond.methodLink "java/util/Arrays" 300 N21).before a0 Z = true := hw _ (mg 276 rfl)
theorem wd277 (hw : HW Z a0) : (Cond.static N21).before a0 Z = true := hw _ (mg 277 rfl)
theorem wd278 (hw : HW Z a0) : (Cond.code N21 jdk_65_method_120_code 4 (Option.some (FieldType.array (FieldType.object "java/lang/Object")))).before a0 Z = true := hw _ (mg 278 rfl)
theorem wd279 (hw : HW Z a0) : (Cond.classLink "java/util/Arrays" 110 "[Ljava/lang/Object;").before a0 Z = true := hw _ (mg 279 rfl)
theorem wd280 (hw : HW Z a0) : (Cond.classLink "java/util/Arrays" 2 "java/lang/Object").before a0 Z = true := hw _ (mg 280 rfl)
theorem wd281 (hw : HW Z a0) : (Cond.methodLink "java/util/Arrays" 304 N16).before a0 Z = true := hw _ (mg 281 rfl)
theorem wd282 (hw : HW Z a0) : (Cond.static N16).before a0 Z = true := hw _ (mg 282 rfl)
theorem wd283 (hw : HW Z a0) : (Cond.code N16 jdk_29_method_69_code 2 (Option.some FieldType.int)).before a0 Z = true := hw _ (mg 283 rfl)
theorem wd284 (hw : HW Z a0) : (Cond.methodLink "java/util/Arrays" 150 N61).before a0 Z = true := hw _ (mg 284 rfl)
theorem wd285 (hw : HW Z a0) : (Cond.static N61).before a0 Z = true := hw _ (mg 285 rfl)
theorem wd286 (hw : HW Z a0) : (Cond.initialized "java/lang/System").before a0 Z = true := hw _ (mg 286 rfl)
theorem wd287 (hw : HW Z a0) : (Cond.native N61).before a0 Z = true := hw _ (mg 287 rfl)
theorem wd288 (hw : HW Z a0) : (Cond.methodLink cIC 34 N30).before a0 Z = true := hw _ (mg 288 rfl)
theorem wd289 (hw : HW Z a0) : (Cond.static N30).before a0 Z = true := hw _ (mg 289 rfl)
theorem wd290 (hw : HW Z a0) : (Cond.code N30 jdk_40_method_47_code 2 (Option.some (FieldType.object "java/util/List"))).before a0 Z = true := hw _ (mg 290 rfl)
theorem wd291 (hw : HW Z a0) : (Cond.classLink "java/util/List" 96 cL2).before a0 Z = true := hw _ (mg 291 rfl)
theorem wd292 (hw : HW Z a0) : (Cond.instantiable cL2 2).before a0 Z = true := hw _ (mg 292 rfl)
theorem wd293 (hw : HW Z a0) : (Cond.initialized cL2).before a0 Z = true := hw _ (mg 293 rfl)
theorem wd294 (hw : HW Z a0) : (Cond.methodLink "java/util/List" 98 N26).before a0 Z = true := hw _ (mg 294 rfl)
theorem wd295 (hw : HW Z a0) : (Cond.instanceMethod N26).before a0 Z = true := hw _ (mg 295 rfl)
theorem wd297 (hw : HW Z a0) : (Cond.code N26 jdk_44_method_1_code 2 (Option.none : Option Jvm.ClassFile.FieldType)).before a0 Z = true := hw _ (mg 297 rfl)
theorem wd298 (hw : HW Z a0) : (Cond.methodLink cL2 1 N25).before a0 Z = true := hw _ (mg 298 rfl)
theorem wd299 (hw : HW Z a0) : (Cond.instanceMethod N25).before a0 Z = true := hw _ (mg 299 rfl)
theorem wd302 (hw : HW Z a0) : (Cond.code N25 jdk_46_method_1_code 1 (Option.none : Option Jvm.ClassFile.FieldType)).before a0 Z = true := hw _ (mg 302 rfl)
theorem wd303 (hw : HW Z a0) : (Cond.methodLink "java/util/ImmutableCollections$AbstractImmutableList" 1 N24).before a0 Z = true := hw _ (mg 303 rfl)
theorem wd304 (hw : HW Z a0) : (Cond.instanceMethod N24).before a0 Z = true := hw _ (mg 304 rfl)
theorem wd307 (hw : HW Z a0) : (Cond.initialized "java/util/ImmutableCollections$AbstractImmutableCollection").before a0 Z = true := hw _ (mg 307 rfl)
theorem wd308 (hw : HW Z a0) : (Cond.code N24 jdk_47_method_1_code 1 (Option.none : Option Jvm.ClassFile.FieldType)).before a0 Z = true := hw _ (mg 308 rfl)
theorem wd309 (hw : HW Z a0) : (Cond.methodLink "java/util/ImmutableCollections$AbstractImmutableCollection" 1 N12).before a0 Z = true := hw _ (mg 309 rfl)
theorem wd311 (hw : HW Z a0) : (Cond.methodLink cL2 7 N9).before a0 Z = true := hw _ (mg 311 rfl)
theorem wd312 (hw : HW Z a0) : (Cond.static N9).before a0 Z = true := hw _ (mg 312 rfl)
theorem wd313 (hw : HW Z a0) : (Cond.code N9 jdk_31_method_10_code 1 (Option.some (FieldType.object "java/lang/Object"))).before a0 Z = true := hw _ (mg 313 rfl)
theorem wd314 (hw : HW Z a0) : (Cond.fieldLink cL2 13 cL2 "e0" "Ljava/lang/Object;").before a0 Z = true := hw _ (mg 314 rfl)
theorem wd315 (hw : HW Z a0) : (Cond.laysFinal cL2 cL2 "e0" "Ljava/lang/Object;").before a0 Z = true := hw _ (mg 315 rfl)
theorem wd316 (hw : HW Z a0) : (Cond.fieldLinkNest cL2 19 cIC "EMPTY" "Ljava/lang/Object;" cIC).before a0 Z = true := hw _ (mg 316 rfl)
theorem wd317 (hw : HW Z a0) : (Cond.fieldLink cL2 24 cL2 "e1" "Ljava/lang/Object;").before a0 Z = true := hw _ (mg 317 rfl)
theorem wd318 (hw : HW Z a0) : (Cond.laysFinal cL2 cL2 "e1" "Ljava/lang/Object;").before a0 Z = true := hw _ (mg 318 rfl)
theorem wd319 (hw : HW Z a0) : (Cond.methodLink "com/example/cuenta/cuenta/FuelSchemesSchemePinLaw" 49 N62).before a0 Z = true := hw _ (mg 319 rfl)
theorem wd320 (hw : HW Z a0) : (Cond.declares N62).before a0 Z = true := hw _ (mg 320 rfl)
theorem wd321 (hw : HW Z a0) : (Cond.instanceMethod N62).before a0 Z = true := hw _ (mg 321 rfl)
theorem wd322 (hw : HW Z a0) : (Cond.selects "java/lang/String" N62 N62).before a0 Z = true := hw _ (mg 322 rfl)
theorem wd329 (hw : HW Z a0) : (Cond.selects cL2 N53 N42).before a0 Z = true := hw _ (mg 329 rfl)
theorem wd330 (hw : HW Z a0) : (Cond.unhidden cL2 "iterator" "()Ljava/util/Iterator;").before a0 Z = true := hw _ (mg 330 rfl)
theorem wd331 (hw : HW Z a0) : (Cond.castable cL2 "java/util/List").before a0 Z = true := hw _ (mg 331 rfl)
theorem wd332 (hw : HW Z a0) : (Cond.selects cL2 N41 N40).before a0 Z = true := hw _ (mg 332 rfl)
theorem wd333 (hw : HW Z a0) : (Cond.instanceMethod N40).before a0 Z = true := hw _ (mg 333 rfl)
theorem wd334 (hw : HW Z a0) : (Cond.code N40 jdk_44_method_3_code 1 (Option.some FieldType.int)).before a0 Z = true := hw _ (mg 334 rfl)
theorem wd335 (hw : HW Z a0) : (Cond.methodLink cFF 29 N56).before a0 Z = true := hw _ (mg 335 rfl)
theorem wd336 (hw : HW Z a0) : (Cond.declares N56).before a0 Z = true := hw _ (mg 336 rfl)
theorem wd337 (hw : HW Z a0) : (Cond.interfaceMethod "java/util/Iterator" "java/util/Iterator" "next" "()Ljava/lang/Object;").before a0 Z = true := hw _ (mg 337 rfl)
theorem wd338 (hw : HW Z a0) : (Cond.selects cLI N56 N46).before a0 Z = true := hw _ (mg 338 rfl)
theorem wd339 (hw : HW Z a0) : (Cond.instanceMethod N46).before a0 Z = true := hw _ (mg 339 rfl)
theorem wd340 (hw : HW Z a0) : (Cond.publicMethod N46).before a0 Z = true := hw _ (mg 340 rfl)
theorem wd341 (hw : HW Z a0) : (Cond.unhidden cLI "next" "()Ljava/lang/Object;").before a0 Z = true := hw _ (mg 341 rfl)
theorem wd342 (hw : HW Z a0) : (Cond.codeWith N46 jdk_53_method_4_code 3 (Option.some (FieldType.object "java/lang/Object")) [(0, 24, 25, 30)]).before a0 Z = true := hw _ (mg 342 rfl)
theorem wd343 (hw : HW Z a0) : (Cond.methodLink cLI 24 N45).before a0 Z = true := hw _ (mg 343 rfl)
theorem wd344 (hw : HW Z a0) : (Cond.declares N45).before a0 Z = true := hw _ (mg 344 rfl)
theorem wd345 (hw : HW Z a0) : (Cond.interfaceMethod "java/util/List" "java/util/List" "get" "(I)Ljava/lang/Object;").before a0 Z = true := hw _ (mg 345 rfl)
theorem wd346 (hw : HW Z a0) : (Cond.selects cL2 N45 N44).before a0 Z = true := hw _ (mg 346 rfl)
theorem wd347 (hw : HW Z a0) : (Cond.instanceMethod N44).before a0 Z = true := hw _ (mg 347 rfl)
theorem wd348 (hw : HW Z a0) : (Cond.publicMethod N44).before a0 Z = true := hw _ (mg 348 rfl)
theorem wd349 (hw : HW Z a0) : (Cond.unhidden cL2 "get" "(I)Ljava/lang/Object;").before a0 Z = true := hw _ (mg 349 rfl)
theorem wd350 (hw : HW Z a0) : (Cond.code N44 jdk_44_method_5_code 2 (Option.some (FieldType.object "java/lang/Object"))).before a0 Z = true := hw _ (mg 350 rfl)
theorem wd351 (hw : HW Z a0) : (Cond.classLink cFF 33 cSC).before a0 Z = true := hw _ (mg 351 rfl)
theorem wd353 (hw : HW Z a0) : (Cond.methodLink cFF 35 N48).before a0 Z = true := hw _ (mg 353 rfl)
theorem wd354 (hw : HW Z a0) : (Cond.declares N48).before a0 Z = true := hw _ (mg 354 rfl)
theorem wd355 (hw : HW Z a0) : (Cond.instanceMethod N48).before a0 Z = true := hw _ (mg 355 rfl)
theorem wd356 (hw : HW Z a0) : (Cond.selects cSC N48 N48).before a0 Z = true := hw _ (mg 356 rfl)
theorem wd357 (hw : HW Z a0) : (Cond.code N48 prog_27_method_5_code 1 (Option.some (FieldType.object "java/lang/String"))).before a0 Z = true := hw _ (mg 357 rfl)
theorem wd358 (hw : HW Z a0) : (Cond.methodLink cFF 39 N62).before a0 Z = true := hw _ (mg 358 rfl)
theorem wd359 (hw : HW Z a0) : (Cond.methodLink "java/util/List" 100 N27).before a0 Z = true := hw _ (mg 359 rfl)
theorem wd360 (hw : HW Z a0) : (Cond.instanceMethod N27).before a0 Z = true := hw _ (mg 360 rfl)
theorem wd361 (hw : HW Z a0) : (Cond.code N27 jdk_44_method_2_code 3 (Option.none : Option Jvm.ClassFile.FieldType)).before a0 Z = true := hw _ (mg 361 rfl)
theorem wd362 (hw : HW Z a0) : (Cond.methodLink cFF 45 N50).before a0 Z = true := hw _ (mg 362 rfl)
theorem wd363 (hw : HW Z a0) : (Cond.static N50).before a0 Z = true := hw _ (mg 363 rfl)
theorem wd364 (hw : HW Z a0) : (Cond.code N50 jdk_32_method_3_code 1 (Option.some (FieldType.object "java/util/Optional"))).before a0 Z = true := hw _ (mg 364 rfl)
theorem wd365 (hw : HW Z a0) : (Cond.classLink "java/util/Optional" 2 "java/util/Optional").before a0 Z = true := hw _ (mg 365 rfl)
theorem wd366 (hw : HW Z a0) : (Cond.instantiable "java/util/Optional" 1).before a0 Z = true := hw _ (mg 366 rfl)
theorem wd367 (hw : HW Z a0) : (Cond.methodLink "java/util/Optional" 17 N9).before a0 Z = true := hw _ (mg 367 rfl)
theorem wd368 (hw : HW Z a0) : (Cond.methodLink "java/util/Optional" 23 N49).before a0 Z = true := hw _ (mg 368 rfl)
theorem wd369 (hw : HW Z a0) : (Cond.instanceMethod N49).before a0 Z = true := hw _ (mg 369 rfl)
theorem wd371 (hw : HW Z a0) : (Cond.code N49 jdk_32_method_2_code 2 (Option.none : Option Jvm.ClassFile.FieldType)).before a0 Z = true := hw _ (mg 371 rfl)
theorem wd372 (hw : HW Z a0) : (Cond.methodLink "java/util/Optional" 7 N58).before a0 Z = true := hw _ (mg 372 rfl)
theorem wd373 (hw : HW Z a0) : (Cond.methodLink "com/example/cuenta/cuenta/FuelSchemesSchemePinLaw" 62 N52).before a0 Z = true := hw _ (mg 373 rfl)
theorem wd374 (hw : HW Z a0) : (Cond.declares N52).before a0 Z = true := hw _ (mg 374 rfl)
theorem wd375 (hw : HW Z a0) : (Cond.instanceMethod N52).before a0 Z = true := hw _ (mg 375 rfl)
theorem wd376 (hw : HW Z a0) : (Cond.selects "java/util/Optional" N52 N52).before a0 Z = true := hw _ (mg 376 rfl)
theorem wd377 (hw : HW Z a0) : (Cond.code N52 jdk_32_method_5_code 1 (Option.some (FieldType.object "java/lang/Object"))).before a0 Z = true := hw _ (mg 377 rfl)
theorem wd378 (hw : HW Z a0) : (Cond.methodLink "java/util/List" 109 N29).before a0 Z = true := hw _ (mg 378 rfl)
theorem wd379 (hw : HW Z a0) : (Cond.static N29).before a0 Z = true := hw _ (mg 379 rfl)
theorem wd380 (hw : HW Z a0) : (Cond.code N29 jdk_56_method_4_code 3 (Option.some (FieldType.object "java/util/List"))).before a0 Z = true := hw _ (mg 380 rfl)
theorem wd381 (hw : HW Z a0) : (Cond.classLink cIC 2 "java/lang/Object").before a0 Z = true := hw _ (mg 381 rfl)
theorem wd382 (hw : HW Z a0) : (Cond.methodLink cIC 37 N9).before a0 Z = true := hw _ (mg 382 rfl)
theorem wd383 (hw : HW Z a0) : (Cond.instantiable cLN 2).before a0 Z = true := hw _ (mg 383 rfl)
theorem wd384 (hw : HW Z a0) : (Cond.methodLinkNest cIC 43 N28 cIC).before a0 Z = true := hw _ (mg 384 rfl)
theorem wd385 (hw : HW Z a0) : (Cond.instanceMethod N28).before a0 Z = true := hw _ (mg 385 rfl)
theorem wd387 (hw : HW Z a0) : (Cond.code N28 jdk_45_method_1_code 3 (Option.none : Option Jvm.ClassFile.FieldType)).before a0 Z = true := hw _ (mg 387 rfl)
theorem wd388 (hw : HW Z a0) : (Cond.methodLink cLN 1 N25).before a0 Z = true := hw _ (mg 388 rfl)
theorem wd392 (hw : HW Z a0) : (Cond.fieldLink cLN 13 cLN "allowNulls" "Z").before a0 Z = true := hw _ (mg 392 rfl)
theorem wd393 (hw : HW Z a0) : (Cond.laysFinal cLN cLN "allowNulls" "Z").before a0 Z = true := hw _ (mg 393 rfl)
theorem wd394 (hw : HW Z a0) : (Cond.selects cLN N45 N47).before a0 Z = true := hw _ (mg 394 rfl)
theorem wd395 (hw : HW Z a0) : (Cond.instanceMethod N47).before a0 Z = true := hw _ (mg 395 rfl)
theorem wd396 (hw : HW Z a0) : (Cond.publicMethod N47).before a0 Z = true := hw _ (mg 396 rfl)
theorem wd397 (hw : HW Z a0) : (Cond.unhidden cLN "get" "(I)Ljava/lang/Object;").before a0 Z = true := hw _ (mg 397 rfl)
theorem wd398 (hw : HW Z a0) : (Cond.code N47 jdk_45_method_4_code 2 (Option.some (FieldType.object "java/lang/Object"))).before a0 Z = true := hw _ (mg 398 rfl)
end Words
theorem dc0_0 : decode jdk_42_method_149_code 0 = .ok (.aload_n 0, 1) := by decide +kernel
theorem dc0_1 : decode jdk_42_method_149_code 1 = .ok (.invokespecial 1, 3) := by decide +kernel
theorem dc0_4 : decode jdk_42_method_149_code 4 = .ok (.iload_n 3, 1) := by decide +kernel
theorem dc0_5 : decode jdk_42_method_149_code 5 = .ok (.ifCond .ne 22, 3) := by decide +kernel
theorem dc0_8 : decode jdk_42_method_149_code 8 = .ok (.aload_n 0, 1) := by decide +kernel
theorem dc0_9 : decode jdk_42_method_149_code 9 = .ok (.ldc 7, 2) := by decide +kernel
theorem dc0_11 : decode jdk_42_method_149_code 11 = .ok (.getfield 9, 3) := by decide +kernel
theorem dc0_14 : decode jdk_42_method_149_code 14 = .ok (.putfield 9, 3) := by decide +kernel
theorem dc0_17 : decode jdk_42_method_149_code 17 = .ok (.aload_n 0, 1) := by decide +kernel
theorem dc0_18 : decode jdk_42_method_149_code 18 = .ok (.ldc 7, 2) := by decide +kernel
theorem dc0_20 : decode jdk_42_method_149_code 20 = .ok (.getfield 15, 3) := by decide +kernel
theorem dc0_23 : decode jdk_42_method_149_code 23 = .ok (.putfield 15, 3) := by decide +kernel
theorem dc0_26 : decode jdk_42_method_149_code 26 = .ok (.return_, 1) := by decide +kernel
theorem dc1_0 : decode jdk_42_method_3_code 0 = .ok (.aload_n 0, 1) := by decide +kernel
theorem dc1_1 : decode jdk_42_method_3_code 1 = .ok (.aload_n 1, 1) := by decide +kernel
theorem dc1_2 : decode jdk_42_method_3_code 2 = .ok (.iconst 0, 1) := by decide +kernel
theorem dc1_3 : decode jdk_42_method_3_code 3 = .ok (.aload_n 1, 1) := by decide +kernel
theorem dc1_4 : decode jdk_42_method_3_code 4 = .ok (.arraylength, 1) := by decide +kernel
theorem dc1_5 : decode jdk_42_method_3_code 5 = .ok (.aconst_null, 1) := by decide +kernel
theorem dc1_6 : decode jdk_42_method_3_code 6 = .ok (.invokespecial 27, 3) := by decide +kernel
theorem dc1_9 : decode jdk_42_method_3_code 9 = .ok (.return_, 1) := by decide +kernel
theorem dc2_0 : decode method_3_code 0 = .ok (.iload_n 0, 1) := by decide +kernel
theorem dc2_1 : decode method_3_code 1 = .ok (.iconst 3, 1) := by decide +kernel
theorem dc2_2 : decode method_3_code 2 = .ok (.iand, 1) := by decide +kernel
theorem dc2_3 : decode method_3_code 3 = .ok (.istore_n 1, 1) := by decide +kernel
theorem dc2_4 : decode method_3_code 4 = .ok (.iload_n 1, 1) := by decide +kernel
theorem dc2_5 : decode method_3_code 5 = .ok (.ifCond .ne 14, 3) := by decide +kernel
theorem dc2_8 : decode method_3_code 8 = .ok (.new 50, 3) := by decide +kernel
theorem dc2_11 : decode method_3_code 11 = .ok (.dup, 1) := by decide +kernel
theorem dc2_12 : decode method_3_code 12 = .ok (.iconst 0, 1) := by decide +kernel
theorem dc2_13 : decode method_3_code 13 = .ok (.newarray .char, 2) := by decide +kernel
theorem dc2_15 : decode method_3_code 15 = .ok (.invokespecial 66, 3) := by decide +kernel
theorem dc2_18 : decode method_3_code 18 = .ok (.areturn, 1) := by decide +kernel
theorem dc2_19 : decode method_3_code 19 = .ok (.iload_n 1, 1) := by decide +kernel
theorem dc2_20 : decode method_3_code 20 = .ok (.iconst 1, 1) := by decide +kernel
theorem dc2_21 : decode method_3_code 21 = .ok (.if_icmp .ne 27, 3) := by decide +kernel
theorem dc2_24 : decode method_3_code 24 = .ok (.iconst 1, 1) := by decide +kernel
theorem dc2_25 : decode method_3_code 25 = .ok (.newarray .char, 2) := by decide +kernel
theorem dc2_27 : decode method_3_code 27 = .ok (.astore_n 2, 1) := by decide +kernel
theorem dc2_28 : decode method_3_code 28 = .ok (.aload_n 2, 1) := by decide +kernel
theorem dc2_29 : decode method_3_code 29 = .ok (.iconst 0, 1) := by decide +kernel
theorem dc2_30 : decode method_3_code 30 = .ok (.iload_n 0, 1) := by decide +kernel
theorem dc2_31 : decode method_3_code 31 = .ok (.iconst 2, 1) := by decide +kernel
theorem dc2_32 : decode method_3_code 32 = .ok (.iushr, 1) := by decide +kernel
theorem dc2_33 : decode method_3_code 33 = .ok (.sipush 255, 3) := by decide +kernel
theorem dc2_36 : decode method_3_code 36 = .ok (.iand, 1) := by decide +kernel
theorem dc2_37 : decode method_3_code 37 = .ok (.i2c, 1) := by decide +kernel
theorem dc2_38 : decode method_3_code 38 = .ok (.castore, 1) := by decide +kernel
theorem dc2_39 : decode method_3_code 39 = .ok (.new 50, 3) := by decide +kernel
theorem dc2_42 : decode method_3_code 42 = .ok (.dup, 1) := by decide +kernel
theorem dc2_43 : decode method_3_code 43 = .ok (.aload_n 2, 1) := by decide +kernel
theorem dc2_44 : decode method_3_code 44 = .ok (.invokespecial 66, 3) := by decide +kernel
theorem dc2_47 : decode method_3_code 47 = .ok (.areturn, 1) := by decide +kernel
theorem dc2_48 : decode method_3_code 48 = .ok (.iconst 2, 1) := by decide +kernel
theorem dc2_49 : decode method_3_code 49 = .ok (.newarray .char, 2) := by decide +kernel
theorem dc2_51 : decode method_3_code 51 = .ok (.astore_n 2, 1) := by decide +kernel
theorem dc2_52 : decode method_3_code 52 = .ok (.aload_n 2, 1) := by decide +kernel
theorem dc2_53 : decode method_3_code 53 = .ok (.iconst 0, 1) := by decide +kernel
theorem dc2_54 : decode method_3_code 54 = .ok (.iload_n 0, 1) := by decide +kernel
theorem dc2_55 : decode method_3_code 55 = .ok (.iconst 2, 1) := by decide +kernel
theorem dc2_56 : decode method_3_code 56 = .ok (.iushr, 1) := by decide +kernel
theorem dc2_57 : decode method_3_code 57 = .ok (.sipush 255, 3) := by decide +kernel
theorem dc2_60 : decode method_3_code 60 = .ok (.iand, 1) := by decide +kernel
theorem dc2_61 : decode method_3_code 61 = .ok (.i2c, 1) := by decide +kernel
theorem dc2_62 : decode method_3_code 62 = .ok (.castore, 1) := by decide +kernel
theorem dc2_63 : decode method_3_code 63 = .ok (.aload_n 2, 1) := by decide +kernel
theorem dc2_64 : decode method_3_code 64 = .ok (.iconst 1, 1) := by decide +kernel
theorem dc2_65 : decode method_3_code 65 = .ok (.iload_n 0, 1) := by decide +kernel
theorem dc2_66 : decode method_3_code 66 = .ok (.bipush 10, 2) := by decide +kernel
theorem dc2_68 : decode method_3_code 68 = .ok (.iushr, 1) := by decide +kernel
theorem dc2_69 : decode method_3_code 69 = .ok (.sipush 255, 3) := by decide +kernel
theorem dc2_72 : decode method_3_code 72 = .ok (.iand, 1) := by decide +kernel
theorem dc2_73 : decode method_3_code 73 = .ok (.i2c, 1) := by decide +kernel
theorem dc2_74 : decode method_3_code 74 = .ok (.castore, 1) := by decide +kernel
theorem dc2_75 : decode method_3_code 75 = .ok (.new 50, 3) := by decide +kernel
theorem dc2_78 : decode method_3_code 78 = .ok (.dup, 1) := by decide +kernel
theorem dc2_79 : decode method_3_code 79 = .ok (.aload_n 2, 1) := by decide +kernel
theorem dc2_80 : decode method_3_code 80 = .ok (.invokespecial 66, 3) := by decide +kernel
theorem dc2_83 : decode method_3_code 83 = .ok (.areturn, 1) := by decide +kernel
theorem dc3_0 : decode jdk_30_method_1_code 0 = .ok (.aload_n 0, 1) := by decide +kernel
theorem dc3_1 : decode jdk_30_method_1_code 1 = .ok (.invokespecial 1, 3) := by decide +kernel
theorem dc3_4 : decode jdk_30_method_1_code 4 = .ok (.return_, 1) := by decide +kernel
theorem dc4_0 : decode jdk_35_method_57_code 0 = .ok (.lload_n 0, 1) := by decide +kernel
theorem dc4_1 : decode jdk_35_method_57_code 1 = .ok (.bipush 63, 2) := by decide +kernel
theorem dc4_3 : decode jdk_35_method_57_code 3 = .ok (.lshr, 1) := by decide +kernel
theorem dc4_4 : decode jdk_35_method_57_code 4 = .ok (.lload_n 0, 1) := by decide +kernel
theorem dc4_5 : decode jdk_35_method_57_code 5 = .ok (.lneg, 1) := by decide +kernel
theorem dc4_6 : decode jdk_35_method_57_code 6 = .ok (.bipush 63, 2) := by decide +kernel
theorem dc4_8 : decode jdk_35_method_57_code 8 = .ok (.lushr, 1) := by decide +kernel
theorem dc4_9 : decode jdk_35_method_57_code 9 = .ok (.lor, 1) := by decide +kernel
theorem dc4_10 : decode jdk_35_method_57_code 10 = .ok (.l2i, 1) := by decide +kernel
theorem dc4_11 : decode jdk_35_method_57_code 11 = .ok (.ireturn, 1) := by decide +kernel
theorem dc5_0 : decode jdk_17_method_58_code 0 = .ok (.aload_n 0, 1) := by decide +kernel
theorem dc5_1 : decode jdk_17_method_58_code 1 = .ok (.getfield 24, 3) := by decide +kernel
theorem dc5_4 : decode jdk_17_method_58_code 4 = .ok (.ldc2_w 125, 3) := by decide +kernel
theorem dc5_7 : decode jdk_17_method_58_code 7 = .ok (.lcmp, 1) := by decide +kernel
theorem dc5_8 : decode jdk_17_method_58_code 8 = .ok (.ifCond .eq 13, 3) := by decide +kernel
theorem dc5_11 : decode jdk_17_method_58_code 11 = .ok (.aload_n 0, 1) := by decide +kernel
theorem dc5_12 : decode jdk_17_method_58_code 12 = .ok (.getfield 24, 3) := by decide +kernel
theorem dc5_15 : decode jdk_17_method_58_code 15 = .ok (.invokestatic 596, 3) := by decide +kernel
theorem dc5_18 : decode jdk_17_method_58_code 18 = .ok (.goto 10, 3) := by decide +kernel
theorem dc5_28 : decode jdk_17_method_58_code 28 = .ok (.ireturn, 1) := by decide +kernel
theorem dc6_0 : decode prog_4_method_2_code 0 = .ok (.aload_n 0, 1) := by decide +kernel
theorem dc6_1 : decode prog_4_method_2_code 1 = .ok (.ifnonnull 17, 3) := by decide +kernel
theorem dc6_18 : decode prog_4_method_2_code 18 = .ok (.aload_n 0, 1) := by decide +kernel
theorem dc6_19 : decode prog_4_method_2_code 19 = .ok (.invokevirtual 16, 3) := by decide +kernel
theorem dc6_22 : decode prog_4_method_2_code 22 = .ok (.ifCond .ge 21, 3) := by decide +kernel
theorem dc6_43 : decode prog_4_method_2_code 43 = .ok (.aload_n 0, 1) := by decide +kernel
theorem dc6_44 : decode prog_4_method_2_code 44 = .ok (.areturn, 1) := by decide +kernel
theorem dc7_0 : decode prog_25_method_1_code 0 = .ok (.aload_n 0, 1) := by decide +kernel
theorem dc7_1 : decode prog_25_method_1_code 1 = .ok (.invokespecial 1, 3) := by decide +kernel
theorem dc7_4 : decode prog_25_method_1_code 4 = .ok (.aload_n 1, 1) := by decide +kernel
theorem dc7_5 : decode prog_25_method_1_code 5 = .ok (.ldc 7, 2) := by decide +kernel
theorem dc7_7 : decode prog_25_method_1_code 7 = .ok (.invokestatic 9, 3) := by decide +kernel
theorem dc7_10 : decode prog_25_method_1_code 10 = .ok (.pop, 1) := by decide +kernel
theorem dc7_11 : decode prog_25_method_1_code 11 = .ok (.aload_n 2, 1) := by decide +kernel
theorem dc7_12 : decode prog_25_method_1_code 12 = .ok (.ldc 15, 2) := by decide +kernel
theorem dc7_14 : decode prog_25_method_1_code 14 = .ok (.invokestatic 9, 3) := by decide +kernel
theorem dc7_17 : decode prog_25_method_1_code 17 = .ok (.pop, 1) := by decide +kernel
theorem dc7_18 : decode prog_25_method_1_code 18 = .ok (.aload_n 3, 1) := by decide +kernel
theorem dc7_19 : decode prog_25_method_1_code 19 = .ok (.ldc 17, 2) := by decide +kernel
theorem dc7_21 : decode prog_25_method_1_code 21 = .ok (.invokestatic 9, 3) := by decide +kernel
theorem dc7_24 : decode prog_25_method_1_code 24 = .ok (.pop, 1) := by decide +kernel
theorem dc7_25 : decode prog_25_method_1_code 25 = .ok (.lload 4, 2) := by decide +kernel
theorem dc7_27 : decode prog_25_method_1_code 27 = .ok (.lconst 0, 1) := by decide +kernel
theorem dc7_28 : decode prog_25_method_1_code 28 = .ok (.lcmp, 1) := by decide +kernel
theorem dc7_29 : decode prog_25_method_1_code 29 = .ok (.ifCond .gt 18, 3) := by decide +kernel
theorem dc7_47 : decode prog_25_method_1_code 47 = .ok (.aload 6, 2) := by decide +kernel
theorem dc7_49 : decode prog_25_method_1_code 49 = .ok (.ldc 28, 2) := by decide +kernel
theorem dc7_51 : decode prog_25_method_1_code 51 = .ok (.invokestatic 9, 3) := by decide +kernel
theorem dc7_54 : decode prog_25_method_1_code 54 = .ok (.pop, 1) := by decide +kernel
theorem dc7_55 : decode prog_25_method_1_code 55 = .ok (.aload_n 0, 1) := by decide +kernel
theorem dc7_56 : decode prog_25_method_1_code 56 = .ok (.aload_n 1, 1) := by decide +kernel
theorem dc7_57 : decode prog_25_method_1_code 57 = .ok (.putfield 30, 3) := by decide +kernel
theorem dc7_60 : decode prog_25_method_1_code 60 = .ok (.aload_n 0, 1) := by decide +kernel
theorem dc7_61 : decode prog_25_method_1_code 61 = .ok (.aload_n 2, 1) := by decide +kernel
theorem dc7_62 : decode prog_25_method_1_code 62 = .ok (.putfield 36, 3) := by decide +kernel
theorem dc7_65 : decode prog_25_method_1_code 65 = .ok (.aload_n 0, 1) := by decide +kernel
theorem dc7_66 : decode prog_25_method_1_code 66 = .ok (.aload_n 3, 1) := by decide +kernel
theorem dc7_67 : decode prog_25_method_1_code 67 = .ok (.putfield 39, 3) := by decide +kernel
theorem dc7_70 : decode prog_25_method_1_code 70 = .ok (.aload_n 0, 1) := by decide +kernel
theorem dc7_71 : decode prog_25_method_1_code 71 = .ok (.lload 4, 2) := by decide +kernel
theorem dc7_73 : decode prog_25_method_1_code 73 = .ok (.putfield 42, 3) := by decide +kernel
theorem dc7_76 : decode prog_25_method_1_code 76 = .ok (.aload_n 0, 1) := by decide +kernel
theorem dc7_77 : decode prog_25_method_1_code 77 = .ok (.aload 6, 2) := by decide +kernel
theorem dc7_79 : decode prog_25_method_1_code 79 = .ok (.putfield 46, 3) := by decide +kernel
theorem dc7_82 : decode prog_25_method_1_code 82 = .ok (.return_, 1) := by decide +kernel
theorem dc8_0 : decode jdk_31_method_11_code 0 = .ok (.aload_n 0, 1) := by decide +kernel
theorem dc8_1 : decode jdk_31_method_11_code 1 = .ok (.ifnonnull 12, 3) := by decide +kernel
theorem dc8_13 : decode jdk_31_method_11_code 13 = .ok (.aload_n 0, 1) := by decide +kernel
theorem dc8_14 : decode jdk_31_method_11_code 14 = .ok (.areturn, 1) := by decide +kernel
theorem dc9_0 : decode jdk_31_method_10_code 0 = .ok (.aload_n 0, 1) := by decide +kernel
theorem dc9_1 : decode jdk_31_method_10_code 1 = .ok (.ifnonnull 11, 3) := by decide +kernel
theorem dc9_12 : decode jdk_31_method_10_code 12 = .ok (.aload_n 0, 1) := by decide +kernel
theorem dc9_13 : decode jdk_31_method_10_code 13 = .ok (.areturn, 1) := by decide +kernel
theorem dc10_0 : decode prog_27_method_1_code 0 = .ok (.aload_n 0, 1) := by decide +kernel
theorem dc10_1 : decode prog_27_method_1_code 1 = .ok (.invokespecial 1, 3) := by decide +kernel
theorem dc10_4 : decode prog_27_method_1_code 4 = .ok (.aload_n 1, 1) := by decide +kernel
theorem dc10_5 : decode prog_27_method_1_code 5 = .ok (.ldc 7, 2) := by decide +kernel
theorem dc10_7 : decode prog_27_method_1_code 7 = .ok (.invokestatic 9, 3) := by decide +kernel
theorem dc10_10 : decode prog_27_method_1_code 10 = .ok (.pop, 1) := by decide +kernel
theorem dc10_11 : decode prog_27_method_1_code 11 = .ok (.aload_n 2, 1) := by decide +kernel
theorem dc10_12 : decode prog_27_method_1_code 12 = .ok (.ldc 15, 2) := by decide +kernel
theorem dc10_14 : decode prog_27_method_1_code 14 = .ok (.invokestatic 9, 3) := by decide +kernel
theorem dc10_17 : decode prog_27_method_1_code 17 = .ok (.pop, 1) := by decide +kernel
theorem dc10_18 : decode prog_27_method_1_code 18 = .ok (.aload_n 3, 1) := by decide +kernel
theorem dc10_19 : decode prog_27_method_1_code 19 = .ok (.ldc 17, 2) := by decide +kernel
theorem dc10_21 : decode prog_27_method_1_code 21 = .ok (.invokestatic 9, 3) := by decide +kernel
theorem dc10_24 : decode prog_27_method_1_code 24 = .ok (.pop, 1) := by decide +kernel
theorem dc10_25 : decode prog_27_method_1_code 25 = .ok (.aload_n 0, 1) := by decide +kernel
theorem dc10_26 : decode prog_27_method_1_code 26 = .ok (.aload_n 1, 1) := by decide +kernel
theorem dc10_27 : decode prog_27_method_1_code 27 = .ok (.putfield 19, 3) := by decide +kernel
theorem dc10_30 : decode prog_27_method_1_code 30 = .ok (.aload_n 0, 1) := by decide +kernel
theorem dc10_31 : decode prog_27_method_1_code 31 = .ok (.aload_n 2, 1) := by decide +kernel
theorem dc10_32 : decode prog_27_method_1_code 32 = .ok (.putfield 24, 3) := by decide +kernel
theorem dc10_35 : decode prog_27_method_1_code 35 = .ok (.aload_n 0, 1) := by decide +kernel
theorem dc10_36 : decode prog_27_method_1_code 36 = .ok (.aload_n 3, 1) := by decide +kernel
theorem dc10_37 : decode prog_27_method_1_code 37 = .ok (.putfield 27, 3) := by decide +kernel
theorem dc10_40 : decode prog_27_method_1_code 40 = .ok (.return_, 1) := by decide +kernel
theorem dc11_0 : decode jdk_32_method_1_code 0 = .ok (.getstatic 1, 3) := by decide +kernel
theorem dc11_3 : decode jdk_32_method_1_code 3 = .ok (.astore_n 0, 1) := by decide +kernel
theorem dc11_4 : decode jdk_32_method_1_code 4 = .ok (.aload_n 0, 1) := by decide +kernel
theorem dc11_5 : decode jdk_32_method_1_code 5 = .ok (.areturn, 1) := by decide +kernel
theorem dc12_0 : decode jdk_22_method_1_code 0 = .ok (.aload_n 0, 1) := by decide +kernel
theorem dc12_1 : decode jdk_22_method_1_code 1 = .ok (.invokespecial 1, 3) := by decide +kernel
theorem dc12_4 : decode jdk_22_method_1_code 4 = .ok (.return_, 1) := by decide +kernel
theorem dc13_0 : decode jdk_39_method_1_code 0 = .ok (.aload_n 0, 1) := by decide +kernel
theorem dc13_1 : decode jdk_39_method_1_code 1 = .ok (.invokespecial 1, 3) := by decide +kernel
theorem dc13_4 : decode jdk_39_method_1_code 4 = .ok (.aload_n 0, 1) := by decide +kernel
theorem dc13_5 : decode jdk_39_method_1_code 5 = .ok (.iconst 0, 1) := by decide +kernel
theorem dc13_6 : decode jdk_39_method_1_code 6 = .ok (.putfield 7, 3) := by decide +kernel
theorem dc13_9 : decode jdk_39_method_1_code 9 = .ok (.return_, 1) := by decide +kernel
theorem dc14_0 : decode jdk_38_method_2_code 0 = .ok (.aload_n 0, 1) := by decide +kernel
theorem dc14_1 : decode jdk_38_method_2_code 1 = .ok (.invokespecial 1, 3) := by decide +kernel
theorem dc14_4 : decode jdk_38_method_2_code 4 = .ok (.aload_n 0, 1) := by decide +kernel
theorem dc14_5 : decode jdk_38_method_2_code 5 = .ok (.getstatic 39, 3) := by decide +kernel
theorem dc14_8 : decode jdk_38_method_2_code 8 = .ok (.putfield 9, 3) := by decide +kernel
theorem dc14_11 : decode jdk_38_method_2_code 11 = .ok (.return_, 1) := by decide +kernel
theorem dc15_0 : decode jdk_29_method_65_code 0 = .ok (.iload_n 0, 1) := by decide +kernel
theorem dc15_1 : decode jdk_29_method_65_code 1 = .ok (.iload_n 1, 1) := by decide +kernel
theorem dc15_2 : decode jdk_29_method_65_code 2 = .ok (.if_icmp .lt 7, 3) := by decide +kernel
theorem dc15_9 : decode jdk_29_method_65_code 9 = .ok (.iload_n 1, 1) := by decide +kernel
theorem dc15_10 : decode jdk_29_method_65_code 10 = .ok (.ireturn, 1) := by decide +kernel
theorem dc15_5 : decode jdk_29_method_65_code 5 = .ok (.iload_n 0, 1) := by decide +kernel
theorem dc15_6 : decode jdk_29_method_65_code 6 = .ok (.goto 4, 3) := by decide +kernel
theorem pf_Math_max : plainFor N15 = true := by decide +kernel
theorem dc16_0 : decode jdk_29_method_69_code 0 = .ok (.iload_n 0, 1) := by decide +kernel
theorem dc16_1 : decode jdk_29_method_69_code 1 = .ok (.iload_n 1, 1) := by decide +kernel
theorem dc16_2 : decode jdk_29_method_69_code 2 = .ok (.if_icmp .gt 7, 3) := by decide +kernel
theorem dc16_9 : decode jdk_29_method_69_code 9 = .ok (.iload_n 1, 1) := by decide +kernel
theorem dc16_10 : decode jdk_29_method_69_code 10 = .ok (.ireturn, 1) := by decide +kernel
theorem pf_Math_min : plainFor N16 = true := by decide +kernel
theorem dc17_0 : decode jdk_38_method_6_code 0 = .ok (.aload_n 0, 1) := by decide +kernel
theorem dc17_1 : decode jdk_38_method_6_code 1 = .ok (.getfield 9, 3) := by decide +kernel
theorem dc17_4 : decode jdk_38_method_6_code 4 = .ok (.arraylength, 1) := by decide +kernel
theorem dc17_5 : decode jdk_38_method_6_code 5 = .ok (.istore_n 2, 1) := by decide +kernel
theorem dc17_6 : decode jdk_38_method_6_code 6 = .ok (.iload_n 2, 1) := by decide +kernel
theorem dc17_7 : decode jdk_38_method_6_code 7 = .ok (.ifCond .gt 13, 3) := by decide +kernel
theorem dc17_10 : decode jdk_38_method_6_code 10 = .ok (.aload_n 0, 1) := by decide +kernel
theorem dc17_11 : decode jdk_38_method_6_code 11 = .ok (.getfield 9, 3) := by decide +kernel
theorem dc17_14 : decode jdk_38_method_6_code 14 = .ok (.getstatic 39, 3) := by decide +kernel
theorem dc17_17 : decode jdk_38_method_6_code 17 = .ok (.if_acmp .eq 28, 3) := by decide +kernel
theorem dc17_45 : decode jdk_38_method_6_code 45 = .ok (.aload_n 0, 1) := by decide +kernel
theorem dc17_46 : decode jdk_38_method_6_code 46 = .ok (.bipush 10, 2) := by decide +kernel
theorem dc17_48 : decode jdk_38_method_6_code 48 = .ok (.iload_n 1, 1) := by decide +kernel
theorem dc17_49 : decode jdk_38_method_6_code 49 = .ok (.invokestatic 79, 3) := by decide +kernel
theorem dc17_52 : decode jdk_38_method_6_code 52 = .ok (.anewarray 7, 3) := by decide +kernel
theorem dc17_55 : decode jdk_38_method_6_code 55 = .ok (.dup_x1, 1) := by decide +kernel
theorem dc17_56 : decode jdk_38_method_6_code 56 = .ok (.putfield 9, 3) := by decide +kernel
theorem dc17_59 : decode jdk_38_method_6_code 59 = .ok (.areturn, 1) := by decide +kernel
theorem dc18_0 : decode jdk_38_method_7_code 0 = .ok (.aload_n 0, 1) := by decide +kernel
theorem dc18_1 : decode jdk_38_method_7_code 1 = .ok (.aload_n 0, 1) := by decide +kernel
theorem dc18_2 : decode jdk_38_method_7_code 2 = .ok (.getfield 48, 3) := by decide +kernel
theorem dc18_5 : decode jdk_38_method_7_code 5 = .ok (.iconst 1, 1) := by decide +kernel
theorem dc18_6 : decode jdk_38_method_7_code 6 = .ok (.iadd, 1) := by decide +kernel
theorem dc18_7 : decode jdk_38_method_7_code 7 = .ok (.invokevirtual 69, 3) := by decide +kernel
theorem dc18_10 : decode jdk_38_method_7_code 10 = .ok (.areturn, 1) := by decide +kernel
theorem dc19_0 : decode jdk_38_method_24_code 0 = .ok (.iload_n 3, 1) := by decide +kernel
theorem dc19_1 : decode jdk_38_method_24_code 1 = .ok (.aload_n 2, 1) := by decide +kernel
theorem dc19_2 : decode jdk_38_method_24_code 2 = .ok (.arraylength, 1) := by decide +kernel
theorem dc19_3 : decode jdk_38_method_24_code 3 = .ok (.if_icmp .ne 8, 3) := by decide +kernel
theorem dc19_6 : decode jdk_38_method_24_code 6 = .ok (.aload_n 0, 1) := by decide +kernel
theorem dc19_7 : decode jdk_38_method_24_code 7 = .ok (.invokevirtual 129, 3) := by decide +kernel
theorem dc19_10 : decode jdk_38_method_24_code 10 = .ok (.astore_n 2, 1) := by decide +kernel
theorem dc19_11 : decode jdk_38_method_24_code 11 = .ok (.aload_n 2, 1) := by decide +kernel
theorem dc19_12 : decode jdk_38_method_24_code 12 = .ok (.iload_n 3, 1) := by decide +kernel
theorem dc19_13 : decode jdk_38_method_24_code 13 = .ok (.aload_n 1, 1) := by decide +kernel
theorem dc19_14 : decode jdk_38_method_24_code 14 = .ok (.aastore, 1) := by decide +kernel
theorem dc19_15 : decode jdk_38_method_24_code 15 = .ok (.aload_n 0, 1) := by decide +kernel
theorem dc19_16 : decode jdk_38_method_24_code 16 = .ok (.iload_n 3, 1) := by decide +kernel
theorem dc19_17 : decode jdk_38_method_24_code 17 = .ok (.iconst 1, 1) := by decide +kernel
theorem dc19_18 : decode jdk_38_method_24_code 18 = .ok (.iadd, 1) := by decide +kernel
theorem dc19_19 : decode jdk_38_method_24_code 19 = .ok (.putfield 48, 3) := by decide +kernel
theorem dc19_22 : decode jdk_38_method_24_code 22 = .ok (.return_, 1) := by decide +kernel
theorem dc20_0 : decode jdk_38_method_25_code 0 = .ok (.aload_n 0, 1) := by decide +kernel
theorem dc20_1 : decode jdk_38_method_25_code 1 = .ok (.dup, 1) := by decide +kernel
theorem dc20_2 : decode jdk_38_method_25_code 2 = .ok (.getfield 63, 3) := by decide +kernel
theorem dc20_5 : decode jdk_38_method_25_code 5 = .ok (.iconst 1, 1) := by decide +kernel
theorem dc20_6 : decode jdk_38_method_25_code 6 = .ok (.iadd, 1) := by decide +kernel
theorem dc20_7 : decode jdk_38_method_25_code 7 = .ok (.putfield 63, 3) := by decide +kernel
theorem dc20_10 : decode jdk_38_method_25_code 10 = .ok (.aload_n 0, 1) := by decide +kernel
theorem dc20_11 : decode jdk_38_method_25_code 11 = .ok (.aload_n 1, 1) := by decide +kernel
theorem dc20_12 : decode jdk_38_method_25_code 12 = .ok (.aload_n 0, 1) := by decide +kernel
theorem dc20_13 : decode jdk_38_method_25_code 13 = .ok (.getfield 9, 3) := by decide +kernel
theorem dc20_16 : decode jdk_38_method_25_code 16 = .ok (.aload_n 0, 1) := by decide +kernel
theorem dc20_17 : decode jdk_38_method_25_code 17 = .ok (.getfield 48, 3) := by decide +kernel
theorem dc20_20 : decode jdk_38_method_25_code 20 = .ok (.invokevirtual 131, 3) := by decide +kernel
theorem dc20_23 : decode jdk_38_method_25_code 23 = .ok (.iconst 1, 1) := by decide +kernel
theorem dc20_24 : decode jdk_38_method_25_code 24 = .ok (.ireturn, 1) := by decide +kernel
theorem dc21_0 : decode jdk_65_method_120_code 0 = .ok (.aload_n 2, 1) := by decide +kernel
theorem dc21_1 : decode jdk_65_method_120_code 1 = .ok (.ldc 110, 2) := by decide +kernel
theorem dc21_3 : decode jdk_65_method_120_code 3 = .ok (.if_acmp .ne 10, 3) := by decide +kernel
theorem dc21_6 : decode jdk_65_method_120_code 6 = .ok (.iload_n 1, 1) := by decide +kernel
theorem dc21_7 : decode jdk_65_method_120_code 7 = .ok (.anewarray 2, 3) := by decide +kernel
theorem dc21_10 : decode jdk_65_method_120_code 10 = .ok (.goto 14, 3) := by decide +kernel
theorem dc21_24 : decode jdk_65_method_120_code 24 = .ok (.astore_n 3, 1) := by decide +kernel
theorem dc21_25 : decode jdk_65_method_120_code 25 = .ok (.aload_n 0, 1) := by decide +kernel
theorem dc21_26 : decode jdk_65_method_120_code 26 = .ok (.iconst 0, 1) := by decide +kernel
theorem dc21_27 : decode jdk_65_method_120_code 27 = .ok (.aload_n 3, 1) := by decide +kernel
theorem dc21_28 : decode jdk_65_method_120_code 28 = .ok (.iconst 0, 1) := by decide +kernel
theorem dc21_29 : decode jdk_65_method_120_code 29 = .ok (.aload_n 0, 1) := by decide +kernel
theorem dc21_30 : decode jdk_65_method_120_code 30 = .ok (.arraylength, 1) := by decide +kernel
theorem dc21_31 : decode jdk_65_method_120_code 31 = .ok (.iload_n 1, 1) := by decide +kernel
theorem dc21_32 : decode jdk_65_method_120_code 32 = .ok (.invokestatic 304, 3) := by decide +kernel
theorem dc21_35 : decode jdk_65_method_120_code 35 = .ok (.invokestatic 150, 3) := by decide +kernel
theorem dc21_38 : decode jdk_65_method_120_code 38 = .ok (.aload_n 3, 1) := by decide +kernel
theorem dc21_39 : decode jdk_65_method_120_code 39 = .ok (.areturn, 1) := by decide +kernel
theorem dc22_0 : decode jdk_65_method_119_code 0 = .ok (.aload_n 0, 1) := by decide +kernel
theorem dc22_1 : decode jdk_65_method_119_code 1 = .ok (.iload_n 1, 1) := by decide +kernel
theorem dc22_2 : decode jdk_65_method_119_code 2 = .ok (.aload_n 0, 1) := by decide +kernel
theorem dc22_3 : decode jdk_65_method_119_code 3 = .ok (.invokevirtual 86, 3) := by decide +kernel
theorem dc22_6 : decode jdk_65_method_119_code 6 = .ok (.invokestatic 300, 3) := by decide +kernel
theorem dc22_9 : decode jdk_65_method_119_code 9 = .ok (.areturn, 1) := by decide +kernel
theorem dc23_0 : decode jdk_38_method_16_code 0 = .ok (.aload_n 0, 1) := by decide +kernel
theorem dc23_1 : decode jdk_38_method_16_code 1 = .ok (.getfield 9, 3) := by decide +kernel
theorem dc23_4 : decode jdk_38_method_16_code 4 = .ok (.aload_n 0, 1) := by decide +kernel
theorem dc23_5 : decode jdk_38_method_16_code 5 = .ok (.getfield 48, 3) := by decide +kernel
theorem dc23_8 : decode jdk_38_method_16_code 8 = .ok (.invokestatic 66, 3) := by decide +kernel
theorem dc23_11 : decode jdk_38_method_16_code 11 = .ok (.areturn, 1) := by decide +kernel
theorem dc24_0 : decode jdk_47_method_1_code 0 = .ok (.aload_n 0, 1) := by decide +kernel
theorem dc24_1 : decode jdk_47_method_1_code 1 = .ok (.invokespecial 1, 3) := by decide +kernel
theorem dc24_4 : decode jdk_47_method_1_code 4 = .ok (.return_, 1) := by decide +kernel
theorem dc25_0 : decode jdk_46_method_1_code 0 = .ok (.aload_n 0, 1) := by decide +kernel
theorem dc25_1 : decode jdk_46_method_1_code 1 = .ok (.invokespecial 1, 3) := by decide +kernel
theorem dc25_4 : decode jdk_46_method_1_code 4 = .ok (.return_, 1) := by decide +kernel
theorem dc26_0 : decode jdk_44_method_1_code 0 = .ok (.aload_n 0, 1) := by decide +kernel
theorem dc26_1 : decode jdk_44_method_1_code 1 = .ok (.invokespecial 1, 3) := by decide +kernel
theorem dc26_4 : decode jdk_44_method_1_code 4 = .ok (.aload_n 0, 1) := by decide +kernel
theorem dc26_5 : decode jdk_44_method_1_code 5 = .ok (.aload_n 1, 1) := by decide +kernel
theorem dc26_6 : decode jdk_44_method_1_code 6 = .ok (.invokestatic 7, 3) := by decide +kernel
theorem dc26_9 : decode jdk_44_method_1_code 9 = .ok (.putfield 13, 3) := by decide +kernel
theorem dc26_12 : decode jdk_44_method_1_code 12 = .ok (.aload_n 0, 1) := by decide +kernel
theorem dc26_13 : decode jdk_44_method_1_code 13 = .ok (.getstatic 19, 3) := by decide +kernel
theorem dc26_16 : decode jdk_44_method_1_code 16 = .ok (.putfield 24, 3) := by decide +kernel
theorem dc26_19 : decode jdk_44_method_1_code 19 = .ok (.return_, 1) := by decide +kernel
theorem dc27_0 : decode jdk_44_method_2_code 0 = .ok (.aload_n 0, 1) := by decide +kernel
theorem dc27_1 : decode jdk_44_method_2_code 1 = .ok (.invokespecial 1, 3) := by decide +kernel
theorem dc27_4 : decode jdk_44_method_2_code 4 = .ok (.aload_n 0, 1) := by decide +kernel
theorem dc27_5 : decode jdk_44_method_2_code 5 = .ok (.aload_n 1, 1) := by decide +kernel
theorem dc27_6 : decode jdk_44_method_2_code 6 = .ok (.invokestatic 7, 3) := by decide +kernel
theorem dc27_9 : decode jdk_44_method_2_code 9 = .ok (.putfield 13, 3) := by decide +kernel
theorem dc27_12 : decode jdk_44_method_2_code 12 = .ok (.aload_n 0, 1) := by decide +kernel
theorem dc27_13 : decode jdk_44_method_2_code 13 = .ok (.aload_n 2, 1) := by decide +kernel
theorem dc27_14 : decode jdk_44_method_2_code 14 = .ok (.invokestatic 7, 3) := by decide +kernel
theorem dc27_17 : decode jdk_44_method_2_code 17 = .ok (.putfield 24, 3) := by decide +kernel
theorem dc27_20 : decode jdk_44_method_2_code 20 = .ok (.return_, 1) := by decide +kernel
theorem dc28_0 : decode jdk_45_method_1_code 0 = .ok (.aload_n 0, 1) := by decide +kernel
theorem dc28_1 : decode jdk_45_method_1_code 1 = .ok (.invokespecial 1, 3) := by decide +kernel
theorem dc28_4 : decode jdk_45_method_1_code 4 = .ok (.aload_n 0, 1) := by decide +kernel
theorem dc28_5 : decode jdk_45_method_1_code 5 = .ok (.aload_n 1, 1) := by decide +kernel
theorem dc28_6 : decode jdk_45_method_1_code 6 = .ok (.putfield 7, 3) := by decide +kernel
theorem dc28_9 : decode jdk_45_method_1_code 9 = .ok (.aload_n 0, 1) := by decide +kernel
theorem dc28_10 : decode jdk_45_method_1_code 10 = .ok (.iload_n 2, 1) := by decide +kernel
theorem dc28_11 : decode jdk_45_method_1_code 11 = .ok (.putfield 13, 3) := by decide +kernel
theorem dc28_14 : decode jdk_45_method_1_code 14 = .ok (.return_, 1) := by decide +kernel
theorem dc29_0 : decode jdk_56_method_4_code 0 = .ok (.aload_n 0, 1) := by decide +kernel
theorem dc29_1 : decode jdk_56_method_4_code 1 = .ok (.arraylength, 1) := by decide +kernel
theorem dc29_2 : decode jdk_56_method_4_code 2 = .ok (.anewarray 2, 3) := by decide +kernel
theorem dc29_5 : decode jdk_56_method_4_code 5 = .ok (.astore_n 1, 1) := by decide +kernel
theorem dc29_6 : decode jdk_56_method_4_code 6 = .ok (.iconst 0, 1) := by decide +kernel
theorem dc29_7 : decode jdk_56_method_4_code 7 = .ok (.istore_n 2, 1) := by decide +kernel
theorem dc29_8 : decode jdk_56_method_4_code 8 = .ok (.iload_n 2, 1) := by decide +kernel
theorem dc29_9 : decode jdk_56_method_4_code 9 = .ok (.aload_n 0, 1) := by decide +kernel
theorem dc29_10 : decode jdk_56_method_4_code 10 = .ok (.arraylength, 1) := by decide +kernel
theorem dc29_11 : decode jdk_56_method_4_code 11 = .ok (.if_icmp .ge 18, 3) := by decide +kernel
theorem dc29_14 : decode jdk_56_method_4_code 14 = .ok (.aload_n 1, 1) := by decide +kernel
theorem dc29_15 : decode jdk_56_method_4_code 15 = .ok (.iload_n 2, 1) := by decide +kernel
theorem dc29_16 : decode jdk_56_method_4_code 16 = .ok (.aload_n 0, 1) := by decide +kernel
theorem dc29_17 : decode jdk_56_method_4_code 17 = .ok (.iload_n 2, 1) := by decide +kernel
theorem dc29_18 : decode jdk_56_method_4_code 18 = .ok (.aaload, 1) := by decide +kernel
theorem dc29_19 : decode jdk_56_method_4_code 19 = .ok (.invokestatic 37, 3) := by decide +kernel
theorem dc29_22 : decode jdk_56_method_4_code 22 = .ok (.aastore, 1) := by decide +kernel
theorem dc29_23 : decode jdk_56_method_4_code 23 = .ok (.iinc 2 1, 3) := by decide +kernel
theorem dc29_26 : decode jdk_56_method_4_code 26 = .ok (.goto (-18), 3) := by decide +kernel
theorem dc29_29 : decode jdk_56_method_4_code 29 = .ok (.new 12, 3) := by decide +kernel
theorem dc29_32 : decode jdk_56_method_4_code 32 = .ok (.dup, 1) := by decide +kernel
theorem dc29_33 : decode jdk_56_method_4_code 33 = .ok (.aload_n 1, 1) := by decide +kernel
theorem dc29_34 : decode jdk_56_method_4_code 34 = .ok (.iconst 0, 1) := by decide +kernel
theorem dc29_35 : decode jdk_56_method_4_code 35 = .ok (.invokespecial 43, 3) := by decide +kernel
theorem dc29_38 : decode jdk_56_method_4_code 38 = .ok (.areturn, 1) := by decide +kernel
theorem dc30_0 : decode jdk_40_method_47_code 0 = .ok (.aload_n 0, 1) := by decide +kernel
theorem dc30_1 : decode jdk_40_method_47_code 1 = .ok (.arraylength, 1) := by decide +kernel
theorem dc30_2 : decode jdk_40_method_47_code 2 = .ok (.tableswitch 57 0 2 #[26, 32, 43], 26) := by decide +kernel
theorem dc30_34 : decode jdk_40_method_47_code 34 = .ok (.new 96, 3) := by decide +kernel
theorem dc30_37 : decode jdk_40_method_47_code 37 = .ok (.dup, 1) := by decide +kernel
theorem dc30_38 : decode jdk_40_method_47_code 38 = .ok (.aload_n 0, 1) := by decide +kernel
theorem dc30_39 : decode jdk_40_method_47_code 39 = .ok (.iconst 0, 1) := by decide +kernel
theorem dc30_40 : decode jdk_40_method_47_code 40 = .ok (.aaload, 1) := by decide +kernel
theorem dc30_41 : decode jdk_40_method_47_code 41 = .ok (.invokespecial 98, 3) := by decide +kernel
theorem dc30_44 : decode jdk_40_method_47_code 44 = .ok (.areturn, 1) := by decide +kernel
theorem dc30_45 : decode jdk_40_method_47_code 45 = .ok (.new 96, 3) := by decide +kernel
theorem dc30_48 : decode jdk_40_method_47_code 48 = .ok (.dup, 1) := by decide +kernel
theorem dc30_49 : decode jdk_40_method_47_code 49 = .ok (.aload_n 0, 1) := by decide +kernel
theorem dc30_50 : decode jdk_40_method_47_code 50 = .ok (.iconst 0, 1) := by decide +kernel
theorem dc30_51 : decode jdk_40_method_47_code 51 = .ok (.aaload, 1) := by decide +kernel
theorem dc30_52 : decode jdk_40_method_47_code 52 = .ok (.aload_n 0, 1) := by decide +kernel
theorem dc30_53 : decode jdk_40_method_47_code 53 = .ok (.iconst 1, 1) := by decide +kernel
theorem dc30_54 : decode jdk_40_method_47_code 54 = .ok (.aaload, 1) := by decide +kernel
theorem dc30_55 : decode jdk_40_method_47_code 55 = .ok (.invokespecial 100, 3) := by decide +kernel
theorem dc30_58 : decode jdk_40_method_47_code 58 = .ok (.areturn, 1) := by decide +kernel
theorem dc30_59 : decode jdk_40_method_47_code 59 = .ok (.aload_n 0, 1) := by decide +kernel
theorem dc30_60 : decode jdk_40_method_47_code 60 = .ok (.invokestatic 109, 3) := by decide +kernel
theorem dc30_63 : decode jdk_40_method_47_code 63 = .ok (.areturn, 1) := by decide +kernel
theorem dc31_0 : decode jdk_40_method_36_code 0 = .ok (.getstatic 90, 3) := by decide +kernel
theorem dc31_3 : decode jdk_40_method_36_code 3 = .ok (.areturn, 1) := by decide +kernel
theorem dc32_0 : decode jdk_38_method_9_code 0 = .ok (.aload_n 0, 1) := by decide +kernel
theorem dc32_1 : decode jdk_38_method_9_code 1 = .ok (.getfield 48, 3) := by decide +kernel
theorem dc32_4 : decode jdk_38_method_9_code 4 = .ok (.ifCond .ne 7, 3) := by decide +kernel
theorem dc32_7 : decode jdk_38_method_9_code 7 = .ok (.iconst 1, 1) := by decide +kernel
theorem dc32_8 : decode jdk_38_method_9_code 8 = .ok (.goto 4, 3) := by decide +kernel
theorem dc32_12 : decode jdk_38_method_9_code 12 = .ok (.ireturn, 1) := by decide +kernel
theorem dc32_11 : decode jdk_38_method_9_code 11 = .ok (.iconst 0, 1) := by decide +kernel
theorem dc33_0 : decode jdk_56_method_3_code 0 = .ok (.aload_n 0, 1) := by decide +kernel
theorem dc33_1 : decode jdk_56_method_3_code 1 = .ok (.instanceof 10, 3) := by decide +kernel
theorem dc33_4 : decode jdk_56_method_3_code 4 = .ok (.ifCond .ne 22, 3) := by decide +kernel
theorem dc33_7 : decode jdk_56_method_3_code 7 = .ok (.aload_n 0, 1) := by decide +kernel
theorem dc33_8 : decode jdk_56_method_3_code 8 = .ok (.instanceof 12, 3) := by decide +kernel
theorem dc33_11 : decode jdk_56_method_3_code 11 = .ok (.ifCond .eq 20, 3) := by decide +kernel
theorem dc33_31 : decode jdk_56_method_3_code 31 = .ok (.aload_n 0, 1) := by decide +kernel
theorem dc33_32 : decode jdk_56_method_3_code 32 = .ok (.invokeinterface 20 1, 5) := by decide +kernel
theorem dc33_37 : decode jdk_56_method_3_code 37 = .ok (.ifCond .eq 7, 3) := by decide +kernel
theorem dc33_40 : decode jdk_56_method_3_code 40 = .ok (.invokestatic 26, 3) := by decide +kernel
theorem dc33_43 : decode jdk_56_method_3_code 43 = .ok (.areturn, 1) := by decide +kernel
theorem dc34_0 : decode jdk_40_method_48_code 0 = .ok (.aload_n 0, 1) := by decide +kernel
theorem dc34_1 : decode jdk_40_method_48_code 1 = .ok (.invokestatic 112, 3) := by decide +kernel
theorem dc34_4 : decode jdk_40_method_48_code 4 = .ok (.areturn, 1) := by decide +kernel
theorem dc35_0 : decode prog_26_method_1_code 0 = .ok (.aload_n 0, 1) := by decide +kernel
theorem dc35_1 : decode prog_26_method_1_code 1 = .ok (.invokespecial 1, 3) := by decide +kernel
theorem dc35_4 : decode prog_26_method_1_code 4 = .ok (.aload_n 1, 1) := by decide +kernel
theorem dc35_5 : decode prog_26_method_1_code 5 = .ok (.invokestatic 7, 3) := by decide +kernel
theorem dc35_8 : decode prog_26_method_1_code 8 = .ok (.astore_n 1, 1) := by decide +kernel
theorem dc35_9 : decode prog_26_method_1_code 9 = .ok (.aload_n 0, 1) := by decide +kernel
theorem dc35_10 : decode prog_26_method_1_code 10 = .ok (.aload_n 1, 1) := by decide +kernel
theorem dc35_11 : decode prog_26_method_1_code 11 = .ok (.putfield 13, 3) := by decide +kernel
theorem dc35_14 : decode prog_26_method_1_code 14 = .ok (.return_, 1) := by decide +kernel
theorem dc33_44 : decode jdk_56_method_3_code 44 = .ok (.aload_n 0, 1) := by decide +kernel
theorem dc33_45 : decode jdk_56_method_3_code 45 = .ok (.invokeinterface 30 1, 5) := by decide +kernel
theorem dc33_50 : decode jdk_56_method_3_code 50 = .ok (.invokestatic 34, 3) := by decide +kernel
theorem dc33_53 : decode jdk_56_method_3_code 53 = .ok (.areturn, 1) := by decide +kernel
theorem dc36_0 : decode jdk_53_method_1_code 0 = .ok (.aload_n 0, 1) := by decide +kernel
theorem dc36_1 : decode jdk_53_method_1_code 1 = .ok (.invokespecial 1, 3) := by decide +kernel
theorem dc36_4 : decode jdk_53_method_1_code 4 = .ok (.aload_n 0, 1) := by decide +kernel
theorem dc36_5 : decode jdk_53_method_1_code 5 = .ok (.aload_n 1, 1) := by decide +kernel
theorem dc36_6 : decode jdk_53_method_1_code 6 = .ok (.putfield 7, 3) := by decide +kernel
theorem dc36_9 : decode jdk_53_method_1_code 9 = .ok (.aload_n 0, 1) := by decide +kernel
theorem dc36_10 : decode jdk_53_method_1_code 10 = .ok (.iload_n 2, 1) := by decide +kernel
theorem dc36_11 : decode jdk_53_method_1_code 11 = .ok (.putfield 13, 3) := by decide +kernel
theorem dc36_14 : decode jdk_53_method_1_code 14 = .ok (.aload_n 0, 1) := by decide +kernel
theorem dc36_15 : decode jdk_53_method_1_code 15 = .ok (.iconst 0, 1) := by decide +kernel
theorem dc36_16 : decode jdk_53_method_1_code 16 = .ok (.putfield 17, 3) := by decide +kernel
theorem dc36_19 : decode jdk_53_method_1_code 19 = .ok (.aload_n 0, 1) := by decide +kernel
theorem dc36_20 : decode jdk_53_method_1_code 20 = .ok (.iconst 0, 1) := by decide +kernel
theorem dc36_21 : decode jdk_53_method_1_code 21 = .ok (.putfield 20, 3) := by decide +kernel
theorem dc36_24 : decode jdk_53_method_1_code 24 = .ok (.return_, 1) := by decide +kernel
theorem dc37_0 : decode jdk_45_method_3_code 0 = .ok (.aload_n 0, 1) := by decide +kernel
theorem dc37_1 : decode jdk_45_method_3_code 1 = .ok (.getfield 7, 3) := by decide +kernel
theorem dc37_4 : decode jdk_45_method_3_code 4 = .ok (.arraylength, 1) := by decide +kernel
theorem dc37_5 : decode jdk_45_method_3_code 5 = .ok (.ireturn, 1) := by decide +kernel
theorem dc38_0 : decode jdk_44_method_3_code 0 = .ok (.aload_n 0, 1) := by decide +kernel
theorem dc38_1 : decode jdk_44_method_3_code 1 = .ok (.getfield 24, 3) := by decide +kernel
theorem dc38_4 : decode jdk_44_method_3_code 4 = .ok (.getstatic 19, 3) := by decide +kernel
theorem dc38_7 : decode jdk_44_method_3_code 7 = .ok (.if_acmp .eq 7, 3) := by decide +kernel
theorem dc38_14 : decode jdk_44_method_3_code 14 = .ok (.iconst 1, 1) := by decide +kernel
theorem dc38_15 : decode jdk_44_method_3_code 15 = .ok (.ireturn, 1) := by decide +kernel
theorem dc38_10 : decode jdk_44_method_3_code 10 = .ok (.iconst 2, 1) := by decide +kernel
theorem dc38_11 : decode jdk_44_method_3_code 11 = .ok (.goto 4, 3) := by decide +kernel
theorem dc39_0 : decode jdk_46_method_10_code 0 = .ok (.new 61, 3) := by decide +kernel
theorem dc39_3 : decode jdk_46_method_10_code 3 = .ok (.dup, 1) := by decide +kernel
theorem dc39_4 : decode jdk_46_method_10_code 4 = .ok (.aload_n 0, 1) := by decide +kernel
theorem dc39_5 : decode jdk_46_method_10_code 5 = .ok (.aload_n 0, 1) := by decide +kernel
theorem dc39_6 : decode jdk_46_method_10_code 6 = .ok (.invokevirtual 13, 3) := by decide +kernel
theorem dc39_9 : decode jdk_46_method_10_code 9 = .ok (.invokespecial 63, 3) := by decide +kernel
theorem dc39_12 : decode jdk_46_method_10_code 12 = .ok (.areturn, 1) := by decide +kernel
theorem dc40_0 : decode jdk_53_method_3_code 0 = .ok (.aload_n 0, 1) := by decide +kernel
theorem dc40_1 : decode jdk_53_method_3_code 1 = .ok (.getfield 17, 3) := by decide +kernel
theorem dc40_4 : decode jdk_53_method_3_code 4 = .ok (.aload_n 0, 1) := by decide +kernel
theorem dc40_5 : decode jdk_53_method_3_code 5 = .ok (.getfield 13, 3) := by decide +kernel
theorem dc40_8 : decode jdk_53_method_3_code 8 = .ok (.if_icmp .eq 7, 3) := by decide +kernel
theorem dc40_15 : decode jdk_53_method_3_code 15 = .ok (.iconst 0, 1) := by decide +kernel
theorem dc40_16 : decode jdk_53_method_3_code 16 = .ok (.ireturn, 1) := by decide +kernel
theorem dc40_11 : decode jdk_53_method_3_code 11 = .ok (.iconst 1, 1) := by decide +kernel
theorem dc40_12 : decode jdk_53_method_3_code 12 = .ok (.goto 4, 3) := by decide +kernel
theorem dc41_0 : decode jdk_44_method_5_code 0 = .ok (.iload_n 1, 1) := by decide +kernel
theorem dc41_1 : decode jdk_44_method_5_code 1 = .ok (.ifCond .ne 8, 3) := by decide +kernel
theorem dc41_4 : decode jdk_44_method_5_code 4 = .ok (.aload_n 0, 1) := by decide +kernel
theorem dc41_5 : decode jdk_44_method_5_code 5 = .ok (.getfield 13, 3) := by decide +kernel
theorem dc41_8 : decode jdk_44_method_5_code 8 = .ok (.areturn, 1) := by decide +kernel
theorem dc42_0 : decode jdk_53_method_4_code 0 = .ok (.aload_n 0, 1) := by decide +kernel
theorem dc42_1 : decode jdk_53_method_4_code 1 = .ok (.getfield 17, 3) := by decide +kernel
theorem dc42_4 : decode jdk_53_method_4_code 4 = .ok (.istore_n 1, 1) := by decide +kernel
theorem dc42_5 : decode jdk_53_method_4_code 5 = .ok (.aload_n 0, 1) := by decide +kernel
theorem dc42_6 : decode jdk_53_method_4_code 6 = .ok (.getfield 7, 3) := by decide +kernel
theorem dc42_9 : decode jdk_53_method_4_code 9 = .ok (.iload_n 1, 1) := by decide +kernel
theorem dc42_10 : decode jdk_53_method_4_code 10 = .ok (.invokeinterface 24 2, 5) := by decide +kernel
theorem dc42_15 : decode jdk_53_method_4_code 15 = .ok (.astore_n 2, 1) := by decide +kernel
theorem dc42_16 : decode jdk_53_method_4_code 16 = .ok (.aload_n 0, 1) := by decide +kernel
theorem dc42_17 : decode jdk_53_method_4_code 17 = .ok (.iload_n 1, 1) := by decide +kernel
theorem dc42_18 : decode jdk_53_method_4_code 18 = .ok (.iconst 1, 1) := by decide +kernel
theorem dc42_19 : decode jdk_53_method_4_code 19 = .ok (.iadd, 1) := by decide +kernel
theorem dc42_20 : decode jdk_53_method_4_code 20 = .ok (.putfield 17, 3) := by decide +kernel
theorem dc42_23 : decode jdk_53_method_4_code 23 = .ok (.aload_n 2, 1) := by decide +kernel
theorem dc42_24 : decode jdk_53_method_4_code 24 = .ok (.areturn, 1) := by decide +kernel
theorem dc41_9 : decode jdk_44_method_5_code 9 = .ok (.iload_n 1, 1) := by decide +kernel
theorem dc41_10 : decode jdk_44_method_5_code 10 = .ok (.iconst 1, 1) := by decide +kernel
theorem dc41_11 : decode jdk_44_method_5_code 11 = .ok (.if_icmp .ne 18, 3) := by decide +kernel
theorem dc41_14 : decode jdk_44_method_5_code 14 = .ok (.aload_n 0, 1) := by decide +kernel
theorem dc41_15 : decode jdk_44_method_5_code 15 = .ok (.getfield 24, 3) := by decide +kernel
theorem dc41_18 : decode jdk_44_method_5_code 18 = .ok (.getstatic 19, 3) := by decide +kernel
theorem dc41_21 : decode jdk_44_method_5_code 21 = .ok (.if_acmp .eq 8, 3) := by decide +kernel
theorem dc41_24 : decode jdk_44_method_5_code 24 = .ok (.aload_n 0, 1) := by decide +kernel
theorem dc41_25 : decode jdk_44_method_5_code 25 = .ok (.getfield 24, 3) := by decide +kernel
theorem dc41_28 : decode jdk_44_method_5_code 28 = .ok (.areturn, 1) := by decide +kernel
theorem dc43_0 : decode jdk_45_method_4_code 0 = .ok (.aload_n 0, 1) := by decide +kernel
theorem dc43_1 : decode jdk_45_method_4_code 1 = .ok (.getfield 7, 3) := by decide +kernel
theorem dc43_4 : decode jdk_45_method_4_code 4 = .ok (.iload_n 1, 1) := by decide +kernel
theorem dc43_5 : decode jdk_45_method_4_code 5 = .ok (.aaload, 1) := by decide +kernel
theorem dc43_6 : decode jdk_45_method_4_code 6 = .ok (.areturn, 1) := by decide +kernel
theorem dc44_0 : decode prog_27_method_5_code 0 = .ok (.aload_n 0, 1) := by decide +kernel
theorem dc44_1 : decode prog_27_method_5_code 1 = .ok (.getfield 19, 3) := by decide +kernel
theorem dc44_4 : decode prog_27_method_5_code 4 = .ok (.areturn, 1) := by decide +kernel
theorem dc45_0 : decode jdk_32_method_2_code 0 = .ok (.aload_n 0, 1) := by decide +kernel
theorem dc45_1 : decode jdk_32_method_2_code 1 = .ok (.invokespecial 7, 3) := by decide +kernel
theorem dc45_4 : decode jdk_32_method_2_code 4 = .ok (.aload_n 0, 1) := by decide +kernel
theorem dc45_5 : decode jdk_32_method_2_code 5 = .ok (.aload_n 1, 1) := by decide +kernel
theorem dc45_6 : decode jdk_32_method_2_code 6 = .ok (.putfield 13, 3) := by decide +kernel
theorem dc45_9 : decode jdk_32_method_2_code 9 = .ok (.return_, 1) := by decide +kernel
theorem dc46_0 : decode jdk_32_method_3_code 0 = .ok (.new 2, 3) := by decide +kernel
theorem dc46_3 : decode jdk_32_method_3_code 3 = .ok (.dup, 1) := by decide +kernel
theorem dc46_4 : decode jdk_32_method_3_code 4 = .ok (.aload_n 0, 1) := by decide +kernel
theorem dc46_5 : decode jdk_32_method_3_code 5 = .ok (.invokestatic 17, 3) := by decide +kernel
theorem dc46_8 : decode jdk_32_method_3_code 8 = .ok (.invokespecial 23, 3) := by decide +kernel
theorem dc46_11 : decode jdk_32_method_3_code 11 = .ok (.areturn, 1) := by decide +kernel
theorem dc47_0 : decode jdk_32_method_6_code 0 = .ok (.aload_n 0, 1) := by decide +kernel
theorem dc47_1 : decode jdk_32_method_6_code 1 = .ok (.getfield 13, 3) := by decide +kernel
theorem dc47_4 : decode jdk_32_method_6_code 4 = .ok (.ifnull 7, 3) := by decide +kernel
theorem dc47_11 : decode jdk_32_method_6_code 11 = .ok (.iconst 0, 1) := by decide +kernel
theorem dc47_12 : decode jdk_32_method_6_code 12 = .ok (.ireturn, 1) := by decide +kernel
theorem dc47_7 : decode jdk_32_method_6_code 7 = .ok (.iconst 1, 1) := by decide +kernel
theorem dc47_8 : decode jdk_32_method_6_code 8 = .ok (.goto 4, 3) := by decide +kernel
theorem dc48_0 : decode jdk_32_method_5_code 0 = .ok (.aload_n 0, 1) := by decide +kernel
theorem dc48_1 : decode jdk_32_method_5_code 1 = .ok (.getfield 13, 3) := by decide +kernel
theorem dc48_4 : decode jdk_32_method_5_code 4 = .ok (.ifnonnull 13, 3) := by decide +kernel
theorem dc48_17 : decode jdk_32_method_5_code 17 = .ok (.aload_n 0, 1) := by decide +kernel
theorem dc48_18 : decode jdk_32_method_5_code 18 = .ok (.getfield 13, 3) := by decide +kernel
theorem dc48_21 : decode jdk_32_method_5_code 21 = .ok (.areturn, 1) := by decide +kernel
theorem dc49_0 : decode prog_26_method_2_code 0 = .ok (.aload_n 0, 1) := by decide +kernel
theorem dc49_1 : decode prog_26_method_2_code 1 = .ok (.getfield 13, 3) := by decide +kernel
theorem dc49_4 : decode prog_26_method_2_code 4 = .ok (.invokeinterface 19 1, 5) := by decide +kernel
theorem dc49_9 : decode prog_26_method_2_code 9 = .ok (.astore_n 2, 1) := by decide +kernel
theorem dc49_10 : decode prog_26_method_2_code 10 = .ok (.aload_n 2, 1) := by decide +kernel
theorem dc49_11 : decode prog_26_method_2_code 11 = .ok (.invokeinterface 23 1, 5) := by decide +kernel
theorem dc49_16 : decode prog_26_method_2_code 16 = .ok (.ifCond .eq 32, 3) := by decide +kernel
theorem dc49_48 : decode prog_26_method_2_code 48 = .ok (.invokestatic 51, 3) := by decide +kernel
theorem dc49_51 : decode prog_26_method_2_code 51 = .ok (.areturn, 1) := by decide +kernel
theorem dc49_19 : decode prog_26_method_2_code 19 = .ok (.aload_n 2, 1) := by decide +kernel
theorem dc49_20 : decode prog_26_method_2_code 20 = .ok (.invokeinterface 29 1, 5) := by decide +kernel
theorem dc49_25 : decode prog_26_method_2_code 25 = .ok (.checkcast 33, 3) := by decide +kernel
theorem dc49_28 : decode prog_26_method_2_code 28 = .ok (.astore_n 3, 1) := by decide +kernel
theorem dc49_29 : decode prog_26_method_2_code 29 = .ok (.aload_n 3, 1) := by decide +kernel
theorem dc49_30 : decode prog_26_method_2_code 30 = .ok (.invokevirtual 35, 3) := by decide +kernel
theorem dc49_33 : decode prog_26_method_2_code 33 = .ok (.aload_n 1, 1) := by decide +kernel
theorem dc49_34 : decode prog_26_method_2_code 34 = .ok (.invokevirtual 39, 3) := by decide +kernel
theorem dc49_37 : decode prog_26_method_2_code 37 = .ok (.ifCond .eq 8, 3) := by decide +kernel
theorem dc49_40 : decode prog_26_method_2_code 40 = .ok (.aload_n 3, 1) := by decide +kernel
theorem dc49_41 : decode prog_26_method_2_code 41 = .ok (.invokestatic 45, 3) := by decide +kernel
theorem dc49_44 : decode prog_26_method_2_code 44 = .ok (.areturn, 1) := by decide +kernel
theorem dc49_45 : decode prog_26_method_2_code 45 = .ok (.goto (-35), 3) := by decide +kernel
theorem pd_0 : parseMethodDescriptor "([CIILjava/lang/Void;)V" = some ⟨[(.array .char), .int, .int, (.object "java/lang/Void")], none⟩ := by decide +kernel
theorem pd_1 : parseMethodDescriptor "([C)V" = some ⟨[(.array .char)], none⟩ := by decide +kernel
theorem pd_2 : parseMethodDescriptor "(J)I" = some ⟨[.long], some .int⟩ := by decide +kernel
theorem pd_3 : parseMethodDescriptor "()I" = some ⟨[], some .int⟩ := by decide +kernel
theorem pd_4 : parseMethodDescriptor "()V" = some ⟨[], none⟩ := by decide +kernel
theorem pd_5 : parseMethodDescriptor "(Ljava/math/BigDecimal;Ljava/lang/String;)Ljava/math/BigDecimal;" = some ⟨[(.object "java/math/BigDecimal"), (.object "java/lang/String")], some (.object "java/math/BigDecimal")⟩ := by decide +kernel
theorem pd_6 : parseMethodDescriptor "(Ljava/lang/Object;Ljava/lang/String;)Ljava/lang/Object;" = some ⟨[(.object "java/lang/Object"), (.object "java/lang/String")], some (.object "java/lang/Object")⟩ := by decide +kernel
theorem pd_7 : parseMethodDescriptor "(II)I" = some ⟨[.int, .int], some .int⟩ := by decide +kernel
theorem pd_8 : parseMethodDescriptor "(I)[Ljava/lang/Object;" = some ⟨[.int], some (.array (.object "java/lang/Object"))⟩ := by decide +kernel
theorem pd_9 : parseMethodDescriptor "()[Ljava/lang/Object;" = some ⟨[], some (.array (.object "java/lang/Object"))⟩ := by decide +kernel
theorem pd_10 : parseMethodDescriptor "(Ljava/lang/Object;[Ljava/lang/Object;I)V" = some ⟨[(.object "java/lang/Object"), (.array (.object "java/lang/Object")), .int], none⟩ := by decide +kernel
theorem pd_11 : parseMethodDescriptor "([Ljava/lang/Object;ILjava/lang/Class;)[Ljava/lang/Object;" = some ⟨[(.array (.object "java/lang/Object")), .int, (.object "java/lang/Class")], some (.array (.object "java/lang/Object"))⟩ := by decide +kernel
theorem pd_12 : parseMethodDescriptor "([Ljava/lang/Object;I)[Ljava/lang/Object;" = some ⟨[(.array (.object "java/lang/Object")), .int], some (.array (.object "java/lang/Object"))⟩ := by decide +kernel
theorem pd_13 : parseMethodDescriptor "(Ljava/lang/Object;)Ljava/lang/Object;" = some ⟨[(.object "java/lang/Object")], some (.object "java/lang/Object")⟩ := by decide +kernel
theorem pd_14 : parseMethodDescriptor "([Ljava/lang/Object;Z)V" = some ⟨[(.array (.object "java/lang/Object")), .boolean], none⟩ := by decide +kernel
theorem pd_15 : parseMethodDescriptor "(Ljava/lang/Object;)V" = some ⟨[(.object "java/lang/Object")], none⟩ := by decide +kernel
theorem pd_16 : parseMethodDescriptor "(Ljava/lang/Object;Ljava/lang/Object;)V" = some ⟨[(.object "java/lang/Object"), (.object "java/lang/Object")], none⟩ := by decide +kernel
theorem pd_17 : parseMethodDescriptor "([Ljava/lang/Object;)Ljava/util/List;" = some ⟨[(.array (.object "java/lang/Object"))], some (.object "java/util/List")⟩ := by decide +kernel
theorem pd_18 : parseMethodDescriptor "()Z" = some ⟨[], some .boolean⟩ := by decide +kernel
theorem pd_19 : parseMethodDescriptor "()Ljava/util/List;" = some ⟨[], some (.object "java/util/List")⟩ := by decide +kernel
theorem pd_20 : parseMethodDescriptor "(Ljava/util/Collection;)Ljava/util/List;" = some ⟨[(.object "java/util/Collection")], some (.object "java/util/List")⟩ := by decide +kernel
theorem pd_21 : parseMethodDescriptor "(Ljava/util/List;I)V" = some ⟨[(.object "java/util/List"), .int], none⟩ := by decide +kernel
theorem pd_22 : parseMethodDescriptor "(I)Ljava/lang/Object;" = some ⟨[.int], some (.object "java/lang/Object")⟩ := by decide +kernel
theorem pd_23 : parseMethodDescriptor "()Ljava/util/Iterator;" = some ⟨[], some (.object "java/util/Iterator")⟩ := by decide +kernel
theorem pd_24 : parseMethodDescriptor "()Ljava/util/Optional;" = some ⟨[], some (.object "java/util/Optional")⟩ := by decide +kernel
theorem pd_25 : parseMethodDescriptor "()Ljava/lang/Object;" = some ⟨[], some (.object "java/lang/Object")⟩ := by decide +kernel
theorem pd_26 : parseMethodDescriptor "()Ljava/lang/String;" = some ⟨[], some (.object "java/lang/String")⟩ := by decide +kernel
theorem pd_27 : parseMethodDescriptor "(Ljava/lang/Object;)Ljava/util/Optional;" = some ⟨[(.object "java/lang/Object")], some (.object "java/util/Optional")⟩ := by decide +kernel
theorem pd_28 : parseMethodDescriptor "(I)Ljava/lang/String;" = some ⟨[.int], some (.object "java/lang/String")⟩ := by decide +kernel
theorem pd_29 : parseMethodDescriptor "(Ljava/math/BigDecimal;Ljava/math/BigDecimal;Ljava/math/BigDecimal;JLjava/math/BigDecimal;)V" = some ⟨[(.object "java/math/BigDecimal"), (.object "java/math/BigDecimal"), (.object "java/math/BigDecimal"), .long, (.object "java/math/BigDecimal")], none⟩ := by decide +kernel
theorem pd_30 : parseMethodDescriptor "(Ljava/lang/String;Lcom/example/cuenta/cuenta/FuelScheme;Ljava/util/Optional;)V" = some ⟨[(.object "java/lang/String"), (.object cFS), (.object "java/util/Optional")], none⟩ := by decide +kernel
theorem pd_31 : parseMethodDescriptor "(Ljava/util/List;)V" = some ⟨[(.object "java/util/List")], none⟩ := by decide +kernel
theorem pd_32 : parseMethodDescriptor "(Ljava/lang/String;)Ljava/util/Optional;" = some ⟨[(.object "java/lang/String")], some (.object "java/util/Optional")⟩ := by decide +kernel
theorem pd_33 : parseMethodDescriptor "(Ljava/lang/Object;)Z" = some ⟨[(.object "java/lang/Object")], some .boolean⟩ := by decide +kernel
theorem pn_0 : plainName "java/lang/String" = true := by first | (simp [plainName, overriddenIn]; done) | decide +kernel
theorem pn_1 : plainName "com/example/cuenta/cuenta/FuelSchemesSchemePinLaw" = true := by first | (simp [plainName, overriddenIn]; done) | decide +kernel
theorem pn_2 : plainName "java/lang/Record" = true := by first | (simp [plainName, overriddenIn]; done) | decide +kernel
theorem pn_3 : plainName "java/lang/Long" = true := by first | (simp [plainName, overriddenIn]; done) | decide +kernel
theorem pn_4 : plainName "java/math/BigDecimal" = true := by first | (simp [plainName, overriddenIn]; done) | decide +kernel
theorem pn_5 : plainName "com/example/cuenta/cuenta/Checks" = true := by first | (simp [plainName, overriddenIn]; done) | decide +kernel
theorem pn_6 : plainName "com/example/cuenta/cuenta/FuelScheme" = true := by first | (simp [plainName, overriddenIn]; done) | decide +kernel
theorem pn_7 : plainName "java/util/Objects" = true := by first | (simp [plainName, overriddenIn]; done) | decide +kernel
theorem pn_8 : plainName "com/example/cuenta/cuenta/FuelSchemes$Scheme" = true := by first | (simp [plainName, overriddenIn]; done) | decide +kernel
theorem pn_9 : plainName "java/util/Optional" = true := by first | (simp [plainName, overriddenIn]; done) | decide +kernel
theorem pn_10 : plainName "java/util/AbstractCollection" = true := by first | (simp [plainName, overriddenIn]; done) | decide +kernel
theorem pn_11 : plainName "java/util/AbstractList" = true := by first | (simp [plainName, overriddenIn]; done) | decide +kernel
theorem pn_12 : plainName "java/util/ArrayList" = true := by first | (simp [plainName, overriddenIn]; done) | decide +kernel
theorem pn_13 : plainName "java/util/Arrays" = true := by first | (simp [plainName, overriddenIn]; done) | decide +kernel
theorem pn_14 : plainName "java/util/ImmutableCollections$AbstractImmutableCollection" = true := by first | (simp [plainName, overriddenIn]; done) | decide +kernel
theorem pn_15 : plainName "java/util/ImmutableCollections$AbstractImmutableList" = true := by first | (simp [plainName, overriddenIn]; done) | decide +kernel
theorem pn_16 : plainName "java/util/ImmutableCollections$List12" = true := by first | (simp [plainName, overriddenIn]; done) | decide +kernel
theorem pn_17 : plainName "java/util/ImmutableCollections$ListN" = true := by first | (simp [plainName, overriddenIn]; done) | decide +kernel
theorem pn_18 : plainName "java/util/ImmutableCollections" = true := by first | (simp [plainName, overriddenIn]; done) | decide +kernel
theorem pn_19 : plainName "java/util/List" = true := by first | (simp [plainName, overriddenIn]; done) | decide +kernel
theorem pn_20 : plainName "com/example/cuenta/cuenta/FuelSchemes" = true := by first | (simp [plainName, overriddenIn]; done) | decide +kernel
theorem pn_21 : plainName "java/util/ImmutableCollections$ListItr" = true := by first | (simp [plainName, overriddenIn]; done) | decide +kernel
theorem m_ {α : Type} {l : List α} {a : α} (i : Nat) (h : l[i]? = some a := by rfl) : a ∈ l := List.mem_of_getElem? h
abbrev EL_ : List (String × Nat) := [("java/lang/String", 7)]
theorem lt3 (z : Int32) : (z < 1 ∧ z < 2 ∧ z < 3) ∨ (¬ z < 1 ∧ z < 2 ∧ z < 3) ∨ (¬ z < 1 ∧ ¬ z < 2 ∧ z < 3) ∨ (¬ z < 1 ∧ ¬ z < 2 ∧ ¬ z < 3) := by
  simp only [Int32.lt_iff_toInt_lt]
  have e1 : (1 : Int32).toInt = 1 := rfl
  have e2 : (2 : Int32).toInt = 2 := rfl
  have e3 : (3 : Int32).toInt = 3 := rfl
  omega

section Co
variable (l : Launch) (Z : State) (a0 : Array Value)
theorem c_str4e (hw : HW Z a0) (hEL : EW Z a0 EL_) (h0 : Heap) (hE0 : Ext Z.heap h0) (x b : Addr) (E_x : Exa Z h0 x "java/lang/String") (FV : Fld Z h0 x "java/lang/String" "value" "[B" .null) (FC : Fld Z h0 x "java/lang/String" "coder" "B" (.int 0)) (z_x : Z.heap.size ≤ x) :
    Con l Z EL_ [x] N0 jdk_42_method_149_code 6 none [] (⟨1, 4, 8, 14⟩ : Room) #[(.ref x), (.ref b), (.int (0 : Int32)), (.int (0 : Int32)), .null] h0 (fun v h' => v = none ∧ Keep h0 h' [x] ∧ Str Z h' x []) := by
  refine Con.mk (plainFor_of_name pn_0) hEL hE0 (allS E_x.lt all0) ?_
  intro p e s m below meth c T0 hby hml hret hnm W0
  rw [(show entryFrame m #[(.ref x), (.ref b), (.int (0 : Int32)), (.int (0 : Int32)), .null] 6 = mkF m 0 #[.val (.ref x), .val (.ref b), .val (.int (0 : Int32)), .val (.int (0 : Int32)), .val .null, .unset] [] from by first | (simp [entryFrame, mkF, argsToLocals, Value.category]; done) | rfl)]
  refine Go.by (fun _ q9 => XS.aloadN W0.here W0.hx rfl (hb hby dc0_0) rfl rfl q9) ?_
  show Go _ _ _ _ _ _ _ _ _ (T0.setTop (mkF m 1 #[.val (.ref x), .val (.ref b), .val (.int (0 : Int32)), .val (.int (0 : Int32)), .val .null, .unset] [(.ref x)]))
  refine W0.initO (wd15 hw) (wd16 hw) (wd17 hw) (by rw [hml]; rfl) (hb hby dc0_1) (by decide) (Wt := 0) (Nat.le_of_eq rfl) (by decide) ?_
  intro T1 W2
  refine Go.by (fun _ q9 => XS.iloadN W2.here W2.hx rfl (hb hby dc0_4) rfl q9) ?_
  refine Go.by (fun _ q9 => XS.ifNo W2.here W2.hx rfl (hb hby dc0_5) rfl ((if0 _ _).trans (teq rfl).2) q9) ?_
  refine Go.by (fun _ q9 => XS.aloadN W2.here W2.hx rfl (hb hby dc0_8) rfl rfl q9) ?_
  show Go _ _ _ _ _ _ _ _ _ (T1.setTop (mkF m 9 #[.val (.ref x), .val (.ref b), .val (.int (0 : Int32)), .val (.int (0 : Int32)), .val .null, .unset] [(.ref x)]))
  refine W2.ldcC (cs := []) (wd18 hw) (k_sa hw) (m_ 0) ⟨by decide +kernel, by decide +kernel⟩ (by decide) (by decide) (by decide) (hb hby dc0_9) (q := 0) (by decide +kernel) (by decide) (k' := 2) (n' := 4) rfl rfl (by decide) (by decide) ?_
  intro T3 h4 d1 W5 E6 S_d1 ne_d1
  obtain ⟨t1, kb1, cd1, N1, vs1, s1, s2, s3, s4, s5, s6⟩ := S_d1
  have ne1 : t1 ≠ x := Ne.symm (Exa.neArv (E_x.ext E6) s4 (wd5 hw))
  show Go _ _ _ _ _ _ _ _ _ (T3.setTop (mkF m 11 #[.val (.ref x), .val (.ref b), .val (.int (0 : Int32)), .val (.int (0 : Int32)), .val .null, .unset] [(.ref d1), (.ref x)]))
  refine W5.getf (host := "") (Or.inl (wd24 hw)) Via.refl s2 (hb hby dc0_11) ?_
  intro T7 W8
  show Go _ _ _ _ _ _ _ _ _ (T7.setTop (mkF m 14 #[.val (.ref x), .val (.ref b), .val (.int (0 : Int32)), .val (.int (0 : Int32)), .val .null, .unset] [(.ref t1), (.ref x)]))
  refine W8.putf (host := "") (Or.inl (wd24 hw)) Via.refl (FV.ext E6) (E_x.ext E6) (Or.inr ⟨(wd20 hw), rfl, hnm⟩) (wd5 hw) (ty := (.array .byte)) (by decide) rfl rfl z_x (m_ 0) (hb hby dc0_14) ?_
  intro T9 h10 W11 Wr12
  have F13 : Fld Z h10 x "java/lang/String" "value" "[B" (.ref t1) := (FV.ext E6).same Wr12
  have F14 : Fld Z h10 x "java/lang/String" "coder" "B" (.int 0) := (FC.ext E6).other Wr12 (Or.inr (slot_ne (Or.inr (wd21 hw)) (Or.inr (wd20 hw)) (by decide) (t := .byte) (t' := (.array .byte)) (by decide) (by decide)))
  have A15 : Exa Z h10 x "java/lang/String" := (E_x.ext E6).wr Wr12
  refine Go.by (fun _ q9 => XS.aloadN W11.here W11.hx rfl (hb hby dc0_17) rfl rfl q9) ?_
  show Go _ _ _ _ _ _ _ _ _ (T9.setTop (mkF m 18 #[.val (.ref x), .val (.ref b), .val (.int (0 : Int32)), .val (.int (0 : Int32)), .val .null, .unset] [(.ref x)]))
  refine W11.ldcC (cs := []) (wd18 hw) (k_sa hw) (m_ 0) ⟨by decide +kernel, by decide +kernel⟩ (by decide) (by decide) (by decide) (hb hby dc0_18) (q := 0) (by decide +kernel) (by decide) (k' := 4) (n' := 8) rfl rfl (by decide) (by decide) ?_
  intro T16 h17 d2 W18 E19 S_d2 ne_d2
  obtain ⟨t2, kb2, cd2, N2, vs2, u1, u2, u3, u4, u5, u6⟩ := S_d2
  obtain ⟨rfl, -⟩ : cd2 = 0 ∧ True := by rcases u5 with ⟨q, -⟩ | ⟨-, -, -, c, hc, -⟩; exact ⟨q, trivial⟩; cases hc
  show Go _ _ _ _ _ _ _ _ _ (T16.setTop (mkF m 20 #[.val (.ref x), .val (.ref b), .val (.int (0 : Int32)), .val (.int (0 : Int32)), .val .null, .unset] [(.ref d2), (.ref x)]))
  refine W18.getf (host := "") (Or.inl (wd25 hw)) Via.refl u3 (hb hby dc0_20) ?_
  intro T20 W21
  show Go _ _ _ _ _ _ _ _ _ (T20.setTop (mkF m 23 #[.val (.ref x), .val (.ref b), .val (.int (0 : Int32)), .val (.int (0 : Int32)), .val .null, .unset] [(.int (0 : Int32)), (.ref x)]))
  refine W21.putf (host := "") (Or.inl (wd25 hw)) Via.refl (F14.ext E19) (A15.ext E19) (Or.inr ⟨(wd21 hw), rfl, hnm⟩) (wd5 hw) (ty := .byte) (by decide) rfl rfl z_x (m_ 0) (hb hby dc0_23) ?_
  intro T22 h23 W24 Wr25
  have F26 : Fld Z h23 x "java/lang/String" "coder" "B" (.int (0 : Int32)) := (F14.ext E19).same Wr25
  have F27 : Fld Z h23 x "java/lang/String" "value" "[B" (.ref t1) := (F13.ext E19).other Wr25 (Or.inr (slot_ne (Or.inr (wd20 hw)) (Or.inr (wd21 hw)) (by decide) (t := (.array .byte)) (t' := .byte) (by decide) (by decide)))
  have A28 : Exa Z h23 x "java/lang/String" := (A15.ext E19).wr Wr25
  show Go _ _ _ _ _ _ _ _ _ (T22.setTop (mkF m 26 #[.val (.ref x), .val (.ref b), .val (.int (0 : Int32)), .val (.int (0 : Int32)), .val .null, .unset] []))
  exact W24.retV (by decide) (by decide) hret (hb hby dc0_26) ⟨rfl, (((((Keep.refl h0 [x]).ext E6).wr Wr12 (Or.inl (m_ 0))).ext E19).wr Wr25 (Or.inl (m_ 0))), ⟨t1, kb1, 0, N1, vs1, A28, F27, F26, (((s4.other Wr12 ne1).ext E19).other Wr25 ne1), (by rcases s5 with ⟨-, q⟩ | ⟨-, -, -, c, hc, -⟩; exact Or.inl ⟨rfl, q⟩; cases hc), s6⟩⟩
theorem c_str1e (hw : HW Z a0) (hEL : EW Z a0 EL_) (h0 : Heap) (hE0 : Ext Z.heap h0) (x b : Addr) (kb : ClassId) (vs : List Value) (dv : Value) (E_x : Exa Z h0 x "java/lang/String") (FV : Fld Z h0 x "java/lang/String" "value" "[B" .null) (FC : Fld Z h0 x "java/lang/String" "coder" "B" (.int 0)) (z_x : Z.heap.size ≤ x) (A_b : Arv Z h0 b kb .char 0 vs dv) :
    Con l Z EL_ [x] N1 jdk_42_method_3_code 2 none [] (⟨2, 4, 8, 31⟩ : Room) #[(.ref x), (.ref b)] h0 (fun v h' => v = none ∧ Keep h0 h' [x] ∧ Str Z h' x []) := by
  refine Con.mk (plainFor_of_name pn_0) hEL hE0 (allS E_x.lt all0) ?_
  intro p e s m below meth c T0 hby hml hret hnm W0
  rw [(show entryFrame m #[(.ref x), (.ref b)] 2 = mkF m 0 #[.val (.ref x), .val (.ref b)] [] from by first | (simp [entryFrame, mkF, argsToLocals, Value.category]; done) | rfl)]
  refine Go.by (fun _ q9 => XS.aloadN W0.here W0.hx rfl (hb hby dc1_0) rfl rfl (XS.aloadN W0.here W0.hx rfl (hb hby dc1_1) rfl rfl (XS.iconst W0.here W0.hx rfl (hb hby dc1_2) (XS.aloadN W0.here W0.hx rfl (hb hby dc1_3) rfl rfl q9)))) ?_
  show Go _ _ _ _ _ _ _ _ _ (T0.setTop (mkF m 4 #[.val (.ref x), .val (.ref b)] [(.ref b), (.int (0 : Int32)), (.ref b), (.ref x)]))
  refine W0.alen A_b (hb hby dc1_4) ?_
  refine Go.by (fun _ q9 => XS.aconstNull W0.here W0.hx rfl (hb hby dc1_5) q9) ?_
  show Go _ _ _ _ _ _ _ _ _ (T0.setTop (mkF m 6 #[.val (.ref x), .val (.ref b)] [.null, (.int (0 : Int32)), (.int (0 : Int32)), (.ref b), (.ref x)]))
  refine W0.callI (y := N0) rfl (wd11 hw) (wd12 hw) (wd6 hw) (wd14 hw) (by decide) (a := x) (c_str4e l Z a0 hw hEL h0 hE0 x b E_x FV FC z_x) (allS (m_ 0) all0) (by decide) (by decide) (k' := 4) (n' := 8) rfl rfl (by decide) (by decide) (by rw [hml]; rfl) (argsL := [(.ref b), (.int (0 : Int32)), (.int (0 : Int32)), .null]) (rest := []) (lenOf pd_0 rfl) rfl rfl (Wt := 0) (Nat.le_of_eq rfl) (hb hby dc1_6) ?_
  intro v_ T29 h31 W30 hq_
  obtain ⟨rfl, K1, S1⟩ := hq_
  show Go _ _ _ _ _ _ _ _ _ (T29.setTop (mkF m 9 #[.val (.ref x), .val (.ref b)] []))
  exact W30.retV (by decide) (by decide) hret (hb hby dc1_9) ⟨rfl, K1, S1⟩
theorem c_name (hw : HW Z a0) (hEL : EW Z a0 EL_) (h0 : Heap) (hE0 : Ext Z.heap h0) (x G1 : Int32) (SG1 : Sta Z Z.heap "java/lang/String" "COMPACT_STRINGS" "Z" (.int G1)) (hG : ¬ G1 = 0) :
    Con l Z EL_ [] N2 method_3_code 3 (some (.object "java/lang/String")) [] (⟨4, 6, 24, 72⟩ : Room) #[(.int x)] h0 (fun v h' => ∃ r cs, v = some (.ref r) ∧ Ext h0 h' ∧ Str Z h' r cs ∧ cs.length ≤ 4000) := by
  refine Con.mk (plainFor_of_name pn_1) hEL hE0 (fun x hx => by cases hx) ?_
  intro p e s m below meth c T0 hby hml hret hnm W0
  rw [(show entryFrame m #[(.int x)] 3 = mkF m 0 #[.val (.int x), .unset, .unset] [] from by first | (simp [entryFrame, mkF, argsToLocals, Value.category]; done) | rfl)]
  refine Go.by (fun _ q9 => XS.iloadN W0.here W0.hx rfl (hb hby dc2_0) rfl (XS.iconst W0.here W0.hx rfl (hb hby dc2_1) (XS.iand W0.here W0.hx rfl (hb hby dc2_2) rfl (XS.istoreN W0.here W0.hx rfl (hb hby dc2_3) rfl (l' := #[.val (.int x), .val (.int (x &&& (3 : Int32))), .unset]) rfl (XS.iloadN W0.here W0.hx rfl (hb hby dc2_4) rfl q9))))) ?_
  by_cases m0 : (x &&& (3 : Int32)) = (0 : Int32)
  · refine Go.by (fun _ q9 => XS.ifNo W0.here W0.hx rfl (hb hby dc2_5) rfl ((if0 _ _).trans (teq m0).2) q9) ?_
    show Go _ _ _ _ _ _ _ _ _ (T0.setTop (mkF m 8 #[.val (.int x), .val (.int (x &&& (3 : Int32))), .unset] []))
    refine W0.new (wd4 hw) (wd5 hw) (wd6 hw) (hb hby dc2_8) (k' := 1) (n' := 4) rfl rfl (by decide) (by decide) ?_
    intro T32 h33 r W34 E35 g_r z_r A_r D_r
    have F_value_r : Fld Z h33 r "java/lang/String" "value" "[B" .null := D_r (Or.inr (wd20 hw)) (ty := (.array .byte)) (by decide)
    have F_coder_r : Fld Z h33 r "java/lang/String" "coder" "B" (.int (0 : Int32)) := D_r (Or.inr (wd21 hw)) (ty := .byte) (by decide)
    refine Go.by (fun _ q9 => XS.dup W34.here W34.hx rfl (hb hby dc2_11) rfl rfl (XS.iconst W34.here W34.hx rfl (hb hby dc2_12) q9)) ?_
    show Go _ _ _ _ _ _ _ _ _ (T32.setTop (mkF m 13 #[.val (.int x), .val (.int (x &&& (3 : Int32))), .unset] [(.int (0 : Int32)), (.ref r), (.ref r)]))
    refine W34.newp (aty := .char) (wd7 hw) (hb hby dc2_13) (by decide) (cap := 0) (by decide) (by decide) (k' := 2) (n' := 4) rfl rfl (by decide) (by decide) (ad := "[C") rfl ?_
    intro T36 h37 b0 k_b0 W38 E39 g_b0 z_b0 A_b0 V_b0
    have V1_b0 : Arv Z h37 b0 k_b0 .char (0 : Int32) [] (.int (0 : Int32)) := V_b0.pad (pad_rep [] (.int (0 : Int32)) 0)
    show Go _ _ _ _ _ _ _ _ _ (T36.setTop (mkF m 15 #[.val (.int x), .val (.int (x &&& (3 : Int32))), .unset] [(.ref b0), (.ref r), (.ref r)]))
    refine W38.callI (y := N1) rfl (wd8 hw) (wd9 hw) (wd6 hw) (wd10 hw) (by decide) (a := r) (c_str1e l Z a0 hw hEL h37 W38.old r b0 k_b0 _ _ (A_r.ext E39) (F_value_r.ext E39) (F_coder_r.ext E39) z_r V1_b0) (allS (m_ 1) all0) (by decide) (by decide) (k' := 6) (n' := 12) rfl rfl (by decide) (by decide) (by rw [hml]; rfl) (argsL := [(.ref b0)]) (rest := [(.ref r)]) (lenOf pd_1 rfl) rfl rfl (Wt := 1) (Nat.le_of_eq rfl) (hb hby dc2_15) ?_
    intro v_ T40 h42 W41 hq_
    obtain ⟨rfl, K1, S_r⟩ := hq_
    have X43 : Ext h0 h37 := (Ext.trans' E35 E39)
    have X44 : Ext h0 h42 := (Ext.keep' X43 K1 (allS (Nat.le_of_eq g_r) all0))
    show Go _ _ _ _ _ _ _ _ _ (T40.setTop (mkF m 18 #[.val (.int x), .val (.int (x &&& (3 : Int32))), .unset] [(.ref r)]))
    exact W41.retA (by decide) (by decide) hret rfl rfl (hb hby dc2_18) ⟨r, _, rfl, X44, S_r, by simp⟩
  · refine Go.by (fun _ q9 => XS.ifYes W0.here W0.hx rfl (pc0 := 5) (pc' := 19) rfl (hb hby dc2_5) rfl ((if0 _ _).trans (feq m0).2) (by decide) (by decide) q9) ?_
    refine Go.by (fun _ q9 => XS.iloadN W0.here W0.hx rfl (hb hby dc2_19) rfl (XS.iconst W0.here W0.hx rfl (hb hby dc2_20) q9)) ?_
    by_cases m1 : (x &&& (3 : Int32)) = (1 : Int32)
    · refine Go.by (fun _ q9 => XS.icmpNo W0.here W0.hx rfl (hb hby dc2_21) rfl (teq m1).2 q9) ?_
      refine Go.by (fun _ q9 => XS.iconst W0.here W0.hx rfl (hb hby dc2_24) q9) ?_
      show Go _ _ _ _ _ _ _ _ _ (T0.setTop (mkF m 25 #[.val (.int x), .val (.int (x &&& (3 : Int32))), .unset] [(.int (1 : Int32))]))
      refine W0.newp (aty := .char) (wd7 hw) (hb hby dc2_25) (by decide) (cap := 1) (by decide) (by decide) (k' := 1) (n' := 1) rfl rfl (by decide) (by decide) (ad := "[C") rfl ?_
      intro T45 h46 b0 k_b0 W47 E48 g_b0 z_b0 A_b0 V_b0
      have V1_b0 : Arv Z h46 b0 k_b0 .char (1 : Int32) [(.int (0 : Int32))] (.int (0 : Int32)) := V_b0.pad (pad_rep [] (.int (0 : Int32)) 1)
      refine Go.by (fun _ q9 => XS.astoreN W47.here W47.hx rfl (hb hby dc2_27) rfl rfl (l' := #[.val (.int x), .val (.int (x &&& (3 : Int32))), .val (.ref b0)]) rfl (XS.aloadN W47.here W47.hx rfl (hb hby dc2_28) rfl rfl (XS.iconst W47.here W47.hx rfl (hb hby dc2_29) (XS.iloadN W47.here W47.hx rfl (hb hby dc2_30) rfl (XS.iconst W47.here W47.hx rfl (hb hby dc2_31) (XS.iushr W47.here W47.hx rfl (hb hby dc2_32) rfl (XS.sipush W47.here W47.hx rfl (hb hby dc2_33) (XS.iand W47.here W47.hx rfl (hb hby dc2_36) rfl (XS.i2c W47.here W47.hx rfl (hb hby dc2_37) rfl q9))))))))) ?_
      show Go _ _ _ _ _ _ _ _ _ (T45.setTop (mkF m 38 #[.val (.int x), .val (.int (x &&& (3 : Int32))), .val (.ref b0)] [(.int ((((x.toUInt32 >>> ((2 : Int32) &&& 31).toUInt32).toInt32) &&& (255 : Int32)).toUInt32.toUInt16.toUInt32.toInt32)), (.int (0 : Int32)), (.ref b0)]))
      obtain ⟨u0, h_u0⟩ : ∃ z : Int32, z = ((((x.toUInt32 >>> ((2 : Int32) &&& 31).toUInt32).toInt32) &&& (255 : Int32)).toUInt32.toUInt16.toUInt32.toInt32) := ⟨_, rfl⟩
      rw [← h_u0]
      have r_u0 : ¬ u0 < 0 ∧ ¬ (255 : Int32) < u0 := by rw [h_u0]; exact k_mask _
      show Go _ _ _ _ _ _ _ _ _ (T45.setTop (mkF m 38 #[.val (.int x), .val (.int (x &&& (3 : Int32))), .val (.ref b0)] [(.int u0), (.int (0 : Int32)), (.ref b0)]))
      refine W47.cast_ V1_b0 ⟨by decide, by decide⟩ (i := 0) rfl (by simp) (v' := u0) (nar_id (up16 r_u0)) z_b0 (m_ 0) (hb hby dc2_38) ?_
      intro T49 h50 W51 Wr52 V53_b0'
      have V53_b0 : Arv Z h50 b0 k_b0 .char (1 : Int32) [(.int u0)] (.int (0 : Int32)) := V53_b0'
      show Go _ _ _ _ _ _ _ _ _ (T49.setTop (mkF m 39 #[.val (.int x), .val (.int (x &&& (3 : Int32))), .val (.ref b0)] []))
      refine W51.new (wd4 hw) (wd5 hw) (wd6 hw) (hb hby dc2_39) (k' := 2) (n' := 5) rfl rfl (by decide) (by decide) ?_
      intro T54 h55 r W56 E57 g_r z_r A_r D_r
      have F_value_r : Fld Z h55 r "java/lang/String" "value" "[B" .null := D_r (Or.inr (wd20 hw)) (ty := (.array .byte)) (by decide)
      have F_coder_r : Fld Z h55 r "java/lang/String" "coder" "B" (.int (0 : Int32)) := D_r (Or.inr (wd21 hw)) (ty := .byte) (by decide)
      refine Go.by (fun _ q9 => XS.dup W56.here W56.hx rfl (hb hby dc2_42) rfl rfl (XS.aloadN W56.here W56.hx rfl (hb hby dc2_43) rfl rfl q9)) ?_
      show Go _ _ _ _ _ _ _ _ _ (T54.setTop (mkF m 44 #[.val (.int x), .val (.int (x &&& (3 : Int32))), .val (.ref b0)] [(.ref b0), (.ref r), (.ref r)]))
      refine W56.strV (cs := [u0]) (k_words hw) (wd5 hw) (wd8 hw) (wd9 hw) A_r F_value_r F_coder_r (V53_b0.ext E57) (SG1.ext W56.old) hG (q := 1) rfl rfl (by decide) (by decide) (by intro c hc; simp only [List.mem_cons, List.not_mem_nil, or_false] at hc; rcases hc with rfl <;> assumption) z_r (m_ 0) (by decide) (Wt := 1) (by decide) (k' := 3) (n' := 6) rfl rfl (by decide) (by decide) (by rw [hml]; rfl) (Nat.le_of_eq rfl) (hb hby dc2_44) ?_
      intro T58 h59 W60 K61 S_r
      have X62 : Ext h0 h50 := (Ext.wr' E48 Wr52 (Nat.le_of_eq g_b0))
      have X63 : Ext h0 h55 := (Ext.trans' X62 E57)
      have X64 : Ext h0 h59 := (Ext.keep' X63 K61 (allS (Nat.le_trans X62.1 (Nat.le_of_eq g_r)) all0))
      show Go _ _ _ _ _ _ _ _ _ (T58.setTop (mkF m 47 #[.val (.int x), .val (.int (x &&& (3 : Int32))), .val (.ref b0)] [(.ref r)]))
      exact W60.retA (by decide) (by decide) hret rfl rfl (hb hby dc2_47) ⟨r, _, rfl, X64, S_r, by simp⟩
    · refine Go.by (fun _ q9 => XS.icmpYes W0.here W0.hx rfl (pc0 := 21) (pc' := 48) rfl (hb hby dc2_21) rfl (feq m1).2 (by decide) (by decide) q9) ?_
      refine Go.by (fun _ q9 => XS.iconst W0.here W0.hx rfl (hb hby dc2_48) q9) ?_
      show Go _ _ _ _ _ _ _ _ _ (T0.setTop (mkF m 49 #[.val (.int x), .val (.int (x &&& (3 : Int32))), .unset] [(.int (2 : Int32))]))
      refine W0.newp (aty := .char) (wd7 hw) (hb hby dc2_49) (by decide) (cap := 2) (by decide) (by decide) (k' := 1) (n' := 2) rfl rfl (by decide) (by decide) (ad := "[C") rfl ?_
      intro T65 h66 b0 k_b0 W67 E68 g_b0 z_b0 A_b0 V_b0
      have V1_b0 : Arv Z h66 b0 k_b0 .char (2 : Int32) [(.int (0 : Int32)), (.int (0 : Int32))] (.int (0 : Int32)) := V_b0.pad (pad_rep [] (.int (0 : Int32)) 2)
      refine Go.by (fun _ q9 => XS.astoreN W67.here W67.hx rfl (hb hby dc2_51) rfl rfl (l' := #[.val (.int x), .val (.int (x &&& (3 : Int32))), .val (.ref b0)]) rfl (XS.aloadN W67.here W67.hx rfl (hb hby dc2_52) rfl rfl (XS.iconst W67.here W67.hx rfl (hb hby dc2_53) (XS.iloadN W67.here W67.hx rfl (hb hby dc2_54) rfl (XS.iconst W67.here W67.hx rfl (hb hby dc2_55) (XS.iushr W67.here W67.hx rfl (hb hby dc2_56) rfl (XS.sipush W67.here W67.hx rfl (hb hby dc2_57) (XS.iand W67.here W67.hx rfl (hb hby dc2_60) rfl (XS.i2c W67.here W67.hx rfl (hb hby dc2_61) rfl q9))))))))) ?_
      show Go _ _ _ _ _ _ _ _ _ (T65.setTop (mkF m 62 #[.val (.int x), .val (.int (x &&& (3 : Int32))), .val (.ref b0)] [(.int ((((x.toUInt32 >>> ((2 : Int32) &&& 31).toUInt32).toInt32) &&& (255 : Int32)).toUInt32.toUInt16.toUInt32.toInt32)), (.int (0 : Int32)), (.ref b0)]))
      obtain ⟨u0, h_u0⟩ : ∃ z : Int32, z = ((((x.toUInt32 >>> ((2 : Int32) &&& 31).toUInt32).toInt32) &&& (255 : Int32)).toUInt32.toUInt16.toUInt32.toInt32) := ⟨_, rfl⟩
      rw [← h_u0]
      have r_u0 : ¬ u0 < 0 ∧ ¬ (255 : Int32) < u0 := by rw [h_u0]; exact k_mask _
      show Go _ _ _ _ _ _ _ _ _ (T65.setTop (mkF m 62 #[.val (.int x), .val (.int (x &&& (3 : Int32))), .val (.ref b0)] [(.int u0), (.int (0 : Int32)), (.ref b0)]))
      refine W67.cast_ V1_b0 ⟨by decide, by decide⟩ (i := 0) rfl (by simp) (v' := u0) (nar_id (up16 r_u0)) z_b0 (m_ 0) (hb hby dc2_62) ?_
      intro T69 h70 W71 Wr72 V73_b0'
      have V73_b0 : Arv Z h70 b0 k_b0 .char (2 : Int32) [(.int u0), (.int (0 : Int32))] (.int (0 : Int32)) := V73_b0'
      refine Go.by (fun _ q9 => XS.aloadN W71.here W71.hx rfl (hb hby dc2_63) rfl rfl (XS.iconst W71.here W71.hx rfl (hb hby dc2_64) (XS.iloadN W71.here W71.hx rfl (hb hby dc2_65) rfl (XS.bipush W71.here W71.hx rfl (hb hby dc2_66) (XS.iushr W71.here W71.hx rfl (hb hby dc2_68) rfl (XS.sipush W71.here W71.hx rfl (hb hby dc2_69) (XS.iand W71.here W71.hx rfl (hb hby dc2_72) rfl (XS.i2c W71.here W71.hx rfl (hb hby dc2_73) rfl q9)))))))) ?_
      show Go _ _ _ _ _ _ _ _ _ (T69.setTop (mkF m 74 #[.val (.int x), .val (.int (x &&& (3 : Int32))), .val (.ref b0)] [(.int ((((x.toUInt32 >>> ((10 : Int32) &&& 31).toUInt32).toInt32) &&& (255 : Int32)).toUInt32.toUInt16.toUInt32.toInt32)), (.int (1 : Int32)), (.ref b0)]))
      obtain ⟨u1, h_u1⟩ : ∃ z : Int32, z = ((((x.toUInt32 >>> ((10 : Int32) &&& 31).toUInt32).toInt32) &&& (255 : Int32)).toUInt32.toUInt16.toUInt32.toInt32) := ⟨_, rfl⟩
      rw [← h_u1]
      have r_u1 : ¬ u1 < 0 ∧ ¬ (255 : Int32) < u1 := by rw [h_u1]; exact k_mask _
      show Go _ _ _ _ _ _ _ _ _ (T69.setTop (mkF m 74 #[.val (.int x), .val (.int (x &&& (3 : Int32))), .val (.ref b0)] [(.int u1), (.int (1 : Int32)), (.ref b0)]))
      refine W71.cast_ V73_b0 ⟨by decide, by decide⟩ (i := 1) rfl (by simp) (v' := u1) (nar_id (up16 r_u1)) z_b0 (m_ 0) (hb hby dc2_74) ?_
      intro T74 h75 W76 Wr77 V78_b0'
      have V78_b0 : Arv Z h75 b0 k_b0 .char (2 : Int32) [(.int u0), (.int u1)] (.int (0 : Int32)) := V78_b0'
      show Go _ _ _ _ _ _ _ _ _ (T74.setTop (mkF m 75 #[.val (.int x), .val (.int (x &&& (3 : Int32))), .val (.ref b0)] []))
      refine W76.new (wd4 hw) (wd5 hw) (wd6 hw) (hb hby dc2_75) (k' := 2) (n' := 6) rfl rfl (by decide) (by decide) ?_
      intro T79 h80 r W81 E82 g_r z_r A_r D_r
      have F_value_r : Fld Z h80 r "java/lang/String" "value" "[B" .null := D_r (Or.inr (wd20 hw)) (ty := (.array .byte)) (by decide)
      have F_coder_r : Fld Z h80 r "java/lang/String" "coder" "B" (.int (0 : Int32)) := D_r (Or.inr (wd21 hw)) (ty := .byte) (by decide)
      refine Go.by (fun _ q9 => XS.dup W81.here W81.hx rfl (hb hby dc2_78) rfl rfl (XS.aloadN W81.here W81.hx rfl (hb hby dc2_79) rfl rfl q9)) ?_
      show Go _ _ _ _ _ _ _ _ _ (T79.setTop (mkF m 80 #[.val (.int x), .val (.int (x &&& (3 : Int32))), .val (.ref b0)] [(.ref b0), (.ref r), (.ref r)]))
      refine W81.strV (cs := [u0, u1]) (k_words hw) (wd5 hw) (wd8 hw) (wd9 hw) A_r F_value_r F_coder_r (V78_b0.ext E82) (SG1.ext W81.old) hG (q := 2) rfl rfl (by decide) (by decide) (by intro c hc; simp only [List.mem_cons, List.not_mem_nil, or_false] at hc; rcases hc with rfl | rfl <;> assumption) z_r (m_ 0) (by decide) (Wt := 1) (by decide) (k' := 3) (n' := 8) rfl rfl (by decide) (by decide) (by rw [hml]; rfl) (Nat.le_of_eq rfl) (hb hby dc2_80) ?_
      intro T83 h84 W85 K86 S_r
      have X87 : Ext h0 h70 := (Ext.wr' E68 Wr72 (Nat.le_of_eq g_b0))
      have X88 : Ext h0 h75 := (Ext.wr' X87 Wr77 (Nat.le_of_eq g_b0))
      have X89 : Ext h0 h80 := (Ext.trans' X88 E82)
      have X90 : Ext h0 h84 := (Ext.keep' X89 K86 (allS (Nat.le_trans X88.1 (Nat.le_of_eq g_r)) all0))
      show Go _ _ _ _ _ _ _ _ _ (T83.setTop (mkF m 83 #[.val (.int x), .val (.int (x &&& (3 : Int32))), .val (.ref b0)] [(.ref r)]))
      exact W85.retA (by decide) (by decide) hret rfl rfl (hb hby dc2_83) ⟨r, _, rfl, X90, S_r, by simp⟩
theorem c_recinit (hw : HW Z a0) (hEL : EW Z a0 EL_) (h0 : Heap) (hE0 : Ext Z.heap h0) (x : Addr)  :
    Con l Z EL_ [] N3 jdk_30_method_1_code 1 none [] (⟨1, 0, 0, 12⟩ : Room) #[(.ref x)] h0 (fun v h' => v = none ∧ h' = h0) := by
  refine Con.mk (plainFor_of_name pn_2) hEL hE0 (fun x hx => by cases hx) ?_
  intro p e s m below meth c T0 hby hml hret hnm W0
  rw [(show entryFrame m #[(.ref x)] 1 = mkF m 0 #[.val (.ref x)] [] from by first | (simp [entryFrame, mkF, argsToLocals, Value.category]; done) | rfl)]
  refine Go.by (fun _ q9 => XS.aloadN W0.here W0.hx rfl (hb hby dc3_0) rfl rfl q9) ?_
  show Go _ _ _ _ _ _ _ _ _ (T0.setTop (mkF m 1 #[.val (.ref x)] [(.ref x)]))
  refine W0.initO (wd50 hw) (wd16 hw) (wd17 hw) (by rw [hml]; rfl) (hb hby dc3_1) (by decide) (Wt := 0) (Nat.le_of_eq rfl) (by decide) ?_
  intro T91 W92
  show Go _ _ _ _ _ _ _ _ _ (T91.setTop (mkF m 4 #[.val (.ref x)] []))
  exact W92.retV (by decide) (by decide) hret (hb hby dc3_4) ⟨rfl, rfl⟩
theorem c_lsig (hw : HW Z a0) (hEL : EW Z a0 EL_) (h0 : Heap) (hE0 : Ext Z.heap h0)   :
    Con l Z EL_ [] N4 jdk_35_method_57_code 2 (some .int) [] (⟨0, 0, 0, 0⟩ : Room) #[(.long (0 : Int64))] h0 (fun v h' => v = (some (.int 0)) ∧ h' = h0) := by
  refine Con.mk (plainFor_of_name pn_3) hEL hE0 (fun x hx => by cases hx) ?_
  intro p e s m below meth c T0 hby hml hret hnm W0
  rw [(show entryFrame m #[(.long (0 : Int64))] 2 = mkF m 0 #[.val (.long (0 : Int64)), .second] [] from by first | (simp [entryFrame, mkF, argsToLocals, Value.category]; done) | rfl)]
  refine Go.by (fun _ q9 => XS.lloadN W0.here W0.hx rfl (hb hby dc4_0) rfl (XS.bipush W0.here W0.hx rfl (hb hby dc4_1) (XS.lshr W0.here W0.hx rfl (hb hby dc4_3) rfl (XS.lloadN W0.here W0.hx rfl (hb hby dc4_4) rfl (XS.lneg W0.here W0.hx rfl (hb hby dc4_5) rfl (XS.bipush W0.here W0.hx rfl (hb hby dc4_6) (XS.lushr W0.here W0.hx rfl (hb hby dc4_8) rfl (XS.lor W0.here W0.hx rfl (hb hby dc4_9) rfl (XS.l2i W0.here W0.hx rfl (hb hby dc4_10) rfl q9))))))))) ?_
  show Go _ _ _ _ _ _ _ _ _ (T0.setTop (mkF m 11 #[.val (.long (0 : Int64)), .second] [(.int ((((0 : Int64) >>> ((63 : Int32) &&& 0x3f).toInt64) ||| (((-(0 : Int64)).toUInt64 >>> ((63 : Int32) &&& 0x3f).toInt64.toUInt64).toInt64)).toInt32))]))
  exact W0.retI (by decide) (by decide) hret (hb hby dc4_11) ⟨by decide, rfl⟩
theorem c_bsig (hw : HW Z a0) (hEL : EW Z a0 EL_) (h0 : Heap) (hE0 : Ext Z.heap h0) (bz : Addr) (EZ : Exa Z Z.heap bz "java/math/BigDecimal") (FZ : Fld Z Z.heap bz "java/math/BigDecimal" "intCompact" "J" (.long 0)) :
    Con l Z EL_ [] N5 jdk_17_method_58_code 1 (some .int) [] (⟨1, 0, 0, 13⟩ : Room) #[(.ref bz)] h0 (fun v h' => v = (some (.int 0)) ∧ h' = h0) := by
  refine Con.mk (plainFor_of_name pn_4) hEL hE0 (fun x hx => by cases hx) ?_
  intro p e s m below meth c T0 hby hml hret hnm W0
  rw [(show entryFrame m #[(.ref bz)] 1 = mkF m 0 #[.val (.ref bz)] [] from by first | (simp [entryFrame, mkF, argsToLocals, Value.category]; done) | rfl)]
  refine Go.by (fun _ q9 => XS.aloadN W0.here W0.hx rfl (hb hby dc5_0) rfl rfl q9) ?_
  show Go _ _ _ _ _ _ _ _ _ (T0.setTop (mkF m 1 #[.val (.ref bz)] [(.ref bz)]))
  refine W0.getf (host := "") (Or.inl (wd61 hw)) Via.refl (FZ.ext W0.old) (hb hby dc5_1) ?_
  intro T93 W94
  show Go _ _ _ _ _ _ _ _ _ (T93.setTop (mkF m 4 #[.val (.ref bz)] [(.long (0 : Int64))]))
  refine W94.ldcJ (wd63 hw) (hb hby dc5_4) ?_
  refine Go.by (fun _ q9 => XS.lcmp W94.here W94.hx rfl (hb hby dc5_7) rfl q9) ?_
  refine Go.by (fun _ q9 => XS.ifNo W94.here W94.hx rfl (hb hby dc5_8) rfl ((if0 _ _).trans (feq (by decide)).1) q9) ?_
  refine Go.by (fun _ q9 => XS.aloadN W94.here W94.hx rfl (hb hby dc5_11) rfl rfl q9) ?_
  show Go _ _ _ _ _ _ _ _ _ (T93.setTop (mkF m 12 #[.val (.ref bz)] [(.ref bz)]))
  refine W94.getf (host := "") (Or.inl (wd61 hw)) Via.refl (FZ.ext W94.old) (hb hby dc5_12) ?_
  intro T95 W96
  show Go _ _ _ _ _ _ _ _ _ (T95.setTop (mkF m 15 #[.val (.ref bz)] [(.long (0 : Int64))]))
  refine W96.callSp (y := N4) (wd64 hw) (wd65 hw) (wd66 hw) (wd67 hw) (by decide) (c_lsig l Z a0 hw hEL h0 hE0) all0 (by decide) (by decide) (k' := 0) (n' := 0) rfl rfl (by decide) (by decide) (by rw [hml]; rfl) (argsL := [(.long (0 : Int64))]) (rest := []) (lenOf pd_2 rfl) rfl rfl (Wt := 0) (Nat.le_of_eq rfl) (hb hby dc5_15) ?_
  intro T97 W98
  refine Go.by (fun _ q9 => XS.goto W98.here W98.hx rfl (pc0 := 18) (pc' := 28) rfl (hb hby dc5_18) (by decide) (by decide) q9) ?_
  show Go _ _ _ _ _ _ _ _ _ (T97.setTop (mkF m 28 #[.val (.ref bz)] [(.int (0 : Int32))]))
  exact W98.retI (by decide) (by decide) hret (hb hby dc5_28) ⟨rfl, rfl⟩
theorem c_nn (hw : HW Z a0) (hEL : EW Z a0 EL_) (h0 : Heap) (hE0 : Ext Z.heap h0) (bz t : Addr) (EZ : Exa Z Z.heap bz "java/math/BigDecimal") (FZ : Fld Z Z.heap bz "java/math/BigDecimal" "intCompact" "J" (.long 0)) :
    Con l Z EL_ [] N6 prog_4_method_2_code 2 (some (.object "java/math/BigDecimal")) [] (⟨2, 0, 0, 25⟩ : Room) #[(.ref bz), (.ref t)] h0 (fun v h' => v = (some (.ref bz)) ∧ h' = h0) := by
  refine Con.mk (plainFor_of_name pn_5) hEL hE0 (fun x hx => by cases hx) ?_
  intro p e s m below meth c T0 hby hml hret hnm W0
  rw [(show entryFrame m #[(.ref bz), (.ref t)] 2 = mkF m 0 #[.val (.ref bz), .val (.ref t)] [] from by first | (simp [entryFrame, mkF, argsToLocals, Value.category]; done) | rfl)]
  refine Go.by (fun _ q9 => XS.aloadN W0.here W0.hx rfl (hb hby dc6_0) rfl rfl q9) ?_
  refine Go.by (fun _ q9 => XS.ifnonnullYes W0.here W0.hx rfl (pc0 := 1) (pc' := 18) rfl (hb hby dc6_1) rfl (by decide) (by decide) q9) ?_
  refine Go.by (fun _ q9 => XS.aloadN W0.here W0.hx rfl (hb hby dc6_18) rfl rfl q9) ?_
  show Go _ _ _ _ _ _ _ _ _ (T0.setTop (mkF m 19 #[.val (.ref bz), .val (.ref t)] [(.ref bz)]))
  refine W0.callVp (y := N5) (z := N5) (wd56 hw) (wd57 hw) (nf_sel rfl (wd59 hw)) (wd59 hw) (wd58 hw) (wd41 hw) (wd60 hw) (by decide) (EZ.ext W0.old) (a := bz) (c_bsig l Z a0 hw hEL h0 hE0 bz EZ FZ) all0 (by decide) (by decide) (k' := 0) (n' := 0) rfl rfl (by decide) (by decide) (by rw [hml]; rfl) (argsL := []) (rest := []) (lenOf pd_3 rfl) rfl rfl (Wt := 0) (Nat.le_of_eq rfl) (hb hby dc6_19) ?_
  intro T99 W100
  refine Go.by (fun _ q9 => XS.ifYes W100.here W100.hx rfl (pc0 := 22) (pc' := 43) rfl (hb hby dc6_22) rfl ((if0 _ _).trans (flt (by decide)).2.1) (by decide) (by decide) q9) ?_
  refine Go.by (fun _ q9 => XS.aloadN W100.here W100.hx rfl (hb hby dc6_43) rfl rfl q9) ?_
  show Go _ _ _ _ _ _ _ _ _ (T99.setTop (mkF m 44 #[.val (.ref bz), .val (.ref t)] [(.ref bz)]))
  exact W100.retA (by decide) (by decide) hret rfl rfl (hb hby dc6_44) ⟨rfl, rfl⟩
theorem c_fsinit (hw : HW Z a0) (hEL : EW Z a0 EL_) (h0 : Heap) (hE0 : Ext Z.heap h0) (x bz : Addr) (E_x : Exa Z h0 x cFS) (F_crudeOilCoefficient : Fld Z h0 x cFS "crudeOilCoefficient" "Ljava/math/BigDecimal;" .null) (F_lngCoefficient : Fld Z h0 x cFS "lngCoefficient" "Ljava/math/BigDecimal;" .null) (F_coalCoefficient : Fld Z h0 x cFS "coalCoefficient" "Ljava/math/BigDecimal;" .null) (F_baseFuelPrice : Fld Z h0 x cFS "baseFuelPrice" "J" (.long 0)) (F_baseUnitPrice : Fld Z h0 x cFS "baseUnitPrice" "Ljava/math/BigDecimal;" .null) (z_x : Z.heap.size ≤ x) (EZ : Exa Z Z.heap bz "java/math/BigDecimal") (FZ : Fld Z Z.heap bz "java/math/BigDecimal" "intCompact" "J" (.long 0)) :
    Con l Z EL_ [x] N7 prog_25_method_1_code 7 none [] (⟨3, 8, 284, 40⟩ : Room) #[(.ref x), (.ref bz), (.ref bz), (.ref bz), (.long (1 : Int64)), (.ref bz)] h0 (fun v h' => v = none ∧ Keep h0 h' [x]) := by
  refine Con.mk (plainFor_of_name pn_6) hEL hE0 (allS E_x.lt all0) ?_
  intro p e s m below meth c T0 hby hml hret hnm W0
  rw [(show entryFrame m #[(.ref x), (.ref bz), (.ref bz), (.ref bz), (.long (1 : Int64)), (.ref bz)] 7 = mkF m 0 #[.val (.ref x), .val (.ref bz), .val (.ref bz), .val (.ref bz), .val (.long (1 : Int64)), .second, .val (.ref bz)] [] from by first | (simp [entryFrame, mkF, argsToLocals, Value.category]; done) | rfl)]
  refine Go.by (fun _ q9 => XS.aloadN W0.here W0.hx rfl (hb hby dc7_0) rfl rfl q9) ?_
  show Go _ _ _ _ _ _ _ _ _ (T0.setTop (mkF m 1 #[.val (.ref x), .val (.ref bz), .val (.ref bz), .val (.ref bz), .val (.long (1 : Int64)), .second, .val (.ref bz)] [(.ref x)]))
  refine W0.callIp (y := N3) rfl (wd45 hw) (wd46 hw) (wd48 hw) (wd49 hw) (by decide) (a := x) (c_recinit l Z a0 hw hEL h0 hE0 x) all0 (by decide) (by decide) (k' := 0) (n' := 0) rfl rfl (by decide) (by decide) (by rw [hml]; rfl) (argsL := []) (rest := []) (lenOf pd_4 rfl) rfl rfl (Wt := 0) (Nat.le_of_eq rfl) (hb hby dc7_1) ?_
  intro T101 W102
  refine Go.by (fun _ q9 => XS.aloadN W102.here W102.hx rfl (hb hby dc7_4) rfl rfl q9) ?_
  show Go _ _ _ _ _ _ _ _ _ (T101.setTop (mkF m 5 #[.val (.ref x), .val (.ref bz), .val (.ref bz), .val (.ref bz), .val (.long (1 : Int64)), .second, .val (.ref bz)] [(.ref bz)]))
  refine W102.ldcO (wd51 hw) (k_sa hw) (hb hby dc7_5) (q := 84) (by decide +kernel) (by decide) (k' := 2) (n' := 88) rfl rfl (by decide) (by decide) ?_
  intro T103 h104 d0 W105 E106
  show Go _ _ _ _ _ _ _ _ _ (T103.setTop (mkF m 7 #[.val (.ref x), .val (.ref bz), .val (.ref bz), .val (.ref bz), .val (.long (1 : Int64)), .second, .val (.ref bz)] [(.ref d0), (.ref bz)]))
  refine W105.callSp (y := N6) (wd52 hw) (wd53 hw) (wd54 hw) (wd55 hw) (by decide) (c_nn l Z a0 hw hEL h104 W105.old bz d0 EZ FZ) all0 (by decide) (by decide) (k' := 2) (n' := 88) rfl rfl (by decide) (by decide) (by rw [hml]; rfl) (argsL := [(.ref bz), (.ref d0)]) (rest := []) (lenOf pd_5 rfl) rfl rfl (Wt := 0) (Nat.le_of_eq rfl) (hb hby dc7_7) ?_
  intro T107 W108
  refine Go.by (fun _ q9 => XS.pop W108.here W108.hx rfl (hb hby dc7_10) rfl rfl (XS.aloadN W108.here W108.hx rfl (hb hby dc7_11) rfl rfl q9)) ?_
  show Go _ _ _ _ _ _ _ _ _ (T107.setTop (mkF m 12 #[.val (.ref x), .val (.ref bz), .val (.ref bz), .val (.ref bz), .val (.long (1 : Int64)), .second, .val (.ref bz)] [(.ref bz)]))
  refine W108.ldcO (wd68 hw) (k_sa hw) (hb hby dc7_12) (q := 60) (by decide +kernel) (by decide) (k' := 4) (n' := 152) rfl rfl (by decide) (by decide) ?_
  intro T109 h110 d1 W111 E112
  show Go _ _ _ _ _ _ _ _ _ (T109.setTop (mkF m 14 #[.val (.ref x), .val (.ref bz), .val (.ref bz), .val (.ref bz), .val (.long (1 : Int64)), .second, .val (.ref bz)] [(.ref d1), (.ref bz)]))
  refine W111.callSp (y := N6) (wd52 hw) (wd53 hw) (wd54 hw) (wd55 hw) (by decide) (c_nn l Z a0 hw hEL h110 W111.old bz d1 EZ FZ) all0 (by decide) (by decide) (k' := 4) (n' := 152) rfl rfl (by decide) (by decide) (by rw [hml]; rfl) (argsL := [(.ref bz), (.ref d1)]) (rest := []) (lenOf pd_5 rfl) rfl rfl (Wt := 0) (Nat.le_of_eq rfl) (hb hby dc7_14) ?_
  intro T113 W114
  refine Go.by (fun _ q9 => XS.pop W114.here W114.hx rfl (hb hby dc7_17) rfl rfl (XS.aloadN W114.here W114.hx rfl (hb hby dc7_18) rfl rfl q9)) ?_
  show Go _ _ _ _ _ _ _ _ _ (T113.setTop (mkF m 19 #[.val (.ref x), .val (.ref bz), .val (.ref bz), .val (.ref bz), .val (.long (1 : Int64)), .second, .val (.ref bz)] [(.ref bz)]))
  refine W114.ldcO (wd69 hw) (k_sa hw) (hb hby dc7_19) (q := 64) (by decide +kernel) (by decide) (k' := 6) (n' := 220) rfl rfl (by decide) (by decide) ?_
  intro T115 h116 d2 W117 E118
  show Go _ _ _ _ _ _ _ _ _ (T115.setTop (mkF m 21 #[.val (.ref x), .val (.ref bz), .val (.ref bz), .val (.ref bz), .val (.long (1 : Int64)), .second, .val (.ref bz)] [(.ref d2), (.ref bz)]))
  refine W117.callSp (y := N6) (wd52 hw) (wd53 hw) (wd54 hw) (wd55 hw) (by decide) (c_nn l Z a0 hw hEL h116 W117.old bz d2 EZ FZ) all0 (by decide) (by decide) (k' := 6) (n' := 220) rfl rfl (by decide) (by decide) (by rw [hml]; rfl) (argsL := [(.ref bz), (.ref d2)]) (rest := []) (lenOf pd_5 rfl) rfl rfl (Wt := 0) (Nat.le_of_eq rfl) (hb hby dc7_21) ?_
  intro T119 W120
  refine Go.by (fun _ q9 => XS.pop W120.here W120.hx rfl (hb hby dc7_24) rfl rfl (XS.lload W120.here W120.hx rfl (hb hby dc7_25) rfl (XS.lconst W120.here W120.hx rfl (hb hby dc7_27) (XS.lcmp W120.here W120.hx rfl (hb hby dc7_28) rfl q9)))) ?_
  refine Go.by (fun _ q9 => XS.ifYes W120.here W120.hx rfl (pc0 := 29) (pc' := 47) rfl (hb hby dc7_29) rfl ((if0 _ _).trans (tlt (by decide)).2.2.1) (by decide) (by decide) q9) ?_
  refine Go.by (fun _ q9 => XS.aload W120.here W120.hx rfl (hb hby dc7_47) rfl rfl q9) ?_
  show Go _ _ _ _ _ _ _ _ _ (T119.setTop (mkF m 49 #[.val (.ref x), .val (.ref bz), .val (.ref bz), .val (.ref bz), .val (.long (1 : Int64)), .second, .val (.ref bz)] [(.ref bz)]))
  refine W120.ldcO (wd70 hw) (k_sa hw) (hb hby dc7_49) (q := 60) (by decide +kernel) (by decide) (k' := 8) (n' := 284) rfl rfl (by decide) (by decide) ?_
  intro T121 h122 d3 W123 E124
  show Go _ _ _ _ _ _ _ _ _ (T121.setTop (mkF m 51 #[.val (.ref x), .val (.ref bz), .val (.ref bz), .val (.ref bz), .val (.long (1 : Int64)), .second, .val (.ref bz)] [(.ref d3), (.ref bz)]))
  refine W123.callSp (y := N6) (wd52 hw) (wd53 hw) (wd54 hw) (wd55 hw) (by decide) (c_nn l Z a0 hw hEL h122 W123.old bz d3 EZ FZ) all0 (by decide) (by decide) (k' := 8) (n' := 284) rfl rfl (by decide) (by decide) (by rw [hml]; rfl) (argsL := [(.ref bz), (.ref d3)]) (rest := []) (lenOf pd_5 rfl) rfl rfl (Wt := 0) (Nat.le_of_eq rfl) (hb hby dc7_51) ?_
  intro T125 W126
  refine Go.by (fun _ q9 => XS.pop W126.here W126.hx rfl (hb hby dc7_54) rfl rfl (XS.aloadN W126.here W126.hx rfl (hb hby dc7_55) rfl rfl (XS.aloadN W126.here W126.hx rfl (hb hby dc7_56) rfl rfl q9))) ?_
  have X131 : Ext h0 h110 := (Ext.trans' E106 E112)
  have X132 : Ext h0 h116 := (Ext.trans' X131 E118)
  have X133 : Ext h0 h122 := (Ext.trans' X132 E124)
  show Go _ _ _ _ _ _ _ _ _ (T125.setTop (mkF m 57 #[.val (.ref x), .val (.ref bz), .val (.ref bz), .val (.ref bz), .val (.long (1 : Int64)), .second, .val (.ref bz)] [(.ref bz), (.ref x)]))
  refine W126.putf (host := "") (Or.inl (wd71 hw)) Via.refl (F_crudeOilCoefficient.ext X133) (E_x.ext X133) (Or.inr ⟨(wd72 hw), rfl, hnm⟩) (wd38 hw) (ty := (.object "java/math/BigDecimal")) (by decide) rfl rfl z_x (m_ 0) (hb hby dc7_57) ?_
  intro T127 h128 W129 Wr130
  have F134 : Fld Z h128 x cFS "crudeOilCoefficient" "Ljava/math/BigDecimal;" (.ref bz) := (F_crudeOilCoefficient.ext X133).same Wr130
  have F135 : Fld Z h128 x cFS "lngCoefficient" "Ljava/math/BigDecimal;" .null := (F_lngCoefficient.ext X133).other Wr130 (Or.inr (slot_ne (Or.inr (wd74 hw)) (Or.inr (wd72 hw)) (by decide) (t := (.object "java/math/BigDecimal")) (t' := (.object "java/math/BigDecimal")) (by decide) (by decide)))
  have F136 : Fld Z h128 x cFS "coalCoefficient" "Ljava/math/BigDecimal;" .null := (F_coalCoefficient.ext X133).other Wr130 (Or.inr (slot_ne (Or.inr (wd76 hw)) (Or.inr (wd72 hw)) (by decide) (t := (.object "java/math/BigDecimal")) (t' := (.object "java/math/BigDecimal")) (by decide) (by decide)))
  have F137 : Fld Z h128 x cFS "baseFuelPrice" "J" (.long 0) := (F_baseFuelPrice.ext X133).other Wr130 (Or.inr (slot_ne (Or.inr (wd78 hw)) (Or.inr (wd72 hw)) (by decide) (t := .long) (t' := (.object "java/math/BigDecimal")) (by decide) (by decide)))
  have F138 : Fld Z h128 x cFS "baseUnitPrice" "Ljava/math/BigDecimal;" .null := (F_baseUnitPrice.ext X133).other Wr130 (Or.inr (slot_ne (Or.inr (wd80 hw)) (Or.inr (wd72 hw)) (by decide) (t := (.object "java/math/BigDecimal")) (t' := (.object "java/math/BigDecimal")) (by decide) (by decide)))
  have A139 : Exa Z h128 x cFS := (E_x.ext X133).wr Wr130
  refine Go.by (fun _ q9 => XS.aloadN W129.here W129.hx rfl (hb hby dc7_60) rfl rfl (XS.aloadN W129.here W129.hx rfl (hb hby dc7_61) rfl rfl q9)) ?_
  show Go _ _ _ _ _ _ _ _ _ (T127.setTop (mkF m 62 #[.val (.ref x), .val (.ref bz), .val (.ref bz), .val (.ref bz), .val (.long (1 : Int64)), .second, .val (.ref bz)] [(.ref bz), (.ref x)]))
  refine W129.putf (host := "") (Or.inl (wd73 hw)) Via.refl F135 A139 (Or.inr ⟨(wd74 hw), rfl, hnm⟩) (wd38 hw) (ty := (.object "java/math/BigDecimal")) (by decide) rfl rfl z_x (m_ 0) (hb hby dc7_62) ?_
  intro T140 h141 W142 Wr143
  have F144 : Fld Z h141 x cFS "lngCoefficient" "Ljava/math/BigDecimal;" (.ref bz) := F135.same Wr143
  have F145 : Fld Z h141 x cFS "crudeOilCoefficient" "Ljava/math/BigDecimal;" (.ref bz) := F134.other Wr143 (Or.inr (slot_ne (Or.inr (wd72 hw)) (Or.inr (wd74 hw)) (by decide) (t := (.object "java/math/BigDecimal")) (t' := (.object "java/math/BigDecimal")) (by decide) (by decide)))
  have F146 : Fld Z h141 x cFS "coalCoefficient" "Ljava/math/BigDecimal;" .null := F136.other Wr143 (Or.inr (slot_ne (Or.inr (wd76 hw)) (Or.inr (wd74 hw)) (by decide) (t := (.object "java/math/BigDecimal")) (t' := (.object "java/math/BigDecimal")) (by decide) (by decide)))
  have F147 : Fld Z h141 x cFS "baseFuelPrice" "J" (.long 0) := F137.other Wr143 (Or.inr (slot_ne (Or.inr (wd78 hw)) (Or.inr (wd74 hw)) (by decide) (t := .long) (t' := (.object "java/math/BigDecimal")) (by decide) (by decide)))
  have F148 : Fld Z h141 x cFS "baseUnitPrice" "Ljava/math/BigDecimal;" .null := F138.other Wr143 (Or.inr (slot_ne (Or.inr (wd80 hw)) (Or.inr (wd74 hw)) (by decide) (t := (.object "java/math/BigDecimal")) (t' := (.object "java/math/BigDecimal")) (by decide) (by decide)))
  have A149 : Exa Z h141 x cFS := A139.wr Wr143
  refine Go.by (fun _ q9 => XS.aloadN W142.here W142.hx rfl (hb hby dc7_65) rfl rfl (XS.aloadN W142.here W142.hx rfl (hb hby dc7_66) rfl rfl q9)) ?_
  show Go _ _ _ _ _ _ _ _ _ (T140.setTop (mkF m 67 #[.val (.ref x), .val (.ref bz), .val (.ref bz), .val (.ref bz), .val (.long (1 : Int64)), .second, .val (.ref bz)] [(.ref bz), (.ref x)]))
  refine W142.putf (host := "") (Or.inl (wd75 hw)) Via.refl F146 A149 (Or.inr ⟨(wd76 hw), rfl, hnm⟩) (wd38 hw) (ty := (.object "java/math/BigDecimal")) (by decide) rfl rfl z_x (m_ 0) (hb hby dc7_67) ?_
  intro T150 h151 W152 Wr153
  have F154 : Fld Z h151 x cFS "coalCoefficient" "Ljava/math/BigDecimal;" (.ref bz) := F146.same Wr153
  have F155 : Fld Z h151 x cFS "crudeOilCoefficient" "Ljava/math/BigDecimal;" (.ref bz) := F145.other Wr153 (Or.inr (slot_ne (Or.inr (wd72 hw)) (Or.inr (wd76 hw)) (by decide) (t := (.object "java/math/BigDecimal")) (t' := (.object "java/math/BigDecimal")) (by decide) (by decide)))
  have F156 : Fld Z h151 x cFS "lngCoefficient" "Ljava/math/BigDecimal;" (.ref bz) := F144.other Wr153 (Or.inr (slot_ne (Or.inr (wd74 hw)) (Or.inr (wd76 hw)) (by decide) (t := (.object "java/math/BigDecimal")) (t' := (.object "java/math/BigDecimal")) (by decide) (by decide)))
  have F157 : Fld Z h151 x cFS "baseFuelPrice" "J" (.long 0) := F147.other Wr153 (Or.inr (slot_ne (Or.inr (wd78 hw)) (Or.inr (wd76 hw)) (by decide) (t := .long) (t' := (.object "java/math/BigDecimal")) (by decide) (by decide)))
  have F158 : Fld Z h151 x cFS "baseUnitPrice" "Ljava/math/BigDecimal;" .null := F148.other Wr153 (Or.inr (slot_ne (Or.inr (wd80 hw)) (Or.inr (wd76 hw)) (by decide) (t := (.object "java/math/BigDecimal")) (t' := (.object "java/math/BigDecimal")) (by decide) (by decide)))
  have A159 : Exa Z h151 x cFS := A149.wr Wr153
  refine Go.by (fun _ q9 => XS.aloadN W152.here W152.hx rfl (hb hby dc7_70) rfl rfl (XS.lload W152.here W152.hx rfl (hb hby dc7_71) rfl q9)) ?_
  show Go _ _ _ _ _ _ _ _ _ (T150.setTop (mkF m 73 #[.val (.ref x), .val (.ref bz), .val (.ref bz), .val (.ref bz), .val (.long (1 : Int64)), .second, .val (.ref bz)] [(.long (1 : Int64)), (.ref x)]))
  refine W152.putf (host := "") (Or.inl (wd77 hw)) Via.refl F157 A159 (Or.inr ⟨(wd78 hw), rfl, hnm⟩) (wd38 hw) (ty := .long) (by decide) rfl rfl z_x (m_ 0) (hb hby dc7_73) ?_
  intro T160 h161 W162 Wr163
  have F164 : Fld Z h161 x cFS "baseFuelPrice" "J" (.long (1 : Int64)) := F157.same Wr163
  have F165 : Fld Z h161 x cFS "crudeOilCoefficient" "Ljava/math/BigDecimal;" (.ref bz) := F155.other Wr163 (Or.inr (slot_ne (Or.inr (wd72 hw)) (Or.inr (wd78 hw)) (by decide) (t := (.object "java/math/BigDecimal")) (t' := .long) (by decide) (by decide)))
  have F166 : Fld Z h161 x cFS "lngCoefficient" "Ljava/math/BigDecimal;" (.ref bz) := F156.other Wr163 (Or.inr (slot_ne (Or.inr (wd74 hw)) (Or.inr (wd78 hw)) (by decide) (t := (.object "java/math/BigDecimal")) (t' := .long) (by decide) (by decide)))
  have F167 : Fld Z h161 x cFS "coalCoefficient" "Ljava/math/BigDecimal;" (.ref bz) := F154.other Wr163 (Or.inr (slot_ne (Or.inr (wd76 hw)) (Or.inr (wd78 hw)) (by decide) (t := (.object "java/math/BigDecimal")) (t' := .long) (by decide) (by decide)))
  have F168 : Fld Z h161 x cFS "baseUnitPrice" "Ljava/math/BigDecimal;" .null := F158.other Wr163 (Or.inr (slot_ne (Or.inr (wd80 hw)) (Or.inr (wd78 hw)) (by decide) (t := (.object "java/math/BigDecimal")) (t' := .long) (by decide) (by decide)))
  have A169 : Exa Z h161 x cFS := A159.wr Wr163
  refine Go.by (fun _ q9 => XS.aloadN W162.here W162.hx rfl (hb hby dc7_76) rfl rfl (XS.aload W162.here W162.hx rfl (hb hby dc7_77) rfl rfl q9)) ?_
  show Go _ _ _ _ _ _ _ _ _ (T160.setTop (mkF m 79 #[.val (.ref x), .val (.ref bz), .val (.ref bz), .val (.ref bz), .val (.long (1 : Int64)), .second, .val (.ref bz)] [(.ref bz), (.ref x)]))
  refine W162.putf (host := "") (Or.inl (wd79 hw)) Via.refl F168 A169 (Or.inr ⟨(wd80 hw), rfl, hnm⟩) (wd38 hw) (ty := (.object "java/math/BigDecimal")) (by decide) rfl rfl z_x (m_ 0) (hb hby dc7_79) ?_
  intro T170 h171 W172 Wr173
  have F174 : Fld Z h171 x cFS "baseUnitPrice" "Ljava/math/BigDecimal;" (.ref bz) := F168.same Wr173
  have F175 : Fld Z h171 x cFS "crudeOilCoefficient" "Ljava/math/BigDecimal;" (.ref bz) := F165.other Wr173 (Or.inr (slot_ne (Or.inr (wd72 hw)) (Or.inr (wd80 hw)) (by decide) (t := (.object "java/math/BigDecimal")) (t' := (.object "java/math/BigDecimal")) (by decide) (by decide)))
  have F176 : Fld Z h171 x cFS "lngCoefficient" "Ljava/math/BigDecimal;" (.ref bz) := F166.other Wr173 (Or.inr (slot_ne (Or.inr (wd74 hw)) (Or.inr (wd80 hw)) (by decide) (t := (.object "java/math/BigDecimal")) (t' := (.object "java/math/BigDecimal")) (by decide) (by decide)))
  have F177 : Fld Z h171 x cFS "coalCoefficient" "Ljava/math/BigDecimal;" (.ref bz) := F167.other Wr173 (Or.inr (slot_ne (Or.inr (wd76 hw)) (Or.inr (wd80 hw)) (by decide) (t := (.object "java/math/BigDecimal")) (t' := (.object "java/math/BigDecimal")) (by decide) (by decide)))
  have F178 : Fld Z h171 x cFS "baseFuelPrice" "J" (.long (1 : Int64)) := F164.other Wr173 (Or.inr (slot_ne (Or.inr (wd78 hw)) (Or.inr (wd80 hw)) (by decide) (t := .long) (t' := (.object "java/math/BigDecimal")) (by decide) (by decide)))
  have A179 : Exa Z h171 x cFS := A169.wr Wr173
  show Go _ _ _ _ _ _ _ _ _ (T170.setTop (mkF m 82 #[.val (.ref x), .val (.ref bz), .val (.ref bz), .val (.ref bz), .val (.long (1 : Int64)), .second, .val (.ref bz)] []))
  exact W172.retV (by decide) (by decide) hret (hb hby dc7_82) ⟨rfl, ((((((((((Keep.refl h0 [x]).ext E106).ext E112).ext E118).ext E124).wr Wr130 (Or.inl (m_ 0))).wr Wr143 (Or.inl (m_ 0))).wr Wr153 (Or.inl (m_ 0))).wr Wr163 (Or.inl (m_ 0))).wr Wr173 (Or.inl (m_ 0)))⟩
theorem c_rnn2 (hw : HW Z a0) (hEL : EW Z a0 EL_) (h0 : Heap) (hE0 : Ext Z.heap h0) (a t : Addr)  :
    Con l Z EL_ [] N8 jdk_31_method_11_code 2 (some (.object "java/lang/Object")) [] (⟨0, 0, 0, 0⟩ : Room) #[(.ref a), (.ref t)] h0 (fun v h' => v = (some (.ref a)) ∧ h' = h0) := by
  refine Con.mk (plainFor_of_name pn_7) hEL hE0 (fun x hx => by cases hx) ?_
  intro p e s m below meth c T0 hby hml hret hnm W0
  rw [(show entryFrame m #[(.ref a), (.ref t)] 2 = mkF m 0 #[.val (.ref a), .val (.ref t)] [] from by first | (simp [entryFrame, mkF, argsToLocals, Value.category]; done) | rfl)]
  refine Go.by (fun _ q9 => XS.aloadN W0.here W0.hx rfl (hb hby dc8_0) rfl rfl q9) ?_
  refine Go.by (fun _ q9 => XS.ifnonnullYes W0.here W0.hx rfl (pc0 := 1) (pc' := 13) rfl (hb hby dc8_1) rfl (by decide) (by decide) q9) ?_
  refine Go.by (fun _ q9 => XS.aloadN W0.here W0.hx rfl (hb hby dc8_13) rfl rfl q9) ?_
  show Go _ _ _ _ _ _ _ _ _ (T0.setTop (mkF m 14 #[.val (.ref a), .val (.ref t)] [(.ref a)]))
  exact W0.retA (by decide) (by decide) hret rfl rfl (hb hby dc8_14) ⟨rfl, rfl⟩
theorem c_rnn1 (hw : HW Z a0) (hEL : EW Z a0 EL_) (h0 : Heap) (hE0 : Ext Z.heap h0) (a : Addr)  :
    Con l Z EL_ [] N9 jdk_31_method_10_code 1 (some (.object "java/lang/Object")) [] (⟨0, 0, 0, 0⟩ : Room) #[(.ref a)] h0 (fun v h' => v = (some (.ref a)) ∧ h' = h0) := by
  refine Con.mk (plainFor_of_name pn_7) hEL hE0 (fun x hx => by cases hx) ?_
  intro p e s m below meth c T0 hby hml hret hnm W0
  rw [(show entryFrame m #[(.ref a)] 1 = mkF m 0 #[.val (.ref a)] [] from by first | (simp [entryFrame, mkF, argsToLocals, Value.category]; done) | rfl)]
  refine Go.by (fun _ q9 => XS.aloadN W0.here W0.hx rfl (hb hby dc9_0) rfl rfl q9) ?_
  refine Go.by (fun _ q9 => XS.ifnonnullYes W0.here W0.hx rfl (pc0 := 1) (pc' := 12) rfl (hb hby dc9_1) rfl (by decide) (by decide) q9) ?_
  refine Go.by (fun _ q9 => XS.aloadN W0.here W0.hx rfl (hb hby dc9_12) rfl rfl q9) ?_
  show Go _ _ _ _ _ _ _ _ _ (T0.setTop (mkF m 13 #[.val (.ref a)] [(.ref a)]))
  exact W0.retA (by decide) (by decide) hret rfl rfl (hb hby dc9_13) ⟨rfl, rfl⟩
theorem c_scinit (hw : HW Z a0) (hEL : EW Z a0 EL_) (h0 : Heap) (hE0 : Ext Z.heap h0) (x na fc op : Addr) (E_x : Exa Z h0 x cSC) (F_name : Fld Z h0 x cSC "name" "Ljava/lang/String;" .null) (F_fuelCost : Fld Z h0 x cSC "fuelCost" "Lcom/example/cuenta/cuenta/FuelScheme;" .null) (F_island : Fld Z h0 x cSC "island" "Ljava/util/Optional;" .null) (z_x : Z.heap.size ≤ x) :
    Con l Z EL_ [x] N10 prog_27_method_1_code 4 none [] (⟨2, 6, 84, 26⟩ : Room) #[(.ref x), (.ref na), (.ref fc), (.ref op)] h0 (fun v h' => v = none ∧ Keep h0 h' [x] ∧ Exa Z h' x cSC ∧ Fld Z h' x cSC "name" "Ljava/lang/String;" (.ref na)) := by
  refine Con.mk (plainFor_of_name pn_8) hEL hE0 (allS E_x.lt all0) ?_
  intro p e s m below meth c T0 hby hml hret hnm W0
  rw [(show entryFrame m #[(.ref x), (.ref na), (.ref fc), (.ref op)] 4 = mkF m 0 #[.val (.ref x), .val (.ref na), .val (.ref fc), .val (.ref op)] [] from by first | (simp [entryFrame, mkF, argsToLocals, Value.category]; done) | rfl)]
  refine Go.by (fun _ q9 => XS.aloadN W0.here W0.hx rfl (hb hby dc10_0) rfl rfl q9) ?_
  show Go _ _ _ _ _ _ _ _ _ (T0.setTop (mkF m 1 #[.val (.ref x), .val (.ref na), .val (.ref fc), .val (.ref op)] [(.ref x)]))
  refine W0.callIp (y := N3) rfl (wd92 hw) (wd46 hw) (wd48 hw) (wd49 hw) (by decide) (a := x) (c_recinit l Z a0 hw hEL h0 hE0 x) all0 (by decide) (by decide) (k' := 0) (n' := 0) rfl rfl (by decide) (by decide) (by rw [hml]; rfl) (argsL := []) (rest := []) (lenOf pd_4 rfl) rfl rfl (Wt := 0) (Nat.le_of_eq rfl) (hb hby dc10_1) ?_
  intro T180 W181
  refine Go.by (fun _ q9 => XS.aloadN W181.here W181.hx rfl (hb hby dc10_4) rfl rfl q9) ?_
  show Go _ _ _ _ _ _ _ _ _ (T180.setTop (mkF m 5 #[.val (.ref x), .val (.ref na), .val (.ref fc), .val (.ref op)] [(.ref na)]))
  refine W181.ldcO (wd93 hw) (k_sa hw) (hb hby dc10_5) (q := 16) (by decide +kernel) (by decide) (k' := 2) (n' := 20) rfl rfl (by decide) (by decide) ?_
  intro T182 h183 d_na W184 E185
  show Go _ _ _ _ _ _ _ _ _ (T182.setTop (mkF m 7 #[.val (.ref x), .val (.ref na), .val (.ref fc), .val (.ref op)] [(.ref d_na), (.ref na)]))
  refine W184.callSp (y := N8) (wd94 hw) (wd95 hw) (wd96 hw) (wd97 hw) (by decide) (c_rnn2 l Z a0 hw hEL h183 W184.old na d_na) all0 (by decide) (by decide) (k' := 2) (n' := 20) rfl rfl (by decide) (by decide) (by rw [hml]; rfl) (argsL := [(.ref na), (.ref d_na)]) (rest := []) (lenOf pd_6 rfl) rfl rfl (Wt := 0) (Nat.le_of_eq rfl) (hb hby dc10_7) ?_
  intro T186 W187
  refine Go.by (fun _ q9 => XS.pop W187.here W187.hx rfl (hb hby dc10_10) rfl rfl (XS.aloadN W187.here W187.hx rfl (hb hby dc10_11) rfl rfl q9)) ?_
  show Go _ _ _ _ _ _ _ _ _ (T186.setTop (mkF m 12 #[.val (.ref x), .val (.ref na), .val (.ref fc), .val (.ref op)] [(.ref fc)]))
  refine W187.ldcO (wd98 hw) (k_sa hw) (hb hby dc10_12) (q := 32) (by decide +kernel) (by decide) (k' := 4) (n' := 56) rfl rfl (by decide) (by decide) ?_
  intro T188 h189 d_fc W190 E191
  show Go _ _ _ _ _ _ _ _ _ (T188.setTop (mkF m 14 #[.val (.ref x), .val (.ref na), .val (.ref fc), .val (.ref op)] [(.ref d_fc), (.ref fc)]))
  refine W190.callSp (y := N8) (wd94 hw) (wd95 hw) (wd96 hw) (wd97 hw) (by decide) (c_rnn2 l Z a0 hw hEL h189 W190.old fc d_fc) all0 (by decide) (by decide) (k' := 4) (n' := 56) rfl rfl (by decide) (by decide) (by rw [hml]; rfl) (argsL := [(.ref fc), (.ref d_fc)]) (rest := []) (lenOf pd_6 rfl) rfl rfl (Wt := 0) (Nat.le_of_eq rfl) (hb hby dc10_14) ?_
  intro T192 W193
  refine Go.by (fun _ q9 => XS.pop W193.here W193.hx rfl (hb hby dc10_17) rfl rfl (XS.aloadN W193.here W193.hx rfl (hb hby dc10_18) rfl rfl q9)) ?_
  show Go _ _ _ _ _ _ _ _ _ (T192.setTop (mkF m 19 #[.val (.ref x), .val (.ref na), .val (.ref fc), .val (.ref op)] [(.ref op)]))
  refine W193.ldcO (wd99 hw) (k_sa hw) (hb hby dc10_19) (q := 24) (by decide +kernel) (by decide) (k' := 6) (n' := 84) rfl rfl (by decide) (by decide) ?_
  intro T194 h195 d_op W196 E197
  show Go _ _ _ _ _ _ _ _ _ (T194.setTop (mkF m 21 #[.val (.ref x), .val (.ref na), .val (.ref fc), .val (.ref op)] [(.ref d_op), (.ref op)]))
  refine W196.callSp (y := N8) (wd94 hw) (wd95 hw) (wd96 hw) (wd97 hw) (by decide) (c_rnn2 l Z a0 hw hEL h195 W196.old op d_op) all0 (by decide) (by decide) (k' := 6) (n' := 84) rfl rfl (by decide) (by decide) (by rw [hml]; rfl) (argsL := [(.ref op), (.ref d_op)]) (rest := []) (lenOf pd_6 rfl) rfl rfl (Wt := 0) (Nat.le_of_eq rfl) (hb hby dc10_21) ?_
  intro T198 W199
  refine Go.by (fun _ q9 => XS.pop W199.here W199.hx rfl (hb hby dc10_24) rfl rfl (XS.aloadN W199.here W199.hx rfl (hb hby dc10_25) rfl rfl (XS.aloadN W199.here W199.hx rfl (hb hby dc10_26) rfl rfl q9))) ?_
  have X204 : Ext h0 h189 := (Ext.trans' E185 E191)
  have X205 : Ext h0 h195 := (Ext.trans' X204 E197)
  show Go _ _ _ _ _ _ _ _ _ (T198.setTop (mkF m 27 #[.val (.ref x), .val (.ref na), .val (.ref fc), .val (.ref op)] [(.ref na), (.ref x)]))
  refine W199.putf (host := "") (Or.inl (wd100 hw)) Via.refl (F_name.ext X205) (E_x.ext X205) (Or.inr ⟨(wd101 hw), rfl, hnm⟩) (wd82 hw) (ty := (.object "java/lang/String")) (by decide) rfl rfl z_x (m_ 0) (hb hby dc10_27) ?_
  intro T200 h201 W202 Wr203
  have F206 : Fld Z h201 x cSC "name" "Ljava/lang/String;" (.ref na) := (F_name.ext X205).same Wr203
  have F207 : Fld Z h201 x cSC "fuelCost" "Lcom/example/cuenta/cuenta/FuelScheme;" .null := (F_fuelCost.ext X205).other Wr203 (Or.inr (slot_ne (Or.inr (wd103 hw)) (Or.inr (wd101 hw)) (by decide) (t := (.object cFS)) (t' := (.object "java/lang/String")) (by decide) (by decide)))
  have F208 : Fld Z h201 x cSC "island" "Ljava/util/Optional;" .null := (F_island.ext X205).other Wr203 (Or.inr (slot_ne (Or.inr (wd105 hw)) (Or.inr (wd101 hw)) (by decide) (t := (.object "java/util/Optional")) (t' := (.object "java/lang/String")) (by decide) (by decide)))
  have A209 : Exa Z h201 x cSC := (E_x.ext X205).wr Wr203
  refine Go.by (fun _ q9 => XS.aloadN W202.here W202.hx rfl (hb hby dc10_30) rfl rfl (XS.aloadN W202.here W202.hx rfl (hb hby dc10_31) rfl rfl q9)) ?_
  show Go _ _ _ _ _ _ _ _ _ (T200.setTop (mkF m 32 #[.val (.ref x), .val (.ref na), .val (.ref fc), .val (.ref op)] [(.ref fc), (.ref x)]))
  refine W202.putf (host := "") (Or.inl (wd102 hw)) Via.refl F207 A209 (Or.inr ⟨(wd103 hw), rfl, hnm⟩) (wd82 hw) (ty := (.object cFS)) (by decide) rfl rfl z_x (m_ 0) (hb hby dc10_32) ?_
  intro T210 h211 W212 Wr213
  have F214 : Fld Z h211 x cSC "fuelCost" "Lcom/example/cuenta/cuenta/FuelScheme;" (.ref fc) := F207.same Wr213
  have F215 : Fld Z h211 x cSC "name" "Ljava/lang/String;" (.ref na) := F206.other Wr213 (Or.inr (slot_ne (Or.inr (wd101 hw)) (Or.inr (wd103 hw)) (by decide) (t := (.object "java/lang/String")) (t' := (.object cFS)) (by decide) (by decide)))
  have F216 : Fld Z h211 x cSC "island" "Ljava/util/Optional;" .null := F208.other Wr213 (Or.inr (slot_ne (Or.inr (wd105 hw)) (Or.inr (wd103 hw)) (by decide) (t := (.object "java/util/Optional")) (t' := (.object cFS)) (by decide) (by decide)))
  have A217 : Exa Z h211 x cSC := A209.wr Wr213
  refine Go.by (fun _ q9 => XS.aloadN W212.here W212.hx rfl (hb hby dc10_35) rfl rfl (XS.aloadN W212.here W212.hx rfl (hb hby dc10_36) rfl rfl q9)) ?_
  show Go _ _ _ _ _ _ _ _ _ (T210.setTop (mkF m 37 #[.val (.ref x), .val (.ref na), .val (.ref fc), .val (.ref op)] [(.ref op), (.ref x)]))
  refine W212.putf (host := "") (Or.inl (wd104 hw)) Via.refl F216 A217 (Or.inr ⟨(wd105 hw), rfl, hnm⟩) (wd82 hw) (ty := (.object "java/util/Optional")) (by decide) rfl rfl z_x (m_ 0) (hb hby dc10_37) ?_
  intro T218 h219 W220 Wr221
  have F222 : Fld Z h219 x cSC "island" "Ljava/util/Optional;" (.ref op) := F216.same Wr221
  have F223 : Fld Z h219 x cSC "name" "Ljava/lang/String;" (.ref na) := F215.other Wr221 (Or.inr (slot_ne (Or.inr (wd101 hw)) (Or.inr (wd105 hw)) (by decide) (t := (.object "java/lang/String")) (t' := (.object "java/util/Optional")) (by decide) (by decide)))
  have F224 : Fld Z h219 x cSC "fuelCost" "Lcom/example/cuenta/cuenta/FuelScheme;" (.ref fc) := F214.other Wr221 (Or.inr (slot_ne (Or.inr (wd103 hw)) (Or.inr (wd105 hw)) (by decide) (t := (.object cFS)) (t' := (.object "java/util/Optional")) (by decide) (by decide)))
  have A225 : Exa Z h219 x cSC := A217.wr Wr221
  show Go _ _ _ _ _ _ _ _ _ (T218.setTop (mkF m 40 #[.val (.ref x), .val (.ref na), .val (.ref fc), .val (.ref op)] []))
  exact W220.retV (by decide) (by decide) hret (hb hby dc10_40) ⟨rfl, (((((((Keep.refl h0 [x]).ext E185).ext E191).ext E197).wr Wr203 (Or.inl (m_ 0))).wr Wr213 (Or.inl (m_ 0))).wr Wr221 (Or.inl (m_ 0))), A225, F223⟩
theorem c_oempty (hw : HW Z a0) (hEL : EW Z a0 EL_) (h0 : Heap) (hE0 : Ext Z.heap h0) (em : Addr) (SE : Sta Z Z.heap "java/util/Optional" "EMPTY" "Ljava/util/Optional;" (.ref em)) :
    Con l Z EL_ [] N11 jdk_32_method_1_code 1 (some (.object "java/util/Optional")) [] (⟨0, 0, 0, 0⟩ : Room) #[] h0 (fun v h' => v = (some (.ref em)) ∧ h' = h0) := by
  refine Con.mk (plainFor_of_name pn_9) hEL hE0 (fun x hx => by cases hx) ?_
  intro p e s m below meth c T0 hby hml hret hnm W0
  rw [(show entryFrame m #[] 1 = mkF m 0 #[.unset] [] from by first | (simp [entryFrame, mkF, argsToLocals, Value.category]; done) | rfl)]
  refine W0.gets (host := "") (Or.inl (wd88 hw)) Via.refl (SE.ext W0.old) (hb hby dc11_0) ?_
  intro T226 W227
  refine Go.by (fun _ q9 => XS.astoreN W227.here W227.hx rfl (hb hby dc11_3) rfl rfl (l' := #[.val (.ref em)]) rfl (XS.aloadN W227.here W227.hx rfl (hb hby dc11_4) rfl rfl q9)) ?_
  show Go _ _ _ _ _ _ _ _ _ (T226.setTop (mkF m 5 #[.val (.ref em)] [(.ref em)]))
  exact W227.retA (by decide) (by decide) hret rfl rfl (hb hby dc11_5) ⟨rfl, rfl⟩
theorem c_acinit (hw : HW Z a0) (hEL : EW Z a0 EL_) (h0 : Heap) (hE0 : Ext Z.heap h0) (x : Addr)  :
    Con l Z EL_ [] N12 jdk_22_method_1_code 1 none [] (⟨1, 0, 0, 12⟩ : Room) #[(.ref x)] h0 (fun v h' => v = none ∧ h' = h0) := by
  refine Con.mk (plainFor_of_name pn_10) hEL hE0 (fun x hx => by cases hx) ?_
  intro p e s m below meth c T0 hby hml hret hnm W0
  rw [(show entryFrame m #[(.ref x)] 1 = mkF m 0 #[.val (.ref x)] [] from by first | (simp [entryFrame, mkF, argsToLocals, Value.category]; done) | rfl)]
  refine Go.by (fun _ q9 => XS.aloadN W0.here W0.hx rfl (hb hby dc12_0) rfl rfl q9) ?_
  show Go _ _ _ _ _ _ _ _ _ (T0.setTop (mkF m 1 #[.val (.ref x)] [(.ref x)]))
  refine W0.initO (wd124 hw) (wd16 hw) (wd17 hw) (by rw [hml]; rfl) (hb hby dc12_1) (by decide) (Wt := 0) (Nat.le_of_eq rfl) (by decide) ?_
  intro T228 W229
  show Go _ _ _ _ _ _ _ _ _ (T228.setTop (mkF m 4 #[.val (.ref x)] []))
  exact W229.retV (by decide) (by decide) hret (hb hby dc12_4) ⟨rfl, rfl⟩
theorem c_ablinit (hw : HW Z a0) (hEL : EW Z a0 EL_) (h0 : Heap) (hE0 : Ext Z.heap h0) (x : Addr) (E_x : Exa Z h0 x cAL) (FM : Fld Z h0 x "java/util/AbstractList" "modCount" "I" (.int 0)) (FD : Fld Z h0 x cAL "elementData" "[Ljava/lang/Object;" .null) (z_x : Z.heap.size ≤ x) (FS : Fld Z h0 x cAL "size" "I" (.int 0)) :
    Con l Z EL_ [x] N13 jdk_39_method_1_code 1 none [] (⟨2, 0, 0, 24⟩ : Room) #[(.ref x)] h0 (fun v h' => v = none ∧ Keep h0 h' [x] ∧ Fld Z h' x "java/util/AbstractList" "modCount" "I" (.int 0) ∧ Fld Z h' x cAL "elementData" "[Ljava/lang/Object;" .null ∧ Fld Z h' x cAL "size" "I" (.int 0)) := by
  refine Con.mk (plainFor_of_name pn_11) hEL hE0 (allS E_x.lt all0) ?_
  intro p e s m below meth c T0 hby hml hret hnm W0
  rw [(show entryFrame m #[(.ref x)] 1 = mkF m 0 #[.val (.ref x)] [] from by first | (simp [entryFrame, mkF, argsToLocals, Value.category]; done) | rfl)]
  refine Go.by (fun _ q9 => XS.aloadN W0.here W0.hx rfl (hb hby dc13_0) rfl rfl q9) ?_
  show Go _ _ _ _ _ _ _ _ _ (T0.setTop (mkF m 1 #[.val (.ref x)] [(.ref x)]))
  refine W0.callIp (y := N12) rfl (wd118 hw) (wd119 hw) (wd122 hw) (wd123 hw) (by decide) (a := x) (c_acinit l Z a0 hw hEL h0 hE0 x) all0 (by decide) (by decide) (k' := 0) (n' := 0) rfl rfl (by decide) (by decide) (by rw [hml]; rfl) (argsL := []) (rest := []) (lenOf pd_4 rfl) rfl rfl (Wt := 0) (Nat.le_of_eq rfl) (hb hby dc13_1) ?_
  intro T230 W231
  refine Go.by (fun _ q9 => XS.aloadN W231.here W231.hx rfl (hb hby dc13_4) rfl rfl (XS.iconst W231.here W231.hx rfl (hb hby dc13_5) q9)) ?_
  show Go _ _ _ _ _ _ _ _ _ (T230.setTop (mkF m 6 #[.val (.ref x)] [(.int (0 : Int32)), (.ref x)]))
  refine W231.putf (host := "") (Or.inl (wd125 hw)) Via.refl FM E_x (Or.inl (wd126 hw)) (wd107 hw) (ty := .int) (by decide) rfl rfl z_x (m_ 0) (hb hby dc13_6) ?_
  intro T232 h233 W234 Wr235
  have F236 : Fld Z h233 x "java/util/AbstractList" "modCount" "I" (.int (0 : Int32)) := FM.same Wr235
  have F237 : Fld Z h233 x cAL "elementData" "[Ljava/lang/Object;" .null := FD.other Wr235 (Or.inr (slot_ne (Or.inl (wd129 hw)) (Or.inl (wd126 hw)) (by decide) (t := (.array (.object "java/lang/Object"))) (t' := .int) (by decide) (by decide)))
  have F238 : Fld Z h233 x cAL "size" "I" (.int 0) := FS.other Wr235 (Or.inr (slot_ne (Or.inl (wd161 hw)) (Or.inl (wd126 hw)) (by decide) (t := .int) (t' := .int) (by decide) (by decide)))
  have A239 : Exa Z h233 x cAL := E_x.wr Wr235
  show Go _ _ _ _ _ _ _ _ _ (T232.setTop (mkF m 9 #[.val (.ref x)] []))
  exact W234.retV (by decide) (by decide) hret (hb hby dc13_9) ⟨rfl, ((Keep.refl h0 [x]).wr Wr235 (Or.inl (m_ 0))), F236, F237, F238⟩
theorem c_alinit (hw : HW Z a0) (hEL : EW Z a0 EL_) (h0 : Heap) (hE0 : Ext Z.heap h0) (x dd : Addr) (E_x : Exa Z h0 x cAL) (FM : Fld Z h0 x "java/util/AbstractList" "modCount" "I" (.int 0)) (FD : Fld Z h0 x cAL "elementData" "[Ljava/lang/Object;" .null) (z_x : Z.heap.size ≤ x) (FS : Fld Z h0 x cAL "size" "I" (.int 0)) (SD : Sta Z Z.heap cAL "DEFAULTCAPACITY_EMPTY_ELEMENTDATA" "[Ljava/lang/Object;" (.ref dd)) :
    Con l Z EL_ [x] N14 jdk_38_method_2_code 1 none [] (⟨3, 0, 0, 36⟩ : Room) #[(.ref x)] h0 (fun v h' => v = none ∧ Keep h0 h' [x] ∧ Exa Z h' x cAL ∧ Fld Z h' x "java/util/AbstractList" "modCount" "I" (.int 0) ∧ Fld Z h' x cAL "elementData" "[Ljava/lang/Object;" (.ref dd) ∧ Fld Z h' x cAL "size" "I" (.int 0)) := by
  refine Con.mk (plainFor_of_name pn_12) hEL hE0 (allS E_x.lt all0) ?_
  intro p e s m below meth c T0 hby hml hret hnm W0
  rw [(show entryFrame m #[(.ref x)] 1 = mkF m 0 #[.val (.ref x)] [] from by first | (simp [entryFrame, mkF, argsToLocals, Value.category]; done) | rfl)]
  refine Go.by (fun _ q9 => XS.aloadN W0.here W0.hx rfl (hb hby dc14_0) rfl rfl q9) ?_
  show Go _ _ _ _ _ _ _ _ _ (T0.setTop (mkF m 1 #[.val (.ref x)] [(.ref x)]))
  refine W0.callI (y := N13) rfl (wd112 hw) (wd113 hw) (wd116 hw) (wd117 hw) (by decide) (a := x) (c_ablinit l Z a0 hw hEL h0 hE0 x E_x FM FD z_x FS) (allS (m_ 0) all0) (by decide) (by decide) (k' := 0) (n' := 0) rfl rfl (by decide) (by decide) (by rw [hml]; rfl) (argsL := []) (rest := []) (lenOf pd_4 rfl) rfl rfl (Wt := 0) (Nat.le_of_eq rfl) (hb hby dc14_1) ?_
  intro v_ T240 h242 W241 hq_
  obtain ⟨rfl, K1, G1, G2, G3⟩ := hq_
  refine Go.by (fun _ q9 => XS.aloadN W241.here W241.hx rfl (hb hby dc14_4) rfl rfl q9) ?_
  show Go _ _ _ _ _ _ _ _ _ (T240.setTop (mkF m 5 #[.val (.ref x)] [(.ref x)]))
  refine W241.gets (host := "") (Or.inl (wd127 hw)) Via.refl (SD.ext W241.old) (hb hby dc14_5) ?_
  intro T243 W244
  show Go _ _ _ _ _ _ _ _ _ (T243.setTop (mkF m 8 #[.val (.ref x)] [(.ref dd), (.ref x)]))
  refine W244.putf (host := "") (Or.inl (wd128 hw)) Via.refl G2 (E_x.keep K1) (Or.inl (wd129 hw)) (wd107 hw) (ty := (.array (.object "java/lang/Object"))) (by decide) rfl rfl z_x (m_ 0) (hb hby dc14_8) ?_
  intro T245 h246 W247 Wr248
  have F249 : Fld Z h246 x cAL "elementData" "[Ljava/lang/Object;" (.ref dd) := G2.same Wr248
  have F250 : Fld Z h246 x "java/util/AbstractList" "modCount" "I" (.int 0) := G1.other Wr248 (Or.inr (slot_ne (Or.inl (wd126 hw)) (Or.inl (wd129 hw)) (by decide) (t := .int) (t' := (.array (.object "java/lang/Object"))) (by decide) (by decide)))
  have F251 : Fld Z h246 x cAL "size" "I" (.int 0) := G3.other Wr248 (Or.inr (slot_ne (Or.inl (wd161 hw)) (Or.inl (wd129 hw)) (by decide) (t := .int) (t' := (.array (.object "java/lang/Object"))) (by decide) (by decide)))
  have A252 : Exa Z h246 x cAL := (E_x.keep K1).wr Wr248
  show Go _ _ _ _ _ _ _ _ _ (T245.setTop (mkF m 11 #[.val (.ref x)] []))
  exact W247.retV (by decide) (by decide) hret (hb hby dc14_11) ⟨rfl, (((Keep.refl h0 [x]).trans K1 (allS (Or.inl (m_ 0)) all0)).wr Wr248 (Or.inl (m_ 0))), A252, F250, F249, F251⟩
theorem c_max (hw : HW Z a0) (hEL : EW Z a0 EL_) (h0 : Heap) (hE0 : Ext Z.heap h0) (a b : Int32)  :
    Con l Z EL_ [] N15 jdk_29_method_65_code 2 (some .int) [] (⟨0, 0, 0, 0⟩ : Room) #[(.int a), (.int b)] h0 (fun v h' => v = (some (.int (if a < b then b else a))) ∧ h' = h0) := by
  refine Con.mk pf_Math_max hEL hE0 (fun x hx => by cases hx) ?_
  intro p e s m below meth c T0 hby hml hret hnm W0
  rw [(show entryFrame m #[(.int a), (.int b)] 2 = mkF m 0 #[.val (.int a), .val (.int b)] [] from by first | (simp [entryFrame, mkF, argsToLocals, Value.category]; done) | rfl)]
  refine Go.by (fun _ q9 => XS.iloadN W0.here W0.hx rfl (hb hby dc15_0) rfl (XS.iloadN W0.here W0.hx rfl (hb hby dc15_1) rfl q9)) ?_
  by_cases hm0 : a < b
  · refine Go.by (fun _ q9 => XS.icmpYes W0.here W0.hx rfl (pc0 := 2) (pc' := 9) rfl (hb hby dc15_2) rfl (tlt hm0).1 (by decide) (by decide) q9) ?_
    refine Go.by (fun _ q9 => XS.iloadN W0.here W0.hx rfl (hb hby dc15_9) rfl q9) ?_
    show Go _ _ _ _ _ _ _ _ _ (T0.setTop (mkF m 10 #[.val (.int a), .val (.int b)] [(.int b)]))
    exact W0.retI (by decide) (by decide) hret (hb hby dc15_10) ⟨by simp only [if_pos hm0], rfl⟩
  · refine Go.by (fun _ q9 => XS.icmpNo W0.here W0.hx rfl (hb hby dc15_2) rfl (flt hm0).1 q9) ?_
    refine Go.by (fun _ q9 => XS.iloadN W0.here W0.hx rfl (hb hby dc15_5) rfl (XS.goto W0.here W0.hx rfl (pc0 := 6) (pc' := 10) rfl (hb hby dc15_6) (by decide) (by decide) q9)) ?_
    show Go _ _ _ _ _ _ _ _ _ (T0.setTop (mkF m 10 #[.val (.int a), .val (.int b)] [(.int a)]))
    exact W0.retI (by decide) (by decide) hret (hb hby dc15_10) ⟨by simp only [if_neg hm0], rfl⟩
theorem c_min (hw : HW Z a0) (hEL : EW Z a0 EL_) (h0 : Heap) (hE0 : Ext Z.heap h0) (n : Int32) (hn : n < (10 : Int32)) :
    Con l Z EL_ [] N16 jdk_29_method_69_code 2 (some .int) [] (⟨0, 0, 0, 0⟩ : Room) #[(.int (10 : Int32)), (.int n)] h0 (fun v h' => v = (some (.int n)) ∧ h' = h0) := by
  refine Con.mk pf_Math_min hEL hE0 (fun x hx => by cases hx) ?_
  intro p e s m below meth c T0 hby hml hret hnm W0
  rw [(show entryFrame m #[(.int (10 : Int32)), (.int n)] 2 = mkF m 0 #[.val (.int (10 : Int32)), .val (.int n)] [] from by first | (simp [entryFrame, mkF, argsToLocals, Value.category]; done) | rfl)]
  refine Go.by (fun _ q9 => XS.iloadN W0.here W0.hx rfl (hb hby dc16_0) rfl (XS.iloadN W0.here W0.hx rfl (hb hby dc16_1) rfl q9)) ?_
  refine Go.by (fun _ q9 => XS.icmpYes W0.here W0.hx rfl (pc0 := 2) (pc' := 9) rfl (hb hby dc16_2) rfl (tlt hn).2.2.1 (by decide) (by decide) q9) ?_
  refine Go.by (fun _ q9 => XS.iloadN W0.here W0.hx rfl (hb hby dc16_9) rfl q9) ?_
  show Go _ _ _ _ _ _ _ _ _ (T0.setTop (mkF m 10 #[.val (.int (10 : Int32)), .val (.int n)] [(.int n)]))
  exact W0.retI (by decide) (by decide) hret (hb hby dc16_10) ⟨rfl, rfl⟩
theorem c_grow1 (hw : HW Z a0) (hEL : EW Z a0 EL_) (h0 : Heap) (hE0 : Ext Z.heap h0) (x dd : Addr) (kd : ClassId) (mc : Int32) (E_x : Exa Z h0 x cAL) (FM : Fld Z h0 x "java/util/AbstractList" "modCount" "I" (.int mc)) (FD : Fld Z h0 x cAL "elementData" "[Ljava/lang/Object;" (.ref dd)) (FS : Fld Z h0 x cAL "size" "I" (.int 0)) (z_x : Z.heap.size ≤ x) (SD : Sta Z Z.heap cAL "DEFAULTCAPACITY_EMPTY_ELEMENTDATA" "[Ljava/lang/Object;" (.ref dd)) (DA : Arv Z Z.heap dd kd (.object "java/lang/Object") 0 [] .null) :
    Con l Z EL_ [x] N17 jdk_38_method_6_code 4 (some (.array (.object "java/lang/Object"))) [] (⟨1, 1, 10, 16⟩ : Room) #[(.ref x), (.int (1 : Int32))] h0 (fun v h' => ∃ r kr, v = some (.ref r) ∧ Keep h0 h' [x] ∧ h0.size ≤ r ∧ Exa Z h' r "[Ljava/lang/Object;" ∧ Arv Z h' r kr (.object "java/lang/Object") 10 [] .null ∧ Ovr Z kr "java/lang/Object" ∧ Exa Z h' x cAL ∧ Fld Z h' x "java/util/AbstractList" "modCount" "I" (.int mc) ∧ Fld Z h' x cAL "elementData" "[Ljava/lang/Object;" (.ref r) ∧ Fld Z h' x cAL "size" "I" (.int 0)) := by
  refine Con.mk (plainFor_of_name pn_12) hEL hE0 (allS E_x.lt all0) ?_
  intro p e s m below meth c T0 hby hml hret hnm W0
  rw [(show entryFrame m #[(.ref x), (.int (1 : Int32))] 4 = mkF m 0 #[.val (.ref x), .val (.int (1 : Int32)), .unset, .unset] [] from by first | (simp [entryFrame, mkF, argsToLocals, Value.category]; done) | rfl)]
  refine Go.by (fun _ q9 => XS.aloadN W0.here W0.hx rfl (hb hby dc17_0) rfl rfl q9) ?_
  show Go _ _ _ _ _ _ _ _ _ (T0.setTop (mkF m 1 #[.val (.ref x), .val (.int (1 : Int32)), .unset, .unset] [(.ref x)]))
  refine W0.getf (host := "") (Or.inl (wd128 hw)) Via.refl FD (hb hby dc17_1) ?_
  intro T253 W254
  show Go _ _ _ _ _ _ _ _ _ (T253.setTop (mkF m 4 #[.val (.ref x), .val (.int (1 : Int32)), .unset, .unset] [(.ref dd)]))
  refine W254.alen (DA.ext W254.old) (hb hby dc17_4) ?_
  refine Go.by (fun _ q9 => XS.istoreN W254.here W254.hx rfl (hb hby dc17_5) rfl (l' := #[.val (.ref x), .val (.int (1 : Int32)), .val (.int (0 : Int32)), .unset]) rfl (XS.iloadN W254.here W254.hx rfl (hb hby dc17_6) rfl q9)) ?_
  refine Go.by (fun _ q9 => XS.ifNo W254.here W254.hx rfl (hb hby dc17_7) rfl ((if0 _ _).trans (flt (by decide)).2.2.1) q9) ?_
  refine Go.by (fun _ q9 => XS.aloadN W254.here W254.hx rfl (hb hby dc17_10) rfl rfl q9) ?_
  show Go _ _ _ _ _ _ _ _ _ (T253.setTop (mkF m 11 #[.val (.ref x), .val (.int (1 : Int32)), .val (.int (0 : Int32)), .unset] [(.ref x)]))
  refine W254.getf (host := "") (Or.inl (wd128 hw)) Via.refl FD (hb hby dc17_11) ?_
  intro T255 W256
  show Go _ _ _ _ _ _ _ _ _ (T255.setTop (mkF m 14 #[.val (.ref x), .val (.int (1 : Int32)), .val (.int (0 : Int32)), .unset] [(.ref dd)]))
  refine W256.gets (host := "") (Or.inl (wd127 hw)) Via.refl (SD.ext W256.old) (hb hby dc17_14) ?_
  intro T257 W258
  refine Go.by (fun _ q9 => acmpW W258 (g := (mkF m 17 #[.val (.ref x), .val (.int (1 : Int32)), .val (.int (0 : Int32)), .unset] [(.ref dd), (.ref dd)])) rfl rfl rfl (pc0 := 17) (pc' := 45) (same := true) rfl (hb hby dc17_17) rfl (decide_eq_true rfl) (by decide) (by decide) q9) ?_
  refine Go.by (fun _ q9 => XS.aloadN W258.here W258.hx rfl (hb hby dc17_45) rfl rfl (XS.bipush W258.here W258.hx rfl (hb hby dc17_46) (XS.iloadN W258.here W258.hx rfl (hb hby dc17_48) rfl q9))) ?_
  show Go _ _ _ _ _ _ _ _ _ (T257.setTop (mkF m 49 #[.val (.ref x), .val (.int (1 : Int32)), .val (.int (0 : Int32)), .unset] [(.int (1 : Int32)), (.int (10 : Int32)), (.ref x)]))
  refine W258.callSp (y := N15) (wd251 hw) (wd252 hw) (wd253 hw) (wd254 hw) (by decide) (c_max l Z a0 hw hEL h0 hE0 10 1) all0 (by decide) (by decide) (k' := 0) (n' := 0) rfl rfl (by decide) (by decide) (by rw [hml]; rfl) (argsL := [(.int (10 : Int32)), (.int (1 : Int32))]) (rest := [(.ref x)]) (lenOf pd_7 rfl) rfl rfl (Wt := 1) (Nat.le_of_eq rfl) (hb hby dc17_49) ?_
  intro T259 W260
  show Go _ _ _ _ _ _ _ _ _ (T259.setTop (mkF m 52 #[.val (.ref x), .val (.int (1 : Int32)), .val (.int (0 : Int32)), .unset] [(.int (10 : Int32)), (.ref x)]))
  refine W260.newr (wd255 hw) (wd256 hw) (hb hby dc17_52) (by decide) (cap := 10) (by decide) (by decide) (k' := 1) (n' := 10) rfl rfl (by decide) (by decide) (ad := "[Ljava/lang/Object;") rfl ?_
  intro T261 h262 r k_r W263 E264 g_r z_r A_r V_r O_r
  refine Go.by (fun _ q9 => XS.dupX1 W263.here W263.hx rfl (hb hby dc17_55) rfl rfl rfl q9) ?_
  show Go _ _ _ _ _ _ _ _ _ (T261.setTop (mkF m 56 #[.val (.ref x), .val (.int (1 : Int32)), .val (.int (0 : Int32)), .unset] [(.ref r), (.ref x), (.ref r)]))
  refine W263.putf (host := "") (Or.inl (wd128 hw)) Via.refl (FD.ext E264) (E_x.ext E264) (Or.inl (wd129 hw)) (wd107 hw) (ty := (.array (.object "java/lang/Object"))) (by decide) rfl rfl z_x (m_ 1) (hb hby dc17_56) ?_
  intro T265 h266 W267 Wr268
  have F269 : Fld Z h266 x cAL "elementData" "[Ljava/lang/Object;" (.ref r) := (FD.ext E264).same Wr268
  have F270 : Fld Z h266 x "java/util/AbstractList" "modCount" "I" (.int mc) := (FM.ext E264).other Wr268 (Or.inr (slot_ne (Or.inl (wd126 hw)) (Or.inl (wd129 hw)) (by decide) (t := .int) (t' := (.array (.object "java/lang/Object"))) (by decide) (by decide)))
  have F271 : Fld Z h266 x cAL "size" "I" (.int 0) := (FS.ext E264).other Wr268 (Or.inr (slot_ne (Or.inl (wd161 hw)) (Or.inl (wd129 hw)) (by decide) (t := .int) (t' := (.array (.object "java/lang/Object"))) (by decide) (by decide)))
  have A272 : Exa Z h266 x cAL := (E_x.ext E264).wr Wr268
  show Go _ _ _ _ _ _ _ _ _ (T265.setTop (mkF m 59 #[.val (.ref x), .val (.int (1 : Int32)), .val (.int (0 : Int32)), .unset] [(.ref r)]))
  exact W267.retA (by decide) (by decide) hret rfl rfl (hb hby dc17_59) ⟨r, k_r, rfl, (((Keep.refl h0 [x]).ext E264).wr Wr268 (Or.inl (m_ 0))), Nat.le_of_eq g_r, (A_r.wr Wr268), (V_r.other Wr268 (Ne.symm (Nat.ne_of_lt (Nat.lt_of_lt_of_le E_x.lt (Nat.le_of_eq g_r))))), O_r, A272, F270, F269, F271⟩
theorem c_grow0 (hw : HW Z a0) (hEL : EW Z a0 EL_) (h0 : Heap) (hE0 : Ext Z.heap h0) (x dd : Addr) (kd : ClassId) (mc : Int32) (E_x : Exa Z h0 x cAL) (FM : Fld Z h0 x "java/util/AbstractList" "modCount" "I" (.int mc)) (FD : Fld Z h0 x cAL "elementData" "[Ljava/lang/Object;" (.ref dd)) (FS : Fld Z h0 x cAL "size" "I" (.int 0)) (z_x : Z.heap.size ≤ x) (SD : Sta Z Z.heap cAL "DEFAULTCAPACITY_EMPTY_ELEMENTDATA" "[Ljava/lang/Object;" (.ref dd)) (DA : Arv Z Z.heap dd kd (.object "java/lang/Object") 0 [] .null) :
    Con l Z EL_ [x] N18 jdk_38_method_7_code 1 (some (.array (.object "java/lang/Object"))) [] (⟨2, 1, 10, 32⟩ : Room) #[(.ref x)] h0 (fun v h' => ∃ r kr, v = some (.ref r) ∧ Keep h0 h' [x] ∧ h0.size ≤ r ∧ Exa Z h' r "[Ljava/lang/Object;" ∧ Arv Z h' r kr (.object "java/lang/Object") 10 [] .null ∧ Ovr Z kr "java/lang/Object" ∧ Exa Z h' x cAL ∧ Fld Z h' x "java/util/AbstractList" "modCount" "I" (.int mc) ∧ Fld Z h' x cAL "elementData" "[Ljava/lang/Object;" (.ref r) ∧ Fld Z h' x cAL "size" "I" (.int 0)) := by
  refine Con.mk (plainFor_of_name pn_12) hEL hE0 (allS E_x.lt all0) ?_
  intro p e s m below meth c T0 hby hml hret hnm W0
  rw [(show entryFrame m #[(.ref x)] 1 = mkF m 0 #[.val (.ref x)] [] from by first | (simp [entryFrame, mkF, argsToLocals, Value.category]; done) | rfl)]
  refine Go.by (fun _ q9 => XS.aloadN W0.here W0.hx rfl (hb hby dc18_0) rfl rfl (XS.aloadN W0.here W0.hx rfl (hb hby dc18_1) rfl rfl q9)) ?_
  show Go _ _ _ _ _ _ _ _ _ (T0.setTop (mkF m 2 #[.val (.ref x)] [(.ref x), (.ref x)]))
  refine W0.getf (host := "") (Or.inl (wd160 hw)) Via.refl FS (hb hby dc18_2) ?_
  intro T273 W274
  refine Go.by (fun _ q9 => XS.iconst W274.here W274.hx rfl (hb hby dc18_5) (XS.iadd W274.here W274.hx rfl (hb hby dc18_6) rfl q9)) ?_
  show Go _ _ _ _ _ _ _ _ _ (T273.setTop (mkF m 7 #[.val (.ref x)] [(.int (1 : Int32)), (.ref x)]))
  refine W274.callP (y := N17) (wd246 hw) (wd247 hw) (wd249 hw) (wd248 hw) (wd108 hw) (wd250 hw) (by decide) E_x (a := x) (c_grow1 l Z a0 hw hEL h0 hE0 x dd kd mc E_x FM FD FS z_x SD DA) (allS (m_ 0) all0) (by decide) (by decide) (k' := 1) (n' := 10) rfl rfl (by decide) (by decide) (by rw [hml]; rfl) (argsL := [(.int (1 : Int32))]) (rest := []) (lenOf pd_8 rfl) rfl rfl (Wt := 0) (Nat.le_of_eq rfl) (hb hby dc18_7) ?_
  intro v_ T275 h277 W276 hq_
  obtain ⟨r, kr, rfl, q1, q2, q3, q4, q5, q6, q7, q8, q9⟩ := hq_
  show Go _ _ _ _ _ _ _ _ _ (T275.setTop (mkF m 10 #[.val (.ref x)] [(.ref r)]))
  exact W276.retA (by decide) (by decide) hret rfl rfl (hb hby dc18_10) ⟨r, kr, rfl, q1, q2, q3, q4, q5, q6, q7, q8, q9⟩
theorem c_add3_0 (hw : HW Z a0) (hEL : EW Z a0 EL_) (h0 : Heap) (hE0 : Ext Z.heap h0) (x dd : Addr) (kd : ClassId) (mc : Int32) (q : Addr) (E_x : Exa Z h0 x cAL) (FM : Fld Z h0 x "java/util/AbstractList" "modCount" "I" (.int mc)) (FD : Fld Z h0 x cAL "elementData" "[Ljava/lang/Object;" (.ref dd)) (FS : Fld Z h0 x cAL "size" "I" (.int 0)) (z_x : Z.heap.size ≤ x) (SD : Sta Z Z.heap cAL "DEFAULTCAPACITY_EMPTY_ELEMENTDATA" "[Ljava/lang/Object;" (.ref dd)) (DA : Arv Z Z.heap dd kd (.object "java/lang/Object") 0 [] .null) (E_q : Exa Z h0 q cSC) :
    Con l Z EL_ [x] N19 jdk_38_method_24_code 4 none [] (⟨3, 1, 10, 45⟩ : Room) #[(.ref x), (.ref q), (.ref dd), (.int (0 : Int32))] h0 (fun v h' => ∃ r kr, v = none ∧ Keep h0 h' [x] ∧ h0.size ≤ r ∧ Exa Z h' r "[Ljava/lang/Object;" ∧ Arv Z h' r kr (.object "java/lang/Object") 10 [(.ref q)] .null ∧ Ovr Z kr "java/lang/Object" ∧ Exa Z h' x cAL ∧ Fld Z h' x "java/util/AbstractList" "modCount" "I" (.int mc) ∧ Fld Z h' x cAL "elementData" "[Ljava/lang/Object;" (.ref r) ∧ Fld Z h' x cAL "size" "I" (.int 1)) := by
  refine Con.mk (plainFor_of_name pn_12) hEL hE0 (allS E_x.lt all0) ?_
  intro p e s m below meth c T0 hby hml hret hnm W0
  rw [(show entryFrame m #[(.ref x), (.ref q), (.ref dd), (.int (0 : Int32))] 4 = mkF m 0 #[.val (.ref x), .val (.ref q), .val (.ref dd), .val (.int (0 : Int32))] [] from by first | (simp [entryFrame, mkF, argsToLocals, Value.category]; done) | rfl)]
  refine Go.by (fun _ q9 => XS.iloadN W0.here W0.hx rfl (hb hby dc19_0) rfl (XS.aloadN W0.here W0.hx rfl (hb hby dc19_1) rfl rfl q9)) ?_
  show Go _ _ _ _ _ _ _ _ _ (T0.setTop (mkF m 2 #[.val (.ref x), .val (.ref q), .val (.ref dd), .val (.int (0 : Int32))] [(.ref dd), (.int (0 : Int32))]))
  refine W0.alen (DA.ext W0.old) (hb hby dc19_2) ?_
  refine Go.by (fun _ q9 => XS.icmpNo W0.here W0.hx rfl (hb hby dc19_3) rfl (teq rfl).2 q9) ?_
  refine Go.by (fun _ q9 => XS.aloadN W0.here W0.hx rfl (hb hby dc19_6) rfl rfl q9) ?_
  show Go _ _ _ _ _ _ _ _ _ (T0.setTop (mkF m 7 #[.val (.ref x), .val (.ref q), .val (.ref dd), .val (.int (0 : Int32))] [(.ref x)]))
  refine W0.callP (y := N18) (wd241 hw) (wd242 hw) (wd244 hw) (wd243 hw) (wd108 hw) (wd245 hw) (by decide) E_x (a := x) (c_grow0 l Z a0 hw hEL h0 hE0 x dd kd mc E_x FM FD FS z_x SD DA) (allS (m_ 0) all0) (by decide) (by decide) (k' := 1) (n' := 10) rfl rfl (by decide) (by decide) (by rw [hml]; rfl) (argsL := []) (rest := []) (lenOf pd_9 rfl) rfl rfl (Wt := 0) (Nat.le_of_eq rfl) (hb hby dc19_7) ?_
  intro v_ T278 h280 W279 hq_
  obtain ⟨r, kr, rfl, q1, q2, q3, q4, q5, q6, q7, q8, q9⟩ := hq_
  have W281 := W279.safeE q3 (by decide) (by decide)
  refine Go.by (fun _ q9 => XS.astoreN W281.here W281.hx rfl (hb hby dc19_10) rfl rfl (l' := #[.val (.ref x), .val (.ref q), .val (.ref r), .val (.int (0 : Int32))]) rfl (XS.aloadN W281.here W281.hx rfl (hb hby dc19_11) rfl rfl (XS.iloadN W281.here W281.hx rfl (hb hby dc19_12) rfl (XS.aloadN W281.here W281.hx rfl (hb hby dc19_13) rfl rfl q9)))) ?_
  have Anp := q4.pad (pad_rep [] .null 1)
  obtain ⟨cl_r, ar1, ar2, -⟩ := id q4
  show Go _ _ _ _ _ _ _ _ _ (T278.setTop (mkF m 14 #[.val (.ref x), .val (.ref q), .val (.ref r), .val (.int (0 : Int32))] [(.ref q), (.int (0 : Int32)), (.ref r)]))
  refine W281.aast Anp rfl ⟨by decide, by decide⟩ (i := 0) rfl (by simp) (Sto.ofV ar1 ar2 q5 (Ins.of_exa (E_q.keep q1) (wd257 hw))) rfl (Nat.le_trans hE0.1 q2) (m_ 0) (hb hby dc19_14) ?_
  intro T282 h283 W284 Wr285 V286_r
  have An : Arv Z h283 r kr (.object "java/lang/Object") 10 [(.ref q)] .null := V286_r
  refine Go.by (fun _ q9 => XS.aloadN W284.here W284.hx rfl (hb hby dc19_15) rfl rfl (XS.iloadN W284.here W284.hx rfl (hb hby dc19_16) rfl (XS.iconst W284.here W284.hx rfl (hb hby dc19_17) (XS.iadd W284.here W284.hx rfl (hb hby dc19_18) rfl q9)))) ?_
  show Go _ _ _ _ _ _ _ _ _ (T282.setTop (mkF m 19 #[.val (.ref x), .val (.ref q), .val (.ref r), .val (.int (0 : Int32))] [(.int (1 : Int32)), (.ref x)]))
  refine W284.putf (host := "") (Or.inl (wd160 hw)) Via.refl (q9.other Wr285 (Or.inl (Exa.ne q6 q3 (by decide)))) (q6.wr Wr285) (Or.inl (wd161 hw)) (wd107 hw) (ty := .int) (by decide) rfl rfl z_x (m_ 1) (hb hby dc19_19) ?_
  intro T287 h288 W289 Wr290
  have F291 : Fld Z h288 x cAL "size" "I" (.int (1 : Int32)) := (q9.other Wr285 (Or.inl (Exa.ne q6 q3 (by decide)))).same Wr290
  have F292 : Fld Z h288 x "java/util/AbstractList" "modCount" "I" (.int mc) := (q7.other Wr285 (Or.inl (Exa.ne q6 q3 (by decide)))).other Wr290 (Or.inr (slot_ne (Or.inl (wd126 hw)) (Or.inl (wd161 hw)) (by decide) (t := .int) (t' := .int) (by decide) (by decide)))
  have F293 : Fld Z h288 x cAL "elementData" "[Ljava/lang/Object;" (.ref r) := (q8.other Wr285 (Or.inl (Exa.ne q6 q3 (by decide)))).other Wr290 (Or.inr (slot_ne (Or.inl (wd129 hw)) (Or.inl (wd161 hw)) (by decide) (t := (.array (.object "java/lang/Object"))) (t' := .int) (by decide) (by decide)))
  have A294 : Exa Z h288 x cAL := (q6.wr Wr285).wr Wr290
  show Go _ _ _ _ _ _ _ _ _ (T287.setTop (mkF m 22 #[.val (.ref x), .val (.ref q), .val (.ref r), .val (.int (0 : Int32))] []))
  exact W289.retV (by decide) (by decide) hret (hb hby dc19_22) ⟨r, kr, rfl, ((q1.wr Wr285 (Or.inr q2)).wr Wr290 (Or.inl (m_ 0))), q2, ((q3.wr Wr285).wr Wr290), (An.other Wr290 (Exa.ne (q3.wr Wr285) (q6.wr Wr285) (by decide))), q5, A294, F292, F293, F291⟩
theorem c_add_0 (hw : HW Z a0) (hEL : EW Z a0 EL_) (h0 : Heap) (hE0 : Ext Z.heap h0) (x dd : Addr) (kd : ClassId) (mc : Int32) (q : Addr) (E_x : Exa Z h0 x cAL) (FM : Fld Z h0 x "java/util/AbstractList" "modCount" "I" (.int mc)) (FD : Fld Z h0 x cAL "elementData" "[Ljava/lang/Object;" (.ref dd)) (FS : Fld Z h0 x cAL "size" "I" (.int 0)) (z_x : Z.heap.size ≤ x) (SD : Sta Z Z.heap cAL "DEFAULTCAPACITY_EMPTY_ELEMENTDATA" "[Ljava/lang/Object;" (.ref dd)) (DA : Arv Z Z.heap dd kd (.object "java/lang/Object") 0 [] .null) (E_q : Exa Z h0 q cSC) :
    Con l Z EL_ [x] N20 jdk_38_method_25_code 2 (some .boolean) [] (⟨4, 1, 10, 60⟩ : Room) #[(.ref x), (.ref q)] h0 (fun v h' => ∃ r kr, v = some (.int 1) ∧ Keep h0 h' [x] ∧ h0.size ≤ r ∧ Exa Z h' r "[Ljava/lang/Object;" ∧ Arv Z h' r kr (.object "java/lang/Object") 10 [(.ref q)] .null ∧ Ovr Z kr "java/lang/Object" ∧ Exa Z h' x cAL ∧ Fld Z h' x "java/util/AbstractList" "modCount" "I" (.int (mc + (1 : Int32))) ∧ Fld Z h' x cAL "elementData" "[Ljava/lang/Object;" (.ref r) ∧ Fld Z h' x cAL "size" "I" (.int 1)) := by
  refine Con.mk (plainFor_of_name pn_12) hEL hE0 (allS E_x.lt all0) ?_
  intro p e s m below meth c T0 hby hml hret hnm W0
  rw [(show entryFrame m #[(.ref x), (.ref q)] 2 = mkF m 0 #[.val (.ref x), .val (.ref q)] [] from by first | (simp [entryFrame, mkF, argsToLocals, Value.category]; done) | rfl)]
  refine Go.by (fun _ q9 => XS.aloadN W0.here W0.hx rfl (hb hby dc20_0) rfl rfl (XS.dup W0.here W0.hx rfl (hb hby dc20_1) rfl rfl q9)) ?_
  show Go _ _ _ _ _ _ _ _ _ (T0.setTop (mkF m 2 #[.val (.ref x), .val (.ref q)] [(.ref x), (.ref x)]))
  refine W0.getf (host := "") (Or.inl (wd234 hw)) (Via.of (wd235 hw)) FM (hb hby dc20_2) ?_
  intro T295 W296
  refine Go.by (fun _ q9 => XS.iconst W296.here W296.hx rfl (hb hby dc20_5) (XS.iadd W296.here W296.hx rfl (hb hby dc20_6) rfl q9)) ?_
  show Go _ _ _ _ _ _ _ _ _ (T295.setTop (mkF m 7 #[.val (.ref x), .val (.ref q)] [(.int (mc + (1 : Int32))), (.ref x)]))
  refine W296.putf (host := "") (Or.inl (wd234 hw)) (Via.of (wd235 hw)) FM E_x (Or.inl (wd126 hw)) (wd107 hw) (ty := .int) (by decide) rfl rfl z_x (m_ 0) (hb hby dc20_7) ?_
  intro T297 h298 W299 Wr300
  have F301 : Fld Z h298 x "java/util/AbstractList" "modCount" "I" (.int (mc + (1 : Int32))) := FM.same Wr300
  have F302 : Fld Z h298 x cAL "elementData" "[Ljava/lang/Object;" (.ref dd) := FD.other Wr300 (Or.inr (slot_ne (Or.inl (wd129 hw)) (Or.inl (wd126 hw)) (by decide) (t := (.array (.object "java/lang/Object"))) (t' := .int) (by decide) (by decide)))
  have F303 : Fld Z h298 x cAL "size" "I" (.int 0) := FS.other Wr300 (Or.inr (slot_ne (Or.inl (wd161 hw)) (Or.inl (wd126 hw)) (by decide) (t := .int) (t' := .int) (by decide) (by decide)))
  have A304 : Exa Z h298 x cAL := E_x.wr Wr300
  refine Go.by (fun _ q9 => XS.aloadN W299.here W299.hx rfl (hb hby dc20_10) rfl rfl (XS.aloadN W299.here W299.hx rfl (hb hby dc20_11) rfl rfl (XS.aloadN W299.here W299.hx rfl (hb hby dc20_12) rfl rfl q9))) ?_
  show Go _ _ _ _ _ _ _ _ _ (T297.setTop (mkF m 13 #[.val (.ref x), .val (.ref q)] [(.ref x), (.ref q), (.ref x)]))
  refine W299.getf (host := "") (Or.inl (wd128 hw)) Via.refl F302 (hb hby dc20_13) ?_
  intro T305 W306
  refine Go.by (fun _ q9 => XS.aloadN W306.here W306.hx rfl (hb hby dc20_16) rfl rfl q9) ?_
  show Go _ _ _ _ _ _ _ _ _ (T305.setTop (mkF m 17 #[.val (.ref x), .val (.ref q)] [(.ref x), (.ref dd), (.ref q), (.ref x)]))
  refine W306.getf (host := "") (Or.inl (wd160 hw)) Via.refl F303 (hb hby dc20_17) ?_
  intro T307 W308
  show Go _ _ _ _ _ _ _ _ _ (T307.setTop (mkF m 20 #[.val (.ref x), .val (.ref q)] [(.int (0 : Int32)), (.ref dd), (.ref q), (.ref x)]))
  refine W308.callP (y := N19) (wd236 hw) (wd237 hw) (wd239 hw) (wd238 hw) (wd108 hw) (wd240 hw) (by decide) A304 (a := x) (c_add3_0 l Z a0 hw hEL h298 W308.old x dd kd (mc + (1 : Int32)) q A304 F301 F302 F303 z_x SD DA (E_q.wr Wr300)) (allS (m_ 0) all0) (by decide) (by decide) (k' := 1) (n' := 10) rfl rfl (by decide) (by decide) (by rw [hml]; rfl) (argsL := [(.ref q), (.ref dd), (.int (0 : Int32))]) (rest := []) (lenOf pd_10 rfl) rfl rfl (Wt := 0) (Nat.le_of_eq rfl) (hb hby dc20_20) ?_
  intro v_ T309 h311 W310 hq_
  obtain ⟨r, kr, rfl, K2, q2, q3⟩ := hq_
  refine Go.by (fun _ q9 => XS.iconst W310.here W310.hx rfl (hb hby dc20_23) q9) ?_
  show Go _ _ _ _ _ _ _ _ _ (T309.setTop (mkF m 24 #[.val (.ref x), .val (.ref q)] [(.int (1 : Int32))]))
  exact W310.retN (z' := (1 : Int32)) (by decide) (by decide) hret (by simp) (hb hby dc20_24) rfl ⟨r, kr, rfl, (((Keep.refl h0 [x]).wr Wr300 (Or.inl (m_ 0))).trans K2 (allS (Or.inl (m_ 0)) all0)), Nat.le_trans (Nat.le_of_eq Wr300.size.symm) q2, q3⟩
theorem c_add3_1 (hw : HW Z a0) (hEL : EW Z a0 EL_) (h0 : Heap) (hE0 : Ext Z.heap h0) (x r : Addr) (kr : ClassId) (mc : Int32) (s0 q : Addr) (E_x : Exa Z h0 x cAL) (FM : Fld Z h0 x "java/util/AbstractList" "modCount" "I" (.int mc)) (FD : Fld Z h0 x cAL "elementData" "[Ljava/lang/Object;" (.ref r)) (FS : Fld Z h0 x cAL "size" "I" (.int 1)) (z_x : Z.heap.size ≤ x) (E_r : Exa Z h0 r "[Ljava/lang/Object;") (z_r : Z.heap.size ≤ r) (A_r : Arv Z h0 r kr (.object "java/lang/Object") 10 [(.ref s0)] .null) (O_r : Ovr Z kr "java/lang/Object") (E_q : Exa Z h0 q cSC) :
    Con l Z EL_ [x, r] N19 jdk_38_method_24_code 4 none [] (⟨0, 0, 0, 0⟩ : Room) #[(.ref x), (.ref q), (.ref r), (.int (1 : Int32))] h0 (fun v h' => v = none ∧ Keep h0 h' [x, r] ∧ Exa Z h' r "[Ljava/lang/Object;" ∧ Arv Z h' r kr (.object "java/lang/Object") 10 [(.ref s0), (.ref q)] .null ∧ Exa Z h' x cAL ∧ Fld Z h' x "java/util/AbstractList" "modCount" "I" (.int mc) ∧ Fld Z h' x cAL "elementData" "[Ljava/lang/Object;" (.ref r) ∧ Fld Z h' x cAL "size" "I" (.int 2)) := by
  refine Con.mk (plainFor_of_name pn_12) hEL hE0 (allS E_x.lt (allS E_r.lt all0)) ?_
  intro p e s m below meth c T0 hby hml hret hnm W0
  rw [(show entryFrame m #[(.ref x), (.ref q), (.ref r), (.int (1 : Int32))] 4 = mkF m 0 #[.val (.ref x), .val (.ref q), .val (.ref r), .val (.int (1 : Int32))] [] from by first | (simp [entryFrame, mkF, argsToLocals, Value.category]; done) | rfl)]
  refine Go.by (fun _ q9 => XS.iloadN W0.here W0.hx rfl (hb hby dc19_0) rfl (XS.aloadN W0.here W0.hx rfl (hb hby dc19_1) rfl rfl q9)) ?_
  show Go _ _ _ _ _ _ _ _ _ (T0.setTop (mkF m 2 #[.val (.ref x), .val (.ref q), .val (.ref r), .val (.int (1 : Int32))] [(.ref r), (.int (1 : Int32))]))
  refine W0.alen A_r (hb hby dc19_2) ?_
  refine Go.by (fun _ q9 => XS.icmpYes W0.here W0.hx rfl (pc0 := 3) (pc' := 11) rfl (hb hby dc19_3) rfl (feq (by decide)).2 (by decide) (by decide) q9) ?_
  refine Go.by (fun _ q9 => XS.aloadN W0.here W0.hx rfl (hb hby dc19_11) rfl rfl (XS.iloadN W0.here W0.hx rfl (hb hby dc19_12) rfl (XS.aloadN W0.here W0.hx rfl (hb hby dc19_13) rfl rfl q9))) ?_
  have Anp := A_r.pad (pad_rep [(.ref s0)] .null 1)
  obtain ⟨cl_r, ar1, ar2, -⟩ := id A_r
  show Go _ _ _ _ _ _ _ _ _ (T0.setTop (mkF m 14 #[.val (.ref x), .val (.ref q), .val (.ref r), .val (.int (1 : Int32))] [(.ref q), (.int (1 : Int32)), (.ref r)]))
  refine W0.aast Anp rfl ⟨by decide, by decide⟩ (i := 1) rfl (by simp) (Sto.ofV ar1 ar2 O_r (Ins.of_exa E_q (wd257 hw))) rfl z_r (m_ 1) (hb hby dc19_14) ?_
  intro T312 h313 W314 Wr315 V316_r
  have An : Arv Z h313 r kr (.object "java/lang/Object") 10 [(.ref s0), (.ref q)] .null := V316_r
  refine Go.by (fun _ q9 => XS.aloadN W314.here W314.hx rfl (hb hby dc19_15) rfl rfl (XS.iloadN W314.here W314.hx rfl (hb hby dc19_16) rfl (XS.iconst W314.here W314.hx rfl (hb hby dc19_17) (XS.iadd W314.here W314.hx rfl (hb hby dc19_18) rfl q9)))) ?_
  show Go _ _ _ _ _ _ _ _ _ (T312.setTop (mkF m 19 #[.val (.ref x), .val (.ref q), .val (.ref r), .val (.int (1 : Int32))] [(.int (2 : Int32)), (.ref x)]))
  refine W314.putf (host := "") (Or.inl (wd160 hw)) Via.refl (FS.other Wr315 (Or.inl (Exa.ne E_x E_r (by decide)))) (E_x.wr Wr315) (Or.inl (wd161 hw)) (wd107 hw) (ty := .int) (by decide) rfl rfl z_x (m_ 0) (hb hby dc19_19) ?_
  intro T317 h318 W319 Wr320
  have F321 : Fld Z h318 x cAL "size" "I" (.int (2 : Int32)) := (FS.other Wr315 (Or.inl (Exa.ne E_x E_r (by decide)))).same Wr320
  have F322 : Fld Z h318 x "java/util/AbstractList" "modCount" "I" (.int mc) := (FM.other Wr315 (Or.inl (Exa.ne E_x E_r (by decide)))).other Wr320 (Or.inr (slot_ne (Or.inl (wd126 hw)) (Or.inl (wd161 hw)) (by decide) (t := .int) (t' := .int) (by decide) (by decide)))
  have F323 : Fld Z h318 x cAL "elementData" "[Ljava/lang/Object;" (.ref r) := (FD.other Wr315 (Or.inl (Exa.ne E_x E_r (by decide)))).other Wr320 (Or.inr (slot_ne (Or.inl (wd129 hw)) (Or.inl (wd161 hw)) (by decide) (t := (.array (.object "java/lang/Object"))) (t' := .int) (by decide) (by decide)))
  have A324 : Exa Z h318 x cAL := (E_x.wr Wr315).wr Wr320
  show Go _ _ _ _ _ _ _ _ _ (T317.setTop (mkF m 22 #[.val (.ref x), .val (.ref q), .val (.ref r), .val (.int (1 : Int32))] []))
  exact W319.retV (by decide) (by decide) hret (hb hby dc19_22) ⟨rfl, (((Keep.refl h0 [x, r]).wr Wr315 (Or.inl (m_ 1))).wr Wr320 (Or.inl (m_ 0))), ((E_r.wr Wr315).wr Wr320), (An.other Wr320 (Exa.ne (E_r.wr Wr315) (E_x.wr Wr315) (by decide))), A324, F322, F323, F321⟩
theorem c_add_1 (hw : HW Z a0) (hEL : EW Z a0 EL_) (h0 : Heap) (hE0 : Ext Z.heap h0) (x r : Addr) (kr : ClassId) (mc : Int32) (s0 q : Addr) (E_x : Exa Z h0 x cAL) (FM : Fld Z h0 x "java/util/AbstractList" "modCount" "I" (.int mc)) (FD : Fld Z h0 x cAL "elementData" "[Ljava/lang/Object;" (.ref r)) (FS : Fld Z h0 x cAL "size" "I" (.int 1)) (z_x : Z.heap.size ≤ x) (E_r : Exa Z h0 r "[Ljava/lang/Object;") (z_r : Z.heap.size ≤ r) (A_r : Arv Z h0 r kr (.object "java/lang/Object") 10 [(.ref s0)] .null) (O_r : Ovr Z kr "java/lang/Object") (E_q : Exa Z h0 q cSC) :
    Con l Z EL_ [x, r] N20 jdk_38_method_25_code 2 (some .boolean) [] (⟨1, 0, 0, 15⟩ : Room) #[(.ref x), (.ref q)] h0 (fun v h' => v = some (.int 1) ∧ Keep h0 h' [x, r] ∧ Exa Z h' r "[Ljava/lang/Object;" ∧ Arv Z h' r kr (.object "java/lang/Object") 10 [(.ref s0), (.ref q)] .null ∧ Exa Z h' x cAL ∧ Fld Z h' x "java/util/AbstractList" "modCount" "I" (.int (mc + (1 : Int32))) ∧ Fld Z h' x cAL "elementData" "[Ljava/lang/Object;" (.ref r) ∧ Fld Z h' x cAL "size" "I" (.int 2)) := by
  refine Con.mk (plainFor_of_name pn_12) hEL hE0 (allS E_x.lt (allS E_r.lt all0)) ?_
  intro p e s m below meth c T0 hby hml hret hnm W0
  rw [(show entryFrame m #[(.ref x), (.ref q)] 2 = mkF m 0 #[.val (.ref x), .val (.ref q)] [] from by first | (simp [entryFrame, mkF, argsToLocals, Value.category]; done) | rfl)]
  refine Go.by (fun _ q9 => XS.aloadN W0.here W0.hx rfl (hb hby dc20_0) rfl rfl (XS.dup W0.here W0.hx rfl (hb hby dc20_1) rfl rfl q9)) ?_
  show Go _ _ _ _ _ _ _ _ _ (T0.setTop (mkF m 2 #[.val (.ref x), .val (.ref q)] [(.ref x), (.ref x)]))
  refine W0.getf (host := "") (Or.inl (wd234 hw)) (Via.of (wd235 hw)) FM (hb hby dc20_2) ?_
  intro T325 W326
  refine Go.by (fun _ q9 => XS.iconst W326.here W326.hx rfl (hb hby dc20_5) (XS.iadd W326.here W326.hx rfl (hb hby dc20_6) rfl q9)) ?_
  show Go _ _ _ _ _ _ _ _ _ (T325.setTop (mkF m 7 #[.val (.ref x), .val (.ref q)] [(.int (mc + (1 : Int32))), (.ref x)]))
  refine W326.putf (host := "") (Or.inl (wd234 hw)) (Via.of (wd235 hw)) FM E_x (Or.inl (wd126 hw)) (wd107 hw) (ty := .int) (by decide) rfl rfl z_x (m_ 0) (hb hby dc20_7) ?_
  intro T327 h328 W329 Wr330
  have F331 : Fld Z h328 x "java/util/AbstractList" "modCount" "I" (.int (mc + (1 : Int32))) := FM.same Wr330
  have F332 : Fld Z h328 x cAL "elementData" "[Ljava/lang/Object;" (.ref r) := FD.other Wr330 (Or.inr (slot_ne (Or.inl (wd129 hw)) (Or.inl (wd126 hw)) (by decide) (t := (.array (.object "java/lang/Object"))) (t' := .int) (by decide) (by decide)))
  have F333 : Fld Z h328 x cAL "size" "I" (.int 1) := FS.other Wr330 (Or.inr (slot_ne (Or.inl (wd161 hw)) (Or.inl (wd126 hw)) (by decide) (t := .int) (t' := .int) (by decide) (by decide)))
  have A334 : Exa Z h328 x cAL := E_x.wr Wr330
  refine Go.by (fun _ q9 => XS.aloadN W329.here W329.hx rfl (hb hby dc20_10) rfl rfl (XS.aloadN W329.here W329.hx rfl (hb hby dc20_11) rfl rfl (XS.aloadN W329.here W329.hx rfl (hb hby dc20_12) rfl rfl q9))) ?_
  show Go _ _ _ _ _ _ _ _ _ (T327.setTop (mkF m 13 #[.val (.ref x), .val (.ref q)] [(.ref x), (.ref q), (.ref x)]))
  refine W329.getf (host := "") (Or.inl (wd128 hw)) Via.refl F332 (hb hby dc20_13) ?_
  intro T335 W336
  refine Go.by (fun _ q9 => XS.aloadN W336.here W336.hx rfl (hb hby dc20_16) rfl rfl q9) ?_
  show Go _ _ _ _ _ _ _ _ _ (T335.setTop (mkF m 17 #[.val (.ref x), .val (.ref q)] [(.ref x), (.ref r), (.ref q), (.ref x)]))
  refine W336.getf (host := "") (Or.inl (wd160 hw)) Via.refl F333 (hb hby dc20_17) ?_
  intro T337 W338
  show Go _ _ _ _ _ _ _ _ _ (T337.setTop (mkF m 20 #[.val (.ref x), .val (.ref q)] [(.int (1 : Int32)), (.ref r), (.ref q), (.ref x)]))
  refine W338.callP (y := N19) (wd236 hw) (wd237 hw) (wd239 hw) (wd238 hw) (wd108 hw) (wd240 hw) (by decide) A334 (a := x) (c_add3_1 l Z a0 hw hEL h328 W338.old x r kr (mc + (1 : Int32)) s0 q A334 F331 F332 F333 z_x (E_r.wr Wr330) z_r (A_r.other Wr330 (Exa.ne E_r E_x (by decide))) O_r (E_q.wr Wr330)) (allS (m_ 0) (allS (m_ 1) all0)) (by decide) (by decide) (k' := 0) (n' := 0) rfl rfl (by decide) (by decide) (by rw [hml]; rfl) (argsL := [(.ref q), (.ref r), (.int (1 : Int32))]) (rest := []) (lenOf pd_10 rfl) rfl rfl (Wt := 0) (Nat.le_of_eq rfl) (hb hby dc20_20) ?_
  intro v_ T339 h341 W340 hq_
  obtain ⟨rfl, K2, q3⟩ := hq_
  refine Go.by (fun _ q9 => XS.iconst W340.here W340.hx rfl (hb hby dc20_23) q9) ?_
  show Go _ _ _ _ _ _ _ _ _ (T339.setTop (mkF m 24 #[.val (.ref x), .val (.ref q)] [(.int (1 : Int32))]))
  exact W340.retN (z' := (1 : Int32)) (by decide) (by decide) hret (by simp) (hb hby dc20_24) rfl ⟨rfl, ((Keep.refl h0 [x, r]).wr Wr330 (Or.inl (m_ 0))).trans K2 (allS (Or.inl (m_ 0)) (allS (Or.inl (m_ 1)) all0)), q3⟩
theorem c_add3_2 (hw : HW Z a0) (hEL : EW Z a0 EL_) (h0 : Heap) (hE0 : Ext Z.heap h0) (x r : Addr) (kr : ClassId) (mc : Int32) (s0 s1 q : Addr) (E_x : Exa Z h0 x cAL) (FM : Fld Z h0 x "java/util/AbstractList" "modCount" "I" (.int mc)) (FD : Fld Z h0 x cAL "elementData" "[Ljava/lang/Object;" (.ref r)) (FS : Fld Z h0 x cAL "size" "I" (.int 2)) (z_x : Z.heap.size ≤ x) (E_r : Exa Z h0 r "[Ljava/lang/Object;") (z_r : Z.heap.size ≤ r) (A_r : Arv Z h0 r kr (.object "java/lang/Object") 10 [(.ref s0), (.ref s1)] .null) (O_r : Ovr Z kr "java/lang/Object") (E_q : Exa Z h0 q cSC) :
    Con l Z EL_ [x, r] N19 jdk_38_method_24_code 4 none [] (⟨0, 0, 0, 0⟩ : Room) #[(.ref x), (.ref q), (.ref r), (.int (2 : Int32))] h0 (fun v h' => v = none ∧ Keep h0 h' [x, r] ∧ Exa Z h' r "[Ljava/lang/Object;" ∧ Arv Z h' r kr (.object "java/lang/Object") 10 [(.ref s0), (.ref s1), (.ref q)] .null ∧ Exa Z h' x cAL ∧ Fld Z h' x "java/util/AbstractList" "modCount" "I" (.int mc) ∧ Fld Z h' x cAL "elementData" "[Ljava/lang/Object;" (.ref r) ∧ Fld Z h' x cAL "size" "I" (.int 3)) := by
  refine Con.mk (plainFor_of_name pn_12) hEL hE0 (allS E_x.lt (allS E_r.lt all0)) ?_
  intro p e s m below meth c T0 hby hml hret hnm W0
  rw [(show entryFrame m #[(.ref x), (.ref q), (.ref r), (.int (2 : Int32))] 4 = mkF m 0 #[.val (.ref x), .val (.ref q), .val (.ref r), .val (.int (2 : Int32))] [] from by first | (simp [entryFrame, mkF, argsToLocals, Value.category]; done) | rfl)]
  refine Go.by (fun _ q9 => XS.iloadN W0.here W0.hx rfl (hb hby dc19_0) rfl (XS.aloadN W0.here W0.hx rfl (hb hby dc19_1) rfl rfl q9)) ?_
  show Go _ _ _ _ _ _ _ _ _ (T0.setTop (mkF m 2 #[.val (.ref x), .val (.ref q), .val (.ref r), .val (.int (2 : Int32))] [(.ref r), (.int (2 : Int32))]))
  refine W0.alen A_r (hb hby dc19_2) ?_
  refine Go.by (fun _ q9 => XS.icmpYes W0.here W0.hx rfl (pc0 := 3) (pc' := 11) rfl (hb hby dc19_3) rfl (feq (by decide)).2 (by decide) (by decide) q9) ?_
  refine Go.by (fun _ q9 => XS.aloadN W0.here W0.hx rfl (hb hby dc19_11) rfl rfl (XS.iloadN W0.here W0.hx rfl (hb hby dc19_12) rfl (XS.aloadN W0.here W0.hx rfl (hb hby dc19_13) rfl rfl q9))) ?_
  have Anp := A_r.pad (pad_rep [(.ref s0), (.ref s1)] .null 1)
  obtain ⟨cl_r, ar1, ar2, -⟩ := id A_r
  show Go _ _ _ _ _ _ _ _ _ (T0.setTop (mkF m 14 #[.val (.ref x), .val (.ref q), .val (.ref r), .val (.int (2 : Int32))] [(.ref q), (.int (2 : Int32)), (.ref r)]))
  refine W0.aast Anp rfl ⟨by decide, by decide⟩ (i := 2) rfl (by simp) (Sto.ofV ar1 ar2 O_r (Ins.of_exa E_q (wd257 hw))) rfl z_r (m_ 1) (hb hby dc19_14) ?_
  intro T342 h343 W344 Wr345 V346_r
  have An : Arv Z h343 r kr (.object "java/lang/Object") 10 [(.ref s0), (.ref s1), (.ref q)] .null := V346_r
  refine Go.by (fun _ q9 => XS.aloadN W344.here W344.hx rfl (hb hby dc19_15) rfl rfl (XS.iloadN W344.here W344.hx rfl (hb hby dc19_16) rfl (XS.iconst W344.here W344.hx rfl (hb hby dc19_17) (XS.iadd W344.here W344.hx rfl (hb hby dc19_18) rfl q9)))) ?_
  show Go _ _ _ _ _ _ _ _ _ (T342.setTop (mkF m 19 #[.val (.ref x), .val (.ref q), .val (.ref r), .val (.int (2 : Int32))] [(.int (3 : Int32)), (.ref x)]))
  refine W344.putf (host := "") (Or.inl (wd160 hw)) Via.refl (FS.other Wr345 (Or.inl (Exa.ne E_x E_r (by decide)))) (E_x.wr Wr345) (Or.inl (wd161 hw)) (wd107 hw) (ty := .int) (by decide) rfl rfl z_x (m_ 0) (hb hby dc19_19) ?_
  intro T347 h348 W349 Wr350
  have F351 : Fld Z h348 x cAL "size" "I" (.int (3 : Int32)) := (FS.other Wr345 (Or.inl (Exa.ne E_x E_r (by decide)))).same Wr350
  have F352 : Fld Z h348 x "java/util/AbstractList" "modCount" "I" (.int mc) := (FM.other Wr345 (Or.inl (Exa.ne E_x E_r (by decide)))).other Wr350 (Or.inr (slot_ne (Or.inl (wd126 hw)) (Or.inl (wd161 hw)) (by decide) (t := .int) (t' := .int) (by decide) (by decide)))
  have F353 : Fld Z h348 x cAL "elementData" "[Ljava/lang/Object;" (.ref r) := (FD.other Wr345 (Or.inl (Exa.ne E_x E_r (by decide)))).other Wr350 (Or.inr (slot_ne (Or.inl (wd129 hw)) (Or.inl (wd161 hw)) (by decide) (t := (.array (.object "java/lang/Object"))) (t' := .int) (by decide) (by decide)))
  have A354 : Exa Z h348 x cAL := (E_x.wr Wr345).wr Wr350
  show Go _ _ _ _ _ _ _ _ _ (T347.setTop (mkF m 22 #[.val (.ref x), .val (.ref q), .val (.ref r), .val (.int (2 : Int32))] []))
  exact W349.retV (by decide) (by decide) hret (hb hby dc19_22) ⟨rfl, (((Keep.refl h0 [x, r]).wr Wr345 (Or.inl (m_ 1))).wr Wr350 (Or.inl (m_ 0))), ((E_r.wr Wr345).wr Wr350), (An.other Wr350 (Exa.ne (E_r.wr Wr345) (E_x.wr Wr345) (by decide))), A354, F352, F353, F351⟩
theorem c_add_2 (hw : HW Z a0) (hEL : EW Z a0 EL_) (h0 : Heap) (hE0 : Ext Z.heap h0) (x r : Addr) (kr : ClassId) (mc : Int32) (s0 s1 q : Addr) (E_x : Exa Z h0 x cAL) (FM : Fld Z h0 x "java/util/AbstractList" "modCount" "I" (.int mc)) (FD : Fld Z h0 x cAL "elementData" "[Ljava/lang/Object;" (.ref r)) (FS : Fld Z h0 x cAL "size" "I" (.int 2)) (z_x : Z.heap.size ≤ x) (E_r : Exa Z h0 r "[Ljava/lang/Object;") (z_r : Z.heap.size ≤ r) (A_r : Arv Z h0 r kr (.object "java/lang/Object") 10 [(.ref s0), (.ref s1)] .null) (O_r : Ovr Z kr "java/lang/Object") (E_q : Exa Z h0 q cSC) :
    Con l Z EL_ [x, r] N20 jdk_38_method_25_code 2 (some .boolean) [] (⟨1, 0, 0, 15⟩ : Room) #[(.ref x), (.ref q)] h0 (fun v h' => v = some (.int 1) ∧ Keep h0 h' [x, r] ∧ Exa Z h' r "[Ljava/lang/Object;" ∧ Arv Z h' r kr (.object "java/lang/Object") 10 [(.ref s0), (.ref s1), (.ref q)] .null ∧ Exa Z h' x cAL ∧ Fld Z h' x "java/util/AbstractList" "modCount" "I" (.int (mc + (1 : Int32))) ∧ Fld Z h' x cAL "elementData" "[Ljava/lang/Object;" (.ref r) ∧ Fld Z h' x cAL "size" "I" (.int 3)) := by
  refine Con.mk (plainFor_of_name pn_12) hEL hE0 (allS E_x.lt (allS E_r.lt all0)) ?_
  intro p e s m below meth c T0 hby hml hret hnm W0
  rw [(show entryFrame m #[(.ref x), (.ref q)] 2 = mkF m 0 #[.val (.ref x), .val (.ref q)] [] from by first | (simp [entryFrame, mkF, argsToLocals, Value.category]; done) | rfl)]
  refine Go.by (fun _ q9 => XS.aloadN W0.here W0.hx rfl (hb hby dc20_0) rfl rfl (XS.dup W0.here W0.hx rfl (hb hby dc20_1) rfl rfl q9)) ?_
  show Go _ _ _ _ _ _ _ _ _ (T0.setTop (mkF m 2 #[.val (.ref x), .val (.ref q)] [(.ref x), (.ref x)]))
  refine W0.getf (host := "") (Or.inl (wd234 hw)) (Via.of (wd235 hw)) FM (hb hby dc20_2) ?_
  intro T355 W356
  refine Go.by (fun _ q9 => XS.iconst W356.here W356.hx rfl (hb hby dc20_5) (XS.iadd W356.here W356.hx rfl (hb hby dc20_6) rfl q9)) ?_
  show Go _ _ _ _ _ _ _ _ _ (T355.setTop (mkF m 7 #[.val (.ref x), .val (.ref q)] [(.int (mc + (1 : Int32))), (.ref x)]))
  refine W356.putf (host := "") (Or.inl (wd234 hw)) (Via.of (wd235 hw)) FM E_x (Or.inl (wd126 hw)) (wd107 hw) (ty := .int) (by decide) rfl rfl z_x (m_ 0) (hb hby dc20_7) ?_
  intro T357 h358 W359 Wr360
  have F361 : Fld Z h358 x "java/util/AbstractList" "modCount" "I" (.int (mc + (1 : Int32))) := FM.same Wr360
  have F362 : Fld Z h358 x cAL "elementData" "[Ljava/lang/Object;" (.ref r) := FD.other Wr360 (Or.inr (slot_ne (Or.inl (wd129 hw)) (Or.inl (wd126 hw)) (by decide) (t := (.array (.object "java/lang/Object"))) (t' := .int) (by decide) (by decide)))
  have F363 : Fld Z h358 x cAL "size" "I" (.int 2) := FS.other Wr360 (Or.inr (slot_ne (Or.inl (wd161 hw)) (Or.inl (wd126 hw)) (by decide) (t := .int) (t' := .int) (by decide) (by decide)))
  have A364 : Exa Z h358 x cAL := E_x.wr Wr360
  refine Go.by (fun _ q9 => XS.aloadN W359.here W359.hx rfl (hb hby dc20_10) rfl rfl (XS.aloadN W359.here W359.hx rfl (hb hby dc20_11) rfl rfl (XS.aloadN W359.here W359.hx rfl (hb hby dc20_12) rfl rfl q9))) ?_
  show Go _ _ _ _ _ _ _ _ _ (T357.setTop (mkF m 13 #[.val (.ref x), .val (.ref q)] [(.ref x), (.ref q), (.ref x)]))
  refine W359.getf (host := "") (Or.inl (wd128 hw)) Via.refl F362 (hb hby dc20_13) ?_
  intro T365 W366
  refine Go.by (fun _ q9 => XS.aloadN W366.here W366.hx rfl (hb hby dc20_16) rfl rfl q9) ?_
  show Go _ _ _ _ _ _ _ _ _ (T365.setTop (mkF m 17 #[.val (.ref x), .val (.ref q)] [(.ref x), (.ref r), (.ref q), (.ref x)]))
  refine W366.getf (host := "") (Or.inl (wd160 hw)) Via.refl F363 (hb hby dc20_17) ?_
  intro T367 W368
  show Go _ _ _ _ _ _ _ _ _ (T367.setTop (mkF m 20 #[.val (.ref x), .val (.ref q)] [(.int (2 : Int32)), (.ref r), (.ref q), (.ref x)]))
  refine W368.callP (y := N19) (wd236 hw) (wd237 hw) (wd239 hw) (wd238 hw) (wd108 hw) (wd240 hw) (by decide) A364 (a := x) (c_add3_2 l Z a0 hw hEL h358 W368.old x r kr (mc + (1 : Int32)) s0 s1 q A364 F361 F362 F363 z_x (E_r.wr Wr360) z_r (A_r.other Wr360 (Exa.ne E_r E_x (by decide))) O_r (E_q.wr Wr360)) (allS (m_ 0) (allS (m_ 1) all0)) (by decide) (by decide) (k' := 0) (n' := 0) rfl rfl (by decide) (by decide) (by rw [hml]; rfl) (argsL := [(.ref q), (.ref r), (.int (2 : Int32))]) (rest := []) (lenOf pd_10 rfl) rfl rfl (Wt := 0) (Nat.le_of_eq rfl) (hb hby dc20_20) ?_
  intro v_ T369 h371 W370 hq_
  obtain ⟨rfl, K2, q3⟩ := hq_
  refine Go.by (fun _ q9 => XS.iconst W370.here W370.hx rfl (hb hby dc20_23) q9) ?_
  show Go _ _ _ _ _ _ _ _ _ (T369.setTop (mkF m 24 #[.val (.ref x), .val (.ref q)] [(.int (1 : Int32))]))
  exact W370.retN (z' := (1 : Int32)) (by decide) (by decide) hret (by simp) (hb hby dc20_24) rfl ⟨rfl, ((Keep.refl h0 [x, r]).wr Wr360 (Or.inl (m_ 0))).trans K2 (allS (Or.inl (m_ 0)) (allS (Or.inl (m_ 1)) all0)), q3⟩
theorem c_copy3_1 (hw : HW Z a0) (hEL : EW Z a0 EL_) (h0 : Heap) (hE0 : Ext Z.heap h0) (r mr : Addr) (kr : ClassId) (s0 : Addr) (MR : MirA Z "[Ljava/lang/Object;" mr) (E_r : Exa Z h0 r "[Ljava/lang/Object;") (A_r : Arv Z h0 r kr (.object "java/lang/Object") 10 [(.ref s0)] .null) (E_s0 : Exa Z h0 s0 cSC) :
    Con l Z EL_ [] N21 jdk_65_method_120_code 4 (some (.array (.object "java/lang/Object"))) [] (⟨1, 1, 1, 40⟩ : Room) #[(.ref r), (.int (1 : Int32)), (.ref mr)] h0 (fun v h' => ∃ ca kc, v = some (.ref ca) ∧ Ext h0 h' ∧ h0.size ≤ ca ∧ Exa Z h' ca "[Ljava/lang/Object;" ∧ Arv Z h' ca kc (.object "java/lang/Object") 1 [(.ref s0)] .null) := by
  refine Con.mk (plainFor_of_name pn_13) hEL hE0 (fun x hx => by cases hx) ?_
  intro p e s m below meth c T0 hby hml hret hnm W0
  rw [(show entryFrame m #[(.ref r), (.int (1 : Int32)), (.ref mr)] 4 = mkF m 0 #[.val (.ref r), .val (.int (1 : Int32)), .val (.ref mr), .unset] [] from by first | (simp [entryFrame, mkF, argsToLocals, Value.category]; done) | rfl)]
  refine Go.by (fun _ q9 => XS.aloadN W0.here W0.hx rfl (hb hby dc21_0) rfl rfl q9) ?_
  show Go _ _ _ _ _ _ _ _ _ (T0.setTop (mkF m 1 #[.val (.ref r), .val (.int (1 : Int32)), .val (.ref mr), .unset] [(.ref mr)]))
  refine W0.ldcM (wd279 hw) MR (hb hby dc21_1) ?_
  intro T372 W373
  refine Go.by (fun _ q9 => acmpW W373 (g := (mkF m 3 #[.val (.ref r), .val (.int (1 : Int32)), .val (.ref mr), .unset] [(.ref mr), (.ref mr)])) rfl rfl rfl (pc0 := 3) (pc' := 6) (same := true) rfl (hb hby dc21_3) rfl (decide_eq_true rfl) (by decide) (by decide) q9) ?_
  refine Go.by (fun _ q9 => XS.iloadN W373.here W373.hx rfl (hb hby dc21_6) rfl q9) ?_
  show Go _ _ _ _ _ _ _ _ _ (T372.setTop (mkF m 7 #[.val (.ref r), .val (.int (1 : Int32)), .val (.ref mr), .unset] [(.int (1 : Int32))]))
  refine W373.newr (wd280 hw) (wd256 hw) (hb hby dc21_7) (by decide) (cap := 1) (by decide) (by decide) (k' := 1) (n' := 1) rfl rfl (by decide) (by decide) (ad := "[Ljava/lang/Object;") rfl ?_
  intro T374 h375 ca k_ca W376 E377 g_ca z_ca A_ca V_ca O_ca
  refine Go.by (fun _ q9 => XS.goto W376.here W376.hx rfl (pc0 := 10) (pc' := 24) rfl (hb hby dc21_10) (by decide) (by decide) (XS.astoreN W376.here W376.hx rfl (hb hby dc21_24) rfl rfl (l' := #[.val (.ref r), .val (.int (1 : Int32)), .val (.ref mr), .val (.ref ca)]) rfl (XS.aloadN W376.here W376.hx rfl (hb hby dc21_25) rfl rfl (XS.iconst W376.here W376.hx rfl (hb hby dc21_26) (XS.aloadN W376.here W376.hx rfl (hb hby dc21_27) rfl rfl (XS.iconst W376.here W376.hx rfl (hb hby dc21_28) (XS.aloadN W376.here W376.hx rfl (hb hby dc21_29) rfl rfl q9))))))) ?_
  show Go _ _ _ _ _ _ _ _ _ (T374.setTop (mkF m 30 #[.val (.ref r), .val (.int (1 : Int32)), .val (.ref mr), .val (.ref ca)] [(.ref r), (.int (0 : Int32)), (.ref ca), (.int (0 : Int32)), (.ref r)]))
  refine W376.alen (A_r.ext E377) (hb hby dc21_30) ?_
  refine Go.by (fun _ q9 => XS.iloadN W376.here W376.hx rfl (hb hby dc21_31) rfl q9) ?_
  show Go _ _ _ _ _ _ _ _ _ (T374.setTop (mkF m 32 #[.val (.ref r), .val (.int (1 : Int32)), .val (.ref mr), .val (.ref ca)] [(.int (1 : Int32)), (.int (10 : Int32)), (.int (0 : Int32)), (.ref ca), (.int (0 : Int32)), (.ref r)]))
  refine W376.callSp (y := N16) (wd281 hw) (wd282 hw) (wd253 hw) (wd283 hw) (by decide) (c_min l Z a0 hw hEL h375 W376.old (1 : Int32) (by decide)) all0 (by decide) (by decide) (k' := 1) (n' := 1) rfl rfl (by decide) (by decide) (by rw [hml]; rfl) (argsL := [(.int (10 : Int32)), (.int (1 : Int32))]) (rest := [(.int (0 : Int32)), (.ref ca), (.int (0 : Int32)), (.ref r)]) (lenOf pd_7 rfl) rfl rfl (Wt := 4) (Nat.le_of_eq rfl) (hb hby dc21_32) ?_
  intro T378 W379
  have Vp := V_ca.pad (pad_rep [] .null 1)
  obtain ⟨cl_c, ar1, ar2, -⟩ := id Vp
  show Go _ _ _ _ _ _ _ _ _ (T378.setTop (mkF m 35 #[.val (.ref r), .val (.int (1 : Int32)), .val (.ref mr), .val (.ref ca)] [(.int (1 : Int32)), (.int (0 : Int32)), (.ref ca), (.int (0 : Int32)), (.ref r)]))
  refine W379.cpy (wd284 hw) (wd287 hw) (wd285 hw) (wd286 hw) (A_r.ext E377) Vp ⟨rfl, rfl⟩ (us := [(.ref s0)]) ⟨Sto.ofV ar1 ar2 O_ca (Ins.of_exa (E_s0.ext E377) (wd257 hw)), trivial⟩ (by decide) (by decide) (by decide) (by decide) (by decide) rfl (by decide) z_ca (m_ 0) (by rw [hml]; rfl) (hb hby dc21_35) (by decide) (Wt := 0) (Nat.le_of_eq rfl) (by decide) ?_
  intro T380 h381 W382 K383 V384_ca
  have An : Arv Z h381 ca k_ca (.object "java/lang/Object") 1 [(.ref s0)] .null := V384_ca
  refine Go.by (fun _ q9 => XS.aloadN W382.here W382.hx rfl (hb hby dc21_38) rfl rfl q9) ?_
  have X385 : Ext h0 h381 := (Ext.keep' E377 K383 (allS (Nat.le_of_eq g_ca) all0))
  show Go _ _ _ _ _ _ _ _ _ (T380.setTop (mkF m 39 #[.val (.ref r), .val (.int (1 : Int32)), .val (.ref mr), .val (.ref ca)] [(.ref ca)]))
  exact W382.retA (by decide) (by decide) hret rfl rfl (hb hby dc21_39) ⟨ca, k_ca, rfl, X385, Nat.le_of_eq g_ca, (A_ca.keep K383), An⟩
theorem c_copy2_1 (hw : HW Z a0) (hEL : EW Z a0 EL_) (h0 : Heap) (hE0 : Ext Z.heap h0) (r mr : Addr) (kr : ClassId) (s0 : Addr) (MR : MirA Z "[Ljava/lang/Object;" mr) (E_r : Exa Z h0 r "[Ljava/lang/Object;") (A_r : Arv Z h0 r kr (.object "java/lang/Object") 10 [(.ref s0)] .null) (E_s0 : Exa Z h0 s0 cSC) :
    Con l Z EL_ [] N22 jdk_65_method_119_code 2 (some (.array (.object "java/lang/Object"))) [] (⟨2, 1, 1, 60⟩ : Room) #[(.ref r), (.int (1 : Int32))] h0 (fun v h' => ∃ ca kc, v = some (.ref ca) ∧ Ext h0 h' ∧ h0.size ≤ ca ∧ Exa Z h' ca "[Ljava/lang/Object;" ∧ Arv Z h' ca kc (.object "java/lang/Object") 1 [(.ref s0)] .null) := by
  refine Con.mk (plainFor_of_name pn_13) hEL hE0 (fun x hx => by cases hx) ?_
  intro p e s m below meth c T0 hby hml hret hnm W0
  rw [(show entryFrame m #[(.ref r), (.int (1 : Int32))] 2 = mkF m 0 #[.val (.ref r), .val (.int (1 : Int32))] [] from by first | (simp [entryFrame, mkF, argsToLocals, Value.category]; done) | rfl)]
  refine Go.by (fun _ q9 => XS.aloadN W0.here W0.hx rfl (hb hby dc22_0) rfl rfl (XS.iloadN W0.here W0.hx rfl (hb hby dc22_1) rfl (XS.aloadN W0.here W0.hx rfl (hb hby dc22_2) rfl rfl q9))) ?_
  show Go _ _ _ _ _ _ _ _ _ (T0.setTop (mkF m 3 #[.val (.ref r), .val (.int (1 : Int32))] [(.ref r), (.int (1 : Int32)), (.ref r)]))
  refine W0.gcl (wd270 hw) (wd271 hw) (wd149 hw) (wd273 hw) (wd272 hw) (wd274 hw) E_r MR (by rw [hml]; rfl) (hb hby dc22_3) (by decide) (Wt := 2) (Nat.le_of_eq rfl) (by decide) ?_
  intro T386 W387
  show Go _ _ _ _ _ _ _ _ _ (T386.setTop (mkF m 6 #[.val (.ref r), .val (.int (1 : Int32))] [(.ref mr), (.int (1 : Int32)), (.ref r)]))
  refine W387.callS (y := N21) (wd276 hw) (wd277 hw) (wd268 hw) (wd278 hw) (by decide) (c_copy3_1 l Z a0 hw hEL h0 hE0 r mr kr s0 MR E_r A_r E_s0) all0 (by decide) (by decide) (k' := 1) (n' := 1) rfl rfl (by decide) (by decide) (by rw [hml]; rfl) (argsL := [(.ref r), (.int (1 : Int32)), (.ref mr)]) (rest := []) (lenOf pd_11 rfl) rfl rfl (Wt := 0) (Nat.le_of_eq rfl) (hb hby dc22_6) ?_
  intro v_ T388 h390 W389 hq_
  obtain ⟨ca, kc, rfl, X1, g1, E1, A1⟩ := hq_
  show Go _ _ _ _ _ _ _ _ _ (T388.setTop (mkF m 9 #[.val (.ref r), .val (.int (1 : Int32))] [(.ref ca)]))
  exact W389.retA (by decide) (by decide) hret rfl rfl (hb hby dc22_9) ⟨ca, kc, rfl, X1, g1, E1, A1⟩
theorem c_toarr_1 (hw : HW Z a0) (hEL : EW Z a0 EL_) (h0 : Heap) (hE0 : Ext Z.heap h0) (al : Addr) (r mr : Addr) (kr : ClassId) (s0 : Addr) (FD : Fld Z h0 al cAL "elementData" "[Ljava/lang/Object;" (.ref r)) (FS : Fld Z h0 al cAL "size" "I" (.int 1)) (MR : MirA Z "[Ljava/lang/Object;" mr) (E_r : Exa Z h0 r "[Ljava/lang/Object;") (A_r : Arv Z h0 r kr (.object "java/lang/Object") 10 [(.ref s0)] .null) (E_s0 : Exa Z h0 s0 cSC) :
    Con l Z EL_ [] N23 jdk_38_method_16_code 1 (some (.array (.object "java/lang/Object"))) [] (⟨3, 1, 1, 75⟩ : Room) #[(.ref al)] h0 (fun v h' => ∃ ca kc, v = some (.ref ca) ∧ Ext h0 h' ∧ h0.size ≤ ca ∧ Exa Z h' ca "[Ljava/lang/Object;" ∧ Arv Z h' ca kc (.object "java/lang/Object") 1 [(.ref s0)] .null) := by
  refine Con.mk (plainFor_of_name pn_12) hEL hE0 (fun x hx => by cases hx) ?_
  intro p e s m below meth c T0 hby hml hret hnm W0
  rw [(show entryFrame m #[(.ref al)] 1 = mkF m 0 #[.val (.ref al)] [] from by first | (simp [entryFrame, mkF, argsToLocals, Value.category]; done) | rfl)]
  refine Go.by (fun _ q9 => XS.aloadN W0.here W0.hx rfl (hb hby dc23_0) rfl rfl q9) ?_
  show Go _ _ _ _ _ _ _ _ _ (T0.setTop (mkF m 1 #[.val (.ref al)] [(.ref al)]))
  refine W0.getf (host := "") (Or.inl (wd128 hw)) Via.refl FD (hb hby dc23_1) ?_
  intro T391 W392
  refine Go.by (fun _ q9 => XS.aloadN W392.here W392.hx rfl (hb hby dc23_4) rfl rfl q9) ?_
  show Go _ _ _ _ _ _ _ _ _ (T391.setTop (mkF m 5 #[.val (.ref al)] [(.ref al), (.ref r)]))
  refine W392.getf (host := "") (Or.inl (wd160 hw)) Via.refl FS (hb hby dc23_5) ?_
  intro T393 W394
  show Go _ _ _ _ _ _ _ _ _ (T393.setTop (mkF m 8 #[.val (.ref al)] [(.int (1 : Int32)), (.ref r)]))
  refine W394.callS (y := N22) (wd266 hw) (wd267 hw) (wd268 hw) (wd269 hw) (by decide) (c_copy2_1 l Z a0 hw hEL h0 hE0 r mr kr s0 MR E_r A_r E_s0) all0 (by decide) (by decide) (k' := 1) (n' := 1) rfl rfl (by decide) (by decide) (by rw [hml]; rfl) (argsL := [(.ref r), (.int (1 : Int32))]) (rest := []) (lenOf pd_12 rfl) rfl rfl (Wt := 0) (Nat.le_of_eq rfl) (hb hby dc23_8) ?_
  intro v_ T395 h397 W396 hq_
  obtain ⟨ca, kc, rfl, X1, g1, E1, A1⟩ := hq_
  show Go _ _ _ _ _ _ _ _ _ (T395.setTop (mkF m 11 #[.val (.ref al)] [(.ref ca)]))
  exact W396.retA (by decide) (by decide) hret rfl rfl (hb hby dc23_11) ⟨ca, kc, rfl, X1, g1, E1, A1⟩
theorem c_copy3_2 (hw : HW Z a0) (hEL : EW Z a0 EL_) (h0 : Heap) (hE0 : Ext Z.heap h0) (r mr : Addr) (kr : ClassId) (s0 s1 : Addr) (MR : MirA Z "[Ljava/lang/Object;" mr) (E_r : Exa Z h0 r "[Ljava/lang/Object;") (A_r : Arv Z h0 r kr (.object "java/lang/Object") 10 [(.ref s0), (.ref s1)] .null) (E_s0 : Exa Z h0 s0 cSC) (E_s1 : Exa Z h0 s1 cSC) :
    Con l Z EL_ [] N21 jdk_65_method_120_code 4 (some (.array (.object "java/lang/Object"))) [] (⟨1, 1, 2, 40⟩ : Room) #[(.ref r), (.int (2 : Int32)), (.ref mr)] h0 (fun v h' => ∃ ca kc, v = some (.ref ca) ∧ Ext h0 h' ∧ h0.size ≤ ca ∧ Exa Z h' ca "[Ljava/lang/Object;" ∧ Arv Z h' ca kc (.object "java/lang/Object") 2 [(.ref s0), (.ref s1)] .null) := by
  refine Con.mk (plainFor_of_name pn_13) hEL hE0 (fun x hx => by cases hx) ?_
  intro p e s m below meth c T0 hby hml hret hnm W0
  rw [(show entryFrame m #[(.ref r), (.int (2 : Int32)), (.ref mr)] 4 = mkF m 0 #[.val (.ref r), .val (.int (2 : Int32)), .val (.ref mr), .unset] [] from by first | (simp [entryFrame, mkF, argsToLocals, Value.category]; done) | rfl)]
  refine Go.by (fun _ q9 => XS.aloadN W0.here W0.hx rfl (hb hby dc21_0) rfl rfl q9) ?_
  show Go _ _ _ _ _ _ _ _ _ (T0.setTop (mkF m 1 #[.val (.ref r), .val (.int (2 : Int32)), .val (.ref mr), .unset] [(.ref mr)]))
  refine W0.ldcM (wd279 hw) MR (hb hby dc21_1) ?_
  intro T398 W399
  refine Go.by (fun _ q9 => acmpW W399 (g := (mkF m 3 #[.val (.ref r), .val (.int (2 : Int32)), .val (.ref mr), .unset] [(.ref mr), (.ref mr)])) rfl rfl rfl (pc0 := 3) (pc' := 6) (same := true) rfl (hb hby dc21_3) rfl (decide_eq_true rfl) (by decide) (by decide) q9) ?_
  refine Go.by (fun _ q9 => XS.iloadN W399.here W399.hx rfl (hb hby dc21_6) rfl q9) ?_
  show Go _ _ _ _ _ _ _ _ _ (T398.setTop (mkF m 7 #[.val (.ref r), .val (.int (2 : Int32)), .val (.ref mr), .unset] [(.int (2 : Int32))]))
  refine W399.newr (wd280 hw) (wd256 hw) (hb hby dc21_7) (by decide) (cap := 2) (by decide) (by decide) (k' := 1) (n' := 2) rfl rfl (by decide) (by decide) (ad := "[Ljava/lang/Object;") rfl ?_
  intro T400 h401 ca k_ca W402 E403 g_ca z_ca A_ca V_ca O_ca
  refine Go.by (fun _ q9 => XS.goto W402.here W402.hx rfl (pc0 := 10) (pc' := 24) rfl (hb hby dc21_10) (by decide) (by decide) (XS.astoreN W402.here W402.hx rfl (hb hby dc21_24) rfl rfl (l' := #[.val (.ref r), .val (.int (2 : Int32)), .val (.ref mr), .val (.ref ca)]) rfl (XS.aloadN W402.here W402.hx rfl (hb hby dc21_25) rfl rfl (XS.iconst W402.here W402.hx rfl (hb hby dc21_26) (XS.aloadN W402.here W402.hx rfl (hb hby dc21_27) rfl rfl (XS.iconst W402.here W402.hx rfl (hb hby dc21_28) (XS.aloadN W402.here W402.hx rfl (hb hby dc21_29) rfl rfl q9))))))) ?_
  show Go _ _ _ _ _ _ _ _ _ (T400.setTop (mkF m 30 #[.val (.ref r), .val (.int (2 : Int32)), .val (.ref mr), .val (.ref ca)] [(.ref r), (.int (0 : Int32)), (.ref ca), (.int (0 : Int32)), (.ref r)]))
  refine W402.alen (A_r.ext E403) (hb hby dc21_30) ?_
  refine Go.by (fun _ q9 => XS.iloadN W402.here W402.hx rfl (hb hby dc21_31) rfl q9) ?_
  show Go _ _ _ _ _ _ _ _ _ (T400.setTop (mkF m 32 #[.val (.ref r), .val (.int (2 : Int32)), .val (.ref mr), .val (.ref ca)] [(.int (2 : Int32)), (.int (10 : Int32)), (.int (0 : Int32)), (.ref ca), (.int (0 : Int32)), (.ref r)]))
  refine W402.callSp (y := N16) (wd281 hw) (wd282 hw) (wd253 hw) (wd283 hw) (by decide) (c_min l Z a0 hw hEL h401 W402.old (2 : Int32) (by decide)) all0 (by decide) (by decide) (k' := 1) (n' := 2) rfl rfl (by decide) (by decide) (by rw [hml]; rfl) (argsL := [(.int (10 : Int32)), (.int (2 : Int32))]) (rest := [(.int (0 : Int32)), (.ref ca), (.int (0 : Int32)), (.ref r)]) (lenOf pd_7 rfl) rfl rfl (Wt := 4) (Nat.le_of_eq rfl) (hb hby dc21_32) ?_
  intro T404 W405
  have Vp := V_ca.pad (pad_rep [] .null 2)
  obtain ⟨cl_c, ar1, ar2, -⟩ := id Vp
  show Go _ _ _ _ _ _ _ _ _ (T404.setTop (mkF m 35 #[.val (.ref r), .val (.int (2 : Int32)), .val (.ref mr), .val (.ref ca)] [(.int (2 : Int32)), (.int (0 : Int32)), (.ref ca), (.int (0 : Int32)), (.ref r)]))
  refine W405.cpy (wd284 hw) (wd287 hw) (wd285 hw) (wd286 hw) (A_r.ext E403) Vp ⟨rfl, rfl⟩ (us := [(.ref s0), (.ref s1)]) ⟨Sto.ofV ar1 ar2 O_ca (Ins.of_exa (E_s0.ext E403) (wd257 hw)), ⟨Sto.ofV ar1 ar2 O_ca (Ins.of_exa (E_s1.ext E403) (wd257 hw)), trivial⟩⟩ (by decide) (by decide) (by decide) (by decide) (by decide) rfl (by decide) z_ca (m_ 0) (by rw [hml]; rfl) (hb hby dc21_35) (by decide) (Wt := 0) (Nat.le_of_eq rfl) (by decide) ?_
  intro T406 h407 W408 K409 V410_ca
  have An : Arv Z h407 ca k_ca (.object "java/lang/Object") 2 [(.ref s0), (.ref s1)] .null := V410_ca
  refine Go.by (fun _ q9 => XS.aloadN W408.here W408.hx rfl (hb hby dc21_38) rfl rfl q9) ?_
  have X411 : Ext h0 h407 := (Ext.keep' E403 K409 (allS (Nat.le_of_eq g_ca) all0))
  show Go _ _ _ _ _ _ _ _ _ (T406.setTop (mkF m 39 #[.val (.ref r), .val (.int (2 : Int32)), .val (.ref mr), .val (.ref ca)] [(.ref ca)]))
  exact W408.retA (by decide) (by decide) hret rfl rfl (hb hby dc21_39) ⟨ca, k_ca, rfl, X411, Nat.le_of_eq g_ca, (A_ca.keep K409), An⟩
theorem c_copy2_2 (hw : HW Z a0) (hEL : EW Z a0 EL_) (h0 : Heap) (hE0 : Ext Z.heap h0) (r mr : Addr) (kr : ClassId) (s0 s1 : Addr) (MR : MirA Z "[Ljava/lang/Object;" mr) (E_r : Exa Z h0 r "[Ljava/lang/Object;") (A_r : Arv Z h0 r kr (.object "java/lang/Object") 10 [(.ref s0), (.ref s1)] .null) (E_s0 : Exa Z h0 s0 cSC) (E_s1 : Exa Z h0 s1 cSC) :
    Con l Z EL_ [] N22 jdk_65_method_119_code 2 (some (.array (.object "java/lang/Object"))) [] (⟨2, 1, 2, 60⟩ : Room) #[(.ref r), (.int (2 : Int32))] h0 (fun v h' => ∃ ca kc, v = some (.ref ca) ∧ Ext h0 h' ∧ h0.size ≤ ca ∧ Exa Z h' ca "[Ljava/lang/Object;" ∧ Arv Z h' ca kc (.object "java/lang/Object") 2 [(.ref s0), (.ref s1)] .null) := by
  refine Con.mk (plainFor_of_name pn_13) hEL hE0 (fun x hx => by cases hx) ?_
  intro p e s m below meth c T0 hby hml hret hnm W0
  rw [(show entryFrame m #[(.ref r), (.int (2 : Int32))] 2 = mkF m 0 #[.val (.ref r), .val (.int (2 : Int32))] [] from by first | (simp [entryFrame, mkF, argsToLocals, Value.category]; done) | rfl)]
  refine Go.by (fun _ q9 => XS.aloadN W0.here W0.hx rfl (hb hby dc22_0) rfl rfl (XS.iloadN W0.here W0.hx rfl (hb hby dc22_1) rfl (XS.aloadN W0.here W0.hx rfl (hb hby dc22_2) rfl rfl q9))) ?_
  show Go _ _ _ _ _ _ _ _ _ (T0.setTop (mkF m 3 #[.val (.ref r), .val (.int (2 : Int32))] [(.ref r), (.int (2 : Int32)), (.ref r)]))
  refine W0.gcl (wd270 hw) (wd271 hw) (wd149 hw) (wd273 hw) (wd272 hw) (wd274 hw) E_r MR (by rw [hml]; rfl) (hb hby dc22_3) (by decide) (Wt := 2) (Nat.le_of_eq rfl) (by decide) ?_
  intro T412 W413
  show Go _ _ _ _ _ _ _ _ _ (T412.setTop (mkF m 6 #[.val (.ref r), .val (.int (2 : Int32))] [(.ref mr), (.int (2 : Int32)), (.ref r)]))
  refine W413.callS (y := N21) (wd276 hw) (wd277 hw) (wd268 hw) (wd278 hw) (by decide) (c_copy3_2 l Z a0 hw hEL h0 hE0 r mr kr s0 s1 MR E_r A_r E_s0 E_s1) all0 (by decide) (by decide) (k' := 1) (n' := 2) rfl rfl (by decide) (by decide) (by rw [hml]; rfl) (argsL := [(.ref r), (.int (2 : Int32)), (.ref mr)]) (rest := []) (lenOf pd_11 rfl) rfl rfl (Wt := 0) (Nat.le_of_eq rfl) (hb hby dc22_6) ?_
  intro v_ T414 h416 W415 hq_
  obtain ⟨ca, kc, rfl, X1, g1, E1, A1⟩ := hq_
  show Go _ _ _ _ _ _ _ _ _ (T414.setTop (mkF m 9 #[.val (.ref r), .val (.int (2 : Int32))] [(.ref ca)]))
  exact W415.retA (by decide) (by decide) hret rfl rfl (hb hby dc22_9) ⟨ca, kc, rfl, X1, g1, E1, A1⟩
theorem c_toarr_2 (hw : HW Z a0) (hEL : EW Z a0 EL_) (h0 : Heap) (hE0 : Ext Z.heap h0) (al : Addr) (r mr : Addr) (kr : ClassId) (s0 s1 : Addr) (FD : Fld Z h0 al cAL "elementData" "[Ljava/lang/Object;" (.ref r)) (FS : Fld Z h0 al cAL "size" "I" (.int 2)) (MR : MirA Z "[Ljava/lang/Object;" mr) (E_r : Exa Z h0 r "[Ljava/lang/Object;") (A_r : Arv Z h0 r kr (.object "java/lang/Object") 10 [(.ref s0), (.ref s1)] .null) (E_s0 : Exa Z h0 s0 cSC) (E_s1 : Exa Z h0 s1 cSC) :
    Con l Z EL_ [] N23 jdk_38_method_16_code 1 (some (.array (.object "java/lang/Object"))) [] (⟨3, 1, 2, 75⟩ : Room) #[(.ref al)] h0 (fun v h' => ∃ ca kc, v = some (.ref ca) ∧ Ext h0 h' ∧ h0.size ≤ ca ∧ Exa Z h' ca "[Ljava/lang/Object;" ∧ Arv Z h' ca kc (.object "java/lang/Object") 2 [(.ref s0), (.ref s1)] .null) := by
  refine Con.mk (plainFor_of_name pn_12) hEL hE0 (fun x hx => by cases hx) ?_
  intro p e s m below meth c T0 hby hml hret hnm W0
  rw [(show entryFrame m #[(.ref al)] 1 = mkF m 0 #[.val (.ref al)] [] from by first | (simp [entryFrame, mkF, argsToLocals, Value.category]; done) | rfl)]
  refine Go.by (fun _ q9 => XS.aloadN W0.here W0.hx rfl (hb hby dc23_0) rfl rfl q9) ?_
  show Go _ _ _ _ _ _ _ _ _ (T0.setTop (mkF m 1 #[.val (.ref al)] [(.ref al)]))
  refine W0.getf (host := "") (Or.inl (wd128 hw)) Via.refl FD (hb hby dc23_1) ?_
  intro T417 W418
  refine Go.by (fun _ q9 => XS.aloadN W418.here W418.hx rfl (hb hby dc23_4) rfl rfl q9) ?_
  show Go _ _ _ _ _ _ _ _ _ (T417.setTop (mkF m 5 #[.val (.ref al)] [(.ref al), (.ref r)]))
  refine W418.getf (host := "") (Or.inl (wd160 hw)) Via.refl FS (hb hby dc23_5) ?_
  intro T419 W420
  show Go _ _ _ _ _ _ _ _ _ (T419.setTop (mkF m 8 #[.val (.ref al)] [(.int (2 : Int32)), (.ref r)]))
  refine W420.callS (y := N22) (wd266 hw) (wd267 hw) (wd268 hw) (wd269 hw) (by decide) (c_copy2_2 l Z a0 hw hEL h0 hE0 r mr kr s0 s1 MR E_r A_r E_s0 E_s1) all0 (by decide) (by decide) (k' := 1) (n' := 2) rfl rfl (by decide) (by decide) (by rw [hml]; rfl) (argsL := [(.ref r), (.int (2 : Int32))]) (rest := []) (lenOf pd_12 rfl) rfl rfl (Wt := 0) (Nat.le_of_eq rfl) (hb hby dc23_8) ?_
  intro v_ T421 h423 W422 hq_
  obtain ⟨ca, kc, rfl, X1, g1, E1, A1⟩ := hq_
  show Go _ _ _ _ _ _ _ _ _ (T421.setTop (mkF m 11 #[.val (.ref al)] [(.ref ca)]))
  exact W422.retA (by decide) (by decide) hret rfl rfl (hb hby dc23_11) ⟨ca, kc, rfl, X1, g1, E1, A1⟩
theorem c_copy3_3 (hw : HW Z a0) (hEL : EW Z a0 EL_) (h0 : Heap) (hE0 : Ext Z.heap h0) (r mr : Addr) (kr : ClassId) (s0 s1 s2 : Addr) (MR : MirA Z "[Ljava/lang/Object;" mr) (E_r : Exa Z h0 r "[Ljava/lang/Object;") (A_r : Arv Z h0 r kr (.object "java/lang/Object") 10 [(.ref s0), (.ref s1), (.ref s2)] .null) (E_s0 : Exa Z h0 s0 cSC) (E_s1 : Exa Z h0 s1 cSC) (E_s2 : Exa Z h0 s2 cSC) :
    Con l Z EL_ [] N21 jdk_65_method_120_code 4 (some (.array (.object "java/lang/Object"))) [] (⟨1, 1, 3, 40⟩ : Room) #[(.ref r), (.int (3 : Int32)), (.ref mr)] h0 (fun v h' => ∃ ca kc, v = some (.ref ca) ∧ Ext h0 h' ∧ h0.size ≤ ca ∧ Exa Z h' ca "[Ljava/lang/Object;" ∧ Arv Z h' ca kc (.object "java/lang/Object") 3 [(.ref s0), (.ref s1), (.ref s2)] .null) := by
  refine Con.mk (plainFor_of_name pn_13) hEL hE0 (fun x hx => by cases hx) ?_
  intro p e s m below meth c T0 hby hml hret hnm W0
  rw [(show entryFrame m #[(.ref r), (.int (3 : Int32)), (.ref mr)] 4 = mkF m 0 #[.val (.ref r), .val (.int (3 : Int32)), .val (.ref mr), .unset] [] from by first | (simp [entryFrame, mkF, argsToLocals, Value.category]; done) | rfl)]
  refine Go.by (fun _ q9 => XS.aloadN W0.here W0.hx rfl (hb hby dc21_0) rfl rfl q9) ?_
  show Go _ _ _ _ _ _ _ _ _ (T0.setTop (mkF m 1 #[.val (.ref r), .val (.int (3 : Int32)), .val (.ref mr), .unset] [(.ref mr)]))
  refine W0.ldcM (wd279 hw) MR (hb hby dc21_1) ?_
  intro T424 W425
  refine Go.by (fun _ q9 => acmpW W425 (g := (mkF m 3 #[.val (.ref r), .val (.int (3 : Int32)), .val (.ref mr), .unset] [(.ref mr), (.ref mr)])) rfl rfl rfl (pc0 := 3) (pc' := 6) (same := true) rfl (hb hby dc21_3) rfl (decide_eq_true rfl) (by decide) (by decide) q9) ?_
  refine Go.by (fun _ q9 => XS.iloadN W425.here W425.hx rfl (hb hby dc21_6) rfl q9) ?_
  show Go _ _ _ _ _ _ _ _ _ (T424.setTop (mkF m 7 #[.val (.ref r), .val (.int (3 : Int32)), .val (.ref mr), .unset] [(.int (3 : Int32))]))
  refine W425.newr (wd280 hw) (wd256 hw) (hb hby dc21_7) (by decide) (cap := 3) (by decide) (by decide) (k' := 1) (n' := 3) rfl rfl (by decide) (by decide) (ad := "[Ljava/lang/Object;") rfl ?_
  intro T426 h427 ca k_ca W428 E429 g_ca z_ca A_ca V_ca O_ca
  refine Go.by (fun _ q9 => XS.goto W428.here W428.hx rfl (pc0 := 10) (pc' := 24) rfl (hb hby dc21_10) (by decide) (by decide) (XS.astoreN W428.here W428.hx rfl (hb hby dc21_24) rfl rfl (l' := #[.val (.ref r), .val (.int (3 : Int32)), .val (.ref mr), .val (.ref ca)]) rfl (XS.aloadN W428.here W428.hx rfl (hb hby dc21_25) rfl rfl (XS.iconst W428.here W428.hx rfl (hb hby dc21_26) (XS.aloadN W428.here W428.hx rfl (hb hby dc21_27) rfl rfl (XS.iconst W428.here W428.hx rfl (hb hby dc21_28) (XS.aloadN W428.here W428.hx rfl (hb hby dc21_29) rfl rfl q9))))))) ?_
  show Go _ _ _ _ _ _ _ _ _ (T426.setTop (mkF m 30 #[.val (.ref r), .val (.int (3 : Int32)), .val (.ref mr), .val (.ref ca)] [(.ref r), (.int (0 : Int32)), (.ref ca), (.int (0 : Int32)), (.ref r)]))
  refine W428.alen (A_r.ext E429) (hb hby dc21_30) ?_
  refine Go.by (fun _ q9 => XS.iloadN W428.here W428.hx rfl (hb hby dc21_31) rfl q9) ?_
  show Go _ _ _ _ _ _ _ _ _ (T426.setTop (mkF m 32 #[.val (.ref r), .val (.int (3 : Int32)), .val (.ref mr), .val (.ref ca)] [(.int (3 : Int32)), (.int (10 : Int32)), (.int (0 : Int32)), (.ref ca), (.int (0 : Int32)), (.ref r)]))
  refine W428.callSp (y := N16) (wd281 hw) (wd282 hw) (wd253 hw) (wd283 hw) (by decide) (c_min l Z a0 hw hEL h427 W428.old (3 : Int32) (by decide)) all0 (by decide) (by decide) (k' := 1) (n' := 3) rfl rfl (by decide) (by decide) (by rw [hml]; rfl) (argsL := [(.int (10 : Int32)), (.int (3 : Int32))]) (rest := [(.int (0 : Int32)), (.ref ca), (.int (0 : Int32)), (.ref r)]) (lenOf pd_7 rfl) rfl rfl (Wt := 4) (Nat.le_of_eq rfl) (hb hby dc21_32) ?_
  intro T430 W431
  have Vp := V_ca.pad (pad_rep [] .null 3)
  obtain ⟨cl_c, ar1, ar2, -⟩ := id Vp
  show Go _ _ _ _ _ _ _ _ _ (T430.setTop (mkF m 35 #[.val (.ref r), .val (.int (3 : Int32)), .val (.ref mr), .val (.ref ca)] [(.int (3 : Int32)), (.int (0 : Int32)), (.ref ca), (.int (0 : Int32)), (.ref r)]))
  refine W431.cpy (wd284 hw) (wd287 hw) (wd285 hw) (wd286 hw) (A_r.ext E429) Vp ⟨rfl, rfl⟩ (us := [(.ref s0), (.ref s1), (.ref s2)]) ⟨Sto.ofV ar1 ar2 O_ca (Ins.of_exa (E_s0.ext E429) (wd257 hw)), ⟨Sto.ofV ar1 ar2 O_ca (Ins.of_exa (E_s1.ext E429) (wd257 hw)), ⟨Sto.ofV ar1 ar2 O_ca (Ins.of_exa (E_s2.ext E429) (wd257 hw)), trivial⟩⟩⟩ (by decide) (by decide) (by decide) (by decide) (by decide) rfl (by decide) z_ca (m_ 0) (by rw [hml]; rfl) (hb hby dc21_35) (by decide) (Wt := 0) (Nat.le_of_eq rfl) (by decide) ?_
  intro T432 h433 W434 K435 V436_ca
  have An : Arv Z h433 ca k_ca (.object "java/lang/Object") 3 [(.ref s0), (.ref s1), (.ref s2)] .null := V436_ca
  refine Go.by (fun _ q9 => XS.aloadN W434.here W434.hx rfl (hb hby dc21_38) rfl rfl q9) ?_
  have X437 : Ext h0 h433 := (Ext.keep' E429 K435 (allS (Nat.le_of_eq g_ca) all0))
  show Go _ _ _ _ _ _ _ _ _ (T432.setTop (mkF m 39 #[.val (.ref r), .val (.int (3 : Int32)), .val (.ref mr), .val (.ref ca)] [(.ref ca)]))
  exact W434.retA (by decide) (by decide) hret rfl rfl (hb hby dc21_39) ⟨ca, k_ca, rfl, X437, Nat.le_of_eq g_ca, (A_ca.keep K435), An⟩
theorem c_copy2_3 (hw : HW Z a0) (hEL : EW Z a0 EL_) (h0 : Heap) (hE0 : Ext Z.heap h0) (r mr : Addr) (kr : ClassId) (s0 s1 s2 : Addr) (MR : MirA Z "[Ljava/lang/Object;" mr) (E_r : Exa Z h0 r "[Ljava/lang/Object;") (A_r : Arv Z h0 r kr (.object "java/lang/Object") 10 [(.ref s0), (.ref s1), (.ref s2)] .null) (E_s0 : Exa Z h0 s0 cSC) (E_s1 : Exa Z h0 s1 cSC) (E_s2 : Exa Z h0 s2 cSC) :
    Con l Z EL_ [] N22 jdk_65_method_119_code 2 (some (.array (.object "java/lang/Object"))) [] (⟨2, 1, 3, 60⟩ : Room) #[(.ref r), (.int (3 : Int32))] h0 (fun v h' => ∃ ca kc, v = some (.ref ca) ∧ Ext h0 h' ∧ h0.size ≤ ca ∧ Exa Z h' ca "[Ljava/lang/Object;" ∧ Arv Z h' ca kc (.object "java/lang/Object") 3 [(.ref s0), (.ref s1), (.ref s2)] .null) := by
  refine Con.mk (plainFor_of_name pn_13) hEL hE0 (fun x hx => by cases hx) ?_
  intro p e s m below meth c T0 hby hml hret hnm W0
  rw [(show entryFrame m #[(.ref r), (.int (3 : Int32))] 2 = mkF m 0 #[.val (.ref r), .val (.int (3 : Int32))] [] from by first | (simp [entryFrame, mkF, argsToLocals, Value.category]; done) | rfl)]
  refine Go.by (fun _ q9 => XS.aloadN W0.here W0.hx rfl (hb hby dc22_0) rfl rfl (XS.iloadN W0.here W0.hx rfl (hb hby dc22_1) rfl (XS.aloadN W0.here W0.hx rfl (hb hby dc22_2) rfl rfl q9))) ?_
  show Go _ _ _ _ _ _ _ _ _ (T0.setTop (mkF m 3 #[.val (.ref r), .val (.int (3 : Int32))] [(.ref r), (.int (3 : Int32)), (.ref r)]))
  refine W0.gcl (wd270 hw) (wd271 hw) (wd149 hw) (wd273 hw) (wd272 hw) (wd274 hw) E_r MR (by rw [hml]; rfl) (hb hby dc22_3) (by decide) (Wt := 2) (Nat.le_of_eq rfl) (by decide) ?_
  intro T438 W439
  show Go _ _ _ _ _ _ _ _ _ (T438.setTop (mkF m 6 #[.val (.ref r), .val (.int (3 : Int32))] [(.ref mr), (.int (3 : Int32)), (.ref r)]))
  refine W439.callS (y := N21) (wd276 hw) (wd277 hw) (wd268 hw) (wd278 hw) (by decide) (c_copy3_3 l Z a0 hw hEL h0 hE0 r mr kr s0 s1 s2 MR E_r A_r E_s0 E_s1 E_s2) all0 (by decide) (by decide) (k' := 1) (n' := 3) rfl rfl (by decide) (by decide) (by rw [hml]; rfl) (argsL := [(.ref r), (.int (3 : Int32)), (.ref mr)]) (rest := []) (lenOf pd_11 rfl) rfl rfl (Wt := 0) (Nat.le_of_eq rfl) (hb hby dc22_6) ?_
  intro v_ T440 h442 W441 hq_
  obtain ⟨ca, kc, rfl, X1, g1, E1, A1⟩ := hq_
  show Go _ _ _ _ _ _ _ _ _ (T440.setTop (mkF m 9 #[.val (.ref r), .val (.int (3 : Int32))] [(.ref ca)]))
  exact W441.retA (by decide) (by decide) hret rfl rfl (hb hby dc22_9) ⟨ca, kc, rfl, X1, g1, E1, A1⟩
theorem c_toarr_3 (hw : HW Z a0) (hEL : EW Z a0 EL_) (h0 : Heap) (hE0 : Ext Z.heap h0) (al : Addr) (r mr : Addr) (kr : ClassId) (s0 s1 s2 : Addr) (FD : Fld Z h0 al cAL "elementData" "[Ljava/lang/Object;" (.ref r)) (FS : Fld Z h0 al cAL "size" "I" (.int 3)) (MR : MirA Z "[Ljava/lang/Object;" mr) (E_r : Exa Z h0 r "[Ljava/lang/Object;") (A_r : Arv Z h0 r kr (.object "java/lang/Object") 10 [(.ref s0), (.ref s1), (.ref s2)] .null) (E_s0 : Exa Z h0 s0 cSC) (E_s1 : Exa Z h0 s1 cSC) (E_s2 : Exa Z h0 s2 cSC) :
    Con l Z EL_ [] N23 jdk_38_method_16_code 1 (some (.array (.object "java/lang/Object"))) [] (⟨3, 1, 3, 75⟩ : Room) #[(.ref al)] h0 (fun v h' => ∃ ca kc, v = some (.ref ca) ∧ Ext h0 h' ∧ h0.size ≤ ca ∧ Exa Z h' ca "[Ljava/lang/Object;" ∧ Arv Z h' ca kc (.object "java/lang/Object") 3 [(.ref s0), (.ref s1), (.ref s2)] .null) := by
  refine Con.mk (plainFor_of_name pn_12) hEL hE0 (fun x hx => by cases hx) ?_
  intro p e s m below meth c T0 hby hml hret hnm W0
  rw [(show entryFrame m #[(.ref al)] 1 = mkF m 0 #[.val (.ref al)] [] from by first | (simp [entryFrame, mkF, argsToLocals, Value.category]; done) | rfl)]
  refine Go.by (fun _ q9 => XS.aloadN W0.here W0.hx rfl (hb hby dc23_0) rfl rfl q9) ?_
  show Go _ _ _ _ _ _ _ _ _ (T0.setTop (mkF m 1 #[.val (.ref al)] [(.ref al)]))
  refine W0.getf (host := "") (Or.inl (wd128 hw)) Via.refl FD (hb hby dc23_1) ?_
  intro T443 W444
  refine Go.by (fun _ q9 => XS.aloadN W444.here W444.hx rfl (hb hby dc23_4) rfl rfl q9) ?_
  show Go _ _ _ _ _ _ _ _ _ (T443.setTop (mkF m 5 #[.val (.ref al)] [(.ref al), (.ref r)]))
  refine W444.getf (host := "") (Or.inl (wd160 hw)) Via.refl FS (hb hby dc23_5) ?_
  intro T445 W446
  show Go _ _ _ _ _ _ _ _ _ (T445.setTop (mkF m 8 #[.val (.ref al)] [(.int (3 : Int32)), (.ref r)]))
  refine W446.callS (y := N22) (wd266 hw) (wd267 hw) (wd268 hw) (wd269 hw) (by decide) (c_copy2_3 l Z a0 hw hEL h0 hE0 r mr kr s0 s1 s2 MR E_r A_r E_s0 E_s1 E_s2) all0 (by decide) (by decide) (k' := 1) (n' := 3) rfl rfl (by decide) (by decide) (by rw [hml]; rfl) (argsL := [(.ref r), (.int (3 : Int32))]) (rest := []) (lenOf pd_12 rfl) rfl rfl (Wt := 0) (Nat.le_of_eq rfl) (hb hby dc23_8) ?_
  intro v_ T447 h449 W448 hq_
  obtain ⟨ca, kc, rfl, X1, g1, E1, A1⟩ := hq_
  show Go _ _ _ _ _ _ _ _ _ (T447.setTop (mkF m 11 #[.val (.ref al)] [(.ref ca)]))
  exact W448.retA (by decide) (by decide) hret rfl rfl (hb hby dc23_11) ⟨ca, kc, rfl, X1, g1, E1, A1⟩
theorem c_aicinit (hw : HW Z a0) (hEL : EW Z a0 EL_) (h0 : Heap) (hE0 : Ext Z.heap h0) (x : Addr)  :
    Con l Z EL_ [] N24 jdk_47_method_1_code 1 none [] (⟨2, 0, 0, 24⟩ : Room) #[(.ref x)] h0 (fun v h' => v = none ∧ h' = h0) := by
  refine Con.mk (plainFor_of_name pn_14) hEL hE0 (fun x hx => by cases hx) ?_
  intro p e s m below meth c T0 hby hml hret hnm W0
  rw [(show entryFrame m #[(.ref x)] 1 = mkF m 0 #[.val (.ref x)] [] from by first | (simp [entryFrame, mkF, argsToLocals, Value.category]; done) | rfl)]
  refine Go.by (fun _ q9 => XS.aloadN W0.here W0.hx rfl (hb hby dc24_0) rfl rfl q9) ?_
  show Go _ _ _ _ _ _ _ _ _ (T0.setTop (mkF m 1 #[.val (.ref x)] [(.ref x)]))
  refine W0.callIp (y := N12) rfl (wd309 hw) (wd119 hw) (wd122 hw) (wd123 hw) (by decide) (a := x) (c_acinit l Z a0 hw hEL h0 hE0 x) all0 (by decide) (by decide) (k' := 0) (n' := 0) rfl rfl (by decide) (by decide) (by rw [hml]; rfl) (argsL := []) (rest := []) (lenOf pd_4 rfl) rfl rfl (Wt := 0) (Nat.le_of_eq rfl) (hb hby dc24_1) ?_
  intro T450 W451
  show Go _ _ _ _ _ _ _ _ _ (T450.setTop (mkF m 4 #[.val (.ref x)] []))
  exact W451.retV (by decide) (by decide) hret (hb hby dc24_4) ⟨rfl, rfl⟩
theorem c_ailinit (hw : HW Z a0) (hEL : EW Z a0 EL_) (h0 : Heap) (hE0 : Ext Z.heap h0) (x : Addr)  :
    Con l Z EL_ [] N25 jdk_46_method_1_code 1 none [] (⟨3, 0, 0, 36⟩ : Room) #[(.ref x)] h0 (fun v h' => v = none ∧ h' = h0) := by
  refine Con.mk (plainFor_of_name pn_15) hEL hE0 (fun x hx => by cases hx) ?_
  intro p e s m below meth c T0 hby hml hret hnm W0
  rw [(show entryFrame m #[(.ref x)] 1 = mkF m 0 #[.val (.ref x)] [] from by first | (simp [entryFrame, mkF, argsToLocals, Value.category]; done) | rfl)]
  refine Go.by (fun _ q9 => XS.aloadN W0.here W0.hx rfl (hb hby dc25_0) rfl rfl q9) ?_
  show Go _ _ _ _ _ _ _ _ _ (T0.setTop (mkF m 1 #[.val (.ref x)] [(.ref x)]))
  refine W0.callIp (y := N24) rfl (wd303 hw) (wd304 hw) (wd307 hw) (wd308 hw) (by decide) (a := x) (c_aicinit l Z a0 hw hEL h0 hE0 x) all0 (by decide) (by decide) (k' := 0) (n' := 0) rfl rfl (by decide) (by decide) (by rw [hml]; rfl) (argsL := []) (rest := []) (lenOf pd_4 rfl) rfl rfl (Wt := 0) (Nat.le_of_eq rfl) (hb hby dc25_1) ?_
  intro T452 W453
  show Go _ _ _ _ _ _ _ _ _ (T452.setTop (mkF m 4 #[.val (.ref x)] []))
  exact W453.retV (by decide) (by decide) hret (hb hby dc25_4) ⟨rfl, rfl⟩
theorem c_l12_1 (hw : HW Z a0) (hEL : EW Z a0 EL_) (h0 : Heap) (hE0 : Ext Z.heap h0) (x emp s0 : Addr) (E_x : Exa Z h0 x cL2) (F_e0 : Fld Z h0 x cL2 "e0" "Ljava/lang/Object;" .null) (F_e1 : Fld Z h0 x cL2 "e1" "Ljava/lang/Object;" .null) (z_x : Z.heap.size ≤ x) (SM : Sta Z Z.heap cIC "EMPTY" "Ljava/lang/Object;" (.ref emp)) (EM : Exa Z Z.heap emp "java/lang/Object") :
    Con l Z EL_ [x] N26 jdk_44_method_1_code 2 none [] (⟨4, 0, 0, 50⟩ : Room) #[(.ref x), (.ref s0)] h0 (fun v h' => v = none ∧ Keep h0 h' [x] ∧ Exa Z h' x cL2 ∧ Fld Z h' x cL2 "e0" "Ljava/lang/Object;" (.ref s0) ∧ Fld Z h' x cL2 "e1" "Ljava/lang/Object;" (.ref emp)) := by
  refine Con.mk (plainFor_of_name pn_16) hEL hE0 (allS E_x.lt all0) ?_
  intro p e s m below meth c T0 hby hml hret hnm W0
  rw [(show entryFrame m #[(.ref x), (.ref s0)] 2 = mkF m 0 #[.val (.ref x), .val (.ref s0)] [] from by first | (simp [entryFrame, mkF, argsToLocals, Value.category]; done) | rfl)]
  refine Go.by (fun _ q9 => XS.aloadN W0.here W0.hx rfl (hb hby dc26_0) rfl rfl q9) ?_
  show Go _ _ _ _ _ _ _ _ _ (T0.setTop (mkF m 1 #[.val (.ref x), .val (.ref s0)] [(.ref x)]))
  refine W0.callIp (y := N25) rfl (wd298 hw) (wd299 hw) (wd181 hw) (wd302 hw) (by decide) (a := x) (c_ailinit l Z a0 hw hEL h0 hE0 x) all0 (by decide) (by decide) (k' := 0) (n' := 0) rfl rfl (by decide) (by decide) (by rw [hml]; rfl) (argsL := []) (rest := []) (lenOf pd_4 rfl) rfl rfl (Wt := 0) (Nat.le_of_eq rfl) (hb hby dc26_1) ?_
  intro T454 W455
  refine Go.by (fun _ q9 => XS.aloadN W455.here W455.hx rfl (hb hby dc26_4) rfl rfl (XS.aloadN W455.here W455.hx rfl (hb hby dc26_5) rfl rfl q9)) ?_
  show Go _ _ _ _ _ _ _ _ _ (T454.setTop (mkF m 6 #[.val (.ref x), .val (.ref s0)] [(.ref s0), (.ref x)]))
  refine W455.callSp (y := N9) (wd311 hw) (wd312 hw) (wd96 hw) (wd313 hw) (by decide) (c_rnn1 l Z a0 hw hEL h0 hE0 s0) all0 (by decide) (by decide) (k' := 0) (n' := 0) rfl rfl (by decide) (by decide) (by rw [hml]; rfl) (argsL := [(.ref s0)]) (rest := [(.ref x)]) (lenOf pd_13 rfl) rfl rfl (Wt := 1) (Nat.le_of_eq rfl) (hb hby dc26_6) ?_
  intro T456 W457
  show Go _ _ _ _ _ _ _ _ _ (T456.setTop (mkF m 9 #[.val (.ref x), .val (.ref s0)] [(.ref s0), (.ref x)]))
  refine W457.putf (host := "") (Or.inl (wd314 hw)) Via.refl F_e0 E_x (Or.inr ⟨(wd315 hw), rfl, hnm⟩) (wd292 hw) (ty := (.object "java/lang/Object")) (by decide) rfl rfl z_x (m_ 0) (hb hby dc26_9) ?_
  intro T458 h459 W460 Wr461
  have F462 : Fld Z h459 x cL2 "e0" "Ljava/lang/Object;" (.ref s0) := F_e0.same Wr461
  have F463 : Fld Z h459 x cL2 "e1" "Ljava/lang/Object;" .null := F_e1.other Wr461 (Or.inr (slot_ne (Or.inr (wd318 hw)) (Or.inr (wd315 hw)) (by decide) (t := (.object "java/lang/Object")) (t' := (.object "java/lang/Object")) (by decide) (by decide)))
  have A464 : Exa Z h459 x cL2 := E_x.wr Wr461
  refine Go.by (fun _ q9 => XS.aloadN W460.here W460.hx rfl (hb hby dc26_12) rfl rfl q9) ?_
  show Go _ _ _ _ _ _ _ _ _ (T458.setTop (mkF m 13 #[.val (.ref x), .val (.ref s0)] [(.ref x)]))
  refine W460.gets (Or.inr (wd316 hw)) Via.refl (SM.ext W460.old) (hb hby dc26_13) ?_
  intro T465 W466
  show Go _ _ _ _ _ _ _ _ _ (T465.setTop (mkF m 16 #[.val (.ref x), .val (.ref s0)] [(.ref emp), (.ref x)]))
  refine W466.putf (host := "") (Or.inl (wd317 hw)) Via.refl F463 A464 (Or.inr ⟨(wd318 hw), rfl, hnm⟩) (wd292 hw) (ty := (.object "java/lang/Object")) (by decide) rfl rfl z_x (m_ 0) (hb hby dc26_16) ?_
  intro T467 h468 W469 Wr470
  have F471 : Fld Z h468 x cL2 "e1" "Ljava/lang/Object;" (.ref emp) := F463.same Wr470
  have F472 : Fld Z h468 x cL2 "e0" "Ljava/lang/Object;" (.ref s0) := F462.other Wr470 (Or.inr (slot_ne (Or.inr (wd315 hw)) (Or.inr (wd318 hw)) (by decide) (t := (.object "java/lang/Object")) (t' := (.object "java/lang/Object")) (by decide) (by decide)))
  have A473 : Exa Z h468 x cL2 := A464.wr Wr470
  show Go _ _ _ _ _ _ _ _ _ (T467.setTop (mkF m 19 #[.val (.ref x), .val (.ref s0)] []))
  exact W469.retV (by decide) (by decide) hret (hb hby dc26_19) ⟨rfl, (((Keep.refl h0 [x]).wr Wr461 (Or.inl (m_ 0))).wr Wr470 (Or.inl (m_ 0))), A473, F472, F471⟩
theorem c_l12_2 (hw : HW Z a0) (hEL : EW Z a0 EL_) (h0 : Heap) (hE0 : Ext Z.heap h0) (x emp s0 s1 : Addr) (E_x : Exa Z h0 x cL2) (F_e0 : Fld Z h0 x cL2 "e0" "Ljava/lang/Object;" .null) (F_e1 : Fld Z h0 x cL2 "e1" "Ljava/lang/Object;" .null) (z_x : Z.heap.size ≤ x) (SM : Sta Z Z.heap cIC "EMPTY" "Ljava/lang/Object;" (.ref emp)) (EM : Exa Z Z.heap emp "java/lang/Object") :
    Con l Z EL_ [x] N27 jdk_44_method_2_code 3 none [] (⟨4, 0, 0, 50⟩ : Room) #[(.ref x), (.ref s0), (.ref s1)] h0 (fun v h' => v = none ∧ Keep h0 h' [x] ∧ Exa Z h' x cL2 ∧ Fld Z h' x cL2 "e0" "Ljava/lang/Object;" (.ref s0) ∧ Fld Z h' x cL2 "e1" "Ljava/lang/Object;" (.ref s1)) := by
  refine Con.mk (plainFor_of_name pn_16) hEL hE0 (allS E_x.lt all0) ?_
  intro p e s m below meth c T0 hby hml hret hnm W0
  rw [(show entryFrame m #[(.ref x), (.ref s0), (.ref s1)] 3 = mkF m 0 #[.val (.ref x), .val (.ref s0), .val (.ref s1)] [] from by first | (simp [entryFrame, mkF, argsToLocals, Value.category]; done) | rfl)]
  refine Go.by (fun _ q9 => XS.aloadN W0.here W0.hx rfl (hb hby dc27_0) rfl rfl q9) ?_
  show Go _ _ _ _ _ _ _ _ _ (T0.setTop (mkF m 1 #[.val (.ref x), .val (.ref s0), .val (.ref s1)] [(.ref x)]))
  refine W0.callIp (y := N25) rfl (wd298 hw) (wd299 hw) (wd181 hw) (wd302 hw) (by decide) (a := x) (c_ailinit l Z a0 hw hEL h0 hE0 x) all0 (by decide) (by decide) (k' := 0) (n' := 0) rfl rfl (by decide) (by decide) (by rw [hml]; rfl) (argsL := []) (rest := []) (lenOf pd_4 rfl) rfl rfl (Wt := 0) (Nat.le_of_eq rfl) (hb hby dc27_1) ?_
  intro T474 W475
  refine Go.by (fun _ q9 => XS.aloadN W475.here W475.hx rfl (hb hby dc27_4) rfl rfl (XS.aloadN W475.here W475.hx rfl (hb hby dc27_5) rfl rfl q9)) ?_
  show Go _ _ _ _ _ _ _ _ _ (T474.setTop (mkF m 6 #[.val (.ref x), .val (.ref s0), .val (.ref s1)] [(.ref s0), (.ref x)]))
  refine W475.callSp (y := N9) (wd311 hw) (wd312 hw) (wd96 hw) (wd313 hw) (by decide) (c_rnn1 l Z a0 hw hEL h0 hE0 s0) all0 (by decide) (by decide) (k' := 0) (n' := 0) rfl rfl (by decide) (by decide) (by rw [hml]; rfl) (argsL := [(.ref s0)]) (rest := [(.ref x)]) (lenOf pd_13 rfl) rfl rfl (Wt := 1) (Nat.le_of_eq rfl) (hb hby dc27_6) ?_
  intro T476 W477
  show Go _ _ _ _ _ _ _ _ _ (T476.setTop (mkF m 9 #[.val (.ref x), .val (.ref s0), .val (.ref s1)] [(.ref s0), (.ref x)]))
  refine W477.putf (host := "") (Or.inl (wd314 hw)) Via.refl F_e0 E_x (Or.inr ⟨(wd315 hw), rfl, hnm⟩) (wd292 hw) (ty := (.object "java/lang/Object")) (by decide) rfl rfl z_x (m_ 0) (hb hby dc27_9) ?_
  intro T478 h479 W480 Wr481
  have F482 : Fld Z h479 x cL2 "e0" "Ljava/lang/Object;" (.ref s0) := F_e0.same Wr481
  have F483 : Fld Z h479 x cL2 "e1" "Ljava/lang/Object;" .null := F_e1.other Wr481 (Or.inr (slot_ne (Or.inr (wd318 hw)) (Or.inr (wd315 hw)) (by decide) (t := (.object "java/lang/Object")) (t' := (.object "java/lang/Object")) (by decide) (by decide)))
  have A484 : Exa Z h479 x cL2 := E_x.wr Wr481
  refine Go.by (fun _ q9 => XS.aloadN W480.here W480.hx rfl (hb hby dc27_12) rfl rfl (XS.aloadN W480.here W480.hx rfl (hb hby dc27_13) rfl rfl q9)) ?_
  show Go _ _ _ _ _ _ _ _ _ (T478.setTop (mkF m 14 #[.val (.ref x), .val (.ref s0), .val (.ref s1)] [(.ref s1), (.ref x)]))
  refine W480.callSp (y := N9) (wd311 hw) (wd312 hw) (wd96 hw) (wd313 hw) (by decide) (c_rnn1 l Z a0 hw hEL h479 W480.old s1) all0 (by decide) (by decide) (k' := 0) (n' := 0) rfl rfl (by decide) (by decide) (by rw [hml]; rfl) (argsL := [(.ref s1)]) (rest := [(.ref x)]) (lenOf pd_13 rfl) rfl rfl (Wt := 1) (Nat.le_of_eq rfl) (hb hby dc27_14) ?_
  intro T485 W486
  show Go _ _ _ _ _ _ _ _ _ (T485.setTop (mkF m 17 #[.val (.ref x), .val (.ref s0), .val (.ref s1)] [(.ref s1), (.ref x)]))
  refine W486.putf (host := "") (Or.inl (wd317 hw)) Via.refl F483 A484 (Or.inr ⟨(wd318 hw), rfl, hnm⟩) (wd292 hw) (ty := (.object "java/lang/Object")) (by decide) rfl rfl z_x (m_ 0) (hb hby dc27_17) ?_
  intro T487 h488 W489 Wr490
  have F491 : Fld Z h488 x cL2 "e1" "Ljava/lang/Object;" (.ref s1) := F483.same Wr490
  have F492 : Fld Z h488 x cL2 "e0" "Ljava/lang/Object;" (.ref s0) := F482.other Wr490 (Or.inr (slot_ne (Or.inr (wd315 hw)) (Or.inr (wd318 hw)) (by decide) (t := (.object "java/lang/Object")) (t' := (.object "java/lang/Object")) (by decide) (by decide)))
  have A493 : Exa Z h488 x cL2 := A484.wr Wr490
  show Go _ _ _ _ _ _ _ _ _ (T487.setTop (mkF m 20 #[.val (.ref x), .val (.ref s0), .val (.ref s1)] []))
  exact W489.retV (by decide) (by decide) hret (hb hby dc27_20) ⟨rfl, (((Keep.refl h0 [x]).wr Wr481 (Or.inl (m_ 0))).wr Wr490 (Or.inl (m_ 0))), A493, F492, F491⟩
theorem c_lninit (hw : HW Z a0) (hEL : EW Z a0 EL_) (h0 : Heap) (hE0 : Ext Z.heap h0) (x ea : Addr) (E_x : Exa Z h0 x cLN) (F_elements : Fld Z h0 x cLN "elements" "[Ljava/lang/Object;" .null) (F_allowNulls : Fld Z h0 x cLN "allowNulls" "Z" (.int 0)) (z_x : Z.heap.size ≤ x) :
    Con l Z EL_ [x] N28 jdk_45_method_1_code 3 none [] (⟨4, 0, 0, 50⟩ : Room) #[(.ref x), (.ref ea), (.int (0 : Int32))] h0 (fun v h' => v = none ∧ Keep h0 h' [x] ∧ Exa Z h' x cLN ∧ Fld Z h' x cLN "elements" "[Ljava/lang/Object;" (.ref ea)) := by
  refine Con.mk (plainFor_of_name pn_17) hEL hE0 (allS E_x.lt all0) ?_
  intro p e s m below meth c T0 hby hml hret hnm W0
  rw [(show entryFrame m #[(.ref x), (.ref ea), (.int (0 : Int32))] 3 = mkF m 0 #[.val (.ref x), .val (.ref ea), .val (.int (0 : Int32))] [] from by first | (simp [entryFrame, mkF, argsToLocals, Value.category]; done) | rfl)]
  refine Go.by (fun _ q9 => XS.aloadN W0.here W0.hx rfl (hb hby dc28_0) rfl rfl q9) ?_
  show Go _ _ _ _ _ _ _ _ _ (T0.setTop (mkF m 1 #[.val (.ref x), .val (.ref ea), .val (.int (0 : Int32))] [(.ref x)]))
  refine W0.callIp (y := N25) rfl (wd388 hw) (wd299 hw) (wd181 hw) (wd302 hw) (by decide) (a := x) (c_ailinit l Z a0 hw hEL h0 hE0 x) all0 (by decide) (by decide) (k' := 0) (n' := 0) rfl rfl (by decide) (by decide) (by rw [hml]; rfl) (argsL := []) (rest := []) (lenOf pd_4 rfl) rfl rfl (Wt := 0) (Nat.le_of_eq rfl) (hb hby dc28_1) ?_
  intro T494 W495
  refine Go.by (fun _ q9 => XS.aloadN W495.here W495.hx rfl (hb hby dc28_4) rfl rfl (XS.aloadN W495.here W495.hx rfl (hb hby dc28_5) rfl rfl q9)) ?_
  show Go _ _ _ _ _ _ _ _ _ (T494.setTop (mkF m 6 #[.val (.ref x), .val (.ref ea), .val (.int (0 : Int32))] [(.ref ea), (.ref x)]))
  refine W495.putf (host := "") (Or.inl (wd193 hw)) Via.refl F_elements E_x (Or.inr ⟨(wd194 hw), rfl, hnm⟩) (wd383 hw) (ty := (.array (.object "java/lang/Object"))) (by decide) rfl rfl z_x (m_ 0) (hb hby dc28_6) ?_
  intro T496 h497 W498 Wr499
  have F500 : Fld Z h497 x cLN "elements" "[Ljava/lang/Object;" (.ref ea) := F_elements.same Wr499
  have F501 : Fld Z h497 x cLN "allowNulls" "Z" (.int 0) := F_allowNulls.other Wr499 (Or.inr (slot_ne (Or.inr (wd393 hw)) (Or.inr (wd194 hw)) (by decide) (t := .boolean) (t' := (.array (.object "java/lang/Object"))) (by decide) (by decide)))
  have A502 : Exa Z h497 x cLN := E_x.wr Wr499
  refine Go.by (fun _ q9 => XS.aloadN W498.here W498.hx rfl (hb hby dc28_9) rfl rfl (XS.iloadN W498.here W498.hx rfl (hb hby dc28_10) rfl q9)) ?_
  show Go _ _ _ _ _ _ _ _ _ (T496.setTop (mkF m 11 #[.val (.ref x), .val (.ref ea), .val (.int (0 : Int32))] [(.int (0 : Int32)), (.ref x)]))
  refine W498.putf (host := "") (Or.inl (wd392 hw)) Via.refl F501 A502 (Or.inr ⟨(wd393 hw), rfl, hnm⟩) (wd383 hw) (ty := .boolean) (by decide) rfl rfl z_x (m_ 0) (hb hby dc28_11) ?_
  intro T503 h504 W505 Wr506
  have F507 : Fld Z h504 x cLN "allowNulls" "Z" (.int (0 : Int32)) := F501.same Wr506
  have F508 : Fld Z h504 x cLN "elements" "[Ljava/lang/Object;" (.ref ea) := F500.other Wr506 (Or.inr (slot_ne (Or.inr (wd194 hw)) (Or.inr (wd393 hw)) (by decide) (t := (.array (.object "java/lang/Object"))) (t' := .boolean) (by decide) (by decide)))
  have A509 : Exa Z h504 x cLN := A502.wr Wr506
  show Go _ _ _ _ _ _ _ _ _ (T503.setTop (mkF m 14 #[.val (.ref x), .val (.ref ea), .val (.int (0 : Int32))] []))
  exact W505.retV (by decide) (by decide) hret (hb hby dc28_14) ⟨rfl, (((Keep.refl h0 [x]).wr Wr499 (Or.inl (m_ 0))).wr Wr506 (Or.inl (m_ 0))), A509, F508⟩
theorem c_lfa (hw : HW Z a0) (hEL : EW Z a0 EL_) (h0 : Heap) (hE0 : Ext Z.heap h0) (ca emp : Addr) (kc : ClassId) (s0 s1 s2 : Addr) (A_c : Arv Z h0 ca kc (.object "java/lang/Object") 3 [(.ref s0), (.ref s1), (.ref s2)] .null) (E_s0 : Exa Z h0 s0 cSC) (E_s1 : Exa Z h0 s1 cSC) (E_s2 : Exa Z h0 s2 cSC) :
    Con l Z EL_ [] N29 jdk_56_method_4_code 3 (some (.object "java/util/List")) [] (⟨5, 2, 5, 70⟩ : Room) #[(.ref ca)] h0 (fun v h' => ∃ lst, v = some (.ref lst) ∧ Ext h0 h' ∧ (∃ ea ke, Exa Z h' lst cLN ∧ Fld Z h' lst cLN "elements" "[Ljava/lang/Object;" (.ref ea) ∧ Arv Z h' ea ke (.object "java/lang/Object") 3 [(.ref s0), (.ref s1), (.ref s2)] .null)) := by
  refine Con.mk (plainFor_of_name pn_18) hEL hE0 (fun x hx => by cases hx) ?_
  intro p e s m below meth c T0 hby hml hret hnm W0
  rw [(show entryFrame m #[(.ref ca)] 3 = mkF m 0 #[.val (.ref ca), .unset, .unset] [] from by first | (simp [entryFrame, mkF, argsToLocals, Value.category]; done) | rfl)]
  refine Go.by (fun _ q9 => XS.aloadN W0.here W0.hx rfl (hb hby dc29_0) rfl rfl q9) ?_
  show Go _ _ _ _ _ _ _ _ _ (T0.setTop (mkF m 1 #[.val (.ref ca), .unset, .unset] [(.ref ca)]))
  refine W0.alen A_c (hb hby dc29_1) ?_
  show Go _ _ _ _ _ _ _ _ _ (T0.setTop (mkF m 2 #[.val (.ref ca), .unset, .unset] [(.int (3 : Int32))]))
  refine W0.newr (wd381 hw) (wd256 hw) (hb hby dc29_2) (by decide) (cap := 3) (by decide) (by decide) (k' := 1) (n' := 3) rfl rfl (by decide) (by decide) (ad := "[Ljava/lang/Object;") rfl ?_
  intro T510 h511 ea k_ea W512 E513 g_ea z_ea A_ea V_ea O_ea
  have Vp := V_ea.pad (pad_rep [] .null 3)
  refine Go.by (fun _ q9 => XS.astoreN W512.here W512.hx rfl (hb hby dc29_5) rfl rfl (l' := #[.val (.ref ca), .val (.ref ea), .unset]) rfl (XS.iconst W512.here W512.hx rfl (hb hby dc29_6) (XS.istoreN W512.here W512.hx rfl (hb hby dc29_7) rfl (l' := #[.val (.ref ca), .val (.ref ea), .val (.int (0 : Int32))]) rfl (XS.iloadN W512.here W512.hx rfl (hb hby dc29_8) rfl (XS.aloadN W512.here W512.hx rfl (hb hby dc29_9) rfl rfl q9))))) ?_
  show Go _ _ _ _ _ _ _ _ _ (T510.setTop (mkF m 10 #[.val (.ref ca), .val (.ref ea), .val (.int (0 : Int32))] [(.ref ca), (.int (0 : Int32))]))
  refine W512.alen (A_c.ext E513) (hb hby dc29_10) ?_
  refine Go.by (fun _ q9 => XS.icmpNo W512.here W512.hx rfl (hb hby dc29_11) rfl (tlt (by decide)).2.1 q9) ?_
  refine Go.by (fun _ q9 => XS.aloadN W512.here W512.hx rfl (hb hby dc29_14) rfl rfl (XS.iloadN W512.here W512.hx rfl (hb hby dc29_15) rfl (XS.aloadN W512.here W512.hx rfl (hb hby dc29_16) rfl rfl (XS.iloadN W512.here W512.hx rfl (hb hby dc29_17) rfl q9)))) ?_
  show Go _ _ _ _ _ _ _ _ _ (T510.setTop (mkF m 18 #[.val (.ref ca), .val (.ref ea), .val (.int (0 : Int32))] [(.int (0 : Int32)), (.ref ca), (.int (0 : Int32)), (.ref ea)]))
  refine W512.aald (A_c.ext E513) rfl ⟨by decide, by decide⟩ (v := (.ref s0)) rfl (hb hby dc29_18) ?_
  show Go _ _ _ _ _ _ _ _ _ (T510.setTop (mkF m 19 #[.val (.ref ca), .val (.ref ea), .val (.int (0 : Int32))] [(.ref s0), (.int (0 : Int32)), (.ref ea)]))
  refine W512.callSp (y := N9) (wd382 hw) (wd312 hw) (wd96 hw) (wd313 hw) (by decide) (c_rnn1 l Z a0 hw hEL h511 W512.old s0) all0 (by decide) (by decide) (k' := 1) (n' := 3) rfl rfl (by decide) (by decide) (by rw [hml]; rfl) (argsL := [(.ref s0)]) (rest := [(.int (0 : Int32)), (.ref ea)]) (lenOf pd_13 rfl) rfl rfl (Wt := 2) (Nat.le_of_eq rfl) (hb hby dc29_19) ?_
  intro T514 W515
  obtain ⟨cl_0, ar0, br0, -⟩ := id Vp
  show Go _ _ _ _ _ _ _ _ _ (T514.setTop (mkF m 22 #[.val (.ref ca), .val (.ref ea), .val (.int (0 : Int32))] [(.ref s0), (.int (0 : Int32)), (.ref ea)]))
  refine W515.aast Vp rfl ⟨by decide, by decide⟩ (i := 0) rfl (by simp) (Sto.ofV ar0 br0 O_ea (Ins.of_exa (E_s0.ext E513) (wd257 hw))) rfl z_ea (m_ 0) (hb hby dc29_22) ?_
  intro T516 h517 W518 Wr519 V520_ea
  have An0 : Arv Z h517 ea k_ea (.object "java/lang/Object") 3 [(.ref s0), .null, .null] .null := V520_ea
  refine Go.by (fun _ q9 => XS.iinc W518.here W518.hx rfl (hb hby dc29_23) rfl (l' := #[.val (.ref ca), .val (.ref ea), .val (.int ((0 : Int32) + (1 : Int32)))]) rfl q9) ?_
  show Go _ _ _ _ _ _ _ _ _ (T516.setTop (mkF m 26 #[.val (.ref ca), .val (.ref ea), .val (.int (1 : Int32))] []))
  refine Go.by (fun _ q9 => XS.goto W518.here W518.hx rfl (pc0 := 26) (pc' := 8) rfl (hb hby dc29_26) (by decide) (by decide) (XS.iloadN W518.here W518.hx rfl (hb hby dc29_8) rfl (XS.aloadN W518.here W518.hx rfl (hb hby dc29_9) rfl rfl q9))) ?_
  have X521 : Ext h0 h517 := (Ext.wr' E513 Wr519 (Nat.le_of_eq g_ea))
  show Go _ _ _ _ _ _ _ _ _ (T516.setTop (mkF m 10 #[.val (.ref ca), .val (.ref ea), .val (.int (1 : Int32))] [(.ref ca), (.int (1 : Int32))]))
  refine W518.alen (A_c.ext X521) (hb hby dc29_10) ?_
  refine Go.by (fun _ q9 => XS.icmpNo W518.here W518.hx rfl (hb hby dc29_11) rfl (tlt (by decide)).2.1 q9) ?_
  refine Go.by (fun _ q9 => XS.aloadN W518.here W518.hx rfl (hb hby dc29_14) rfl rfl (XS.iloadN W518.here W518.hx rfl (hb hby dc29_15) rfl (XS.aloadN W518.here W518.hx rfl (hb hby dc29_16) rfl rfl (XS.iloadN W518.here W518.hx rfl (hb hby dc29_17) rfl q9)))) ?_
  show Go _ _ _ _ _ _ _ _ _ (T516.setTop (mkF m 18 #[.val (.ref ca), .val (.ref ea), .val (.int (1 : Int32))] [(.int (1 : Int32)), (.ref ca), (.int (1 : Int32)), (.ref ea)]))
  refine W518.aald (A_c.ext X521) rfl ⟨by decide, by decide⟩ (v := (.ref s1)) rfl (hb hby dc29_18) ?_
  show Go _ _ _ _ _ _ _ _ _ (T516.setTop (mkF m 19 #[.val (.ref ca), .val (.ref ea), .val (.int (1 : Int32))] [(.ref s1), (.int (1 : Int32)), (.ref ea)]))
  refine W518.callSp (y := N9) (wd382 hw) (wd312 hw) (wd96 hw) (wd313 hw) (by decide) (c_rnn1 l Z a0 hw hEL h517 W518.old s1) all0 (by decide) (by decide) (k' := 1) (n' := 3) rfl rfl (by decide) (by decide) (by rw [hml]; rfl) (argsL := [(.ref s1)]) (rest := [(.int (1 : Int32)), (.ref ea)]) (lenOf pd_13 rfl) rfl rfl (Wt := 2) (Nat.le_of_eq rfl) (hb hby dc29_19) ?_
  intro T522 W523
  obtain ⟨cl_1, ar1, br1, -⟩ := id An0
  show Go _ _ _ _ _ _ _ _ _ (T522.setTop (mkF m 22 #[.val (.ref ca), .val (.ref ea), .val (.int (1 : Int32))] [(.ref s1), (.int (1 : Int32)), (.ref ea)]))
  refine W523.aast An0 rfl ⟨by decide, by decide⟩ (i := 1) rfl (by simp) (Sto.ofV ar1 br1 O_ea (Ins.of_exa (E_s1.ext X521) (wd257 hw))) rfl z_ea (m_ 0) (hb hby dc29_22) ?_
  intro T524 h525 W526 Wr527 V528_ea
  have An1 : Arv Z h525 ea k_ea (.object "java/lang/Object") 3 [(.ref s0), (.ref s1), .null] .null := V528_ea
  refine Go.by (fun _ q9 => XS.iinc W526.here W526.hx rfl (hb hby dc29_23) rfl (l' := #[.val (.ref ca), .val (.ref ea), .val (.int ((1 : Int32) + (1 : Int32)))]) rfl q9) ?_
  show Go _ _ _ _ _ _ _ _ _ (T524.setTop (mkF m 26 #[.val (.ref ca), .val (.ref ea), .val (.int (2 : Int32))] []))
  refine Go.by (fun _ q9 => XS.goto W526.here W526.hx rfl (pc0 := 26) (pc' := 8) rfl (hb hby dc29_26) (by decide) (by decide) (XS.iloadN W526.here W526.hx rfl (hb hby dc29_8) rfl (XS.aloadN W526.here W526.hx rfl (hb hby dc29_9) rfl rfl q9))) ?_
  have X529 : Ext h0 h525 := (Ext.wr' X521 Wr527 (Nat.le_of_eq g_ea))
  show Go _ _ _ _ _ _ _ _ _ (T524.setTop (mkF m 10 #[.val (.ref ca), .val (.ref ea), .val (.int (2 : Int32))] [(.ref ca), (.int (2 : Int32))]))
  refine W526.alen (A_c.ext X529) (hb hby dc29_10) ?_
  refine Go.by (fun _ q9 => XS.icmpNo W526.here W526.hx rfl (hb hby dc29_11) rfl (tlt (by decide)).2.1 q9) ?_
  refine Go.by (fun _ q9 => XS.aloadN W526.here W526.hx rfl (hb hby dc29_14) rfl rfl (XS.iloadN W526.here W526.hx rfl (hb hby dc29_15) rfl (XS.aloadN W526.here W526.hx rfl (hb hby dc29_16) rfl rfl (XS.iloadN W526.here W526.hx rfl (hb hby dc29_17) rfl q9)))) ?_
  show Go _ _ _ _ _ _ _ _ _ (T524.setTop (mkF m 18 #[.val (.ref ca), .val (.ref ea), .val (.int (2 : Int32))] [(.int (2 : Int32)), (.ref ca), (.int (2 : Int32)), (.ref ea)]))
  refine W526.aald (A_c.ext X529) rfl ⟨by decide, by decide⟩ (v := (.ref s2)) rfl (hb hby dc29_18) ?_
  show Go _ _ _ _ _ _ _ _ _ (T524.setTop (mkF m 19 #[.val (.ref ca), .val (.ref ea), .val (.int (2 : Int32))] [(.ref s2), (.int (2 : Int32)), (.ref ea)]))
  refine W526.callSp (y := N9) (wd382 hw) (wd312 hw) (wd96 hw) (wd313 hw) (by decide) (c_rnn1 l Z a0 hw hEL h525 W526.old s2) all0 (by decide) (by decide) (k' := 1) (n' := 3) rfl rfl (by decide) (by decide) (by rw [hml]; rfl) (argsL := [(.ref s2)]) (rest := [(.int (2 : Int32)), (.ref ea)]) (lenOf pd_13 rfl) rfl rfl (Wt := 2) (Nat.le_of_eq rfl) (hb hby dc29_19) ?_
  intro T530 W531
  obtain ⟨cl_2, ar2, br2, -⟩ := id An1
  show Go _ _ _ _ _ _ _ _ _ (T530.setTop (mkF m 22 #[.val (.ref ca), .val (.ref ea), .val (.int (2 : Int32))] [(.ref s2), (.int (2 : Int32)), (.ref ea)]))
  refine W531.aast An1 rfl ⟨by decide, by decide⟩ (i := 2) rfl (by simp) (Sto.ofV ar2 br2 O_ea (Ins.of_exa (E_s2.ext X529) (wd257 hw))) rfl z_ea (m_ 0) (hb hby dc29_22) ?_
  intro T532 h533 W534 Wr535 V536_ea
  have An2 : Arv Z h533 ea k_ea (.object "java/lang/Object") 3 [(.ref s0), (.ref s1), (.ref s2)] .null := V536_ea
  refine Go.by (fun _ q9 => XS.iinc W534.here W534.hx rfl (hb hby dc29_23) rfl (l' := #[.val (.ref ca), .val (.ref ea), .val (.int ((2 : Int32) + (1 : Int32)))]) rfl q9) ?_
  show Go _ _ _ _ _ _ _ _ _ (T532.setTop (mkF m 26 #[.val (.ref ca), .val (.ref ea), .val (.int (3 : Int32))] []))
  refine Go.by (fun _ q9 => XS.goto W534.here W534.hx rfl (pc0 := 26) (pc' := 8) rfl (hb hby dc29_26) (by decide) (by decide) (XS.iloadN W534.here W534.hx rfl (hb hby dc29_8) rfl (XS.aloadN W534.here W534.hx rfl (hb hby dc29_9) rfl rfl q9))) ?_
  have X537 : Ext h0 h533 := (Ext.wr' X529 Wr535 (Nat.le_of_eq g_ea))
  show Go _ _ _ _ _ _ _ _ _ (T532.setTop (mkF m 10 #[.val (.ref ca), .val (.ref ea), .val (.int (3 : Int32))] [(.ref ca), (.int (3 : Int32))]))
  refine W534.alen (A_c.ext X537) (hb hby dc29_10) ?_
  refine Go.by (fun _ q9 => XS.icmpYes W534.here W534.hx rfl (pc0 := 11) (pc' := 29) rfl (hb hby dc29_11) rfl (flt (by decide)).2.1 (by decide) (by decide) q9) ?_
  show Go _ _ _ _ _ _ _ _ _ (T532.setTop (mkF m 29 #[.val (.ref ca), .val (.ref ea), .val (.int (3 : Int32))] []))
  refine W534.new (wd150 hw) (wd383 hw) (wd191 hw) (hb hby dc29_29) (k' := 2) (n' := 5) rfl rfl (by decide) (by decide) ?_
  intro T538 h539 x W540 E541 g_x z_x A_x D_x
  have F_elements_x : Fld Z h539 x cLN "elements" "[Ljava/lang/Object;" .null := D_x (Or.inr (wd194 hw)) (ty := (.array (.object "java/lang/Object"))) (by decide)
  have F_allowNulls_x : Fld Z h539 x cLN "allowNulls" "Z" (.int (0 : Int32)) := D_x (Or.inr (wd393 hw)) (ty := .boolean) (by decide)
  refine Go.by (fun _ q9 => XS.dup W540.here W540.hx rfl (hb hby dc29_32) rfl rfl (XS.aloadN W540.here W540.hx rfl (hb hby dc29_33) rfl rfl (XS.iconst W540.here W540.hx rfl (hb hby dc29_34) q9))) ?_
  show Go _ _ _ _ _ _ _ _ _ (T538.setTop (mkF m 35 #[.val (.ref ca), .val (.ref ea), .val (.int (3 : Int32))] [(.int (0 : Int32)), (.ref ea), (.ref x), (.ref x)]))
  refine W540.callIN (y := N28) rfl (wd384 hw) (wd385 hw) (wd191 hw) (wd387 hw) (by decide) (a := x) (c_lninit l Z a0 hw hEL h539 W540.old x ea A_x F_elements_x F_allowNulls_x z_x) (allS (m_ 0) all0) (by decide) (by decide) (k' := 2) (n' := 5) rfl rfl (by decide) (by decide) (by rw [hml]; rfl) (argsL := [(.ref ea), (.int (0 : Int32))]) (rest := [(.ref x)]) (lenOf pd_14 rfl) rfl rfl (Wt := 1) (Nat.le_of_eq rfl) (hb hby dc29_35) ?_
  intro v_ T542 h544 W543 hq_
  obtain ⟨rfl, K9, q1, q2⟩ := hq_
  have X545 : Ext h0 h539 := (Ext.trans' X537 E541)
  have X546 : Ext h0 h544 := (Ext.keep' X545 K9 (allS (Nat.le_trans X537.1 (Nat.le_of_eq g_x)) all0))
  have X547 : Ext h533 h544 := (Ext.keep' E541 K9 (allS (Nat.le_of_eq g_x) all0))
  show Go _ _ _ _ _ _ _ _ _ (T542.setTop (mkF m 38 #[.val (.ref ca), .val (.ref ea), .val (.int (3 : Int32))] [(.ref x)]))
  exact W543.retA (by decide) (by decide) hret rfl rfl (hb hby dc29_38) ⟨x, rfl, X546, ea, k_ea, q1, q2, (An2.ext X547)⟩
theorem c_lof_1 (hw : HW Z a0) (hEL : EW Z a0 EL_) (h0 : Heap) (hE0 : Ext Z.heap h0) (ca emp : Addr) (kc : ClassId) (s0 : Addr) (SM : Sta Z Z.heap cIC "EMPTY" "Ljava/lang/Object;" (.ref emp)) (EM : Exa Z Z.heap emp "java/lang/Object") (A_c : Arv Z h0 ca kc (.object "java/lang/Object") 1 [(.ref s0)] .null) (E_s0 : Exa Z h0 s0 cSC) :
    Con l Z EL_ [] N30 jdk_40_method_47_code 2 (some (.object "java/util/List")) [] (⟨6, 2, 5, 90⟩ : Room) #[(.ref ca)] h0 (fun v h' => ∃ lst, v = some (.ref lst) ∧ Ext h0 h' ∧ Exa Z h' lst cL2 ∧ Fld Z h' lst cL2 "e0" "Ljava/lang/Object;" (.ref s0) ∧ Fld Z h' lst cL2 "e1" "Ljava/lang/Object;" (.ref emp)) := by
  refine Con.mk (plainFor_of_name pn_19) hEL hE0 (fun x hx => by cases hx) ?_
  intro p e s m below meth c T0 hby hml hret hnm W0
  rw [(show entryFrame m #[(.ref ca)] 2 = mkF m 0 #[.val (.ref ca), .unset] [] from by first | (simp [entryFrame, mkF, argsToLocals, Value.category]; done) | rfl)]
  refine Go.by (fun _ q9 => XS.aloadN W0.here W0.hx rfl (hb hby dc30_0) rfl rfl q9) ?_
  show Go _ _ _ _ _ _ _ _ _ (T0.setTop (mkF m 1 #[.val (.ref ca), .unset] [(.ref ca)]))
  refine W0.alen A_c (hb hby dc30_1) ?_
  show Go _ _ _ _ _ _ _ _ _ (T0.setTop (mkF m 2 #[.val (.ref ca), .unset] [(.int (1 : Int32))]))
  refine W0.tsw (hb hby dc30_2) (by decide) (o := 32) rfl (by decide) (pc' := 34) (by decide) ?_
  show Go _ _ _ _ _ _ _ _ _ (T0.setTop (mkF m 34 #[.val (.ref ca), .unset] []))
  refine W0.new (wd291 hw) (wd292 hw) (wd293 hw) (hb hby dc30_34) (k' := 1) (n' := 2) rfl rfl (by decide) (by decide) ?_
  intro T548 h549 x W550 E551 g_x z_x A_x D_x
  have F_e0_x : Fld Z h549 x cL2 "e0" "Ljava/lang/Object;" .null := D_x (Or.inr (wd315 hw)) (ty := (.object "java/lang/Object")) (by decide)
  have F_e1_x : Fld Z h549 x cL2 "e1" "Ljava/lang/Object;" .null := D_x (Or.inr (wd318 hw)) (ty := (.object "java/lang/Object")) (by decide)
  refine Go.by (fun _ q9 => XS.dup W550.here W550.hx rfl (hb hby dc30_37) rfl rfl (XS.aloadN W550.here W550.hx rfl (hb hby dc30_38) rfl rfl (XS.iconst W550.here W550.hx rfl (hb hby dc30_39) q9))) ?_
  show Go _ _ _ _ _ _ _ _ _ (T548.setTop (mkF m 40 #[.val (.ref ca), .unset] [(.int (0 : Int32)), (.ref ca), (.ref x), (.ref x)]))
  refine W550.aald (A_c.ext E551) rfl ⟨by decide, by decide⟩ (v := (.ref s0)) rfl (hb hby dc30_40) ?_
  show Go _ _ _ _ _ _ _ _ _ (T548.setTop (mkF m 41 #[.val (.ref ca), .unset] [(.ref s0), (.ref x), (.ref x)]))
  refine W550.callI (y := N26) rfl (wd294 hw) (wd295 hw) (wd293 hw) (wd297 hw) (by decide) (a := x) (c_l12_1 l Z a0 hw hEL h549 W550.old x emp s0 A_x F_e0_x F_e1_x z_x SM EM) (allS (m_ 0) all0) (by decide) (by decide) (k' := 1) (n' := 2) rfl rfl (by decide) (by decide) (by rw [hml]; rfl) (argsL := [(.ref s0)]) (rest := [(.ref x)]) (lenOf pd_15 rfl) rfl rfl (Wt := 1) (Nat.le_of_eq rfl) (hb hby dc30_41) ?_
  intro v_ T552 h554 W553 hq_
  obtain ⟨rfl, K9, q1⟩ := hq_
  have X555 : Ext h0 h554 := (Ext.keep' E551 K9 (allS (Nat.le_of_eq g_x) all0))
  show Go _ _ _ _ _ _ _ _ _ (T552.setTop (mkF m 44 #[.val (.ref ca), .unset] [(.ref x)]))
  exact W553.retA (by decide) (by decide) hret rfl rfl (hb hby dc30_44) ⟨x, rfl, X555, q1⟩
theorem c_lof_2 (hw : HW Z a0) (hEL : EW Z a0 EL_) (h0 : Heap) (hE0 : Ext Z.heap h0) (ca emp : Addr) (kc : ClassId) (s0 s1 : Addr) (SM : Sta Z Z.heap cIC "EMPTY" "Ljava/lang/Object;" (.ref emp)) (EM : Exa Z Z.heap emp "java/lang/Object") (A_c : Arv Z h0 ca kc (.object "java/lang/Object") 2 [(.ref s0), (.ref s1)] .null) (E_s0 : Exa Z h0 s0 cSC) (E_s1 : Exa Z h0 s1 cSC) :
    Con l Z EL_ [] N30 jdk_40_method_47_code 2 (some (.object "java/util/List")) [] (⟨6, 2, 5, 90⟩ : Room) #[(.ref ca)] h0 (fun v h' => ∃ lst, v = some (.ref lst) ∧ Ext h0 h' ∧ Exa Z h' lst cL2 ∧ Fld Z h' lst cL2 "e0" "Ljava/lang/Object;" (.ref s0) ∧ Fld Z h' lst cL2 "e1" "Ljava/lang/Object;" (.ref s1)) := by
  refine Con.mk (plainFor_of_name pn_19) hEL hE0 (fun x hx => by cases hx) ?_
  intro p e s m below meth c T0 hby hml hret hnm W0
  rw [(show entryFrame m #[(.ref ca)] 2 = mkF m 0 #[.val (.ref ca), .unset] [] from by first | (simp [entryFrame, mkF, argsToLocals, Value.category]; done) | rfl)]
  refine Go.by (fun _ q9 => XS.aloadN W0.here W0.hx rfl (hb hby dc30_0) rfl rfl q9) ?_
  show Go _ _ _ _ _ _ _ _ _ (T0.setTop (mkF m 1 #[.val (.ref ca), .unset] [(.ref ca)]))
  refine W0.alen A_c (hb hby dc30_1) ?_
  show Go _ _ _ _ _ _ _ _ _ (T0.setTop (mkF m 2 #[.val (.ref ca), .unset] [(.int (2 : Int32))]))
  refine W0.tsw (hb hby dc30_2) (by decide) (o := 43) rfl (by decide) (pc' := 45) (by decide) ?_
  show Go _ _ _ _ _ _ _ _ _ (T0.setTop (mkF m 45 #[.val (.ref ca), .unset] []))
  refine W0.new (wd291 hw) (wd292 hw) (wd293 hw) (hb hby dc30_45) (k' := 1) (n' := 2) rfl rfl (by decide) (by decide) ?_
  intro T556 h557 x W558 E559 g_x z_x A_x D_x
  have F_e0_x : Fld Z h557 x cL2 "e0" "Ljava/lang/Object;" .null := D_x (Or.inr (wd315 hw)) (ty := (.object "java/lang/Object")) (by decide)
  have F_e1_x : Fld Z h557 x cL2 "e1" "Ljava/lang/Object;" .null := D_x (Or.inr (wd318 hw)) (ty := (.object "java/lang/Object")) (by decide)
  refine Go.by (fun _ q9 => XS.dup W558.here W558.hx rfl (hb hby dc30_48) rfl rfl (XS.aloadN W558.here W558.hx rfl (hb hby dc30_49) rfl rfl (XS.iconst W558.here W558.hx rfl (hb hby dc30_50) q9))) ?_
  show Go _ _ _ _ _ _ _ _ _ (T556.setTop (mkF m 51 #[.val (.ref ca), .unset] [(.int (0 : Int32)), (.ref ca), (.ref x), (.ref x)]))
  refine W558.aald (A_c.ext E559) rfl ⟨by decide, by decide⟩ (v := (.ref s0)) rfl (hb hby dc30_51) ?_
  refine Go.by (fun _ q9 => XS.aloadN W558.here W558.hx rfl (hb hby dc30_52) rfl rfl (XS.iconst W558.here W558.hx rfl (hb hby dc30_53) q9)) ?_
  show Go _ _ _ _ _ _ _ _ _ (T556.setTop (mkF m 54 #[.val (.ref ca), .unset] [(.int (1 : Int32)), (.ref ca), (.ref s0), (.ref x), (.ref x)]))
  refine W558.aald (A_c.ext E559) rfl ⟨by decide, by decide⟩ (v := (.ref s1)) rfl (hb hby dc30_54) ?_
  show Go _ _ _ _ _ _ _ _ _ (T556.setTop (mkF m 55 #[.val (.ref ca), .unset] [(.ref s1), (.ref s0), (.ref x), (.ref x)]))
  refine W558.callI (y := N27) rfl (wd359 hw) (wd360 hw) (wd293 hw) (wd361 hw) (by decide) (a := x) (c_l12_2 l Z a0 hw hEL h557 W558.old x emp s0 s1 A_x F_e0_x F_e1_x z_x SM EM) (allS (m_ 0) all0) (by decide) (by decide) (k' := 1) (n' := 2) rfl rfl (by decide) (by decide) (by rw [hml]; rfl) (argsL := [(.ref s0), (.ref s1)]) (rest := [(.ref x)]) (lenOf pd_16 rfl) rfl rfl (Wt := 1) (Nat.le_of_eq rfl) (hb hby dc30_55) ?_
  intro v_ T560 h562 W561 hq_
  obtain ⟨rfl, K9, q1⟩ := hq_
  have X563 : Ext h0 h562 := (Ext.keep' E559 K9 (allS (Nat.le_of_eq g_x) all0))
  show Go _ _ _ _ _ _ _ _ _ (T560.setTop (mkF m 58 #[.val (.ref ca), .unset] [(.ref x)]))
  exact W561.retA (by decide) (by decide) hret rfl rfl (hb hby dc30_58) ⟨x, rfl, X563, q1⟩
theorem c_lof_3 (hw : HW Z a0) (hEL : EW Z a0 EL_) (h0 : Heap) (hE0 : Ext Z.heap h0) (ca emp : Addr) (kc : ClassId) (s0 s1 s2 : Addr) (SM : Sta Z Z.heap cIC "EMPTY" "Ljava/lang/Object;" (.ref emp)) (EM : Exa Z Z.heap emp "java/lang/Object") (A_c : Arv Z h0 ca kc (.object "java/lang/Object") 3 [(.ref s0), (.ref s1), (.ref s2)] .null) (E_s0 : Exa Z h0 s0 cSC) (E_s1 : Exa Z h0 s1 cSC) (E_s2 : Exa Z h0 s2 cSC) :
    Con l Z EL_ [] N30 jdk_40_method_47_code 2 (some (.object "java/util/List")) [] (⟨6, 2, 5, 90⟩ : Room) #[(.ref ca)] h0 (fun v h' => ∃ lst, v = some (.ref lst) ∧ Ext h0 h' ∧ (∃ ea ke, Exa Z h' lst cLN ∧ Fld Z h' lst cLN "elements" "[Ljava/lang/Object;" (.ref ea) ∧ Arv Z h' ea ke (.object "java/lang/Object") 3 [(.ref s0), (.ref s1), (.ref s2)] .null)) := by
  refine Con.mk (plainFor_of_name pn_19) hEL hE0 (fun x hx => by cases hx) ?_
  intro p e s m below meth c T0 hby hml hret hnm W0
  rw [(show entryFrame m #[(.ref ca)] 2 = mkF m 0 #[.val (.ref ca), .unset] [] from by first | (simp [entryFrame, mkF, argsToLocals, Value.category]; done) | rfl)]
  refine Go.by (fun _ q9 => XS.aloadN W0.here W0.hx rfl (hb hby dc30_0) rfl rfl q9) ?_
  show Go _ _ _ _ _ _ _ _ _ (T0.setTop (mkF m 1 #[.val (.ref ca), .unset] [(.ref ca)]))
  refine W0.alen A_c (hb hby dc30_1) ?_
  show Go _ _ _ _ _ _ _ _ _ (T0.setTop (mkF m 2 #[.val (.ref ca), .unset] [(.int (3 : Int32))]))
  refine W0.tswD (hb hby dc30_2) (by decide) (by decide) (pc' := 59) (by decide) ?_
  refine Go.by (fun _ q9 => XS.aloadN W0.here W0.hx rfl (hb hby dc30_59) rfl rfl q9) ?_
  show Go _ _ _ _ _ _ _ _ _ (T0.setTop (mkF m 60 #[.val (.ref ca), .unset] [(.ref ca)]))
  refine W0.callS (y := N29) (wd378 hw) (wd379 hw) (wd143 hw) (wd380 hw) (by decide) (c_lfa l Z a0 hw hEL h0 hE0 ca emp kc s0 s1 s2 A_c E_s0 E_s1 E_s2) all0 (by decide) (by decide) (k' := 2) (n' := 5) rfl rfl (by decide) (by decide) (by rw [hml]; rfl) (argsL := [(.ref ca)]) (rest := []) (lenOf pd_17 rfl) rfl rfl (Wt := 0) (Nat.le_of_eq rfl) (hb hby dc30_60) ?_
  intro v_ T564 h566 W565 hq_
  obtain ⟨lst, rfl, X1, q1⟩ := hq_
  show Go _ _ _ _ _ _ _ _ _ (T564.setTop (mkF m 63 #[.val (.ref ca), .unset] [(.ref lst)]))
  exact W565.retA (by decide) (by decide) hret rfl rfl (hb hby dc30_63) ⟨lst, rfl, X1, q1⟩
theorem c_lof0 (hw : HW Z a0) (hEL : EW Z a0 EL_) (h0 : Heap) (hE0 : Ext Z.heap h0) (el : Addr) (SL : Sta Z Z.heap cIC "EMPTY_LIST" "Ljava/util/ImmutableCollections$ListN;" (.ref el)) :
    Con l Z EL_ [] N31 jdk_40_method_36_code 0 (some (.object "java/util/List")) [] (⟨0, 0, 0, 0⟩ : Room) #[] h0 (fun v h' => v = (some (.ref el)) ∧ h' = h0) := by
  refine Con.mk (plainFor_of_name pn_19) hEL hE0 (fun x hx => by cases hx) ?_
  intro p e s m below meth c T0 hby hml hret hnm W0
  rw [(show entryFrame m #[] 0 = mkF m 0 #[] [] from by first | (simp [entryFrame, mkF, argsToLocals, Value.category]; done) | rfl)]
  refine W0.gets (host := "") (Or.inl (wd165 hw)) Via.refl (SL.ext W0.old) (hb hby dc31_0) ?_
  intro T567 W568
  show Go _ _ _ _ _ _ _ _ _ (T567.setTop (mkF m 3 #[] [(.ref el)]))
  exact W568.retA (by decide) (by decide) hret rfl rfl (hb hby dc31_3) ⟨rfl, rfl⟩
theorem c_isempty (hw : HW Z a0) (hEL : EW Z a0 EL_) (h0 : Heap) (hE0 : Ext Z.heap h0) (al : Addr) (z : Int32) (FS : Fld Z h0 al cAL "size" "I" (.int z)) :
    Con l Z EL_ [] N32 jdk_38_method_9_code 1 (some .boolean) [] (⟨0, 0, 0, 0⟩ : Room) #[(.ref al)] h0 (fun v h' => v = (some (.int (if z = 0 then 1 else 0))) ∧ h' = h0) := by
  refine Con.mk (plainFor_of_name pn_12) hEL hE0 (fun x hx => by cases hx) ?_
  intro p e s m below meth c T0 hby hml hret hnm W0
  rw [(show entryFrame m #[(.ref al)] 1 = mkF m 0 #[.val (.ref al)] [] from by first | (simp [entryFrame, mkF, argsToLocals, Value.category]; done) | rfl)]
  refine Go.by (fun _ q9 => XS.aloadN W0.here W0.hx rfl (hb hby dc32_0) rfl rfl q9) ?_
  show Go _ _ _ _ _ _ _ _ _ (T0.setTop (mkF m 1 #[.val (.ref al)] [(.ref al)]))
  refine W0.getf (host := "") (Or.inl (wd160 hw)) Via.refl FS (hb hby dc32_1) ?_
  intro T569 W570
  by_cases h1 : z = (0 : Int32)
  · refine Go.by (fun _ q9 => XS.ifNo W570.here W570.hx rfl (hb hby dc32_4) rfl ((if0 _ _).trans (teq h1).2) q9) ?_
    refine Go.by (fun _ q9 => XS.iconst W570.here W570.hx rfl (hb hby dc32_7) (XS.goto W570.here W570.hx rfl (pc0 := 8) (pc' := 12) rfl (hb hby dc32_8) (by decide) (by decide) q9)) ?_
    show Go _ _ _ _ _ _ _ _ _ (T569.setTop (mkF m 12 #[.val (.ref al)] [(.int (1 : Int32))]))
    exact W570.retN (z' := (1 : Int32)) (by decide) (by decide) hret (by simp) (hb hby dc32_12) rfl ⟨by rw [if_pos h1], rfl⟩
  · refine Go.by (fun _ q9 => XS.ifYes W570.here W570.hx rfl (pc0 := 4) (pc' := 11) rfl (hb hby dc32_4) rfl ((if0 _ _).trans (feq h1).2) (by decide) (by decide) q9) ?_
    refine Go.by (fun _ q9 => XS.iconst W570.here W570.hx rfl (hb hby dc32_11) q9) ?_
    show Go _ _ _ _ _ _ _ _ _ (T569.setTop (mkF m 12 #[.val (.ref al)] [(.int (0 : Int32))]))
    exact W570.retN (z' := (0 : Int32)) (by decide) (by decide) hret (by simp) (hb hby dc32_12) rfl ⟨by rw [if_neg h1], rfl⟩
theorem c_lc_0 (hw : HW Z a0) (hEL : EW Z a0 EL_) (h0 : Heap) (hE0 : Ext Z.heap h0) (al el ee emp : Addr) (kee : ClassId)  (E_a : Exa Z h0 al cAL) (FS : Fld Z h0 al cAL "size" "I" (.int 0)) (SL : Sta Z Z.heap cIC "EMPTY_LIST" "Ljava/util/ImmutableCollections$ListN;" (.ref el)) (EL0 : Exa Z Z.heap el cLN) (FE0 : Fld Z Z.heap el cLN "elements" "[Ljava/lang/Object;" (.ref ee)) (AE0 : Arv Z Z.heap ee kee (.object "java/lang/Object") 0 [] .null) (SM : Sta Z Z.heap cIC "EMPTY" "Ljava/lang/Object;" (.ref emp)) (EM : Exa Z Z.heap emp "java/lang/Object") :
    Con l Z EL_ [] N34 jdk_56_method_3_code 2 (some (.object "java/util/List")) [] (⟨7, 3, 8, 110⟩ : Room) #[(.ref al)] h0 (fun v h' => ∃ lst, v = some (.ref lst) ∧ Ext h0 h' ∧ (∃ ea ke, Exa Z h' lst cLN ∧ Fld Z h' lst cLN "elements" "[Ljava/lang/Object;" (.ref ea) ∧ Arv Z h' ea ke (.object "java/lang/Object") 0 [] .null)) := by
  refine Con.mk (plainFor_of_name pn_18) hEL hE0 (fun x hx => by cases hx) ?_
  intro p e s m below meth c T0 hby hml hret hnm W0
  rw [(show entryFrame m #[(.ref al)] 2 = mkF m 0 #[.val (.ref al), .unset] [] from by first | (simp [entryFrame, mkF, argsToLocals, Value.category]; done) | rfl)]
  refine Go.by (fun _ q9 => XS.aloadN W0.here W0.hx rfl (hb hby dc33_0) rfl rfl q9) ?_
  show Go _ _ _ _ _ _ _ _ _ (T0.setTop (mkF m 1 #[.val (.ref al), .unset] [(.ref al)]))
  refine W0.instNo (wd145 hw) E_a (ns_no (wd146 hw) (wd292 hw) (NS.step (wd146 hw) (NS.step (wd147 hw) (NS.step (wd148 hw) (ns_root (wd149 hw) (wd292 hw) (by decide)) (by decide)) (by decide)) (by decide)) (by decide)) (hb hby dc33_1) ?_
  intro T571 W572
  refine Go.by (fun _ q9 => XS.ifNo W572.here W572.hx rfl (hb hby dc33_4) rfl ((if0 _ _).trans (teq rfl).2) q9) ?_
  refine Go.by (fun _ q9 => XS.aloadN W572.here W572.hx rfl (hb hby dc33_7) rfl rfl q9) ?_
  show Go _ _ _ _ _ _ _ _ _ (T571.setTop (mkF m 8 #[.val (.ref al), .unset] [(.ref al)]))
  refine W572.instNo (wd150 hw) E_a (ns_no (wd146 hw) (wd383 hw) (NS.step (wd146 hw) (NS.step (wd147 hw) (NS.step (wd148 hw) (ns_root (wd149 hw) (wd383 hw) (by decide)) (by decide)) (by decide)) (by decide)) (by decide)) (hb hby dc33_8) ?_
  intro T573 W574
  refine Go.by (fun _ q9 => XS.ifYes W574.here W574.hx rfl (pc0 := 11) (pc' := 31) rfl (hb hby dc33_11) rfl ((if0 _ _).trans (teq rfl).1) (by decide) (by decide) q9) ?_
  refine Go.by (fun _ q9 => XS.aloadN W574.here W574.hx rfl (hb hby dc33_31) rfl rfl q9) ?_
  show Go _ _ _ _ _ _ _ _ _ (T573.setTop (mkF m 32 #[.val (.ref al), .unset] [(.ref al)]))
  refine W574.callFp (xi := N33) (y := N32) (wd151 hw) (wd152 hw) (wd153 hw) (wd154 hw) (wd155 hw) (wd156 hw) (wd157 hw) (wd158 hw) (wd108 hw) (wd159 hw) (by decide) E_a (a := al) (c_isempty l Z a0 hw hEL h0 hE0 al (0 : Int32) FS) all0 (by decide) (by decide) (k' := 0) (n' := 0) rfl rfl (by decide) (by decide) (by rw [hml]; rfl) (argsL := []) (rest := []) (lenOf pd_18 rfl) rfl rfl (Wt := 0) (Nat.le_of_eq rfl) (hb hby dc33_32) ?_
  intro T575 W576
  refine Go.by (fun _ q9 => XS.ifNo W576.here W576.hx rfl (hb hby dc33_37) rfl ((if0 _ _).trans (feq (by decide)).1) q9) ?_
  show Go _ _ _ _ _ _ _ _ _ (T575.setTop (mkF m 40 #[.val (.ref al), .unset] []))
  refine W576.callSp (y := N31) (wd162 hw) (wd163 hw) (wd139 hw) (wd164 hw) (by decide) (c_lof0 l Z a0 hw hEL h0 hE0 el SL) all0 (by decide) (by decide) (k' := 0) (n' := 0) rfl rfl (by decide) (by decide) (by rw [hml]; rfl) (argsL := []) (rest := []) (lenOf pd_19 rfl) rfl rfl (Wt := 0) (Nat.le_of_eq rfl) (hb hby dc33_40) ?_
  intro T577 W578
  show Go _ _ _ _ _ _ _ _ _ (T577.setTop (mkF m 43 #[.val (.ref al), .unset] [(.ref el)]))
  exact W578.retA (by decide) (by decide) hret rfl rfl (hb hby dc33_43) ⟨el, rfl, Ext.refl' _, ee, kee, EL0.ext W578.old, FE0.ext W578.old, AE0.ext W578.old⟩
theorem c_cof_0 (hw : HW Z a0) (hEL : EW Z a0 EL_) (h0 : Heap) (hE0 : Ext Z.heap h0) (al el ee emp : Addr) (kee : ClassId)  (E_a : Exa Z h0 al cAL) (FS : Fld Z h0 al cAL "size" "I" (.int 0)) (SL : Sta Z Z.heap cIC "EMPTY_LIST" "Ljava/util/ImmutableCollections$ListN;" (.ref el)) (EL0 : Exa Z Z.heap el cLN) (FE0 : Fld Z Z.heap el cLN "elements" "[Ljava/lang/Object;" (.ref ee)) (AE0 : Arv Z Z.heap ee kee (.object "java/lang/Object") 0 [] .null) (SM : Sta Z Z.heap cIC "EMPTY" "Ljava/lang/Object;" (.ref emp)) (EM : Exa Z Z.heap emp "java/lang/Object") :
    Con l Z EL_ [] N35 jdk_40_method_48_code 1 (some (.object "java/util/List")) [] (⟨8, 3, 8, 125⟩ : Room) #[(.ref al)] h0 (fun v h' => ∃ lst, v = some (.ref lst) ∧ Ext h0 h' ∧ (∃ ea ke, Exa Z h' lst cLN ∧ Fld Z h' lst cLN "elements" "[Ljava/lang/Object;" (.ref ea) ∧ Arv Z h' ea ke (.object "java/lang/Object") 0 [] .null)) := by
  refine Con.mk (plainFor_of_name pn_19) hEL hE0 (fun x hx => by cases hx) ?_
  intro p e s m below meth c T0 hby hml hret hnm W0
  rw [(show entryFrame m #[(.ref al)] 1 = mkF m 0 #[.val (.ref al)] [] from by first | (simp [entryFrame, mkF, argsToLocals, Value.category]; done) | rfl)]
  refine Go.by (fun _ q9 => XS.aloadN W0.here W0.hx rfl (hb hby dc34_0) rfl rfl q9) ?_
  show Go _ _ _ _ _ _ _ _ _ (T0.setTop (mkF m 1 #[.val (.ref al)] [(.ref al)]))
  refine W0.callS (y := N34) (wd141 hw) (wd142 hw) (wd143 hw) (wd144 hw) (by decide) (c_lc_0 l Z a0 hw hEL h0 hE0 al el ee emp kee  E_a FS SL EL0 FE0 AE0 SM EM ) all0 (by decide) (by decide) (k' := 3) (n' := 8) rfl rfl (by decide) (by decide) (by rw [hml]; rfl) (argsL := [(.ref al)]) (rest := []) (lenOf pd_20 rfl) rfl rfl (Wt := 0) (Nat.le_of_eq rfl) (hb hby dc34_1) ?_
  intro v_ T579 h581 W580 hq_
  obtain ⟨lst, rfl, X1, q1⟩ := hq_
  show Go _ _ _ _ _ _ _ _ _ (T579.setTop (mkF m 4 #[.val (.ref al)] [(.ref lst)]))
  exact W580.retA (by decide) (by decide) hret rfl rfl (hb hby dc34_4) ⟨lst, rfl, X1, q1⟩
theorem c_fssinit_0 (hw : HW Z a0) (hEL : EW Z a0 EL_) (h0 : Heap) (hE0 : Ext Z.heap h0) (x : Addr) (al el ee emp : Addr) (kee : ClassId)  (E_x : Exa Z h0 x cFF) (F_schemes : Fld Z h0 x cFF "schemes" "Ljava/util/List;" .null) (z_x : Z.heap.size ≤ x) (E_a : Exa Z h0 al cAL) (FS : Fld Z h0 al cAL "size" "I" (.int 0)) (SL : Sta Z Z.heap cIC "EMPTY_LIST" "Ljava/util/ImmutableCollections$ListN;" (.ref el)) (EL0 : Exa Z Z.heap el cLN) (FE0 : Fld Z Z.heap el cLN "elements" "[Ljava/lang/Object;" (.ref ee)) (AE0 : Arv Z Z.heap ee kee (.object "java/lang/Object") 0 [] .null) (SM : Sta Z Z.heap cIC "EMPTY" "Ljava/lang/Object;" (.ref emp)) (EM : Exa Z Z.heap emp "java/lang/Object") :
    Con l Z EL_ [x] N36 prog_26_method_1_code 2 none [] (⟨9, 3, 8, 140⟩ : Room) #[(.ref x), (.ref al)] h0 (fun v h' => ∃ lst, v = none ∧ Keep h0 h' [x] ∧ Exa Z h' x cFF ∧ Fld Z h' x cFF "schemes" "Ljava/util/List;" (.ref lst) ∧ (∃ ea ke, Exa Z h' lst cLN ∧ Fld Z h' lst cLN "elements" "[Ljava/lang/Object;" (.ref ea) ∧ Arv Z h' ea ke (.object "java/lang/Object") 0 [] .null)) := by
  refine Con.mk (plainFor_of_name pn_20) hEL hE0 (allS E_x.lt all0) ?_
  intro p e s m below meth c T0 hby hml hret hnm W0
  rw [(show entryFrame m #[(.ref x), (.ref al)] 2 = mkF m 0 #[.val (.ref x), .val (.ref al)] [] from by first | (simp [entryFrame, mkF, argsToLocals, Value.category]; done) | rfl)]
  refine Go.by (fun _ q9 => XS.aloadN W0.here W0.hx rfl (hb hby dc35_0) rfl rfl q9) ?_
  show Go _ _ _ _ _ _ _ _ _ (T0.setTop (mkF m 1 #[.val (.ref x), .val (.ref al)] [(.ref x)]))
  refine W0.callIp (y := N3) rfl (wd136 hw) (wd46 hw) (wd48 hw) (wd49 hw) (by decide) (a := x) (c_recinit l Z a0 hw hEL h0 hE0 x) all0 (by decide) (by decide) (k' := 0) (n' := 0) rfl rfl (by decide) (by decide) (by rw [hml]; rfl) (argsL := []) (rest := []) (lenOf pd_4 rfl) rfl rfl (Wt := 0) (Nat.le_of_eq rfl) (hb hby dc35_1) ?_
  intro T582 W583
  refine Go.by (fun _ q9 => XS.aloadN W583.here W583.hx rfl (hb hby dc35_4) rfl rfl q9) ?_
  show Go _ _ _ _ _ _ _ _ _ (T582.setTop (mkF m 5 #[.val (.ref x), .val (.ref al)] [(.ref al)]))
  refine W583.callS (y := N35) (wd137 hw) (wd138 hw) (wd139 hw) (wd140 hw) (by decide) (c_cof_0 l Z a0 hw hEL h0 hE0 al el ee emp kee  E_a FS SL EL0 FE0 AE0 SM EM ) all0 (by decide) (by decide) (k' := 3) (n' := 8) rfl rfl (by decide) (by decide) (by rw [hml]; rfl) (argsL := [(.ref al)]) (rest := []) (lenOf pd_20 rfl) rfl rfl (Wt := 0) (Nat.le_of_eq rfl) (hb hby dc35_5) ?_
  intro v_ T584 h586 W585 hq_
  obtain ⟨lst, rfl, X1, q1⟩ := hq_
  obtain ⟨ea, ke, q1, q2, q3⟩ := q1
  have ne1 : ea ≠ x := Ne.symm (Exa.neArv (E_x.ext X1) q3 (wd131 hw))
  show Go _ _ _ _ _ _ _ _ _ (T584.setTop (mkF m 8 #[.val (.ref x), .val (.ref al)] [(.ref lst)]))
  refine Go.by (fun _ q9 => XS.astoreN W585.here W585.hx rfl (hb hby dc35_8) rfl rfl (l' := #[.val (.ref x), .val (.ref lst)]) rfl (XS.aloadN W585.here W585.hx rfl (hb hby dc35_9) rfl rfl (XS.aloadN W585.here W585.hx rfl (hb hby dc35_10) rfl rfl q9))) ?_
  show Go _ _ _ _ _ _ _ _ _ (T584.setTop (mkF m 11 #[.val (.ref x), .val (.ref lst)] [(.ref lst), (.ref x)]))
  refine W585.putf (host := "") (Or.inl (wd166 hw)) Via.refl (F_schemes.ext X1) (E_x.ext X1) (Or.inr ⟨(wd167 hw), rfl, hnm⟩) (wd131 hw) (ty := (.object "java/util/List")) (by decide) rfl rfl z_x (m_ 0) (hb hby dc35_11) ?_
  intro T587 h588 W589 Wr590
  have F591 : Fld Z h588 x cFF "schemes" "Ljava/util/List;" (.ref lst) := (F_schemes.ext X1).same Wr590
  have A592 : Exa Z h588 x cFF := (E_x.ext X1).wr Wr590
  show Go _ _ _ _ _ _ _ _ _ (T587.setTop (mkF m 14 #[.val (.ref x), .val (.ref lst)] []))
  exact W589.retV (by decide) (by decide) hret (hb hby dc35_14) ⟨lst, rfl, (((Keep.refl h0 [x]).ext X1).wr Wr590 (Or.inl (m_ 0))), A592, F591, ea, ke, (q1.wr Wr590), (q2.other Wr590 (Or.inl (Exa.ne q1 (E_x.ext X1) (by decide)))), (q3.other Wr590 ne1)⟩
theorem c_lc_1 (hw : HW Z a0) (hEL : EW Z a0 EL_) (h0 : Heap) (hE0 : Ext Z.heap h0) (al el ee emp : Addr) (kee : ClassId) (r mr : Addr) (kr : ClassId) (s0 : Addr) (E_a : Exa Z h0 al cAL) (FS : Fld Z h0 al cAL "size" "I" (.int 1)) (SL : Sta Z Z.heap cIC "EMPTY_LIST" "Ljava/util/ImmutableCollections$ListN;" (.ref el)) (EL0 : Exa Z Z.heap el cLN) (FE0 : Fld Z Z.heap el cLN "elements" "[Ljava/lang/Object;" (.ref ee)) (AE0 : Arv Z Z.heap ee kee (.object "java/lang/Object") 0 [] .null) (SM : Sta Z Z.heap cIC "EMPTY" "Ljava/lang/Object;" (.ref emp)) (EM : Exa Z Z.heap emp "java/lang/Object") (FD : Fld Z h0 al cAL "elementData" "[Ljava/lang/Object;" (.ref r)) (MR : MirA Z "[Ljava/lang/Object;" mr) (E_r : Exa Z h0 r "[Ljava/lang/Object;") (A_r : Arv Z h0 r kr (.object "java/lang/Object") 10 [(.ref s0)] .null) (E_s0 : Exa Z h0 s0 cSC) :
    Con l Z EL_ [] N34 jdk_56_method_3_code 2 (some (.object "java/util/List")) [] (⟨7, 3, 8, 110⟩ : Room) #[(.ref al)] h0 (fun v h' => ∃ lst, v = some (.ref lst) ∧ Ext h0 h' ∧ Exa Z h' lst cL2 ∧ Fld Z h' lst cL2 "e0" "Ljava/lang/Object;" (.ref s0) ∧ Fld Z h' lst cL2 "e1" "Ljava/lang/Object;" (.ref emp)) := by
  refine Con.mk (plainFor_of_name pn_18) hEL hE0 (fun x hx => by cases hx) ?_
  intro p e s m below meth c T0 hby hml hret hnm W0
  rw [(show entryFrame m #[(.ref al)] 2 = mkF m 0 #[.val (.ref al), .unset] [] from by first | (simp [entryFrame, mkF, argsToLocals, Value.category]; done) | rfl)]
  refine Go.by (fun _ q9 => XS.aloadN W0.here W0.hx rfl (hb hby dc33_0) rfl rfl q9) ?_
  show Go _ _ _ _ _ _ _ _ _ (T0.setTop (mkF m 1 #[.val (.ref al), .unset] [(.ref al)]))
  refine W0.instNo (wd145 hw) E_a (ns_no (wd146 hw) (wd292 hw) (NS.step (wd146 hw) (NS.step (wd147 hw) (NS.step (wd148 hw) (ns_root (wd149 hw) (wd292 hw) (by decide)) (by decide)) (by decide)) (by decide)) (by decide)) (hb hby dc33_1) ?_
  intro T593 W594
  refine Go.by (fun _ q9 => XS.ifNo W594.here W594.hx rfl (hb hby dc33_4) rfl ((if0 _ _).trans (teq rfl).2) q9) ?_
  refine Go.by (fun _ q9 => XS.aloadN W594.here W594.hx rfl (hb hby dc33_7) rfl rfl q9) ?_
  show Go _ _ _ _ _ _ _ _ _ (T593.setTop (mkF m 8 #[.val (.ref al), .unset] [(.ref al)]))
  refine W594.instNo (wd150 hw) E_a (ns_no (wd146 hw) (wd383 hw) (NS.step (wd146 hw) (NS.step (wd147 hw) (NS.step (wd148 hw) (ns_root (wd149 hw) (wd383 hw) (by decide)) (by decide)) (by decide)) (by decide)) (by decide)) (hb hby dc33_8) ?_
  intro T595 W596
  refine Go.by (fun _ q9 => XS.ifYes W596.here W596.hx rfl (pc0 := 11) (pc' := 31) rfl (hb hby dc33_11) rfl ((if0 _ _).trans (teq rfl).1) (by decide) (by decide) q9) ?_
  refine Go.by (fun _ q9 => XS.aloadN W596.here W596.hx rfl (hb hby dc33_31) rfl rfl q9) ?_
  show Go _ _ _ _ _ _ _ _ _ (T595.setTop (mkF m 32 #[.val (.ref al), .unset] [(.ref al)]))
  refine W596.callFp (xi := N33) (y := N32) (wd151 hw) (wd152 hw) (wd153 hw) (wd154 hw) (wd155 hw) (wd156 hw) (wd157 hw) (wd158 hw) (wd108 hw) (wd159 hw) (by decide) E_a (a := al) (c_isempty l Z a0 hw hEL h0 hE0 al (1 : Int32) FS) all0 (by decide) (by decide) (k' := 0) (n' := 0) rfl rfl (by decide) (by decide) (by rw [hml]; rfl) (argsL := []) (rest := []) (lenOf pd_18 rfl) rfl rfl (Wt := 0) (Nat.le_of_eq rfl) (hb hby dc33_32) ?_
  intro T597 W598
  refine Go.by (fun _ q9 => XS.ifYes W598.here W598.hx rfl (pc0 := 37) (pc' := 44) rfl (hb hby dc33_37) rfl ((if0 _ _).trans (teq (by decide)).1) (by decide) (by decide) q9) ?_
  refine Go.by (fun _ q9 => XS.aloadN W598.here W598.hx rfl (hb hby dc33_44) rfl rfl q9) ?_
  show Go _ _ _ _ _ _ _ _ _ (T597.setTop (mkF m 45 #[.val (.ref al), .unset] [(.ref al)]))
  refine W598.callF (xi := N37) (y := N23) (wd258 hw) (wd259 hw) (wd260 hw) (wd261 hw) (wd262 hw) (wd263 hw) (wd264 hw) (wd158 hw) (wd108 hw) (wd265 hw) (by decide) E_a (a := al) (c_toarr_1 l Z a0 hw hEL h0 hE0 al r mr kr s0 FD FS MR E_r A_r E_s0) all0 (by decide) (by decide) (k' := 1) (n' := 1) rfl rfl (by decide) (by decide) (by rw [hml]; rfl) (argsL := []) (rest := []) (lenOf pd_9 rfl) rfl rfl (Wt := 0) (Nat.le_of_eq rfl) (hb hby dc33_45) ?_
  intro v_ T599 h601 W600 hq_
  obtain ⟨ca, kc, rfl, X1, g1, E1, A1⟩ := hq_
  show Go _ _ _ _ _ _ _ _ _ (T599.setTop (mkF m 50 #[.val (.ref al), .unset] [(.ref ca)]))
  refine W600.callS (y := N30) (wd288 hw) (wd289 hw) (wd139 hw) (wd290 hw) (by decide) (c_lof_1 l Z a0 hw hEL h601 W600.old ca emp kc s0 SM EM A1 (E_s0.ext X1)) all0 (by decide) (by decide) (k' := 3) (n' := 6) rfl rfl (by decide) (by decide) (by rw [hml]; rfl) (argsL := [(.ref ca)]) (rest := []) (lenOf pd_17 rfl) rfl rfl (Wt := 0) (Nat.le_of_eq rfl) (hb hby dc33_50) ?_
  intro v_ T602 h604 W603 hq_
  obtain ⟨lst, rfl, X2, q1⟩ := hq_
  show Go _ _ _ _ _ _ _ _ _ (T602.setTop (mkF m 53 #[.val (.ref al), .unset] [(.ref lst)]))
  have X605 : Ext h0 h604 := (Ext.trans' X1 X2)
  exact W603.retA (by decide) (by decide) hret rfl rfl (hb hby dc33_53) ⟨lst, rfl, X605, q1⟩
theorem c_cof_1 (hw : HW Z a0) (hEL : EW Z a0 EL_) (h0 : Heap) (hE0 : Ext Z.heap h0) (al el ee emp : Addr) (kee : ClassId) (r mr : Addr) (kr : ClassId) (s0 : Addr) (E_a : Exa Z h0 al cAL) (FS : Fld Z h0 al cAL "size" "I" (.int 1)) (SL : Sta Z Z.heap cIC "EMPTY_LIST" "Ljava/util/ImmutableCollections$ListN;" (.ref el)) (EL0 : Exa Z Z.heap el cLN) (FE0 : Fld Z Z.heap el cLN "elements" "[Ljava/lang/Object;" (.ref ee)) (AE0 : Arv Z Z.heap ee kee (.object "java/lang/Object") 0 [] .null) (SM : Sta Z Z.heap cIC "EMPTY" "Ljava/lang/Object;" (.ref emp)) (EM : Exa Z Z.heap emp "java/lang/Object") (FD : Fld Z h0 al cAL "elementData" "[Ljava/lang/Object;" (.ref r)) (MR : MirA Z "[Ljava/lang/Object;" mr) (E_r : Exa Z h0 r "[Ljava/lang/Object;") (A_r : Arv Z h0 r kr (.object "java/lang/Object") 10 [(.ref s0)] .null) (E_s0 : Exa Z h0 s0 cSC) :
    Con l Z EL_ [] N35 jdk_40_method_48_code 1 (some (.object "java/util/List")) [] (⟨8, 3, 8, 125⟩ : Room) #[(.ref al)] h0 (fun v h' => ∃ lst, v = some (.ref lst) ∧ Ext h0 h' ∧ Exa Z h' lst cL2 ∧ Fld Z h' lst cL2 "e0" "Ljava/lang/Object;" (.ref s0) ∧ Fld Z h' lst cL2 "e1" "Ljava/lang/Object;" (.ref emp)) := by
  refine Con.mk (plainFor_of_name pn_19) hEL hE0 (fun x hx => by cases hx) ?_
  intro p e s m below meth c T0 hby hml hret hnm W0
  rw [(show entryFrame m #[(.ref al)] 1 = mkF m 0 #[.val (.ref al)] [] from by first | (simp [entryFrame, mkF, argsToLocals, Value.category]; done) | rfl)]
  refine Go.by (fun _ q9 => XS.aloadN W0.here W0.hx rfl (hb hby dc34_0) rfl rfl q9) ?_
  show Go _ _ _ _ _ _ _ _ _ (T0.setTop (mkF m 1 #[.val (.ref al)] [(.ref al)]))
  refine W0.callS (y := N34) (wd141 hw) (wd142 hw) (wd143 hw) (wd144 hw) (by decide) (c_lc_1 l Z a0 hw hEL h0 hE0 al el ee emp kee r mr kr s0  E_a FS SL EL0 FE0 AE0 SM EM FD MR E_r A_r E_s0) all0 (by decide) (by decide) (k' := 3) (n' := 8) rfl rfl (by decide) (by decide) (by rw [hml]; rfl) (argsL := [(.ref al)]) (rest := []) (lenOf pd_20 rfl) rfl rfl (Wt := 0) (Nat.le_of_eq rfl) (hb hby dc34_1) ?_
  intro v_ T606 h608 W607 hq_
  obtain ⟨lst, rfl, X1, q1⟩ := hq_
  show Go _ _ _ _ _ _ _ _ _ (T606.setTop (mkF m 4 #[.val (.ref al)] [(.ref lst)]))
  exact W607.retA (by decide) (by decide) hret rfl rfl (hb hby dc34_4) ⟨lst, rfl, X1, q1⟩
theorem c_fssinit_1 (hw : HW Z a0) (hEL : EW Z a0 EL_) (h0 : Heap) (hE0 : Ext Z.heap h0) (x : Addr) (al el ee emp : Addr) (kee : ClassId) (r mr : Addr) (kr : ClassId) (s0 : Addr) (E_x : Exa Z h0 x cFF) (F_schemes : Fld Z h0 x cFF "schemes" "Ljava/util/List;" .null) (z_x : Z.heap.size ≤ x) (E_a : Exa Z h0 al cAL) (FS : Fld Z h0 al cAL "size" "I" (.int 1)) (SL : Sta Z Z.heap cIC "EMPTY_LIST" "Ljava/util/ImmutableCollections$ListN;" (.ref el)) (EL0 : Exa Z Z.heap el cLN) (FE0 : Fld Z Z.heap el cLN "elements" "[Ljava/lang/Object;" (.ref ee)) (AE0 : Arv Z Z.heap ee kee (.object "java/lang/Object") 0 [] .null) (SM : Sta Z Z.heap cIC "EMPTY" "Ljava/lang/Object;" (.ref emp)) (EM : Exa Z Z.heap emp "java/lang/Object") (FD : Fld Z h0 al cAL "elementData" "[Ljava/lang/Object;" (.ref r)) (MR : MirA Z "[Ljava/lang/Object;" mr) (E_r : Exa Z h0 r "[Ljava/lang/Object;") (A_r : Arv Z h0 r kr (.object "java/lang/Object") 10 [(.ref s0)] .null) (E_s0 : Exa Z h0 s0 cSC) :
    Con l Z EL_ [x] N36 prog_26_method_1_code 2 none [] (⟨9, 3, 8, 140⟩ : Room) #[(.ref x), (.ref al)] h0 (fun v h' => ∃ lst, v = none ∧ Keep h0 h' [x] ∧ Exa Z h' x cFF ∧ Fld Z h' x cFF "schemes" "Ljava/util/List;" (.ref lst) ∧ Exa Z h' lst cL2 ∧ Fld Z h' lst cL2 "e0" "Ljava/lang/Object;" (.ref s0) ∧ Fld Z h' lst cL2 "e1" "Ljava/lang/Object;" (.ref emp)) := by
  refine Con.mk (plainFor_of_name pn_20) hEL hE0 (allS E_x.lt all0) ?_
  intro p e s m below meth c T0 hby hml hret hnm W0
  rw [(show entryFrame m #[(.ref x), (.ref al)] 2 = mkF m 0 #[.val (.ref x), .val (.ref al)] [] from by first | (simp [entryFrame, mkF, argsToLocals, Value.category]; done) | rfl)]
  refine Go.by (fun _ q9 => XS.aloadN W0.here W0.hx rfl (hb hby dc35_0) rfl rfl q9) ?_
  show Go _ _ _ _ _ _ _ _ _ (T0.setTop (mkF m 1 #[.val (.ref x), .val (.ref al)] [(.ref x)]))
  refine W0.callIp (y := N3) rfl (wd136 hw) (wd46 hw) (wd48 hw) (wd49 hw) (by decide) (a := x) (c_recinit l Z a0 hw hEL h0 hE0 x) all0 (by decide) (by decide) (k' := 0) (n' := 0) rfl rfl (by decide) (by decide) (by rw [hml]; rfl) (argsL := []) (rest := []) (lenOf pd_4 rfl) rfl rfl (Wt := 0) (Nat.le_of_eq rfl) (hb hby dc35_1) ?_
  intro T609 W610
  refine Go.by (fun _ q9 => XS.aloadN W610.here W610.hx rfl (hb hby dc35_4) rfl rfl q9) ?_
  show Go _ _ _ _ _ _ _ _ _ (T609.setTop (mkF m 5 #[.val (.ref x), .val (.ref al)] [(.ref al)]))
  refine W610.callS (y := N35) (wd137 hw) (wd138 hw) (wd139 hw) (wd140 hw) (by decide) (c_cof_1 l Z a0 hw hEL h0 hE0 al el ee emp kee r mr kr s0  E_a FS SL EL0 FE0 AE0 SM EM FD MR E_r A_r E_s0) all0 (by decide) (by decide) (k' := 3) (n' := 8) rfl rfl (by decide) (by decide) (by rw [hml]; rfl) (argsL := [(.ref al)]) (rest := []) (lenOf pd_20 rfl) rfl rfl (Wt := 0) (Nat.le_of_eq rfl) (hb hby dc35_5) ?_
  intro v_ T611 h613 W612 hq_
  obtain ⟨lst, rfl, X1, q1⟩ := hq_
  obtain ⟨q1, q2, q3⟩ := q1
  show Go _ _ _ _ _ _ _ _ _ (T611.setTop (mkF m 8 #[.val (.ref x), .val (.ref al)] [(.ref lst)]))
  refine Go.by (fun _ q9 => XS.astoreN W612.here W612.hx rfl (hb hby dc35_8) rfl rfl (l' := #[.val (.ref x), .val (.ref lst)]) rfl (XS.aloadN W612.here W612.hx rfl (hb hby dc35_9) rfl rfl (XS.aloadN W612.here W612.hx rfl (hb hby dc35_10) rfl rfl q9))) ?_
  show Go _ _ _ _ _ _ _ _ _ (T611.setTop (mkF m 11 #[.val (.ref x), .val (.ref lst)] [(.ref lst), (.ref x)]))
  refine W612.putf (host := "") (Or.inl (wd166 hw)) Via.refl (F_schemes.ext X1) (E_x.ext X1) (Or.inr ⟨(wd167 hw), rfl, hnm⟩) (wd131 hw) (ty := (.object "java/util/List")) (by decide) rfl rfl z_x (m_ 0) (hb hby dc35_11) ?_
  intro T614 h615 W616 Wr617
  have F618 : Fld Z h615 x cFF "schemes" "Ljava/util/List;" (.ref lst) := (F_schemes.ext X1).same Wr617
  have A619 : Exa Z h615 x cFF := (E_x.ext X1).wr Wr617
  show Go _ _ _ _ _ _ _ _ _ (T614.setTop (mkF m 14 #[.val (.ref x), .val (.ref lst)] []))
  exact W616.retV (by decide) (by decide) hret (hb hby dc35_14) ⟨lst, rfl, (((Keep.refl h0 [x]).ext X1).wr Wr617 (Or.inl (m_ 0))), A619, F618, (q1.wr Wr617), (q2.other Wr617 (Or.inl (Exa.ne q1 (E_x.ext X1) (by decide)))), (q3.other Wr617 (Or.inl (Exa.ne q1 (E_x.ext X1) (by decide))))⟩
theorem c_lc_2 (hw : HW Z a0) (hEL : EW Z a0 EL_) (h0 : Heap) (hE0 : Ext Z.heap h0) (al el ee emp : Addr) (kee : ClassId) (r mr : Addr) (kr : ClassId) (s0 s1 : Addr) (E_a : Exa Z h0 al cAL) (FS : Fld Z h0 al cAL "size" "I" (.int 2)) (SL : Sta Z Z.heap cIC "EMPTY_LIST" "Ljava/util/ImmutableCollections$ListN;" (.ref el)) (EL0 : Exa Z Z.heap el cLN) (FE0 : Fld Z Z.heap el cLN "elements" "[Ljava/lang/Object;" (.ref ee)) (AE0 : Arv Z Z.heap ee kee (.object "java/lang/Object") 0 [] .null) (SM : Sta Z Z.heap cIC "EMPTY" "Ljava/lang/Object;" (.ref emp)) (EM : Exa Z Z.heap emp "java/lang/Object") (FD : Fld Z h0 al cAL "elementData" "[Ljava/lang/Object;" (.ref r)) (MR : MirA Z "[Ljava/lang/Object;" mr) (E_r : Exa Z h0 r "[Ljava/lang/Object;") (A_r : Arv Z h0 r kr (.object "java/lang/Object") 10 [(.ref s0), (.ref s1)] .null) (E_s0 : Exa Z h0 s0 cSC) (E_s1 : Exa Z h0 s1 cSC) :
    Con l Z EL_ [] N34 jdk_56_method_3_code 2 (some (.object "java/util/List")) [] (⟨7, 3, 8, 110⟩ : Room) #[(.ref al)] h0 (fun v h' => ∃ lst, v = some (.ref lst) ∧ Ext h0 h' ∧ Exa Z h' lst cL2 ∧ Fld Z h' lst cL2 "e0" "Ljava/lang/Object;" (.ref s0) ∧ Fld Z h' lst cL2 "e1" "Ljava/lang/Object;" (.ref s1)) := by
  refine Con.mk (plainFor_of_name pn_18) hEL hE0 (fun x hx => by cases hx) ?_
  intro p e s m below meth c T0 hby hml hret hnm W0
  rw [(show entryFrame m #[(.ref al)] 2 = mkF m 0 #[.val (.ref al), .unset] [] from by first | (simp [entryFrame, mkF, argsToLocals, Value.category]; done) | rfl)]
  refine Go.by (fun _ q9 => XS.aloadN W0.here W0.hx rfl (hb hby dc33_0) rfl rfl q9) ?_
  show Go _ _ _ _ _ _ _ _ _ (T0.setTop (mkF m 1 #[.val (.ref al), .unset] [(.ref al)]))
  refine W0.instNo (wd145 hw) E_a (ns_no (wd146 hw) (wd292 hw) (NS.step (wd146 hw) (NS.step (wd147 hw) (NS.step (wd148 hw) (ns_root (wd149 hw) (wd292 hw) (by decide)) (by decide)) (by decide)) (by decide)) (by decide)) (hb hby dc33_1) ?_
  intro T620 W621
  refine Go.by (fun _ q9 => XS.ifNo W621.here W621.hx rfl (hb hby dc33_4) rfl ((if0 _ _).trans (teq rfl).2) q9) ?_
  refine Go.by (fun _ q9 => XS.aloadN W621.here W621.hx rfl (hb hby dc33_7) rfl rfl q9) ?_
  show Go _ _ _ _ _ _ _ _ _ (T620.setTop (mkF m 8 #[.val (.ref al), .unset] [(.ref al)]))
  refine W621.instNo (wd150 hw) E_a (ns_no (wd146 hw) (wd383 hw) (NS.step (wd146 hw) (NS.step (wd147 hw) (NS.step (wd148 hw) (ns_root (wd149 hw) (wd383 hw) (by decide)) (by decide)) (by decide)) (by decide)) (by decide)) (hb hby dc33_8) ?_
  intro T622 W623
  refine Go.by (fun _ q9 => XS.ifYes W623.here W623.hx rfl (pc0 := 11) (pc' := 31) rfl (hb hby dc33_11) rfl ((if0 _ _).trans (teq rfl).1) (by decide) (by decide) q9) ?_
  refine Go.by (fun _ q9 => XS.aloadN W623.here W623.hx rfl (hb hby dc33_31) rfl rfl q9) ?_
  show Go _ _ _ _ _ _ _ _ _ (T622.setTop (mkF m 32 #[.val (.ref al), .unset] [(.ref al)]))
  refine W623.callFp (xi := N33) (y := N32) (wd151 hw) (wd152 hw) (wd153 hw) (wd154 hw) (wd155 hw) (wd156 hw) (wd157 hw) (wd158 hw) (wd108 hw) (wd159 hw) (by decide) E_a (a := al) (c_isempty l Z a0 hw hEL h0 hE0 al (2 : Int32) FS) all0 (by decide) (by decide) (k' := 0) (n' := 0) rfl rfl (by decide) (by decide) (by rw [hml]; rfl) (argsL := []) (rest := []) (lenOf pd_18 rfl) rfl rfl (Wt := 0) (Nat.le_of_eq rfl) (hb hby dc33_32) ?_
  intro T624 W625
  refine Go.by (fun _ q9 => XS.ifYes W625.here W625.hx rfl (pc0 := 37) (pc' := 44) rfl (hb hby dc33_37) rfl ((if0 _ _).trans (teq (by decide)).1) (by decide) (by decide) q9) ?_
  refine Go.by (fun _ q9 => XS.aloadN W625.here W625.hx rfl (hb hby dc33_44) rfl rfl q9) ?_
  show Go _ _ _ _ _ _ _ _ _ (T624.setTop (mkF m 45 #[.val (.ref al), .unset] [(.ref al)]))
  refine W625.callF (xi := N37) (y := N23) (wd258 hw) (wd259 hw) (wd260 hw) (wd261 hw) (wd262 hw) (wd263 hw) (wd264 hw) (wd158 hw) (wd108 hw) (wd265 hw) (by decide) E_a (a := al) (c_toarr_2 l Z a0 hw hEL h0 hE0 al r mr kr s0 s1 FD FS MR E_r A_r E_s0 E_s1) all0 (by decide) (by decide) (k' := 1) (n' := 2) rfl rfl (by decide) (by decide) (by rw [hml]; rfl) (argsL := []) (rest := []) (lenOf pd_9 rfl) rfl rfl (Wt := 0) (Nat.le_of_eq rfl) (hb hby dc33_45) ?_
  intro v_ T626 h628 W627 hq_
  obtain ⟨ca, kc, rfl, X1, g1, E1, A1⟩ := hq_
  show Go _ _ _ _ _ _ _ _ _ (T626.setTop (mkF m 50 #[.val (.ref al), .unset] [(.ref ca)]))
  refine W627.callS (y := N30) (wd288 hw) (wd289 hw) (wd139 hw) (wd290 hw) (by decide) (c_lof_2 l Z a0 hw hEL h628 W627.old ca emp kc s0 s1 SM EM A1 (E_s0.ext X1) (E_s1.ext X1)) all0 (by decide) (by decide) (k' := 3) (n' := 7) rfl rfl (by decide) (by decide) (by rw [hml]; rfl) (argsL := [(.ref ca)]) (rest := []) (lenOf pd_17 rfl) rfl rfl (Wt := 0) (Nat.le_of_eq rfl) (hb hby dc33_50) ?_
  intro v_ T629 h631 W630 hq_
  obtain ⟨lst, rfl, X2, q1⟩ := hq_
  show Go _ _ _ _ _ _ _ _ _ (T629.setTop (mkF m 53 #[.val (.ref al), .unset] [(.ref lst)]))
  have X632 : Ext h0 h631 := (Ext.trans' X1 X2)
  exact W630.retA (by decide) (by decide) hret rfl rfl (hb hby dc33_53) ⟨lst, rfl, X632, q1⟩
theorem c_cof_2 (hw : HW Z a0) (hEL : EW Z a0 EL_) (h0 : Heap) (hE0 : Ext Z.heap h0) (al el ee emp : Addr) (kee : ClassId) (r mr : Addr) (kr : ClassId) (s0 s1 : Addr) (E_a : Exa Z h0 al cAL) (FS : Fld Z h0 al cAL "size" "I" (.int 2)) (SL : Sta Z Z.heap cIC "EMPTY_LIST" "Ljava/util/ImmutableCollections$ListN;" (.ref el)) (EL0 : Exa Z Z.heap el cLN) (FE0 : Fld Z Z.heap el cLN "elements" "[Ljava/lang/Object;" (.ref ee)) (AE0 : Arv Z Z.heap ee kee (.object "java/lang/Object") 0 [] .null) (SM : Sta Z Z.heap cIC "EMPTY" "Ljava/lang/Object;" (.ref emp)) (EM : Exa Z Z.heap emp "java/lang/Object") (FD : Fld Z h0 al cAL "elementData" "[Ljava/lang/Object;" (.ref r)) (MR : MirA Z "[Ljava/lang/Object;" mr) (E_r : Exa Z h0 r "[Ljava/lang/Object;") (A_r : Arv Z h0 r kr (.object "java/lang/Object") 10 [(.ref s0), (.ref s1)] .null) (E_s0 : Exa Z h0 s0 cSC) (E_s1 : Exa Z h0 s1 cSC) :
    Con l Z EL_ [] N35 jdk_40_method_48_code 1 (some (.object "java/util/List")) [] (⟨8, 3, 8, 125⟩ : Room) #[(.ref al)] h0 (fun v h' => ∃ lst, v = some (.ref lst) ∧ Ext h0 h' ∧ Exa Z h' lst cL2 ∧ Fld Z h' lst cL2 "e0" "Ljava/lang/Object;" (.ref s0) ∧ Fld Z h' lst cL2 "e1" "Ljava/lang/Object;" (.ref s1)) := by
  refine Con.mk (plainFor_of_name pn_19) hEL hE0 (fun x hx => by cases hx) ?_
  intro p e s m below meth c T0 hby hml hret hnm W0
  rw [(show entryFrame m #[(.ref al)] 1 = mkF m 0 #[.val (.ref al)] [] from by first | (simp [entryFrame, mkF, argsToLocals, Value.category]; done) | rfl)]
  refine Go.by (fun _ q9 => XS.aloadN W0.here W0.hx rfl (hb hby dc34_0) rfl rfl q9) ?_
  show Go _ _ _ _ _ _ _ _ _ (T0.setTop (mkF m 1 #[.val (.ref al)] [(.ref al)]))
  refine W0.callS (y := N34) (wd141 hw) (wd142 hw) (wd143 hw) (wd144 hw) (by decide) (c_lc_2 l Z a0 hw hEL h0 hE0 al el ee emp kee r mr kr s0 s1  E_a FS SL EL0 FE0 AE0 SM EM FD MR E_r A_r E_s0 E_s1) all0 (by decide) (by decide) (k' := 3) (n' := 8) rfl rfl (by decide) (by decide) (by rw [hml]; rfl) (argsL := [(.ref al)]) (rest := []) (lenOf pd_20 rfl) rfl rfl (Wt := 0) (Nat.le_of_eq rfl) (hb hby dc34_1) ?_
  intro v_ T633 h635 W634 hq_
  obtain ⟨lst, rfl, X1, q1⟩ := hq_
  show Go _ _ _ _ _ _ _ _ _ (T633.setTop (mkF m 4 #[.val (.ref al)] [(.ref lst)]))
  exact W634.retA (by decide) (by decide) hret rfl rfl (hb hby dc34_4) ⟨lst, rfl, X1, q1⟩
theorem c_fssinit_2 (hw : HW Z a0) (hEL : EW Z a0 EL_) (h0 : Heap) (hE0 : Ext Z.heap h0) (x : Addr) (al el ee emp : Addr) (kee : ClassId) (r mr : Addr) (kr : ClassId) (s0 s1 : Addr) (E_x : Exa Z h0 x cFF) (F_schemes : Fld Z h0 x cFF "schemes" "Ljava/util/List;" .null) (z_x : Z.heap.size ≤ x) (E_a : Exa Z h0 al cAL) (FS : Fld Z h0 al cAL "size" "I" (.int 2)) (SL : Sta Z Z.heap cIC "EMPTY_LIST" "Ljava/util/ImmutableCollections$ListN;" (.ref el)) (EL0 : Exa Z Z.heap el cLN) (FE0 : Fld Z Z.heap el cLN "elements" "[Ljava/lang/Object;" (.ref ee)) (AE0 : Arv Z Z.heap ee kee (.object "java/lang/Object") 0 [] .null) (SM : Sta Z Z.heap cIC "EMPTY" "Ljava/lang/Object;" (.ref emp)) (EM : Exa Z Z.heap emp "java/lang/Object") (FD : Fld Z h0 al cAL "elementData" "[Ljava/lang/Object;" (.ref r)) (MR : MirA Z "[Ljava/lang/Object;" mr) (E_r : Exa Z h0 r "[Ljava/lang/Object;") (A_r : Arv Z h0 r kr (.object "java/lang/Object") 10 [(.ref s0), (.ref s1)] .null) (E_s0 : Exa Z h0 s0 cSC) (E_s1 : Exa Z h0 s1 cSC) :
    Con l Z EL_ [x] N36 prog_26_method_1_code 2 none [] (⟨9, 3, 8, 140⟩ : Room) #[(.ref x), (.ref al)] h0 (fun v h' => ∃ lst, v = none ∧ Keep h0 h' [x] ∧ Exa Z h' x cFF ∧ Fld Z h' x cFF "schemes" "Ljava/util/List;" (.ref lst) ∧ Exa Z h' lst cL2 ∧ Fld Z h' lst cL2 "e0" "Ljava/lang/Object;" (.ref s0) ∧ Fld Z h' lst cL2 "e1" "Ljava/lang/Object;" (.ref s1)) := by
  refine Con.mk (plainFor_of_name pn_20) hEL hE0 (allS E_x.lt all0) ?_
  intro p e s m below meth c T0 hby hml hret hnm W0
  rw [(show entryFrame m #[(.ref x), (.ref al)] 2 = mkF m 0 #[.val (.ref x), .val (.ref al)] [] from by first | (simp [entryFrame, mkF, argsToLocals, Value.category]; done) | rfl)]
  refine Go.by (fun _ q9 => XS.aloadN W0.here W0.hx rfl (hb hby dc35_0) rfl rfl q9) ?_
  show Go _ _ _ _ _ _ _ _ _ (T0.setTop (mkF m 1 #[.val (.ref x), .val (.ref al)] [(.ref x)]))
  refine W0.callIp (y := N3) rfl (wd136 hw) (wd46 hw) (wd48 hw) (wd49 hw) (by decide) (a := x) (c_recinit l Z a0 hw hEL h0 hE0 x) all0 (by decide) (by decide) (k' := 0) (n' := 0) rfl rfl (by decide) (by decide) (by rw [hml]; rfl) (argsL := []) (rest := []) (lenOf pd_4 rfl) rfl rfl (Wt := 0) (Nat.le_of_eq rfl) (hb hby dc35_1) ?_
  intro T636 W637
  refine Go.by (fun _ q9 => XS.aloadN W637.here W637.hx rfl (hb hby dc35_4) rfl rfl q9) ?_
  show Go _ _ _ _ _ _ _ _ _ (T636.setTop (mkF m 5 #[.val (.ref x), .val (.ref al)] [(.ref al)]))
  refine W637.callS (y := N35) (wd137 hw) (wd138 hw) (wd139 hw) (wd140 hw) (by decide) (c_cof_2 l Z a0 hw hEL h0 hE0 al el ee emp kee r mr kr s0 s1  E_a FS SL EL0 FE0 AE0 SM EM FD MR E_r A_r E_s0 E_s1) all0 (by decide) (by decide) (k' := 3) (n' := 8) rfl rfl (by decide) (by decide) (by rw [hml]; rfl) (argsL := [(.ref al)]) (rest := []) (lenOf pd_20 rfl) rfl rfl (Wt := 0) (Nat.le_of_eq rfl) (hb hby dc35_5) ?_
  intro v_ T638 h640 W639 hq_
  obtain ⟨lst, rfl, X1, q1⟩ := hq_
  obtain ⟨q1, q2, q3⟩ := q1
  show Go _ _ _ _ _ _ _ _ _ (T638.setTop (mkF m 8 #[.val (.ref x), .val (.ref al)] [(.ref lst)]))
  refine Go.by (fun _ q9 => XS.astoreN W639.here W639.hx rfl (hb hby dc35_8) rfl rfl (l' := #[.val (.ref x), .val (.ref lst)]) rfl (XS.aloadN W639.here W639.hx rfl (hb hby dc35_9) rfl rfl (XS.aloadN W639.here W639.hx rfl (hb hby dc35_10) rfl rfl q9))) ?_
  show Go _ _ _ _ _ _ _ _ _ (T638.setTop (mkF m 11 #[.val (.ref x), .val (.ref lst)] [(.ref lst), (.ref x)]))
  refine W639.putf (host := "") (Or.inl (wd166 hw)) Via.refl (F_schemes.ext X1) (E_x.ext X1) (Or.inr ⟨(wd167 hw), rfl, hnm⟩) (wd131 hw) (ty := (.object "java/util/List")) (by decide) rfl rfl z_x (m_ 0) (hb hby dc35_11) ?_
  intro T641 h642 W643 Wr644
  have F645 : Fld Z h642 x cFF "schemes" "Ljava/util/List;" (.ref lst) := (F_schemes.ext X1).same Wr644
  have A646 : Exa Z h642 x cFF := (E_x.ext X1).wr Wr644
  show Go _ _ _ _ _ _ _ _ _ (T641.setTop (mkF m 14 #[.val (.ref x), .val (.ref lst)] []))
  exact W643.retV (by decide) (by decide) hret (hb hby dc35_14) ⟨lst, rfl, (((Keep.refl h0 [x]).ext X1).wr Wr644 (Or.inl (m_ 0))), A646, F645, (q1.wr Wr644), (q2.other Wr644 (Or.inl (Exa.ne q1 (E_x.ext X1) (by decide)))), (q3.other Wr644 (Or.inl (Exa.ne q1 (E_x.ext X1) (by decide))))⟩
theorem c_lc_3 (hw : HW Z a0) (hEL : EW Z a0 EL_) (h0 : Heap) (hE0 : Ext Z.heap h0) (al el ee emp : Addr) (kee : ClassId) (r mr : Addr) (kr : ClassId) (s0 s1 s2 : Addr) (E_a : Exa Z h0 al cAL) (FS : Fld Z h0 al cAL "size" "I" (.int 3)) (SL : Sta Z Z.heap cIC "EMPTY_LIST" "Ljava/util/ImmutableCollections$ListN;" (.ref el)) (EL0 : Exa Z Z.heap el cLN) (FE0 : Fld Z Z.heap el cLN "elements" "[Ljava/lang/Object;" (.ref ee)) (AE0 : Arv Z Z.heap ee kee (.object "java/lang/Object") 0 [] .null) (SM : Sta Z Z.heap cIC "EMPTY" "Ljava/lang/Object;" (.ref emp)) (EM : Exa Z Z.heap emp "java/lang/Object") (FD : Fld Z h0 al cAL "elementData" "[Ljava/lang/Object;" (.ref r)) (MR : MirA Z "[Ljava/lang/Object;" mr) (E_r : Exa Z h0 r "[Ljava/lang/Object;") (A_r : Arv Z h0 r kr (.object "java/lang/Object") 10 [(.ref s0), (.ref s1), (.ref s2)] .null) (E_s0 : Exa Z h0 s0 cSC) (E_s1 : Exa Z h0 s1 cSC) (E_s2 : Exa Z h0 s2 cSC) :
    Con l Z EL_ [] N34 jdk_56_method_3_code 2 (some (.object "java/util/List")) [] (⟨7, 3, 8, 110⟩ : Room) #[(.ref al)] h0 (fun v h' => ∃ lst, v = some (.ref lst) ∧ Ext h0 h' ∧ (∃ ea ke, Exa Z h' lst cLN ∧ Fld Z h' lst cLN "elements" "[Ljava/lang/Object;" (.ref ea) ∧ Arv Z h' ea ke (.object "java/lang/Object") 3 [(.ref s0), (.ref s1), (.ref s2)] .null)) := by
  refine Con.mk (plainFor_of_name pn_18) hEL hE0 (fun x hx => by cases hx) ?_
  intro p e s m below meth c T0 hby hml hret hnm W0
  rw [(show entryFrame m #[(.ref al)] 2 = mkF m 0 #[.val (.ref al), .unset] [] from by first | (simp [entryFrame, mkF, argsToLocals, Value.category]; done) | rfl)]
  refine Go.by (fun _ q9 => XS.aloadN W0.here W0.hx rfl (hb hby dc33_0) rfl rfl q9) ?_
  show Go _ _ _ _ _ _ _ _ _ (T0.setTop (mkF m 1 #[.val (.ref al), .unset] [(.ref al)]))
  refine W0.instNo (wd145 hw) E_a (ns_no (wd146 hw) (wd292 hw) (NS.step (wd146 hw) (NS.step (wd147 hw) (NS.step (wd148 hw) (ns_root (wd149 hw) (wd292 hw) (by decide)) (by decide)) (by decide)) (by decide)) (by decide)) (hb hby dc33_1) ?_
  intro T647 W648
  refine Go.by (fun _ q9 => XS.ifNo W648.here W648.hx rfl (hb hby dc33_4) rfl ((if0 _ _).trans (teq rfl).2) q9) ?_
  refine Go.by (fun _ q9 => XS.aloadN W648.here W648.hx rfl (hb hby dc33_7) rfl rfl q9) ?_
  show Go _ _ _ _ _ _ _ _ _ (T647.setTop (mkF m 8 #[.val (.ref al), .unset] [(.ref al)]))
  refine W648.instNo (wd150 hw) E_a (ns_no (wd146 hw) (wd383 hw) (NS.step (wd146 hw) (NS.step (wd147 hw) (NS.step (wd148 hw) (ns_root (wd149 hw) (wd383 hw) (by decide)) (by decide)) (by decide)) (by decide)) (by decide)) (hb hby dc33_8) ?_
  intro T649 W650
  refine Go.by (fun _ q9 => XS.ifYes W650.here W650.hx rfl (pc0 := 11) (pc' := 31) rfl (hb hby dc33_11) rfl ((if0 _ _).trans (teq rfl).1) (by decide) (by decide) q9) ?_
  refine Go.by (fun _ q9 => XS.aloadN W650.here W650.hx rfl (hb hby dc33_31) rfl rfl q9) ?_
  show Go _ _ _ _ _ _ _ _ _ (T649.setTop (mkF m 32 #[.val (.ref al), .unset] [(.ref al)]))
  refine W650.callFp (xi := N33) (y := N32) (wd151 hw) (wd152 hw) (wd153 hw) (wd154 hw) (wd155 hw) (wd156 hw) (wd157 hw) (wd158 hw) (wd108 hw) (wd159 hw) (by decide) E_a (a := al) (c_isempty l Z a0 hw hEL h0 hE0 al (3 : Int32) FS) all0 (by decide) (by decide) (k' := 0) (n' := 0) rfl rfl (by decide) (by decide) (by rw [hml]; rfl) (argsL := []) (rest := []) (lenOf pd_18 rfl) rfl rfl (Wt := 0) (Nat.le_of_eq rfl) (hb hby dc33_32) ?_
  intro T651 W652
  refine Go.by (fun _ q9 => XS.ifYes W652.here W652.hx rfl (pc0 := 37) (pc' := 44) rfl (hb hby dc33_37) rfl ((if0 _ _).trans (teq (by decide)).1) (by decide) (by decide) q9) ?_
  refine Go.by (fun _ q9 => XS.aloadN W652.here W652.hx rfl (hb hby dc33_44) rfl rfl q9) ?_
  show Go _ _ _ _ _ _ _ _ _ (T651.setTop (mkF m 45 #[.val (.ref al), .unset] [(.ref al)]))
  refine W652.callF (xi := N37) (y := N23) (wd258 hw) (wd259 hw) (wd260 hw) (wd261 hw) (wd262 hw) (wd263 hw) (wd264 hw) (wd158 hw) (wd108 hw) (wd265 hw) (by decide) E_a (a := al) (c_toarr_3 l Z a0 hw hEL h0 hE0 al r mr kr s0 s1 s2 FD FS MR E_r A_r E_s0 E_s1 E_s2) all0 (by decide) (by decide) (k' := 1) (n' := 3) rfl rfl (by decide) (by decide) (by rw [hml]; rfl) (argsL := []) (rest := []) (lenOf pd_9 rfl) rfl rfl (Wt := 0) (Nat.le_of_eq rfl) (hb hby dc33_45) ?_
  intro v_ T653 h655 W654 hq_
  obtain ⟨ca, kc, rfl, X1, g1, E1, A1⟩ := hq_
  show Go _ _ _ _ _ _ _ _ _ (T653.setTop (mkF m 50 #[.val (.ref al), .unset] [(.ref ca)]))
  refine W654.callS (y := N30) (wd288 hw) (wd289 hw) (wd139 hw) (wd290 hw) (by decide) (c_lof_3 l Z a0 hw hEL h655 W654.old ca emp kc s0 s1 s2 SM EM A1 (E_s0.ext X1) (E_s1.ext X1) (E_s2.ext X1)) all0 (by decide) (by decide) (k' := 3) (n' := 8) rfl rfl (by decide) (by decide) (by rw [hml]; rfl) (argsL := [(.ref ca)]) (rest := []) (lenOf pd_17 rfl) rfl rfl (Wt := 0) (Nat.le_of_eq rfl) (hb hby dc33_50) ?_
  intro v_ T656 h658 W657 hq_
  obtain ⟨lst, rfl, X2, q1⟩ := hq_
  show Go _ _ _ _ _ _ _ _ _ (T656.setTop (mkF m 53 #[.val (.ref al), .unset] [(.ref lst)]))
  have X659 : Ext h0 h658 := (Ext.trans' X1 X2)
  exact W657.retA (by decide) (by decide) hret rfl rfl (hb hby dc33_53) ⟨lst, rfl, X659, q1⟩
theorem c_cof_3 (hw : HW Z a0) (hEL : EW Z a0 EL_) (h0 : Heap) (hE0 : Ext Z.heap h0) (al el ee emp : Addr) (kee : ClassId) (r mr : Addr) (kr : ClassId) (s0 s1 s2 : Addr) (E_a : Exa Z h0 al cAL) (FS : Fld Z h0 al cAL "size" "I" (.int 3)) (SL : Sta Z Z.heap cIC "EMPTY_LIST" "Ljava/util/ImmutableCollections$ListN;" (.ref el)) (EL0 : Exa Z Z.heap el cLN) (FE0 : Fld Z Z.heap el cLN "elements" "[Ljava/lang/Object;" (.ref ee)) (AE0 : Arv Z Z.heap ee kee (.object "java/lang/Object") 0 [] .null) (SM : Sta Z Z.heap cIC "EMPTY" "Ljava/lang/Object;" (.ref emp)) (EM : Exa Z Z.heap emp "java/lang/Object") (FD : Fld Z h0 al cAL "elementData" "[Ljava/lang/Object;" (.ref r)) (MR : MirA Z "[Ljava/lang/Object;" mr) (E_r : Exa Z h0 r "[Ljava/lang/Object;") (A_r : Arv Z h0 r kr (.object "java/lang/Object") 10 [(.ref s0), (.ref s1), (.ref s2)] .null) (E_s0 : Exa Z h0 s0 cSC) (E_s1 : Exa Z h0 s1 cSC) (E_s2 : Exa Z h0 s2 cSC) :
    Con l Z EL_ [] N35 jdk_40_method_48_code 1 (some (.object "java/util/List")) [] (⟨8, 3, 8, 125⟩ : Room) #[(.ref al)] h0 (fun v h' => ∃ lst, v = some (.ref lst) ∧ Ext h0 h' ∧ (∃ ea ke, Exa Z h' lst cLN ∧ Fld Z h' lst cLN "elements" "[Ljava/lang/Object;" (.ref ea) ∧ Arv Z h' ea ke (.object "java/lang/Object") 3 [(.ref s0), (.ref s1), (.ref s2)] .null)) := by
  refine Con.mk (plainFor_of_name pn_19) hEL hE0 (fun x hx => by cases hx) ?_
  intro p e s m below meth c T0 hby hml hret hnm W0
  rw [(show entryFrame m #[(.ref al)] 1 = mkF m 0 #[.val (.ref al)] [] from by first | (simp [entryFrame, mkF, argsToLocals, Value.category]; done) | rfl)]
  refine Go.by (fun _ q9 => XS.aloadN W0.here W0.hx rfl (hb hby dc34_0) rfl rfl q9) ?_
  show Go _ _ _ _ _ _ _ _ _ (T0.setTop (mkF m 1 #[.val (.ref al)] [(.ref al)]))
  refine W0.callS (y := N34) (wd141 hw) (wd142 hw) (wd143 hw) (wd144 hw) (by decide) (c_lc_3 l Z a0 hw hEL h0 hE0 al el ee emp kee r mr kr s0 s1 s2  E_a FS SL EL0 FE0 AE0 SM EM FD MR E_r A_r E_s0 E_s1 E_s2) all0 (by decide) (by decide) (k' := 3) (n' := 8) rfl rfl (by decide) (by decide) (by rw [hml]; rfl) (argsL := [(.ref al)]) (rest := []) (lenOf pd_20 rfl) rfl rfl (Wt := 0) (Nat.le_of_eq rfl) (hb hby dc34_1) ?_
  intro v_ T660 h662 W661 hq_
  obtain ⟨lst, rfl, X1, q1⟩ := hq_
  show Go _ _ _ _ _ _ _ _ _ (T660.setTop (mkF m 4 #[.val (.ref al)] [(.ref lst)]))
  exact W661.retA (by decide) (by decide) hret rfl rfl (hb hby dc34_4) ⟨lst, rfl, X1, q1⟩
theorem c_fssinit_3 (hw : HW Z a0) (hEL : EW Z a0 EL_) (h0 : Heap) (hE0 : Ext Z.heap h0) (x : Addr) (al el ee emp : Addr) (kee : ClassId) (r mr : Addr) (kr : ClassId) (s0 s1 s2 : Addr) (E_x : Exa Z h0 x cFF) (F_schemes : Fld Z h0 x cFF "schemes" "Ljava/util/List;" .null) (z_x : Z.heap.size ≤ x) (E_a : Exa Z h0 al cAL) (FS : Fld Z h0 al cAL "size" "I" (.int 3)) (SL : Sta Z Z.heap cIC "EMPTY_LIST" "Ljava/util/ImmutableCollections$ListN;" (.ref el)) (EL0 : Exa Z Z.heap el cLN) (FE0 : Fld Z Z.heap el cLN "elements" "[Ljava/lang/Object;" (.ref ee)) (AE0 : Arv Z Z.heap ee kee (.object "java/lang/Object") 0 [] .null) (SM : Sta Z Z.heap cIC "EMPTY" "Ljava/lang/Object;" (.ref emp)) (EM : Exa Z Z.heap emp "java/lang/Object") (FD : Fld Z h0 al cAL "elementData" "[Ljava/lang/Object;" (.ref r)) (MR : MirA Z "[Ljava/lang/Object;" mr) (E_r : Exa Z h0 r "[Ljava/lang/Object;") (A_r : Arv Z h0 r kr (.object "java/lang/Object") 10 [(.ref s0), (.ref s1), (.ref s2)] .null) (E_s0 : Exa Z h0 s0 cSC) (E_s1 : Exa Z h0 s1 cSC) (E_s2 : Exa Z h0 s2 cSC) :
    Con l Z EL_ [x] N36 prog_26_method_1_code 2 none [] (⟨9, 3, 8, 140⟩ : Room) #[(.ref x), (.ref al)] h0 (fun v h' => ∃ lst, v = none ∧ Keep h0 h' [x] ∧ Exa Z h' x cFF ∧ Fld Z h' x cFF "schemes" "Ljava/util/List;" (.ref lst) ∧ (∃ ea ke, Exa Z h' lst cLN ∧ Fld Z h' lst cLN "elements" "[Ljava/lang/Object;" (.ref ea) ∧ Arv Z h' ea ke (.object "java/lang/Object") 3 [(.ref s0), (.ref s1), (.ref s2)] .null)) := by
  refine Con.mk (plainFor_of_name pn_20) hEL hE0 (allS E_x.lt all0) ?_
  intro p e s m below meth c T0 hby hml hret hnm W0
  rw [(show entryFrame m #[(.ref x), (.ref al)] 2 = mkF m 0 #[.val (.ref x), .val (.ref al)] [] from by first | (simp [entryFrame, mkF, argsToLocals, Value.category]; done) | rfl)]
  refine Go.by (fun _ q9 => XS.aloadN W0.here W0.hx rfl (hb hby dc35_0) rfl rfl q9) ?_
  show Go _ _ _ _ _ _ _ _ _ (T0.setTop (mkF m 1 #[.val (.ref x), .val (.ref al)] [(.ref x)]))
  refine W0.callIp (y := N3) rfl (wd136 hw) (wd46 hw) (wd48 hw) (wd49 hw) (by decide) (a := x) (c_recinit l Z a0 hw hEL h0 hE0 x) all0 (by decide) (by decide) (k' := 0) (n' := 0) rfl rfl (by decide) (by decide) (by rw [hml]; rfl) (argsL := []) (rest := []) (lenOf pd_4 rfl) rfl rfl (Wt := 0) (Nat.le_of_eq rfl) (hb hby dc35_1) ?_
  intro T663 W664
  refine Go.by (fun _ q9 => XS.aloadN W664.here W664.hx rfl (hb hby dc35_4) rfl rfl q9) ?_
  show Go _ _ _ _ _ _ _ _ _ (T663.setTop (mkF m 5 #[.val (.ref x), .val (.ref al)] [(.ref al)]))
  refine W664.callS (y := N35) (wd137 hw) (wd138 hw) (wd139 hw) (wd140 hw) (by decide) (c_cof_3 l Z a0 hw hEL h0 hE0 al el ee emp kee r mr kr s0 s1 s2  E_a FS SL EL0 FE0 AE0 SM EM FD MR E_r A_r E_s0 E_s1 E_s2) all0 (by decide) (by decide) (k' := 3) (n' := 8) rfl rfl (by decide) (by decide) (by rw [hml]; rfl) (argsL := [(.ref al)]) (rest := []) (lenOf pd_20 rfl) rfl rfl (Wt := 0) (Nat.le_of_eq rfl) (hb hby dc35_5) ?_
  intro v_ T665 h667 W666 hq_
  obtain ⟨lst, rfl, X1, q1⟩ := hq_
  obtain ⟨ea, ke, q1, q2, q3⟩ := q1
  have ne1 : ea ≠ x := Ne.symm (Exa.neArv (E_x.ext X1) q3 (wd131 hw))
  show Go _ _ _ _ _ _ _ _ _ (T665.setTop (mkF m 8 #[.val (.ref x), .val (.ref al)] [(.ref lst)]))
  refine Go.by (fun _ q9 => XS.astoreN W666.here W666.hx rfl (hb hby dc35_8) rfl rfl (l' := #[.val (.ref x), .val (.ref lst)]) rfl (XS.aloadN W666.here W666.hx rfl (hb hby dc35_9) rfl rfl (XS.aloadN W666.here W666.hx rfl (hb hby dc35_10) rfl rfl q9))) ?_
  show Go _ _ _ _ _ _ _ _ _ (T665.setTop (mkF m 11 #[.val (.ref x), .val (.ref lst)] [(.ref lst), (.ref x)]))
  refine W666.putf (host := "") (Or.inl (wd166 hw)) Via.refl (F_schemes.ext X1) (E_x.ext X1) (Or.inr ⟨(wd167 hw), rfl, hnm⟩) (wd131 hw) (ty := (.object "java/util/List")) (by decide) rfl rfl z_x (m_ 0) (hb hby dc35_11) ?_
  intro T668 h669 W670 Wr671
  have F672 : Fld Z h669 x cFF "schemes" "Ljava/util/List;" (.ref lst) := (F_schemes.ext X1).same Wr671
  have A673 : Exa Z h669 x cFF := (E_x.ext X1).wr Wr671
  show Go _ _ _ _ _ _ _ _ _ (T668.setTop (mkF m 14 #[.val (.ref x), .val (.ref lst)] []))
  exact W670.retV (by decide) (by decide) hret (hb hby dc35_14) ⟨lst, rfl, (((Keep.refl h0 [x]).ext X1).wr Wr671 (Or.inl (m_ 0))), A673, F672, ea, ke, (q1.wr Wr671), (q2.other Wr671 (Or.inl (Exa.ne q1 (E_x.ext X1) (by decide)))), (q3.other Wr671 ne1)⟩
theorem c_liinit (hw : HW Z a0) (hEL : EW Z a0 EL_) (h0 : Heap) (hE0 : Ext Z.heap h0) (x lst : Addr) (n : Int32) (E_x : Exa Z h0 x cLI) (F_list : Fld Z h0 x cLI "list" "Ljava/util/List;" .null) (F_size : Fld Z h0 x cLI "size" "I" (.int 0)) (F_cursor : Fld Z h0 x cLI "cursor" "I" (.int 0)) (F_isListIterator : Fld Z h0 x cLI "isListIterator" "Z" (.int 0)) (z_x : Z.heap.size ≤ x) :
    Con l Z EL_ [x] N38 jdk_53_method_1_code 3 none [] (⟨1, 0, 0, 12⟩ : Room) #[(.ref x), (.ref lst), (.int n)] h0 (fun v h' => v = none ∧ Keep h0 h' [x] ∧ Exa Z h' x cLI ∧ Fld Z h' x cLI "list" "Ljava/util/List;" (.ref lst) ∧ Fld Z h' x cLI "size" "I" (.int n) ∧ Fld Z h' x cLI "cursor" "I" (.int 0)) := by
  refine Con.mk (plainFor_of_name pn_21) hEL hE0 (allS E_x.lt all0) ?_
  intro p e s m below meth c T0 hby hml hret hnm W0
  rw [(show entryFrame m #[(.ref x), (.ref lst), (.int n)] 3 = mkF m 0 #[.val (.ref x), .val (.ref lst), .val (.int n)] [] from by first | (simp [entryFrame, mkF, argsToLocals, Value.category]; done) | rfl)]
  refine Go.by (fun _ q9 => XS.aloadN W0.here W0.hx rfl (hb hby dc36_0) rfl rfl q9) ?_
  show Go _ _ _ _ _ _ _ _ _ (T0.setTop (mkF m 1 #[.val (.ref x), .val (.ref lst), .val (.int n)] [(.ref x)]))
  refine W0.initO (wd199 hw) (wd16 hw) (wd17 hw) (by rw [hml]; rfl) (hb hby dc36_1) (by decide) (Wt := 0) (Nat.le_of_eq rfl) (by decide) ?_
  intro T674 W675
  refine Go.by (fun _ q9 => XS.aloadN W675.here W675.hx rfl (hb hby dc36_4) rfl rfl (XS.aloadN W675.here W675.hx rfl (hb hby dc36_5) rfl rfl q9)) ?_
  show Go _ _ _ _ _ _ _ _ _ (T674.setTop (mkF m 6 #[.val (.ref x), .val (.ref lst), .val (.int n)] [(.ref lst), (.ref x)]))
  refine W675.putf (host := "") (Or.inl (wd200 hw)) Via.refl F_list E_x (Or.inr ⟨(wd201 hw), rfl, hnm⟩) (wd184 hw) (ty := (.object "java/util/List")) (by decide) rfl rfl z_x (m_ 0) (hb hby dc36_6) ?_
  intro T676 h677 W678 Wr679
  have F680 : Fld Z h677 x cLI "list" "Ljava/util/List;" (.ref lst) := F_list.same Wr679
  have F681 : Fld Z h677 x cLI "size" "I" (.int 0) := F_size.other Wr679 (Or.inr (slot_ne (Or.inr (wd203 hw)) (Or.inr (wd201 hw)) (by decide) (t := .int) (t' := (.object "java/util/List")) (by decide) (by decide)))
  have F682 : Fld Z h677 x cLI "cursor" "I" (.int 0) := F_cursor.other Wr679 (Or.inr (slot_ne (Or.inl (wd205 hw)) (Or.inr (wd201 hw)) (by decide) (t := .int) (t' := (.object "java/util/List")) (by decide) (by decide)))
  have F683 : Fld Z h677 x cLI "isListIterator" "Z" (.int 0) := F_isListIterator.other Wr679 (Or.inr (slot_ne (Or.inr (wd207 hw)) (Or.inr (wd201 hw)) (by decide) (t := .boolean) (t' := (.object "java/util/List")) (by decide) (by decide)))
  have A684 : Exa Z h677 x cLI := E_x.wr Wr679
  refine Go.by (fun _ q9 => XS.aloadN W678.here W678.hx rfl (hb hby dc36_9) rfl rfl (XS.iloadN W678.here W678.hx rfl (hb hby dc36_10) rfl q9)) ?_
  show Go _ _ _ _ _ _ _ _ _ (T676.setTop (mkF m 11 #[.val (.ref x), .val (.ref lst), .val (.int n)] [(.int n), (.ref x)]))
  refine W678.putf (host := "") (Or.inl (wd202 hw)) Via.refl F681 A684 (Or.inr ⟨(wd203 hw), rfl, hnm⟩) (wd184 hw) (ty := .int) (by decide) rfl rfl z_x (m_ 0) (hb hby dc36_11) ?_
  intro T685 h686 W687 Wr688
  have F689 : Fld Z h686 x cLI "size" "I" (.int n) := F681.same Wr688
  have F690 : Fld Z h686 x cLI "list" "Ljava/util/List;" (.ref lst) := F680.other Wr688 (Or.inr (slot_ne (Or.inr (wd201 hw)) (Or.inr (wd203 hw)) (by decide) (t := (.object "java/util/List")) (t' := .int) (by decide) (by decide)))
  have F691 : Fld Z h686 x cLI "cursor" "I" (.int 0) := F682.other Wr688 (Or.inr (slot_ne (Or.inl (wd205 hw)) (Or.inr (wd203 hw)) (by decide) (t := .int) (t' := .int) (by decide) (by decide)))
  have F692 : Fld Z h686 x cLI "isListIterator" "Z" (.int 0) := F683.other Wr688 (Or.inr (slot_ne (Or.inr (wd207 hw)) (Or.inr (wd203 hw)) (by decide) (t := .boolean) (t' := .int) (by decide) (by decide)))
  have A693 : Exa Z h686 x cLI := A684.wr Wr688
  refine Go.by (fun _ q9 => XS.aloadN W687.here W687.hx rfl (hb hby dc36_14) rfl rfl (XS.iconst W687.here W687.hx rfl (hb hby dc36_15) q9)) ?_
  show Go _ _ _ _ _ _ _ _ _ (T685.setTop (mkF m 16 #[.val (.ref x), .val (.ref lst), .val (.int n)] [(.int (0 : Int32)), (.ref x)]))
  refine W687.putf (host := "") (Or.inl (wd204 hw)) Via.refl F691 A693 (Or.inl (wd205 hw)) (wd184 hw) (ty := .int) (by decide) rfl rfl z_x (m_ 0) (hb hby dc36_16) ?_
  intro T694 h695 W696 Wr697
  have F698 : Fld Z h695 x cLI "cursor" "I" (.int (0 : Int32)) := F691.same Wr697
  have F699 : Fld Z h695 x cLI "list" "Ljava/util/List;" (.ref lst) := F690.other Wr697 (Or.inr (slot_ne (Or.inr (wd201 hw)) (Or.inl (wd205 hw)) (by decide) (t := (.object "java/util/List")) (t' := .int) (by decide) (by decide)))
  have F700 : Fld Z h695 x cLI "size" "I" (.int n) := F689.other Wr697 (Or.inr (slot_ne (Or.inr (wd203 hw)) (Or.inl (wd205 hw)) (by decide) (t := .int) (t' := .int) (by decide) (by decide)))
  have F701 : Fld Z h695 x cLI "isListIterator" "Z" (.int 0) := F692.other Wr697 (Or.inr (slot_ne (Or.inr (wd207 hw)) (Or.inl (wd205 hw)) (by decide) (t := .boolean) (t' := .int) (by decide) (by decide)))
  have A702 : Exa Z h695 x cLI := A693.wr Wr697
  refine Go.by (fun _ q9 => XS.aloadN W696.here W696.hx rfl (hb hby dc36_19) rfl rfl (XS.iconst W696.here W696.hx rfl (hb hby dc36_20) q9)) ?_
  show Go _ _ _ _ _ _ _ _ _ (T694.setTop (mkF m 21 #[.val (.ref x), .val (.ref lst), .val (.int n)] [(.int (0 : Int32)), (.ref x)]))
  refine W696.putf (host := "") (Or.inl (wd206 hw)) Via.refl F701 A702 (Or.inr ⟨(wd207 hw), rfl, hnm⟩) (wd184 hw) (ty := .boolean) (by decide) rfl rfl z_x (m_ 0) (hb hby dc36_21) ?_
  intro T703 h704 W705 Wr706
  have F707 : Fld Z h704 x cLI "isListIterator" "Z" (.int (0 : Int32)) := F701.same Wr706
  have F708 : Fld Z h704 x cLI "list" "Ljava/util/List;" (.ref lst) := F699.other Wr706 (Or.inr (slot_ne (Or.inr (wd201 hw)) (Or.inr (wd207 hw)) (by decide) (t := (.object "java/util/List")) (t' := .boolean) (by decide) (by decide)))
  have F709 : Fld Z h704 x cLI "size" "I" (.int n) := F700.other Wr706 (Or.inr (slot_ne (Or.inr (wd203 hw)) (Or.inr (wd207 hw)) (by decide) (t := .int) (t' := .boolean) (by decide) (by decide)))
  have F710 : Fld Z h704 x cLI "cursor" "I" (.int (0 : Int32)) := F698.other Wr706 (Or.inr (slot_ne (Or.inl (wd205 hw)) (Or.inr (wd207 hw)) (by decide) (t := .int) (t' := .boolean) (by decide) (by decide)))
  have A711 : Exa Z h704 x cLI := A702.wr Wr706
  show Go _ _ _ _ _ _ _ _ _ (T703.setTop (mkF m 24 #[.val (.ref x), .val (.ref lst), .val (.int n)] []))
  exact W705.retV (by decide) (by decide) hret (hb hby dc36_24) ⟨rfl, (((((Keep.refl h0 [x]).wr Wr679 (Or.inl (m_ 0))).wr Wr688 (Or.inl (m_ 0))).wr Wr697 (Or.inl (m_ 0))).wr Wr706 (Or.inl (m_ 0))), A711, F708, F709, F710⟩
theorem c_size_0 (hw : HW Z a0) (hEL : EW Z a0 EL_) (h0 : Heap) (hE0 : Ext Z.heap h0) (lst ea  : Addr) (ke : ClassId) (E_l : Exa Z h0 lst cLN) (F_e : Fld Z h0 lst cLN "elements" "[Ljava/lang/Object;" (.ref ea)) (A_e : Arv Z h0 ea ke (.object "java/lang/Object") 0 [] .null) :
    Con l Z EL_ [] N39 jdk_45_method_3_code 1 (some .int) [] (⟨0, 0, 0, 0⟩ : Room) #[(.ref lst)] h0 (fun v h' => v = (some (.int 0)) ∧ h' = h0) := by
  refine Con.mk (plainFor_of_name pn_17) hEL hE0 (fun x hx => by cases hx) ?_
  intro p e s m below meth c T0 hby hml hret hnm W0
  rw [(show entryFrame m #[(.ref lst)] 1 = mkF m 0 #[.val (.ref lst)] [] from by first | (simp [entryFrame, mkF, argsToLocals, Value.category]; done) | rfl)]
  refine Go.by (fun _ q9 => XS.aloadN W0.here W0.hx rfl (hb hby dc37_0) rfl rfl q9) ?_
  show Go _ _ _ _ _ _ _ _ _ (T0.setTop (mkF m 1 #[.val (.ref lst)] [(.ref lst)]))
  refine W0.getf (host := "") (Or.inl (wd193 hw)) Via.refl F_e (hb hby dc37_1) ?_
  intro T712 W713
  show Go _ _ _ _ _ _ _ _ _ (T712.setTop (mkF m 4 #[.val (.ref lst)] [(.ref ea)]))
  refine W713.alen A_e (hb hby dc37_4) ?_
  show Go _ _ _ _ _ _ _ _ _ (T712.setTop (mkF m 5 #[.val (.ref lst)] [(.int (0 : Int32))]))
  exact W713.retI (by decide) (by decide) hret (hb hby dc37_5) ⟨rfl, rfl⟩
theorem c_size_1 (hw : HW Z a0) (hEL : EW Z a0 EL_) (h0 : Heap) (hE0 : Ext Z.heap h0) (lst emp s0 : Addr) (E_l : Exa Z h0 lst cL2) (F_0 : Fld Z h0 lst cL2 "e0" "Ljava/lang/Object;" (.ref s0)) (F_1 : Fld Z h0 lst cL2 "e1" "Ljava/lang/Object;" (.ref emp)) (SM : Sta Z Z.heap cIC "EMPTY" "Ljava/lang/Object;" (.ref emp)) (EM : Exa Z Z.heap emp "java/lang/Object") :
    Con l Z EL_ [] N40 jdk_44_method_3_code 1 (some .int) [] (⟨0, 0, 0, 0⟩ : Room) #[(.ref lst)] h0 (fun v h' => v = (some (.int 1)) ∧ h' = h0) := by
  refine Con.mk (plainFor_of_name pn_16) hEL hE0 (fun x hx => by cases hx) ?_
  intro p e s m below meth c T0 hby hml hret hnm W0
  rw [(show entryFrame m #[(.ref lst)] 1 = mkF m 0 #[.val (.ref lst)] [] from by first | (simp [entryFrame, mkF, argsToLocals, Value.category]; done) | rfl)]
  refine Go.by (fun _ q9 => XS.aloadN W0.here W0.hx rfl (hb hby dc38_0) rfl rfl q9) ?_
  show Go _ _ _ _ _ _ _ _ _ (T0.setTop (mkF m 1 #[.val (.ref lst)] [(.ref lst)]))
  refine W0.getf (host := "") (Or.inl (wd317 hw)) Via.refl F_1 (hb hby dc38_1) ?_
  intro T714 W715
  show Go _ _ _ _ _ _ _ _ _ (T714.setTop (mkF m 4 #[.val (.ref lst)] [(.ref emp)]))
  refine W715.gets (Or.inr (wd316 hw)) Via.refl (SM.ext W715.old) (hb hby dc38_4) ?_
  intro T716 W717
  refine Go.by (fun _ q9 => acmpW W717 (g := (mkF m 7 #[.val (.ref lst)] [(.ref emp), (.ref emp)])) rfl rfl rfl (pc0 := 7) (pc' := 14) (same := true) rfl (hb hby dc38_7) rfl (decide_eq_true rfl) (by decide) (by decide) q9) ?_
  refine Go.by (fun _ q9 => XS.iconst W717.here W717.hx rfl (hb hby dc38_14) q9) ?_
  show Go _ _ _ _ _ _ _ _ _ (T716.setTop (mkF m 15 #[.val (.ref lst)] [(.int (1 : Int32))]))
  exact W717.retI (by decide) (by decide) hret (hb hby dc38_15) ⟨rfl, rfl⟩
theorem c_size_2 (hw : HW Z a0) (hEL : EW Z a0 EL_) (h0 : Heap) (hE0 : Ext Z.heap h0) (lst emp s0 s1 : Addr) (E_l : Exa Z h0 lst cL2) (F_0 : Fld Z h0 lst cL2 "e0" "Ljava/lang/Object;" (.ref s0)) (F_1 : Fld Z h0 lst cL2 "e1" "Ljava/lang/Object;" (.ref s1)) (SM : Sta Z Z.heap cIC "EMPTY" "Ljava/lang/Object;" (.ref emp)) (EM : Exa Z Z.heap emp "java/lang/Object") (E_s1 : Exa Z h0 s1 cSC) :
    Con l Z EL_ [] N40 jdk_44_method_3_code 1 (some .int) [] (⟨0, 0, 0, 0⟩ : Room) #[(.ref lst)] h0 (fun v h' => v = (some (.int 2)) ∧ h' = h0) := by
  refine Con.mk (plainFor_of_name pn_16) hEL hE0 (fun x hx => by cases hx) ?_
  intro p e s m below meth c T0 hby hml hret hnm W0
  rw [(show entryFrame m #[(.ref lst)] 1 = mkF m 0 #[.val (.ref lst)] [] from by first | (simp [entryFrame, mkF, argsToLocals, Value.category]; done) | rfl)]
  refine Go.by (fun _ q9 => XS.aloadN W0.here W0.hx rfl (hb hby dc38_0) rfl rfl q9) ?_
  show Go _ _ _ _ _ _ _ _ _ (T0.setTop (mkF m 1 #[.val (.ref lst)] [(.ref lst)]))
  refine W0.getf (host := "") (Or.inl (wd317 hw)) Via.refl F_1 (hb hby dc38_1) ?_
  intro T718 W719
  show Go _ _ _ _ _ _ _ _ _ (T718.setTop (mkF m 4 #[.val (.ref lst)] [(.ref s1)]))
  refine W719.gets (Or.inr (wd316 hw)) Via.refl (SM.ext W719.old) (hb hby dc38_4) ?_
  intro T720 W721
  refine Go.by (fun _ q9 => acmpW W721 (g := (mkF m 7 #[.val (.ref lst)] [(.ref emp), (.ref s1)])) rfl rfl rfl (pc0 := 7) (pc' := 10) (same := false) rfl (hb hby dc38_7) rfl (decide_eq_false (fun q => Exa.ne E_s1 (EM.ext W721.old) (by decide) (Value.ref.inj q))) (by decide) (by decide) q9) ?_
  refine Go.by (fun _ q9 => XS.iconst W721.here W721.hx rfl (hb hby dc38_10) (XS.goto W721.here W721.hx rfl (pc0 := 11) (pc' := 15) rfl (hb hby dc38_11) (by decide) (by decide) q9)) ?_
  show Go _ _ _ _ _ _ _ _ _ (T720.setTop (mkF m 15 #[.val (.ref lst)] [(.int (2 : Int32))]))
  exact W721.retI (by decide) (by decide) hret (hb hby dc38_15) ⟨rfl, rfl⟩
theorem c_size_3 (hw : HW Z a0) (hEL : EW Z a0 EL_) (h0 : Heap) (hE0 : Ext Z.heap h0) (lst ea s0 s1 s2 : Addr) (ke : ClassId) (E_l : Exa Z h0 lst cLN) (F_e : Fld Z h0 lst cLN "elements" "[Ljava/lang/Object;" (.ref ea)) (A_e : Arv Z h0 ea ke (.object "java/lang/Object") 3 [(.ref s0), (.ref s1), (.ref s2)] .null) :
    Con l Z EL_ [] N39 jdk_45_method_3_code 1 (some .int) [] (⟨0, 0, 0, 0⟩ : Room) #[(.ref lst)] h0 (fun v h' => v = (some (.int 3)) ∧ h' = h0) := by
  refine Con.mk (plainFor_of_name pn_17) hEL hE0 (fun x hx => by cases hx) ?_
  intro p e s m below meth c T0 hby hml hret hnm W0
  rw [(show entryFrame m #[(.ref lst)] 1 = mkF m 0 #[.val (.ref lst)] [] from by first | (simp [entryFrame, mkF, argsToLocals, Value.category]; done) | rfl)]
  refine Go.by (fun _ q9 => XS.aloadN W0.here W0.hx rfl (hb hby dc37_0) rfl rfl q9) ?_
  show Go _ _ _ _ _ _ _ _ _ (T0.setTop (mkF m 1 #[.val (.ref lst)] [(.ref lst)]))
  refine W0.getf (host := "") (Or.inl (wd193 hw)) Via.refl F_e (hb hby dc37_1) ?_
  intro T722 W723
  show Go _ _ _ _ _ _ _ _ _ (T722.setTop (mkF m 4 #[.val (.ref lst)] [(.ref ea)]))
  refine W723.alen A_e (hb hby dc37_4) ?_
  show Go _ _ _ _ _ _ _ _ _ (T722.setTop (mkF m 5 #[.val (.ref lst)] [(.int (3 : Int32))]))
  exact W723.retI (by decide) (by decide) hret (hb hby dc37_5) ⟨rfl, rfl⟩
theorem c_iter_0 (hw : HW Z a0) (hEL : EW Z a0 EL_) (h0 : Heap) (hE0 : Ext Z.heap h0) (lst ea  : Addr) (ke : ClassId) (E_l : Exa Z h0 lst cLN) (F_e : Fld Z h0 lst cLN "elements" "[Ljava/lang/Object;" (.ref ea)) (A_e : Arv Z h0 ea ke (.object "java/lang/Object") 0 [] .null) :
    Con l Z EL_ [] N42 jdk_46_method_10_code 1 (some (.object "java/util/Iterator")) [] (⟨2, 1, 4, 30⟩ : Room) #[(.ref lst)] h0 (fun v h' => ∃ it, v = some (.ref it) ∧ Ext h0 h' ∧ h0.size ≤ it ∧ Exa Z h' it cLI ∧ Fld Z h' it cLI "list" "Ljava/util/List;" (.ref lst) ∧ Fld Z h' it cLI "size" "I" (.int 0) ∧ Fld Z h' it cLI "cursor" "I" (.int 0)) := by
  refine Con.mk (plainFor_of_name pn_15) hEL hE0 (fun x hx => by cases hx) ?_
  intro p e s m below meth c T0 hby hml hret hnm W0
  rw [(show entryFrame m #[(.ref lst)] 1 = mkF m 0 #[.val (.ref lst)] [] from by first | (simp [entryFrame, mkF, argsToLocals, Value.category]; done) | rfl)]
  refine W0.new (wd183 hw) (wd184 hw) (wd185 hw) (hb hby dc39_0) (k' := 1) (n' := 4) rfl rfl (by decide) (by decide) ?_
  intro T724 h725 it W726 E727 g_it z_it A_it D_it
  have F_list_it : Fld Z h725 it cLI "list" "Ljava/util/List;" .null := D_it (Or.inr (wd201 hw)) (ty := (.object "java/util/List")) (by decide)
  have F_size_it : Fld Z h725 it cLI "size" "I" (.int (0 : Int32)) := D_it (Or.inr (wd203 hw)) (ty := .int) (by decide)
  have F_cursor_it : Fld Z h725 it cLI "cursor" "I" (.int (0 : Int32)) := D_it (Or.inl (wd205 hw)) (ty := .int) (by decide)
  have F_isListIterator_it : Fld Z h725 it cLI "isListIterator" "Z" (.int (0 : Int32)) := D_it (Or.inr (wd207 hw)) (ty := .boolean) (by decide)
  refine Go.by (fun _ q9 => XS.dup W726.here W726.hx rfl (hb hby dc39_3) rfl rfl (XS.aloadN W726.here W726.hx rfl (hb hby dc39_4) rfl rfl (XS.aloadN W726.here W726.hx rfl (hb hby dc39_5) rfl rfl q9))) ?_
  show Go _ _ _ _ _ _ _ _ _ (T724.setTop (mkF m 6 #[.val (.ref lst)] [(.ref lst), (.ref lst), (.ref it), (.ref it)]))
  refine W726.callUp (x := N41) (y := N39) (owner := "java/util/AbstractCollection") (wd186 hw) (wd187 hw) (wd188 hw) (by decide) (wd189 hw) (wd190 hw) (wd191 hw) (wd192 hw) (E_l.ext E727) (a := lst) (c_size_0 l Z a0 hw hEL h725 W726.old lst ea  ke (E_l.ext E727) (F_e.ext E727) (A_e.ext E727)) all0 (by decide) (by decide) (k' := 1) (n' := 4) rfl rfl (by decide) (by decide) (by rw [hml]; rfl) (argsL := []) (rest := [(.ref lst), (.ref it), (.ref it)]) (lenOf pd_3 rfl) rfl rfl (Wt := 3) (Nat.le_of_eq rfl) (hb hby dc39_6) ?_
  intro T728 W729
  show Go _ _ _ _ _ _ _ _ _ (T728.setTop (mkF m 9 #[.val (.ref lst)] [(.int (0 : Int32)), (.ref lst), (.ref it), (.ref it)]))
  refine W729.callI (y := N38) rfl (wd195 hw) (wd196 hw) (wd185 hw) (wd198 hw) (by decide) (a := it) (c_liinit l Z a0 hw hEL h725 W729.old it lst (0 : Int32) A_it F_list_it F_size_it F_cursor_it F_isListIterator_it z_it) (allS (m_ 0) all0) (by decide) (by decide) (k' := 1) (n' := 4) rfl rfl (by decide) (by decide) (by rw [hml]; rfl) (argsL := [(.ref lst), (.int (0 : Int32))]) (rest := [(.ref it)]) (lenOf pd_21 rfl) rfl rfl (Wt := 1) (Nat.le_of_eq rfl) (hb hby dc39_9) ?_
  intro v_ T730 h732 W731 hq_
  obtain ⟨rfl, K1, q1⟩ := hq_
  show Go _ _ _ _ _ _ _ _ _ (T730.setTop (mkF m 12 #[.val (.ref lst)] [(.ref it)]))
  have X733 : Ext h0 h732 := (Ext.keep' E727 K1 (allS (Nat.le_of_eq g_it) all0))
  exact W731.retA (by decide) (by decide) hret rfl rfl (hb hby dc39_12) ⟨it, rfl, X733, Nat.le_of_eq g_it, q1⟩
theorem c_iter_1 (hw : HW Z a0) (hEL : EW Z a0 EL_) (h0 : Heap) (hE0 : Ext Z.heap h0) (lst emp s0 : Addr) (E_l : Exa Z h0 lst cL2) (F_0 : Fld Z h0 lst cL2 "e0" "Ljava/lang/Object;" (.ref s0)) (F_1 : Fld Z h0 lst cL2 "e1" "Ljava/lang/Object;" (.ref emp)) (SM : Sta Z Z.heap cIC "EMPTY" "Ljava/lang/Object;" (.ref emp)) (EM : Exa Z Z.heap emp "java/lang/Object") :
    Con l Z EL_ [] N42 jdk_46_method_10_code 1 (some (.object "java/util/Iterator")) [] (⟨2, 1, 4, 30⟩ : Room) #[(.ref lst)] h0 (fun v h' => ∃ it, v = some (.ref it) ∧ Ext h0 h' ∧ h0.size ≤ it ∧ Exa Z h' it cLI ∧ Fld Z h' it cLI "list" "Ljava/util/List;" (.ref lst) ∧ Fld Z h' it cLI "size" "I" (.int 1) ∧ Fld Z h' it cLI "cursor" "I" (.int 0)) := by
  refine Con.mk (plainFor_of_name pn_15) hEL hE0 (fun x hx => by cases hx) ?_
  intro p e s m below meth c T0 hby hml hret hnm W0
  rw [(show entryFrame m #[(.ref lst)] 1 = mkF m 0 #[.val (.ref lst)] [] from by first | (simp [entryFrame, mkF, argsToLocals, Value.category]; done) | rfl)]
  refine W0.new (wd183 hw) (wd184 hw) (wd185 hw) (hb hby dc39_0) (k' := 1) (n' := 4) rfl rfl (by decide) (by decide) ?_
  intro T734 h735 it W736 E737 g_it z_it A_it D_it
  have F_list_it : Fld Z h735 it cLI "list" "Ljava/util/List;" .null := D_it (Or.inr (wd201 hw)) (ty := (.object "java/util/List")) (by decide)
  have F_size_it : Fld Z h735 it cLI "size" "I" (.int (0 : Int32)) := D_it (Or.inr (wd203 hw)) (ty := .int) (by decide)
  have F_cursor_it : Fld Z h735 it cLI "cursor" "I" (.int (0 : Int32)) := D_it (Or.inl (wd205 hw)) (ty := .int) (by decide)
  have F_isListIterator_it : Fld Z h735 it cLI "isListIterator" "Z" (.int (0 : Int32)) := D_it (Or.inr (wd207 hw)) (ty := .boolean) (by decide)
  refine Go.by (fun _ q9 => XS.dup W736.here W736.hx rfl (hb hby dc39_3) rfl rfl (XS.aloadN W736.here W736.hx rfl (hb hby dc39_4) rfl rfl (XS.aloadN W736.here W736.hx rfl (hb hby dc39_5) rfl rfl q9))) ?_
  show Go _ _ _ _ _ _ _ _ _ (T734.setTop (mkF m 6 #[.val (.ref lst)] [(.ref lst), (.ref lst), (.ref it), (.ref it)]))
  refine W736.callUp (x := N41) (y := N40) (owner := "java/util/AbstractCollection") (wd186 hw) (wd187 hw) (wd188 hw) (by decide) (wd332 hw) (wd333 hw) (wd293 hw) (wd334 hw) (E_l.ext E737) (a := lst) (c_size_1 l Z a0 hw hEL h735 W736.old lst emp s0 (E_l.ext E737) (F_0.ext E737) (F_1.ext E737) SM EM) all0 (by decide) (by decide) (k' := 1) (n' := 4) rfl rfl (by decide) (by decide) (by rw [hml]; rfl) (argsL := []) (rest := [(.ref lst), (.ref it), (.ref it)]) (lenOf pd_3 rfl) rfl rfl (Wt := 3) (Nat.le_of_eq rfl) (hb hby dc39_6) ?_
  intro T738 W739
  show Go _ _ _ _ _ _ _ _ _ (T738.setTop (mkF m 9 #[.val (.ref lst)] [(.int (1 : Int32)), (.ref lst), (.ref it), (.ref it)]))
  refine W739.callI (y := N38) rfl (wd195 hw) (wd196 hw) (wd185 hw) (wd198 hw) (by decide) (a := it) (c_liinit l Z a0 hw hEL h735 W739.old it lst (1 : Int32) A_it F_list_it F_size_it F_cursor_it F_isListIterator_it z_it) (allS (m_ 0) all0) (by decide) (by decide) (k' := 1) (n' := 4) rfl rfl (by decide) (by decide) (by rw [hml]; rfl) (argsL := [(.ref lst), (.int (1 : Int32))]) (rest := [(.ref it)]) (lenOf pd_21 rfl) rfl rfl (Wt := 1) (Nat.le_of_eq rfl) (hb hby dc39_9) ?_
  intro v_ T740 h742 W741 hq_
  obtain ⟨rfl, K1, q1⟩ := hq_
  show Go _ _ _ _ _ _ _ _ _ (T740.setTop (mkF m 12 #[.val (.ref lst)] [(.ref it)]))
  have X743 : Ext h0 h742 := (Ext.keep' E737 K1 (allS (Nat.le_of_eq g_it) all0))
  exact W741.retA (by decide) (by decide) hret rfl rfl (hb hby dc39_12) ⟨it, rfl, X743, Nat.le_of_eq g_it, q1⟩
theorem c_iter_2 (hw : HW Z a0) (hEL : EW Z a0 EL_) (h0 : Heap) (hE0 : Ext Z.heap h0) (lst emp s0 s1 : Addr) (E_l : Exa Z h0 lst cL2) (F_0 : Fld Z h0 lst cL2 "e0" "Ljava/lang/Object;" (.ref s0)) (F_1 : Fld Z h0 lst cL2 "e1" "Ljava/lang/Object;" (.ref s1)) (SM : Sta Z Z.heap cIC "EMPTY" "Ljava/lang/Object;" (.ref emp)) (EM : Exa Z Z.heap emp "java/lang/Object") (E_s1 : Exa Z h0 s1 cSC) :
    Con l Z EL_ [] N42 jdk_46_method_10_code 1 (some (.object "java/util/Iterator")) [] (⟨2, 1, 4, 30⟩ : Room) #[(.ref lst)] h0 (fun v h' => ∃ it, v = some (.ref it) ∧ Ext h0 h' ∧ h0.size ≤ it ∧ Exa Z h' it cLI ∧ Fld Z h' it cLI "list" "Ljava/util/List;" (.ref lst) ∧ Fld Z h' it cLI "size" "I" (.int 2) ∧ Fld Z h' it cLI "cursor" "I" (.int 0)) := by
  refine Con.mk (plainFor_of_name pn_15) hEL hE0 (fun x hx => by cases hx) ?_
  intro p e s m below meth c T0 hby hml hret hnm W0
  rw [(show entryFrame m #[(.ref lst)] 1 = mkF m 0 #[.val (.ref lst)] [] from by first | (simp [entryFrame, mkF, argsToLocals, Value.category]; done) | rfl)]
  refine W0.new (wd183 hw) (wd184 hw) (wd185 hw) (hb hby dc39_0) (k' := 1) (n' := 4) rfl rfl (by decide) (by decide) ?_
  intro T744 h745 it W746 E747 g_it z_it A_it D_it
  have F_list_it : Fld Z h745 it cLI "list" "Ljava/util/List;" .null := D_it (Or.inr (wd201 hw)) (ty := (.object "java/util/List")) (by decide)
  have F_size_it : Fld Z h745 it cLI "size" "I" (.int (0 : Int32)) := D_it (Or.inr (wd203 hw)) (ty := .int) (by decide)
  have F_cursor_it : Fld Z h745 it cLI "cursor" "I" (.int (0 : Int32)) := D_it (Or.inl (wd205 hw)) (ty := .int) (by decide)
  have F_isListIterator_it : Fld Z h745 it cLI "isListIterator" "Z" (.int (0 : Int32)) := D_it (Or.inr (wd207 hw)) (ty := .boolean) (by decide)
  refine Go.by (fun _ q9 => XS.dup W746.here W746.hx rfl (hb hby dc39_3) rfl rfl (XS.aloadN W746.here W746.hx rfl (hb hby dc39_4) rfl rfl (XS.aloadN W746.here W746.hx rfl (hb hby dc39_5) rfl rfl q9))) ?_
  show Go _ _ _ _ _ _ _ _ _ (T744.setTop (mkF m 6 #[.val (.ref lst)] [(.ref lst), (.ref lst), (.ref it), (.ref it)]))
  refine W746.callUp (x := N41) (y := N40) (owner := "java/util/AbstractCollection") (wd186 hw) (wd187 hw) (wd188 hw) (by decide) (wd332 hw) (wd333 hw) (wd293 hw) (wd334 hw) (E_l.ext E747) (a := lst) (c_size_2 l Z a0 hw hEL h745 W746.old lst emp s0 s1 (E_l.ext E747) (F_0.ext E747) (F_1.ext E747) SM EM (E_s1.ext E747)) all0 (by decide) (by decide) (k' := 1) (n' := 4) rfl rfl (by decide) (by decide) (by rw [hml]; rfl) (argsL := []) (rest := [(.ref lst), (.ref it), (.ref it)]) (lenOf pd_3 rfl) rfl rfl (Wt := 3) (Nat.le_of_eq rfl) (hb hby dc39_6) ?_
  intro T748 W749
  show Go _ _ _ _ _ _ _ _ _ (T748.setTop (mkF m 9 #[.val (.ref lst)] [(.int (2 : Int32)), (.ref lst), (.ref it), (.ref it)]))
  refine W749.callI (y := N38) rfl (wd195 hw) (wd196 hw) (wd185 hw) (wd198 hw) (by decide) (a := it) (c_liinit l Z a0 hw hEL h745 W749.old it lst (2 : Int32) A_it F_list_it F_size_it F_cursor_it F_isListIterator_it z_it) (allS (m_ 0) all0) (by decide) (by decide) (k' := 1) (n' := 4) rfl rfl (by decide) (by decide) (by rw [hml]; rfl) (argsL := [(.ref lst), (.int (2 : Int32))]) (rest := [(.ref it)]) (lenOf pd_21 rfl) rfl rfl (Wt := 1) (Nat.le_of_eq rfl) (hb hby dc39_9) ?_
  intro v_ T750 h752 W751 hq_
  obtain ⟨rfl, K1, q1⟩ := hq_
  show Go _ _ _ _ _ _ _ _ _ (T750.setTop (mkF m 12 #[.val (.ref lst)] [(.ref it)]))
  have X753 : Ext h0 h752 := (Ext.keep' E747 K1 (allS (Nat.le_of_eq g_it) all0))
  exact W751.retA (by decide) (by decide) hret rfl rfl (hb hby dc39_12) ⟨it, rfl, X753, Nat.le_of_eq g_it, q1⟩
theorem c_iter_3 (hw : HW Z a0) (hEL : EW Z a0 EL_) (h0 : Heap) (hE0 : Ext Z.heap h0) (lst ea s0 s1 s2 : Addr) (ke : ClassId) (E_l : Exa Z h0 lst cLN) (F_e : Fld Z h0 lst cLN "elements" "[Ljava/lang/Object;" (.ref ea)) (A_e : Arv Z h0 ea ke (.object "java/lang/Object") 3 [(.ref s0), (.ref s1), (.ref s2)] .null) :
    Con l Z EL_ [] N42 jdk_46_method_10_code 1 (some (.object "java/util/Iterator")) [] (⟨2, 1, 4, 30⟩ : Room) #[(.ref lst)] h0 (fun v h' => ∃ it, v = some (.ref it) ∧ Ext h0 h' ∧ h0.size ≤ it ∧ Exa Z h' it cLI ∧ Fld Z h' it cLI "list" "Ljava/util/List;" (.ref lst) ∧ Fld Z h' it cLI "size" "I" (.int 3) ∧ Fld Z h' it cLI "cursor" "I" (.int 0)) := by
  refine Con.mk (plainFor_of_name pn_15) hEL hE0 (fun x hx => by cases hx) ?_
  intro p e s m below meth c T0 hby hml hret hnm W0
  rw [(show entryFrame m #[(.ref lst)] 1 = mkF m 0 #[.val (.ref lst)] [] from by first | (simp [entryFrame, mkF, argsToLocals, Value.category]; done) | rfl)]
  refine W0.new (wd183 hw) (wd184 hw) (wd185 hw) (hb hby dc39_0) (k' := 1) (n' := 4) rfl rfl (by decide) (by decide) ?_
  intro T754 h755 it W756 E757 g_it z_it A_it D_it
  have F_list_it : Fld Z h755 it cLI "list" "Ljava/util/List;" .null := D_it (Or.inr (wd201 hw)) (ty := (.object "java/util/List")) (by decide)
  have F_size_it : Fld Z h755 it cLI "size" "I" (.int (0 : Int32)) := D_it (Or.inr (wd203 hw)) (ty := .int) (by decide)
  have F_cursor_it : Fld Z h755 it cLI "cursor" "I" (.int (0 : Int32)) := D_it (Or.inl (wd205 hw)) (ty := .int) (by decide)
  have F_isListIterator_it : Fld Z h755 it cLI "isListIterator" "Z" (.int (0 : Int32)) := D_it (Or.inr (wd207 hw)) (ty := .boolean) (by decide)
  refine Go.by (fun _ q9 => XS.dup W756.here W756.hx rfl (hb hby dc39_3) rfl rfl (XS.aloadN W756.here W756.hx rfl (hb hby dc39_4) rfl rfl (XS.aloadN W756.here W756.hx rfl (hb hby dc39_5) rfl rfl q9))) ?_
  show Go _ _ _ _ _ _ _ _ _ (T754.setTop (mkF m 6 #[.val (.ref lst)] [(.ref lst), (.ref lst), (.ref it), (.ref it)]))
  refine W756.callUp (x := N41) (y := N39) (owner := "java/util/AbstractCollection") (wd186 hw) (wd187 hw) (wd188 hw) (by decide) (wd189 hw) (wd190 hw) (wd191 hw) (wd192 hw) (E_l.ext E757) (a := lst) (c_size_3 l Z a0 hw hEL h755 W756.old lst ea s0 s1 s2 ke (E_l.ext E757) (F_e.ext E757) (A_e.ext E757)) all0 (by decide) (by decide) (k' := 1) (n' := 4) rfl rfl (by decide) (by decide) (by rw [hml]; rfl) (argsL := []) (rest := [(.ref lst), (.ref it), (.ref it)]) (lenOf pd_3 rfl) rfl rfl (Wt := 3) (Nat.le_of_eq rfl) (hb hby dc39_6) ?_
  intro T758 W759
  show Go _ _ _ _ _ _ _ _ _ (T758.setTop (mkF m 9 #[.val (.ref lst)] [(.int (3 : Int32)), (.ref lst), (.ref it), (.ref it)]))
  refine W759.callI (y := N38) rfl (wd195 hw) (wd196 hw) (wd185 hw) (wd198 hw) (by decide) (a := it) (c_liinit l Z a0 hw hEL h755 W759.old it lst (3 : Int32) A_it F_list_it F_size_it F_cursor_it F_isListIterator_it z_it) (allS (m_ 0) all0) (by decide) (by decide) (k' := 1) (n' := 4) rfl rfl (by decide) (by decide) (by rw [hml]; rfl) (argsL := [(.ref lst), (.int (3 : Int32))]) (rest := [(.ref it)]) (lenOf pd_21 rfl) rfl rfl (Wt := 1) (Nat.le_of_eq rfl) (hb hby dc39_9) ?_
  intro v_ T760 h762 W761 hq_
  obtain ⟨rfl, K1, q1⟩ := hq_
  show Go _ _ _ _ _ _ _ _ _ (T760.setTop (mkF m 12 #[.val (.ref lst)] [(.ref it)]))
  have X763 : Ext h0 h762 := (Ext.keep' E757 K1 (allS (Nat.le_of_eq g_it) all0))
  exact W761.retA (by decide) (by decide) hret rfl rfl (hb hby dc39_12) ⟨it, rfl, X763, Nat.le_of_eq g_it, q1⟩
theorem c_hn (hw : HW Z a0) (hEL : EW Z a0 EL_) (h0 : Heap) (hE0 : Ext Z.heap h0) (it : Addr) (cu sz : Int32) (FC : Fld Z h0 it cLI "cursor" "I" (.int cu)) (FS : Fld Z h0 it cLI "size" "I" (.int sz)) :
    Con l Z EL_ [] N43 jdk_53_method_3_code 1 (some .boolean) [] (⟨0, 0, 0, 0⟩ : Room) #[(.ref it)] h0 (fun v h' => v = (some (.int (if cu = sz then 0 else 1))) ∧ h' = h0) := by
  refine Con.mk (plainFor_of_name pn_21) hEL hE0 (fun x hx => by cases hx) ?_
  intro p e s m below meth c T0 hby hml hret hnm W0
  rw [(show entryFrame m #[(.ref it)] 1 = mkF m 0 #[.val (.ref it)] [] from by first | (simp [entryFrame, mkF, argsToLocals, Value.category]; done) | rfl)]
  refine Go.by (fun _ q9 => XS.aloadN W0.here W0.hx rfl (hb hby dc40_0) rfl rfl q9) ?_
  show Go _ _ _ _ _ _ _ _ _ (T0.setTop (mkF m 1 #[.val (.ref it)] [(.ref it)]))
  refine W0.getf (host := "") (Or.inl (wd204 hw)) Via.refl FC (hb hby dc40_1) ?_
  intro T764 W765
  refine Go.by (fun _ q9 => XS.aloadN W765.here W765.hx rfl (hb hby dc40_4) rfl rfl q9) ?_
  show Go _ _ _ _ _ _ _ _ _ (T764.setTop (mkF m 5 #[.val (.ref it)] [(.ref it), (.int cu)]))
  refine W765.getf (host := "") (Or.inl (wd202 hw)) Via.refl FS (hb hby dc40_5) ?_
  intro T766 W767
  by_cases h1 : cu = sz
  · refine Go.by (fun _ q9 => XS.icmpYes W767.here W767.hx rfl (pc0 := 8) (pc' := 15) rfl (hb hby dc40_8) rfl (teq h1).1 (by decide) (by decide) q9) ?_
    refine Go.by (fun _ q9 => XS.iconst W767.here W767.hx rfl (hb hby dc40_15) q9) ?_
    show Go _ _ _ _ _ _ _ _ _ (T766.setTop (mkF m 16 #[.val (.ref it)] [(.int (0 : Int32))]))
    exact W767.retN (z' := (0 : Int32)) (by decide) (by decide) hret (by simp) (hb hby dc40_16) rfl ⟨by rw [if_pos h1], rfl⟩
  · refine Go.by (fun _ q9 => XS.icmpNo W767.here W767.hx rfl (hb hby dc40_8) rfl (feq h1).1 q9) ?_
    refine Go.by (fun _ q9 => XS.iconst W767.here W767.hx rfl (hb hby dc40_11) (XS.goto W767.here W767.hx rfl (pc0 := 12) (pc' := 16) rfl (hb hby dc40_12) (by decide) (by decide) q9)) ?_
    show Go _ _ _ _ _ _ _ _ _ (T766.setTop (mkF m 16 #[.val (.ref it)] [(.int (1 : Int32))]))
    exact W767.retN (z' := (1 : Int32)) (by decide) (by decide) hret (by simp) (hb hby dc40_16) rfl ⟨by rw [if_neg h1], rfl⟩
namespace Nar
theorem c_get_1_0 (hw : HW Z a0) (hEL : EW Z a0 EL_) (h0 : Heap) (hE0 : Ext Z.heap h0) (lst emp s0 : Addr) (E_l : Exa Z h0 lst cL2) (F_0 : Fld Z h0 lst cL2 "e0" "Ljava/lang/Object;" (.ref s0)) (F_1 : Fld Z h0 lst cL2 "e1" "Ljava/lang/Object;" (.ref emp)) (SM : Sta Z Z.heap cIC "EMPTY" "Ljava/lang/Object;" (.ref emp)) (EM : Exa Z Z.heap emp "java/lang/Object") :
    Con l Z EL_ [] N44 jdk_44_method_5_code 2 (some (.object "java/lang/Object")) [] (⟨0, 0, 0, 0⟩ : Room) #[(.ref lst), (.int (0 : Int32))] h0 (fun v h' => v = (some (.ref s0)) ∧ h' = h0) := by
  refine Con.mk (plainFor_of_name pn_16) hEL hE0 (fun x hx => by cases hx) ?_
  intro p e s m below meth c T0 hby hml hret hnm W0
  rw [(show entryFrame m #[(.ref lst), (.int (0 : Int32))] 2 = mkF m 0 #[.val (.ref lst), .val (.int (0 : Int32))] [] from by first | (simp [entryFrame, mkF, argsToLocals, Value.category]; done) | rfl)]
  refine Go.by (fun _ q9 => XS.iloadN W0.here W0.hx rfl (hb hby dc41_0) rfl q9) ?_
  refine Go.by (fun _ q9 => XS.ifNo W0.here W0.hx rfl (hb hby dc41_1) rfl ((if0 _ _).trans (teq (by decide)).2) q9) ?_
  refine Go.by (fun _ q9 => XS.aloadN W0.here W0.hx rfl (hb hby dc41_4) rfl rfl q9) ?_
  show Go _ _ _ _ _ _ _ _ _ (T0.setTop (mkF m 5 #[.val (.ref lst), .val (.int (0 : Int32))] [(.ref lst)]))
  refine W0.getf (host := "") (Or.inl (wd314 hw)) Via.refl F_0 (hb hby dc41_5) ?_
  intro T768 W769
  show Go _ _ _ _ _ _ _ _ _ (T768.setTop (mkF m 8 #[.val (.ref lst), .val (.int (0 : Int32))] [(.ref s0)]))
  exact W769.retA (by decide) (by decide) hret rfl rfl (hb hby dc41_8) ⟨rfl, rfl⟩
end Nar
namespace Nar
theorem c_next_1_0 (hw : HW Z a0) (hEL : EW Z a0 EL_) (h0 : Heap) (hE0 : Ext Z.heap h0) (it : Addr) (lst emp s0 : Addr) (E_it : Exa Z h0 it cLI) (FL : Fld Z h0 it cLI "list" "Ljava/util/List;" (.ref lst)) (FS : Fld Z h0 it cLI "size" "I" (.int 1)) (FC : Fld Z h0 it cLI "cursor" "I" (.int 0)) (z_it : Z.heap.size ≤ it) (E_l : Exa Z h0 lst cL2) (F_0 : Fld Z h0 lst cL2 "e0" "Ljava/lang/Object;" (.ref s0)) (F_1 : Fld Z h0 lst cL2 "e1" "Ljava/lang/Object;" (.ref emp)) (SM : Sta Z Z.heap cIC "EMPTY" "Ljava/lang/Object;" (.ref emp)) (EM : Exa Z Z.heap emp "java/lang/Object") :
    ConW l Z EL_ [it] N46 jdk_53_method_4_code 3 (some (.object "java/lang/Object")) [(0, 24, 25, 30)] (⟨1, 0, 0, 15⟩ : Room) #[(.ref it)] h0 (fun v h' => v = some (.ref s0) ∧ Keep h0 h' [it] ∧ Exa Z h' it cLI ∧ Fld Z h' it cLI "list" "Ljava/util/List;" (.ref lst) ∧ Fld Z h' it cLI "size" "I" (.int 1) ∧ Fld Z h' it cLI "cursor" "I" (.int 1)) := by
  refine ConW.mk (plainFor_of_name pn_21) hEL hE0 (allS E_it.lt all0) ?_
  intro p e s m below meth c T0 hby hml hret hnm W0
  rw [(show entryFrame m #[(.ref it)] 3 = mkF m 0 #[.val (.ref it), .unset, .unset] [] from by first | (simp [entryFrame, mkF, argsToLocals, Value.category]; done) | rfl)]
  refine Go.by (fun _ q9 => XS.aloadN W0.here W0.hx rfl (hb hby dc42_0) rfl rfl q9) ?_
  show Go _ _ _ _ _ _ _ _ _ (T0.setTop (mkF m 1 #[.val (.ref it), .unset, .unset] [(.ref it)]))
  refine W0.getf (host := "") (Or.inl (wd204 hw)) Via.refl FC (hb hby dc42_1) ?_
  intro T770 W771
  refine Go.by (fun _ q9 => XS.istoreN W771.here W771.hx rfl (hb hby dc42_4) rfl (l' := #[.val (.ref it), .val (.int (0 : Int32)), .unset]) rfl (XS.aloadN W771.here W771.hx rfl (hb hby dc42_5) rfl rfl q9)) ?_
  show Go _ _ _ _ _ _ _ _ _ (T770.setTop (mkF m 6 #[.val (.ref it), .val (.int (0 : Int32)), .unset] [(.ref it)]))
  refine W771.getf (host := "") (Or.inl (wd200 hw)) Via.refl FL (hb hby dc42_6) ?_
  intro T772 W773
  refine Go.by (fun _ q9 => XS.iloadN W773.here W773.hx rfl (hb hby dc42_9) rfl q9) ?_
  show Go _ _ _ _ _ _ _ _ _ (T772.setTop (mkF m 10 #[.val (.ref it), .val (.int (0 : Int32)), .unset] [(.int (0 : Int32)), (.ref lst)]))
  refine W773.callFp (xi := N45) (y := N44) (wd343 hw) (wd344 hw) (wd345 hw) (wd346 hw) (wd347 hw) (wd348 hw) (wd349 hw) (wd331 hw) (wd293 hw) (wd350 hw) (by decide) E_l (a := lst) (c_get_1_0 l Z a0 hw hEL h0 hE0 lst emp s0 E_l F_0 F_1 SM EM) all0 (by decide) (by decide) (k' := 0) (n' := 0) rfl rfl (by decide) (by decide) (by rw [hml]; rfl) (argsL := [(.int (0 : Int32))]) (rest := []) (lenOf pd_22 rfl) rfl rfl (Wt := 0) (Nat.le_of_eq rfl) (hb hby dc42_10) ?_
  intro T774 W775
  refine Go.by (fun _ q9 => XS.astoreN W775.here W775.hx rfl (hb hby dc42_15) rfl rfl (l' := #[.val (.ref it), .val (.int (0 : Int32)), .val (.ref s0)]) rfl (XS.aloadN W775.here W775.hx rfl (hb hby dc42_16) rfl rfl (XS.iloadN W775.here W775.hx rfl (hb hby dc42_17) rfl (XS.iconst W775.here W775.hx rfl (hb hby dc42_18) (XS.iadd W775.here W775.hx rfl (hb hby dc42_19) rfl q9))))) ?_
  show Go _ _ _ _ _ _ _ _ _ (T774.setTop (mkF m 20 #[.val (.ref it), .val (.int (0 : Int32)), .val (.ref s0)] [(.int (1 : Int32)), (.ref it)]))
  refine W775.putf (host := "") (Or.inl (wd204 hw)) Via.refl FC E_it (Or.inl (wd205 hw)) (wd184 hw) (ty := .int) (by decide) rfl rfl z_it (m_ 0) (hb hby dc42_20) ?_
  intro T776 h777 W778 Wr779
  have F780 : Fld Z h777 it cLI "cursor" "I" (.int (1 : Int32)) := FC.same Wr779
  have F781 : Fld Z h777 it cLI "list" "Ljava/util/List;" (.ref lst) := FL.other Wr779 (Or.inr (slot_ne (Or.inr (wd201 hw)) (Or.inl (wd205 hw)) (by decide) (t := (.object "java/util/List")) (t' := .int) (by decide) (by decide)))
  have F782 : Fld Z h777 it cLI "size" "I" (.int 1) := FS.other Wr779 (Or.inr (slot_ne (Or.inr (wd203 hw)) (Or.inl (wd205 hw)) (by decide) (t := .int) (t' := .int) (by decide) (by decide)))
  have A783 : Exa Z h777 it cLI := E_it.wr Wr779
  refine Go.by (fun _ q9 => XS.aloadN W778.here W778.hx rfl (hb hby dc42_23) rfl rfl q9) ?_
  show Go _ _ _ _ _ _ _ _ _ (T776.setTop (mkF m 24 #[.val (.ref it), .val (.int (0 : Int32)), .val (.ref s0)] [(.ref s0)]))
  exact W778.retA (by decide) (by decide) hret rfl rfl (hb hby dc42_24) ⟨rfl, ((Keep.refl h0 [it]).wr Wr779 (Or.inl (m_ 0))), A783, F781, F782, F780⟩
end Nar
namespace Nar
theorem c_get_2_0 (hw : HW Z a0) (hEL : EW Z a0 EL_) (h0 : Heap) (hE0 : Ext Z.heap h0) (lst emp s0 s1 : Addr) (E_l : Exa Z h0 lst cL2) (F_0 : Fld Z h0 lst cL2 "e0" "Ljava/lang/Object;" (.ref s0)) (F_1 : Fld Z h0 lst cL2 "e1" "Ljava/lang/Object;" (.ref s1)) (SM : Sta Z Z.heap cIC "EMPTY" "Ljava/lang/Object;" (.ref emp)) (EM : Exa Z Z.heap emp "java/lang/Object") (E_s1 : Exa Z h0 s1 cSC) :
    Con l Z EL_ [] N44 jdk_44_method_5_code 2 (some (.object "java/lang/Object")) [] (⟨0, 0, 0, 0⟩ : Room) #[(.ref lst), (.int (0 : Int32))] h0 (fun v h' => v = (some (.ref s0)) ∧ h' = h0) := by
  refine Con.mk (plainFor_of_name pn_16) hEL hE0 (fun x hx => by cases hx) ?_
  intro p e s m below meth c T0 hby hml hret hnm W0
  rw [(show entryFrame m #[(.ref lst), (.int (0 : Int32))] 2 = mkF m 0 #[.val (.ref lst), .val (.int (0 : Int32))] [] from by first | (simp [entryFrame, mkF, argsToLocals, Value.category]; done) | rfl)]
  refine Go.by (fun _ q9 => XS.iloadN W0.here W0.hx rfl (hb hby dc41_0) rfl q9) ?_
  refine Go.by (fun _ q9 => XS.ifNo W0.here W0.hx rfl (hb hby dc41_1) rfl ((if0 _ _).trans (teq (by decide)).2) q9) ?_
  refine Go.by (fun _ q9 => XS.aloadN W0.here W0.hx rfl (hb hby dc41_4) rfl rfl q9) ?_
  show Go _ _ _ _ _ _ _ _ _ (T0.setTop (mkF m 5 #[.val (.ref lst), .val (.int (0 : Int32))] [(.ref lst)]))
  refine W0.getf (host := "") (Or.inl (wd314 hw)) Via.refl F_0 (hb hby dc41_5) ?_
  intro T784 W785
  show Go _ _ _ _ _ _ _ _ _ (T784.setTop (mkF m 8 #[.val (.ref lst), .val (.int (0 : Int32))] [(.ref s0)]))
  exact W785.retA (by decide) (by decide) hret rfl rfl (hb hby dc41_8) ⟨rfl, rfl⟩
end Nar
namespace Nar
theorem c_next_2_0 (hw : HW Z a0) (hEL : EW Z a0 EL_) (h0 : Heap) (hE0 : Ext Z.heap h0) (it : Addr) (lst emp s0 s1 : Addr) (E_it : Exa Z h0 it cLI) (FL : Fld Z h0 it cLI "list" "Ljava/util/List;" (.ref lst)) (FS : Fld Z h0 it cLI "size" "I" (.int 2)) (FC : Fld Z h0 it cLI "cursor" "I" (.int 0)) (z_it : Z.heap.size ≤ it) (E_l : Exa Z h0 lst cL2) (F_0 : Fld Z h0 lst cL2 "e0" "Ljava/lang/Object;" (.ref s0)) (F_1 : Fld Z h0 lst cL2 "e1" "Ljava/lang/Object;" (.ref s1)) (SM : Sta Z Z.heap cIC "EMPTY" "Ljava/lang/Object;" (.ref emp)) (EM : Exa Z Z.heap emp "java/lang/Object") (E_s1 : Exa Z h0 s1 cSC) :
    ConW l Z EL_ [it] N46 jdk_53_method_4_code 3 (some (.object "java/lang/Object")) [(0, 24, 25, 30)] (⟨1, 0, 0, 15⟩ : Room) #[(.ref it)] h0 (fun v h' => v = some (.ref s0) ∧ Keep h0 h' [it] ∧ Exa Z h' it cLI ∧ Fld Z h' it cLI "list" "Ljava/util/List;" (.ref lst) ∧ Fld Z h' it cLI "size" "I" (.int 2) ∧ Fld Z h' it cLI "cursor" "I" (.int 1)) := by
  refine ConW.mk (plainFor_of_name pn_21) hEL hE0 (allS E_it.lt all0) ?_
  intro p e s m below meth c T0 hby hml hret hnm W0
  rw [(show entryFrame m #[(.ref it)] 3 = mkF m 0 #[.val (.ref it), .unset, .unset] [] from by first | (simp [entryFrame, mkF, argsToLocals, Value.category]; done) | rfl)]
  refine Go.by (fun _ q9 => XS.aloadN W0.here W0.hx rfl (hb hby dc42_0) rfl rfl q9) ?_
  show Go _ _ _ _ _ _ _ _ _ (T0.setTop (mkF m 1 #[.val (.ref it), .unset, .unset] [(.ref it)]))
  refine W0.getf (host := "") (Or.inl (wd204 hw)) Via.refl FC (hb hby dc42_1) ?_
  intro T786 W787
  refine Go.by (fun _ q9 => XS.istoreN W787.here W787.hx rfl (hb hby dc42_4) rfl (l' := #[.val (.ref it), .val (.int (0 : Int32)), .unset]) rfl (XS.aloadN W787.here W787.hx rfl (hb hby dc42_5) rfl rfl q9)) ?_
  show Go _ _ _ _ _ _ _ _ _ (T786.setTop (mkF m 6 #[.val (.ref it), .val (.int (0 : Int32)), .unset] [(.ref it)]))
  refine W787.getf (host := "") (Or.inl (wd200 hw)) Via.refl FL (hb hby dc42_6) ?_
  intro T788 W789
  refine Go.by (fun _ q9 => XS.iloadN W789.here W789.hx rfl (hb hby dc42_9) rfl q9) ?_
  show Go _ _ _ _ _ _ _ _ _ (T788.setTop (mkF m 10 #[.val (.ref it), .val (.int (0 : Int32)), .unset] [(.int (0 : Int32)), (.ref lst)]))
  refine W789.callFp (xi := N45) (y := N44) (wd343 hw) (wd344 hw) (wd345 hw) (wd346 hw) (wd347 hw) (wd348 hw) (wd349 hw) (wd331 hw) (wd293 hw) (wd350 hw) (by decide) E_l (a := lst) (c_get_2_0 l Z a0 hw hEL h0 hE0 lst emp s0 s1 E_l F_0 F_1 SM EM E_s1) all0 (by decide) (by decide) (k' := 0) (n' := 0) rfl rfl (by decide) (by decide) (by rw [hml]; rfl) (argsL := [(.int (0 : Int32))]) (rest := []) (lenOf pd_22 rfl) rfl rfl (Wt := 0) (Nat.le_of_eq rfl) (hb hby dc42_10) ?_
  intro T790 W791
  refine Go.by (fun _ q9 => XS.astoreN W791.here W791.hx rfl (hb hby dc42_15) rfl rfl (l' := #[.val (.ref it), .val (.int (0 : Int32)), .val (.ref s0)]) rfl (XS.aloadN W791.here W791.hx rfl (hb hby dc42_16) rfl rfl (XS.iloadN W791.here W791.hx rfl (hb hby dc42_17) rfl (XS.iconst W791.here W791.hx rfl (hb hby dc42_18) (XS.iadd W791.here W791.hx rfl (hb hby dc42_19) rfl q9))))) ?_
  show Go _ _ _ _ _ _ _ _ _ (T790.setTop (mkF m 20 #[.val (.ref it), .val (.int (0 : Int32)), .val (.ref s0)] [(.int (1 : Int32)), (.ref it)]))
  refine W791.putf (host := "") (Or.inl (wd204 hw)) Via.refl FC E_it (Or.inl (wd205 hw)) (wd184 hw) (ty := .int) (by decide) rfl rfl z_it (m_ 0) (hb hby dc42_20) ?_
  intro T792 h793 W794 Wr795
  have F796 : Fld Z h793 it cLI "cursor" "I" (.int (1 : Int32)) := FC.same Wr795
  have F797 : Fld Z h793 it cLI "list" "Ljava/util/List;" (.ref lst) := FL.other Wr795 (Or.inr (slot_ne (Or.inr (wd201 hw)) (Or.inl (wd205 hw)) (by decide) (t := (.object "java/util/List")) (t' := .int) (by decide) (by decide)))
  have F798 : Fld Z h793 it cLI "size" "I" (.int 2) := FS.other Wr795 (Or.inr (slot_ne (Or.inr (wd203 hw)) (Or.inl (wd205 hw)) (by decide) (t := .int) (t' := .int) (by decide) (by decide)))
  have A799 : Exa Z h793 it cLI := E_it.wr Wr795
  refine Go.by (fun _ q9 => XS.aloadN W794.here W794.hx rfl (hb hby dc42_23) rfl rfl q9) ?_
  show Go _ _ _ _ _ _ _ _ _ (T792.setTop (mkF m 24 #[.val (.ref it), .val (.int (0 : Int32)), .val (.ref s0)] [(.ref s0)]))
  exact W794.retA (by decide) (by decide) hret rfl rfl (hb hby dc42_24) ⟨rfl, ((Keep.refl h0 [it]).wr Wr795 (Or.inl (m_ 0))), A799, F797, F798, F796⟩
end Nar
namespace Nar
theorem c_get_2_1 (hw : HW Z a0) (hEL : EW Z a0 EL_) (h0 : Heap) (hE0 : Ext Z.heap h0) (lst emp s0 s1 : Addr) (E_l : Exa Z h0 lst cL2) (F_0 : Fld Z h0 lst cL2 "e0" "Ljava/lang/Object;" (.ref s0)) (F_1 : Fld Z h0 lst cL2 "e1" "Ljava/lang/Object;" (.ref s1)) (SM : Sta Z Z.heap cIC "EMPTY" "Ljava/lang/Object;" (.ref emp)) (EM : Exa Z Z.heap emp "java/lang/Object") (E_s1 : Exa Z h0 s1 cSC) :
    Con l Z EL_ [] N44 jdk_44_method_5_code 2 (some (.object "java/lang/Object")) [] (⟨0, 0, 0, 0⟩ : Room) #[(.ref lst), (.int (1 : Int32))] h0 (fun v h' => v = (some (.ref s1)) ∧ h' = h0) := by
  refine Con.mk (plainFor_of_name pn_16) hEL hE0 (fun x hx => by cases hx) ?_
  intro p e s m below meth c T0 hby hml hret hnm W0
  rw [(show entryFrame m #[(.ref lst), (.int (1 : Int32))] 2 = mkF m 0 #[.val (.ref lst), .val (.int (1 : Int32))] [] from by first | (simp [entryFrame, mkF, argsToLocals, Value.category]; done) | rfl)]
  refine Go.by (fun _ q9 => XS.iloadN W0.here W0.hx rfl (hb hby dc41_0) rfl q9) ?_
  refine Go.by (fun _ q9 => XS.ifYes W0.here W0.hx rfl (pc0 := 1) (pc' := 9) rfl (hb hby dc41_1) rfl ((if0 _ _).trans (feq (by decide)).2) (by decide) (by decide) q9) ?_
  refine Go.by (fun _ q9 => XS.iloadN W0.here W0.hx rfl (hb hby dc41_9) rfl (XS.iconst W0.here W0.hx rfl (hb hby dc41_10) q9)) ?_
  refine Go.by (fun _ q9 => XS.icmpNo W0.here W0.hx rfl (hb hby dc41_11) rfl (teq (by decide)).2 q9) ?_
  refine Go.by (fun _ q9 => XS.aloadN W0.here W0.hx rfl (hb hby dc41_14) rfl rfl q9) ?_
  show Go _ _ _ _ _ _ _ _ _ (T0.setTop (mkF m 15 #[.val (.ref lst), .val (.int (1 : Int32))] [(.ref lst)]))
  refine W0.getf (host := "") (Or.inl (wd317 hw)) Via.refl F_1 (hb hby dc41_15) ?_
  intro T800 W801
  show Go _ _ _ _ _ _ _ _ _ (T800.setTop (mkF m 18 #[.val (.ref lst), .val (.int (1 : Int32))] [(.ref s1)]))
  refine W801.gets (Or.inr (wd316 hw)) Via.refl (SM.ext W801.old) (hb hby dc41_18) ?_
  intro T802 W803
  refine Go.by (fun _ q9 => acmpW W803 (g := (mkF m 21 #[.val (.ref lst), .val (.int (1 : Int32))] [(.ref emp), (.ref s1)])) rfl rfl rfl (pc0 := 21) (pc' := 24) (same := false) rfl (hb hby dc41_21) rfl (decide_eq_false (fun q => Exa.ne E_s1 (EM.ext W803.old) (by decide) (Value.ref.inj q))) (by decide) (by decide) q9) ?_
  refine Go.by (fun _ q9 => XS.aloadN W803.here W803.hx rfl (hb hby dc41_24) rfl rfl q9) ?_
  show Go _ _ _ _ _ _ _ _ _ (T802.setTop (mkF m 25 #[.val (.ref lst), .val (.int (1 : Int32))] [(.ref lst)]))
  refine W803.getf (host := "") (Or.inl (wd317 hw)) Via.refl F_1 (hb hby dc41_25) ?_
  intro T804 W805
  show Go _ _ _ _ _ _ _ _ _ (T804.setTop (mkF m 28 #[.val (.ref lst), .val (.int (1 : Int32))] [(.ref s1)]))
  exact W805.retA (by decide) (by decide) hret rfl rfl (hb hby dc41_28) ⟨rfl, rfl⟩
end Nar
namespace Nar
theorem c_next_2_1 (hw : HW Z a0) (hEL : EW Z a0 EL_) (h0 : Heap) (hE0 : Ext Z.heap h0) (it : Addr) (lst emp s0 s1 : Addr) (E_it : Exa Z h0 it cLI) (FL : Fld Z h0 it cLI "list" "Ljava/util/List;" (.ref lst)) (FS : Fld Z h0 it cLI "size" "I" (.int 2)) (FC : Fld Z h0 it cLI "cursor" "I" (.int 1)) (z_it : Z.heap.size ≤ it) (E_l : Exa Z h0 lst cL2) (F_0 : Fld Z h0 lst cL2 "e0" "Ljava/lang/Object;" (.ref s0)) (F_1 : Fld Z h0 lst cL2 "e1" "Ljava/lang/Object;" (.ref s1)) (SM : Sta Z Z.heap cIC "EMPTY" "Ljava/lang/Object;" (.ref emp)) (EM : Exa Z Z.heap emp "java/lang/Object") (E_s1 : Exa Z h0 s1 cSC) :
    ConW l Z EL_ [it] N46 jdk_53_method_4_code 3 (some (.object "java/lang/Object")) [(0, 24, 25, 30)] (⟨1, 0, 0, 15⟩ : Room) #[(.ref it)] h0 (fun v h' => v = some (.ref s1) ∧ Keep h0 h' [it] ∧ Exa Z h' it cLI ∧ Fld Z h' it cLI "list" "Ljava/util/List;" (.ref lst) ∧ Fld Z h' it cLI "size" "I" (.int 2) ∧ Fld Z h' it cLI "cursor" "I" (.int 2)) := by
  refine ConW.mk (plainFor_of_name pn_21) hEL hE0 (allS E_it.lt all0) ?_
  intro p e s m below meth c T0 hby hml hret hnm W0
  rw [(show entryFrame m #[(.ref it)] 3 = mkF m 0 #[.val (.ref it), .unset, .unset] [] from by first | (simp [entryFrame, mkF, argsToLocals, Value.category]; done) | rfl)]
  refine Go.by (fun _ q9 => XS.aloadN W0.here W0.hx rfl (hb hby dc42_0) rfl rfl q9) ?_
  show Go _ _ _ _ _ _ _ _ _ (T0.setTop (mkF m 1 #[.val (.ref it), .unset, .unset] [(.ref it)]))
  refine W0.getf (host := "") (Or.inl (wd204 hw)) Via.refl FC (hb hby dc42_1) ?_
  intro T806 W807
  refine Go.by (fun _ q9 => XS.istoreN W807.here W807.hx rfl (hb hby dc42_4) rfl (l' := #[.val (.ref it), .val (.int (1 : Int32)), .unset]) rfl (XS.aloadN W807.here W807.hx rfl (hb hby dc42_5) rfl rfl q9)) ?_
  show Go _ _ _ _ _ _ _ _ _ (T806.setTop (mkF m 6 #[.val (.ref it), .val (.int (1 : Int32)), .unset] [(.ref it)]))
  refine W807.getf (host := "") (Or.inl (wd200 hw)) Via.refl FL (hb hby dc42_6) ?_
  intro T808 W809
  refine Go.by (fun _ q9 => XS.iloadN W809.here W809.hx rfl (hb hby dc42_9) rfl q9) ?_
  show Go _ _ _ _ _ _ _ _ _ (T808.setTop (mkF m 10 #[.val (.ref it), .val (.int (1 : Int32)), .unset] [(.int (1 : Int32)), (.ref lst)]))
  refine W809.callFp (xi := N45) (y := N44) (wd343 hw) (wd344 hw) (wd345 hw) (wd346 hw) (wd347 hw) (wd348 hw) (wd349 hw) (wd331 hw) (wd293 hw) (wd350 hw) (by decide) E_l (a := lst) (c_get_2_1 l Z a0 hw hEL h0 hE0 lst emp s0 s1 E_l F_0 F_1 SM EM E_s1) all0 (by decide) (by decide) (k' := 0) (n' := 0) rfl rfl (by decide) (by decide) (by rw [hml]; rfl) (argsL := [(.int (1 : Int32))]) (rest := []) (lenOf pd_22 rfl) rfl rfl (Wt := 0) (Nat.le_of_eq rfl) (hb hby dc42_10) ?_
  intro T810 W811
  refine Go.by (fun _ q9 => XS.astoreN W811.here W811.hx rfl (hb hby dc42_15) rfl rfl (l' := #[.val (.ref it), .val (.int (1 : Int32)), .val (.ref s1)]) rfl (XS.aloadN W811.here W811.hx rfl (hb hby dc42_16) rfl rfl (XS.iloadN W811.here W811.hx rfl (hb hby dc42_17) rfl (XS.iconst W811.here W811.hx rfl (hb hby dc42_18) (XS.iadd W811.here W811.hx rfl (hb hby dc42_19) rfl q9))))) ?_
  show Go _ _ _ _ _ _ _ _ _ (T810.setTop (mkF m 20 #[.val (.ref it), .val (.int (1 : Int32)), .val (.ref s1)] [(.int (2 : Int32)), (.ref it)]))
  refine W811.putf (host := "") (Or.inl (wd204 hw)) Via.refl FC E_it (Or.inl (wd205 hw)) (wd184 hw) (ty := .int) (by decide) rfl rfl z_it (m_ 0) (hb hby dc42_20) ?_
  intro T812 h813 W814 Wr815
  have F816 : Fld Z h813 it cLI "cursor" "I" (.int (2 : Int32)) := FC.same Wr815
  have F817 : Fld Z h813 it cLI "list" "Ljava/util/List;" (.ref lst) := FL.other Wr815 (Or.inr (slot_ne (Or.inr (wd201 hw)) (Or.inl (wd205 hw)) (by decide) (t := (.object "java/util/List")) (t' := .int) (by decide) (by decide)))
  have F818 : Fld Z h813 it cLI "size" "I" (.int 2) := FS.other Wr815 (Or.inr (slot_ne (Or.inr (wd203 hw)) (Or.inl (wd205 hw)) (by decide) (t := .int) (t' := .int) (by decide) (by decide)))
  have A819 : Exa Z h813 it cLI := E_it.wr Wr815
  refine Go.by (fun _ q9 => XS.aloadN W814.here W814.hx rfl (hb hby dc42_23) rfl rfl q9) ?_
  show Go _ _ _ _ _ _ _ _ _ (T812.setTop (mkF m 24 #[.val (.ref it), .val (.int (1 : Int32)), .val (.ref s1)] [(.ref s1)]))
  exact W814.retA (by decide) (by decide) hret rfl rfl (hb hby dc42_24) ⟨rfl, ((Keep.refl h0 [it]).wr Wr815 (Or.inl (m_ 0))), A819, F817, F818, F816⟩
end Nar
namespace Nar
theorem c_get_3_0 (hw : HW Z a0) (hEL : EW Z a0 EL_) (h0 : Heap) (hE0 : Ext Z.heap h0) (lst ea s0 s1 s2 : Addr) (ke : ClassId) (E_l : Exa Z h0 lst cLN) (F_e : Fld Z h0 lst cLN "elements" "[Ljava/lang/Object;" (.ref ea)) (A_e : Arv Z h0 ea ke (.object "java/lang/Object") 3 [(.ref s0), (.ref s1), (.ref s2)] .null) :
    Con l Z EL_ [] N47 jdk_45_method_4_code 2 (some (.object "java/lang/Object")) [] (⟨0, 0, 0, 0⟩ : Room) #[(.ref lst), (.int (0 : Int32))] h0 (fun v h' => v = (some (.ref s0)) ∧ h' = h0) := by
  refine Con.mk (plainFor_of_name pn_17) hEL hE0 (fun x hx => by cases hx) ?_
  intro p e s m below meth c T0 hby hml hret hnm W0
  rw [(show entryFrame m #[(.ref lst), (.int (0 : Int32))] 2 = mkF m 0 #[.val (.ref lst), .val (.int (0 : Int32))] [] from by first | (simp [entryFrame, mkF, argsToLocals, Value.category]; done) | rfl)]
  refine Go.by (fun _ q9 => XS.aloadN W0.here W0.hx rfl (hb hby dc43_0) rfl rfl q9) ?_
  show Go _ _ _ _ _ _ _ _ _ (T0.setTop (mkF m 1 #[.val (.ref lst), .val (.int (0 : Int32))] [(.ref lst)]))
  refine W0.getf (host := "") (Or.inl (wd193 hw)) Via.refl F_e (hb hby dc43_1) ?_
  intro T820 W821
  refine Go.by (fun _ q9 => XS.iloadN W821.here W821.hx rfl (hb hby dc43_4) rfl q9) ?_
  show Go _ _ _ _ _ _ _ _ _ (T820.setTop (mkF m 5 #[.val (.ref lst), .val (.int (0 : Int32))] [(.int (0 : Int32)), (.ref ea)]))
  refine W821.aald A_e rfl ⟨by decide, by decide⟩ (v := (.ref s0)) rfl (hb hby dc43_5) ?_
  show Go _ _ _ _ _ _ _ _ _ (T820.setTop (mkF m 6 #[.val (.ref lst), .val (.int (0 : Int32))] [(.ref s0)]))
  exact W821.retA (by decide) (by decide) hret rfl rfl (hb hby dc43_6) ⟨rfl, rfl⟩
end Nar
namespace Nar
theorem c_next_3_0 (hw : HW Z a0) (hEL : EW Z a0 EL_) (h0 : Heap) (hE0 : Ext Z.heap h0) (it : Addr) (lst ea s0 s1 s2 : Addr) (ke : ClassId) (E_it : Exa Z h0 it cLI) (FL : Fld Z h0 it cLI "list" "Ljava/util/List;" (.ref lst)) (FS : Fld Z h0 it cLI "size" "I" (.int 3)) (FC : Fld Z h0 it cLI "cursor" "I" (.int 0)) (z_it : Z.heap.size ≤ it) (E_l : Exa Z h0 lst cLN) (F_e : Fld Z h0 lst cLN "elements" "[Ljava/lang/Object;" (.ref ea)) (A_e : Arv Z h0 ea ke (.object "java/lang/Object") 3 [(.ref s0), (.ref s1), (.ref s2)] .null) :
    ConW l Z EL_ [it] N46 jdk_53_method_4_code 3 (some (.object "java/lang/Object")) [(0, 24, 25, 30)] (⟨1, 0, 0, 15⟩ : Room) #[(.ref it)] h0 (fun v h' => v = some (.ref s0) ∧ Keep h0 h' [it] ∧ Exa Z h' it cLI ∧ Fld Z h' it cLI "list" "Ljava/util/List;" (.ref lst) ∧ Fld Z h' it cLI "size" "I" (.int 3) ∧ Fld Z h' it cLI "cursor" "I" (.int 1)) := by
  refine ConW.mk (plainFor_of_name pn_21) hEL hE0 (allS E_it.lt all0) ?_
  intro p e s m below meth c T0 hby hml hret hnm W0
  rw [(show entryFrame m #[(.ref it)] 3 = mkF m 0 #[.val (.ref it), .unset, .unset] [] from by first | (simp [entryFrame, mkF, argsToLocals, Value.category]; done) | rfl)]
  refine Go.by (fun _ q9 => XS.aloadN W0.here W0.hx rfl (hb hby dc42_0) rfl rfl q9) ?_
  show Go _ _ _ _ _ _ _ _ _ (T0.setTop (mkF m 1 #[.val (.ref it), .unset, .unset] [(.ref it)]))
  refine W0.getf (host := "") (Or.inl (wd204 hw)) Via.refl FC (hb hby dc42_1) ?_
  intro T822 W823
  refine Go.by (fun _ q9 => XS.istoreN W823.here W823.hx rfl (hb hby dc42_4) rfl (l' := #[.val (.ref it), .val (.int (0 : Int32)), .unset]) rfl (XS.aloadN W823.here W823.hx rfl (hb hby dc42_5) rfl rfl q9)) ?_
  show Go _ _ _ _ _ _ _ _ _ (T822.setTop (mkF m 6 #[.val (.ref it), .val (.int (0 : Int32)), .unset] [(.ref it)]))
  refine W823.getf (host := "") (Or.inl (wd200 hw)) Via.refl FL (hb hby dc42_6) ?_
  intro T824 W825
  refine Go.by (fun _ q9 => XS.iloadN W825.here W825.hx rfl (hb hby dc42_9) rfl q9) ?_
  show Go _ _ _ _ _ _ _ _ _ (T824.setTop (mkF m 10 #[.val (.ref it), .val (.int (0 : Int32)), .unset] [(.int (0 : Int32)), (.ref lst)]))
  refine W825.callFp (xi := N45) (y := N47) (wd343 hw) (wd344 hw) (wd345 hw) (wd394 hw) (wd395 hw) (wd396 hw) (wd397 hw) (wd180 hw) (wd191 hw) (wd398 hw) (by decide) E_l (a := lst) (c_get_3_0 l Z a0 hw hEL h0 hE0 lst ea s0 s1 s2 ke E_l F_e A_e) all0 (by decide) (by decide) (k' := 0) (n' := 0) rfl rfl (by decide) (by decide) (by rw [hml]; rfl) (argsL := [(.int (0 : Int32))]) (rest := []) (lenOf pd_22 rfl) rfl rfl (Wt := 0) (Nat.le_of_eq rfl) (hb hby dc42_10) ?_
  intro T826 W827
  refine Go.by (fun _ q9 => XS.astoreN W827.here W827.hx rfl (hb hby dc42_15) rfl rfl (l' := #[.val (.ref it), .val (.int (0 : Int32)), .val (.ref s0)]) rfl (XS.aloadN W827.here W827.hx rfl (hb hby dc42_16) rfl rfl (XS.iloadN W827.here W827.hx rfl (hb hby dc42_17) rfl (XS.iconst W827.here W827.hx rfl (hb hby dc42_18) (XS.iadd W827.here W827.hx rfl (hb hby dc42_19) rfl q9))))) ?_
  show Go _ _ _ _ _ _ _ _ _ (T826.setTop (mkF m 20 #[.val (.ref it), .val (.int (0 : Int32)), .val (.ref s0)] [(.int (1 : Int32)), (.ref it)]))
  refine W827.putf (host := "") (Or.inl (wd204 hw)) Via.refl FC E_it (Or.inl (wd205 hw)) (wd184 hw) (ty := .int) (by decide) rfl rfl z_it (m_ 0) (hb hby dc42_20) ?_
  intro T828 h829 W830 Wr831
  have F832 : Fld Z h829 it cLI "cursor" "I" (.int (1 : Int32)) := FC.same Wr831
  have F833 : Fld Z h829 it cLI "list" "Ljava/util/List;" (.ref lst) := FL.other Wr831 (Or.inr (slot_ne (Or.inr (wd201 hw)) (Or.inl (wd205 hw)) (by decide) (t := (.object "java/util/List")) (t' := .int) (by decide) (by decide)))
  have F834 : Fld Z h829 it cLI "size" "I" (.int 3) := FS.other Wr831 (Or.inr (slot_ne (Or.inr (wd203 hw)) (Or.inl (wd205 hw)) (by decide) (t := .int) (t' := .int) (by decide) (by decide)))
  have A835 : Exa Z h829 it cLI := E_it.wr Wr831
  refine Go.by (fun _ q9 => XS.aloadN W830.here W830.hx rfl (hb hby dc42_23) rfl rfl q9) ?_
  show Go _ _ _ _ _ _ _ _ _ (T828.setTop (mkF m 24 #[.val (.ref it), .val (.int (0 : Int32)), .val (.ref s0)] [(.ref s0)]))
  exact W830.retA (by decide) (by decide) hret rfl rfl (hb hby dc42_24) ⟨rfl, ((Keep.refl h0 [it]).wr Wr831 (Or.inl (m_ 0))), A835, F833, F834, F832⟩
end Nar
namespace Nar
theorem c_get_3_1 (hw : HW Z a0) (hEL : EW Z a0 EL_) (h0 : Heap) (hE0 : Ext Z.heap h0) (lst ea s0 s1 s2 : Addr) (ke : ClassId) (E_l : Exa Z h0 lst cLN) (F_e : Fld Z h0 lst cLN "elements" "[Ljava/lang/Object;" (.ref ea)) (A_e : Arv Z h0 ea ke (.object "java/lang/Object") 3 [(.ref s0), (.ref s1), (.ref s2)] .null) :
    Con l Z EL_ [] N47 jdk_45_method_4_code 2 (some (.object "java/lang/Object")) [] (⟨0, 0, 0, 0⟩ : Room) #[(.ref lst), (.int (1 : Int32))] h0 (fun v h' => v = (some (.ref s1)) ∧ h' = h0) := by
  refine Con.mk (plainFor_of_name pn_17) hEL hE0 (fun x hx => by cases hx) ?_
  intro p e s m below meth c T0 hby hml hret hnm W0
  rw [(show entryFrame m #[(.ref lst), (.int (1 : Int32))] 2 = mkF m 0 #[.val (.ref lst), .val (.int (1 : Int32))] [] from by first | (simp [entryFrame, mkF, argsToLocals, Value.category]; done) | rfl)]
  refine Go.by (fun _ q9 => XS.aloadN W0.here W0.hx rfl (hb hby dc43_0) rfl rfl q9) ?_
  show Go _ _ _ _ _ _ _ _ _ (T0.setTop (mkF m 1 #[.val (.ref lst), .val (.int (1 : Int32))] [(.ref lst)]))
  refine W0.getf (host := "") (Or.inl (wd193 hw)) Via.refl F_e (hb hby dc43_1) ?_
  intro T836 W837
  refine Go.by (fun _ q9 => XS.iloadN W837.here W837.hx rfl (hb hby dc43_4) rfl q9) ?_
  show Go _ _ _ _ _ _ _ _ _ (T836.setTop (mkF m 5 #[.val (.ref lst), .val (.int (1 : Int32))] [(.int (1 : Int32)), (.ref ea)]))
  refine W837.aald A_e rfl ⟨by decide, by decide⟩ (v := (.ref s1)) rfl (hb hby dc43_5) ?_
  show Go _ _ _ _ _ _ _ _ _ (T836.setTop (mkF m 6 #[.val (.ref lst), .val (.int (1 : Int32))] [(.ref s1)]))
  exact W837.retA (by decide) (by decide) hret rfl rfl (hb hby dc43_6) ⟨rfl, rfl⟩
end Nar
namespace Nar
theorem c_next_3_1 (hw : HW Z a0) (hEL : EW Z a0 EL_) (h0 : Heap) (hE0 : Ext Z.heap h0) (it : Addr) (lst ea s0 s1 s2 : Addr) (ke : ClassId) (E_it : Exa Z h0 it cLI) (FL : Fld Z h0 it cLI "list" "Ljava/util/List;" (.ref lst)) (FS : Fld Z h0 it cLI "size" "I" (.int 3)) (FC : Fld Z h0 it cLI "cursor" "I" (.int 1)) (z_it : Z.heap.size ≤ it) (E_l : Exa Z h0 lst cLN) (F_e : Fld Z h0 lst cLN "elements" "[Ljava/lang/Object;" (.ref ea)) (A_e : Arv Z h0 ea ke (.object "java/lang/Object") 3 [(.ref s0), (.ref s1), (.ref s2)] .null) :
    ConW l Z EL_ [it] N46 jdk_53_method_4_code 3 (some (.object "java/lang/Object")) [(0, 24, 25, 30)] (⟨1, 0, 0, 15⟩ : Room) #[(.ref it)] h0 (fun v h' => v = some (.ref s1) ∧ Keep h0 h' [it] ∧ Exa Z h' it cLI ∧ Fld Z h' it cLI "list" "Ljava/util/List;" (.ref lst) ∧ Fld Z h' it cLI "size" "I" (.int 3) ∧ Fld Z h' it cLI "cursor" "I" (.int 2)) := by
  refine ConW.mk (plainFor_of_name pn_21) hEL hE0 (allS E_it.lt all0) ?_
  intro p e s m below meth c T0 hby hml hret hnm W0
  rw [(show entryFrame m #[(.ref it)] 3 = mkF m 0 #[.val (.ref it), .unset, .unset] [] from by first | (simp [entryFrame, mkF, argsToLocals, Value.category]; done) | rfl)]
  refine Go.by (fun _ q9 => XS.aloadN W0.here W0.hx rfl (hb hby dc42_0) rfl rfl q9) ?_
  show Go _ _ _ _ _ _ _ _ _ (T0.setTop (mkF m 1 #[.val (.ref it), .unset, .unset] [(.ref it)]))
  refine W0.getf (host := "") (Or.inl (wd204 hw)) Via.refl FC (hb hby dc42_1) ?_
  intro T838 W839
  refine Go.by (fun _ q9 => XS.istoreN W839.here W839.hx rfl (hb hby dc42_4) rfl (l' := #[.val (.ref it), .val (.int (1 : Int32)), .unset]) rfl (XS.aloadN W839.here W839.hx rfl (hb hby dc42_5) rfl rfl q9)) ?_
  show Go _ _ _ _ _ _ _ _ _ (T838.setTop (mkF m 6 #[.val (.ref it), .val (.int (1 : Int32)), .unset] [(.ref it)]))
  refine W839.getf (host := "") (Or.inl (wd200 hw)) Via.refl FL (hb hby dc42_6) ?_
  intro T840 W841
  refine Go.by (fun _ q9 => XS.iloadN W841.here W841.hx rfl (hb hby dc42_9) rfl q9) ?_
  show Go _ _ _ _ _ _ _ _ _ (T840.setTop (mkF m 10 #[.val (.ref it), .val (.int (1 : Int32)), .unset] [(.int (1 : Int32)), (.ref lst)]))
  refine W841.callFp (xi := N45) (y := N47) (wd343 hw) (wd344 hw) (wd345 hw) (wd394 hw) (wd395 hw) (wd396 hw) (wd397 hw) (wd180 hw) (wd191 hw) (wd398 hw) (by decide) E_l (a := lst) (c_get_3_1 l Z a0 hw hEL h0 hE0 lst ea s0 s1 s2 ke E_l F_e A_e) all0 (by decide) (by decide) (k' := 0) (n' := 0) rfl rfl (by decide) (by decide) (by rw [hml]; rfl) (argsL := [(.int (1 : Int32))]) (rest := []) (lenOf pd_22 rfl) rfl rfl (Wt := 0) (Nat.le_of_eq rfl) (hb hby dc42_10) ?_
  intro T842 W843
  refine Go.by (fun _ q9 => XS.astoreN W843.here W843.hx rfl (hb hby dc42_15) rfl rfl (l' := #[.val (.ref it), .val (.int (1 : Int32)), .val (.ref s1)]) rfl (XS.aloadN W843.here W843.hx rfl (hb hby dc42_16) rfl rfl (XS.iloadN W843.here W843.hx rfl (hb hby dc42_17) rfl (XS.iconst W843.here W843.hx rfl (hb hby dc42_18) (XS.iadd W843.here W843.hx rfl (hb hby dc42_19) rfl q9))))) ?_
  show Go _ _ _ _ _ _ _ _ _ (T842.setTop (mkF m 20 #[.val (.ref it), .val (.int (1 : Int32)), .val (.ref s1)] [(.int (2 : Int32)), (.ref it)]))
  refine W843.putf (host := "") (Or.inl (wd204 hw)) Via.refl FC E_it (Or.inl (wd205 hw)) (wd184 hw) (ty := .int) (by decide) rfl rfl z_it (m_ 0) (hb hby dc42_20) ?_
  intro T844 h845 W846 Wr847
  have F848 : Fld Z h845 it cLI "cursor" "I" (.int (2 : Int32)) := FC.same Wr847
  have F849 : Fld Z h845 it cLI "list" "Ljava/util/List;" (.ref lst) := FL.other Wr847 (Or.inr (slot_ne (Or.inr (wd201 hw)) (Or.inl (wd205 hw)) (by decide) (t := (.object "java/util/List")) (t' := .int) (by decide) (by decide)))
  have F850 : Fld Z h845 it cLI "size" "I" (.int 3) := FS.other Wr847 (Or.inr (slot_ne (Or.inr (wd203 hw)) (Or.inl (wd205 hw)) (by decide) (t := .int) (t' := .int) (by decide) (by decide)))
  have A851 : Exa Z h845 it cLI := E_it.wr Wr847
  refine Go.by (fun _ q9 => XS.aloadN W846.here W846.hx rfl (hb hby dc42_23) rfl rfl q9) ?_
  show Go _ _ _ _ _ _ _ _ _ (T844.setTop (mkF m 24 #[.val (.ref it), .val (.int (1 : Int32)), .val (.ref s1)] [(.ref s1)]))
  exact W846.retA (by decide) (by decide) hret rfl rfl (hb hby dc42_24) ⟨rfl, ((Keep.refl h0 [it]).wr Wr847 (Or.inl (m_ 0))), A851, F849, F850, F848⟩
end Nar
namespace Nar
theorem c_get_3_2 (hw : HW Z a0) (hEL : EW Z a0 EL_) (h0 : Heap) (hE0 : Ext Z.heap h0) (lst ea s0 s1 s2 : Addr) (ke : ClassId) (E_l : Exa Z h0 lst cLN) (F_e : Fld Z h0 lst cLN "elements" "[Ljava/lang/Object;" (.ref ea)) (A_e : Arv Z h0 ea ke (.object "java/lang/Object") 3 [(.ref s0), (.ref s1), (.ref s2)] .null) :
    Con l Z EL_ [] N47 jdk_45_method_4_code 2 (some (.object "java/lang/Object")) [] (⟨0, 0, 0, 0⟩ : Room) #[(.ref lst), (.int (2 : Int32))] h0 (fun v h' => v = (some (.ref s2)) ∧ h' = h0) := by
  refine Con.mk (plainFor_of_name pn_17) hEL hE0 (fun x hx => by cases hx) ?_
  intro p e s m below meth c T0 hby hml hret hnm W0
  rw [(show entryFrame m #[(.ref lst), (.int (2 : Int32))] 2 = mkF m 0 #[.val (.ref lst), .val (.int (2 : Int32))] [] from by first | (simp [entryFrame, mkF, argsToLocals, Value.category]; done) | rfl)]
  refine Go.by (fun _ q9 => XS.aloadN W0.here W0.hx rfl (hb hby dc43_0) rfl rfl q9) ?_
  show Go _ _ _ _ _ _ _ _ _ (T0.setTop (mkF m 1 #[.val (.ref lst), .val (.int (2 : Int32))] [(.ref lst)]))
  refine W0.getf (host := "") (Or.inl (wd193 hw)) Via.refl F_e (hb hby dc43_1) ?_
  intro T852 W853
  refine Go.by (fun _ q9 => XS.iloadN W853.here W853.hx rfl (hb hby dc43_4) rfl q9) ?_
  show Go _ _ _ _ _ _ _ _ _ (T852.setTop (mkF m 5 #[.val (.ref lst), .val (.int (2 : Int32))] [(.int (2 : Int32)), (.ref ea)]))
  refine W853.aald A_e rfl ⟨by decide, by decide⟩ (v := (.ref s2)) rfl (hb hby dc43_5) ?_
  show Go _ _ _ _ _ _ _ _ _ (T852.setTop (mkF m 6 #[.val (.ref lst), .val (.int (2 : Int32))] [(.ref s2)]))
  exact W853.retA (by decide) (by decide) hret rfl rfl (hb hby dc43_6) ⟨rfl, rfl⟩
end Nar
namespace Nar
theorem c_next_3_2 (hw : HW Z a0) (hEL : EW Z a0 EL_) (h0 : Heap) (hE0 : Ext Z.heap h0) (it : Addr) (lst ea s0 s1 s2 : Addr) (ke : ClassId) (E_it : Exa Z h0 it cLI) (FL : Fld Z h0 it cLI "list" "Ljava/util/List;" (.ref lst)) (FS : Fld Z h0 it cLI "size" "I" (.int 3)) (FC : Fld Z h0 it cLI "cursor" "I" (.int 2)) (z_it : Z.heap.size ≤ it) (E_l : Exa Z h0 lst cLN) (F_e : Fld Z h0 lst cLN "elements" "[Ljava/lang/Object;" (.ref ea)) (A_e : Arv Z h0 ea ke (.object "java/lang/Object") 3 [(.ref s0), (.ref s1), (.ref s2)] .null) :
    ConW l Z EL_ [it] N46 jdk_53_method_4_code 3 (some (.object "java/lang/Object")) [(0, 24, 25, 30)] (⟨1, 0, 0, 15⟩ : Room) #[(.ref it)] h0 (fun v h' => v = some (.ref s2) ∧ Keep h0 h' [it] ∧ Exa Z h' it cLI ∧ Fld Z h' it cLI "list" "Ljava/util/List;" (.ref lst) ∧ Fld Z h' it cLI "size" "I" (.int 3) ∧ Fld Z h' it cLI "cursor" "I" (.int 3)) := by
  refine ConW.mk (plainFor_of_name pn_21) hEL hE0 (allS E_it.lt all0) ?_
  intro p e s m below meth c T0 hby hml hret hnm W0
  rw [(show entryFrame m #[(.ref it)] 3 = mkF m 0 #[.val (.ref it), .unset, .unset] [] from by first | (simp [entryFrame, mkF, argsToLocals, Value.category]; done) | rfl)]
  refine Go.by (fun _ q9 => XS.aloadN W0.here W0.hx rfl (hb hby dc42_0) rfl rfl q9) ?_
  show Go _ _ _ _ _ _ _ _ _ (T0.setTop (mkF m 1 #[.val (.ref it), .unset, .unset] [(.ref it)]))
  refine W0.getf (host := "") (Or.inl (wd204 hw)) Via.refl FC (hb hby dc42_1) ?_
  intro T854 W855
  refine Go.by (fun _ q9 => XS.istoreN W855.here W855.hx rfl (hb hby dc42_4) rfl (l' := #[.val (.ref it), .val (.int (2 : Int32)), .unset]) rfl (XS.aloadN W855.here W855.hx rfl (hb hby dc42_5) rfl rfl q9)) ?_
  show Go _ _ _ _ _ _ _ _ _ (T854.setTop (mkF m 6 #[.val (.ref it), .val (.int (2 : Int32)), .unset] [(.ref it)]))
  refine W855.getf (host := "") (Or.inl (wd200 hw)) Via.refl FL (hb hby dc42_6) ?_
  intro T856 W857
  refine Go.by (fun _ q9 => XS.iloadN W857.here W857.hx rfl (hb hby dc42_9) rfl q9) ?_
  show Go _ _ _ _ _ _ _ _ _ (T856.setTop (mkF m 10 #[.val (.ref it), .val (.int (2 : Int32)), .unset] [(.int (2 : Int32)), (.ref lst)]))
  refine W857.callFp (xi := N45) (y := N47) (wd343 hw) (wd344 hw) (wd345 hw) (wd394 hw) (wd395 hw) (wd396 hw) (wd397 hw) (wd180 hw) (wd191 hw) (wd398 hw) (by decide) E_l (a := lst) (c_get_3_2 l Z a0 hw hEL h0 hE0 lst ea s0 s1 s2 ke E_l F_e A_e) all0 (by decide) (by decide) (k' := 0) (n' := 0) rfl rfl (by decide) (by decide) (by rw [hml]; rfl) (argsL := [(.int (2 : Int32))]) (rest := []) (lenOf pd_22 rfl) rfl rfl (Wt := 0) (Nat.le_of_eq rfl) (hb hby dc42_10) ?_
  intro T858 W859
  refine Go.by (fun _ q9 => XS.astoreN W859.here W859.hx rfl (hb hby dc42_15) rfl rfl (l' := #[.val (.ref it), .val (.int (2 : Int32)), .val (.ref s2)]) rfl (XS.aloadN W859.here W859.hx rfl (hb hby dc42_16) rfl rfl (XS.iloadN W859.here W859.hx rfl (hb hby dc42_17) rfl (XS.iconst W859.here W859.hx rfl (hb hby dc42_18) (XS.iadd W859.here W859.hx rfl (hb hby dc42_19) rfl q9))))) ?_
  show Go _ _ _ _ _ _ _ _ _ (T858.setTop (mkF m 20 #[.val (.ref it), .val (.int (2 : Int32)), .val (.ref s2)] [(.int (3 : Int32)), (.ref it)]))
  refine W859.putf (host := "") (Or.inl (wd204 hw)) Via.refl FC E_it (Or.inl (wd205 hw)) (wd184 hw) (ty := .int) (by decide) rfl rfl z_it (m_ 0) (hb hby dc42_20) ?_
  intro T860 h861 W862 Wr863
  have F864 : Fld Z h861 it cLI "cursor" "I" (.int (3 : Int32)) := FC.same Wr863
  have F865 : Fld Z h861 it cLI "list" "Ljava/util/List;" (.ref lst) := FL.other Wr863 (Or.inr (slot_ne (Or.inr (wd201 hw)) (Or.inl (wd205 hw)) (by decide) (t := (.object "java/util/List")) (t' := .int) (by decide) (by decide)))
  have F866 : Fld Z h861 it cLI "size" "I" (.int 3) := FS.other Wr863 (Or.inr (slot_ne (Or.inr (wd203 hw)) (Or.inl (wd205 hw)) (by decide) (t := .int) (t' := .int) (by decide) (by decide)))
  have A867 : Exa Z h861 it cLI := E_it.wr Wr863
  refine Go.by (fun _ q9 => XS.aloadN W862.here W862.hx rfl (hb hby dc42_23) rfl rfl q9) ?_
  show Go _ _ _ _ _ _ _ _ _ (T860.setTop (mkF m 24 #[.val (.ref it), .val (.int (2 : Int32)), .val (.ref s2)] [(.ref s2)]))
  exact W862.retA (by decide) (by decide) hret rfl rfl (hb hby dc42_24) ⟨rfl, ((Keep.refl h0 [it]).wr Wr863 (Or.inl (m_ 0))), A867, F865, F866, F864⟩
end Nar
theorem c_sname (hw : HW Z a0) (hEL : EW Z a0 EL_) (h0 : Heap) (hE0 : Ext Z.heap h0) (x na : Addr) (FN : Fld Z h0 x cSC "name" "Ljava/lang/String;" (.ref na)) :
    Con l Z EL_ [] N48 prog_27_method_5_code 1 (some (.object "java/lang/String")) [] (⟨0, 0, 0, 0⟩ : Room) #[(.ref x)] h0 (fun v h' => v = (some (.ref na)) ∧ h' = h0) := by
  refine Con.mk (plainFor_of_name pn_8) hEL hE0 (fun x hx => by cases hx) ?_
  intro p e s m below meth c T0 hby hml hret hnm W0
  rw [(show entryFrame m #[(.ref x)] 1 = mkF m 0 #[.val (.ref x)] [] from by first | (simp [entryFrame, mkF, argsToLocals, Value.category]; done) | rfl)]
  refine Go.by (fun _ q9 => XS.aloadN W0.here W0.hx rfl (hb hby dc44_0) rfl rfl q9) ?_
  show Go _ _ _ _ _ _ _ _ _ (T0.setTop (mkF m 1 #[.val (.ref x)] [(.ref x)]))
  refine W0.getf (host := "") (Or.inl (wd100 hw)) Via.refl FN (hb hby dc44_1) ?_
  intro T868 W869
  show Go _ _ _ _ _ _ _ _ _ (T868.setTop (mkF m 4 #[.val (.ref x)] [(.ref na)]))
  exact W869.retA (by decide) (by decide) hret rfl rfl (hb hby dc44_4) ⟨rfl, rfl⟩
theorem c_optinit (hw : HW Z a0) (hEL : EW Z a0 EL_) (h0 : Heap) (hE0 : Ext Z.heap h0) (x a : Addr) (E_x : Exa Z h0 x "java/util/Optional") (FV : Fld Z h0 x "java/util/Optional" "value" "Ljava/lang/Object;" .null) (z_x : Z.heap.size ≤ x) :
    Con l Z EL_ [x] N49 jdk_32_method_2_code 2 none [] (⟨1, 0, 0, 12⟩ : Room) #[(.ref x), (.ref a)] h0 (fun v h' => v = none ∧ Keep h0 h' [x] ∧ Exa Z h' x "java/util/Optional" ∧ Fld Z h' x "java/util/Optional" "value" "Ljava/lang/Object;" (.ref a)) := by
  refine Con.mk (plainFor_of_name pn_9) hEL hE0 (allS E_x.lt all0) ?_
  intro p e s m below meth c T0 hby hml hret hnm W0
  rw [(show entryFrame m #[(.ref x), (.ref a)] 2 = mkF m 0 #[.val (.ref x), .val (.ref a)] [] from by first | (simp [entryFrame, mkF, argsToLocals, Value.category]; done) | rfl)]
  refine Go.by (fun _ q9 => XS.aloadN W0.here W0.hx rfl (hb hby dc45_0) rfl rfl q9) ?_
  show Go _ _ _ _ _ _ _ _ _ (T0.setTop (mkF m 1 #[.val (.ref x), .val (.ref a)] [(.ref x)]))
  refine W0.initO (wd372 hw) (wd16 hw) (wd17 hw) (by rw [hml]; rfl) (hb hby dc45_1) (by decide) (Wt := 0) (Nat.le_of_eq rfl) (by decide) ?_
  intro T870 W871
  refine Go.by (fun _ q9 => XS.aloadN W871.here W871.hx rfl (hb hby dc45_4) rfl rfl (XS.aloadN W871.here W871.hx rfl (hb hby dc45_5) rfl rfl q9)) ?_
  show Go _ _ _ _ _ _ _ _ _ (T870.setTop (mkF m 6 #[.val (.ref x), .val (.ref a)] [(.ref a), (.ref x)]))
  refine W871.putf (host := "") (Or.inl (wd223 hw)) Via.refl FV E_x (Or.inr ⟨(wd224 hw), rfl, hnm⟩) (wd366 hw) (ty := (.object "java/lang/Object")) (by decide) rfl rfl z_x (m_ 0) (hb hby dc45_6) ?_
  intro T872 h873 W874 Wr875
  have F876 : Fld Z h873 x "java/util/Optional" "value" "Ljava/lang/Object;" (.ref a) := FV.same Wr875
  have A877 : Exa Z h873 x "java/util/Optional" := E_x.wr Wr875
  show Go _ _ _ _ _ _ _ _ _ (T872.setTop (mkF m 9 #[.val (.ref x), .val (.ref a)] []))
  exact W874.retV (by decide) (by decide) hret (hb hby dc45_9) ⟨rfl, ((Keep.refl h0 [x]).wr Wr875 (Or.inl (m_ 0))), A877, F876⟩
theorem c_oof (hw : HW Z a0) (hEL : EW Z a0 EL_) (h0 : Heap) (hE0 : Ext Z.heap h0) (a : Addr)  :
    Con l Z EL_ [] N50 jdk_32_method_3_code 1 (some (.object "java/util/Optional")) [] (⟨2, 1, 1, 26⟩ : Room) #[(.ref a)] h0 (fun v h' => ∃ r, v = some (.ref r) ∧ Ext h0 h' ∧ Exa Z h' r "java/util/Optional" ∧ Fld Z h' r "java/util/Optional" "value" "Ljava/lang/Object;" (.ref a)) := by
  refine Con.mk (plainFor_of_name pn_9) hEL hE0 (fun x hx => by cases hx) ?_
  intro p e s m below meth c T0 hby hml hret hnm W0
  rw [(show entryFrame m #[(.ref a)] 1 = mkF m 0 #[.val (.ref a)] [] from by first | (simp [entryFrame, mkF, argsToLocals, Value.category]; done) | rfl)]
  refine W0.new (wd365 hw) (wd366 hw) (wd86 hw) (hb hby dc46_0) (k' := 1) (n' := 1) rfl rfl (by decide) (by decide) ?_
  intro T878 h879 r W880 E881 g_r z_r A_r D_r
  have F_value_r : Fld Z h879 r "java/util/Optional" "value" "Ljava/lang/Object;" .null := D_r (Or.inr (wd224 hw)) (ty := (.object "java/lang/Object")) (by decide)
  refine Go.by (fun _ q9 => XS.dup W880.here W880.hx rfl (hb hby dc46_3) rfl rfl (XS.aloadN W880.here W880.hx rfl (hb hby dc46_4) rfl rfl q9)) ?_
  show Go _ _ _ _ _ _ _ _ _ (T878.setTop (mkF m 5 #[.val (.ref a)] [(.ref a), (.ref r), (.ref r)]))
  refine W880.callSp (y := N9) (wd367 hw) (wd312 hw) (wd96 hw) (wd313 hw) (by decide) (c_rnn1 l Z a0 hw hEL h879 W880.old a) all0 (by decide) (by decide) (k' := 1) (n' := 1) rfl rfl (by decide) (by decide) (by rw [hml]; rfl) (argsL := [(.ref a)]) (rest := [(.ref r), (.ref r)]) (lenOf pd_13 rfl) rfl rfl (Wt := 2) (Nat.le_of_eq rfl) (hb hby dc46_5) ?_
  intro T882 W883
  show Go _ _ _ _ _ _ _ _ _ (T882.setTop (mkF m 8 #[.val (.ref a)] [(.ref a), (.ref r), (.ref r)]))
  refine W883.callI (y := N49) rfl (wd368 hw) (wd369 hw) (wd86 hw) (wd371 hw) (by decide) (a := r) (c_optinit l Z a0 hw hEL h879 W883.old r a A_r F_value_r z_r) (allS (m_ 0) all0) (by decide) (by decide) (k' := 1) (n' := 1) rfl rfl (by decide) (by decide) (by rw [hml]; rfl) (argsL := [(.ref a)]) (rest := [(.ref r)]) (lenOf pd_15 rfl) rfl rfl (Wt := 1) (Nat.le_of_eq rfl) (hb hby dc46_8) ?_
  intro v_ T884 h886 W885 hq_
  obtain ⟨rfl, K1, E1, F1⟩ := hq_
  show Go _ _ _ _ _ _ _ _ _ (T884.setTop (mkF m 11 #[.val (.ref a)] [(.ref r)]))
  have X887 : Ext h0 h886 := (Ext.keep' E881 K1 (allS (Nat.le_of_eq g_r) all0))
  exact W885.retA (by decide) (by decide) hret rfl rfl (hb hby dc46_11) ⟨r, rfl, X887, E1, F1⟩
theorem c_ispN (hw : HW Z a0) (hEL : EW Z a0 EL_) (h0 : Heap) (hE0 : Ext Z.heap h0) (x q : Addr) (FX : Fld Z h0 x "java/util/Optional" "value" "Ljava/lang/Object;" .null) :
    Con l Z EL_ [] N51 jdk_32_method_6_code 1 (some .boolean) [] (⟨0, 0, 0, 0⟩ : Room) #[(.ref x)] h0 (fun v h' => v = (some (.int 0)) ∧ h' = h0) := by
  refine Con.mk (plainFor_of_name pn_9) hEL hE0 (fun x hx => by cases hx) ?_
  intro p e s m below meth c T0 hby hml hret hnm W0
  rw [(show entryFrame m #[(.ref x)] 1 = mkF m 0 #[.val (.ref x)] [] from by first | (simp [entryFrame, mkF, argsToLocals, Value.category]; done) | rfl)]
  refine Go.by (fun _ q9 => XS.aloadN W0.here W0.hx rfl (hb hby dc47_0) rfl rfl q9) ?_
  show Go _ _ _ _ _ _ _ _ _ (T0.setTop (mkF m 1 #[.val (.ref x)] [(.ref x)]))
  refine W0.getf (host := "") (Or.inl (wd223 hw)) Via.refl FX (hb hby dc47_1) ?_
  intro T888 W889
  refine Go.by (fun _ q9 => XS.ifnullYes W889.here W889.hx rfl (pc0 := 4) (pc' := 11) rfl (hb hby dc47_4) rfl (by decide) (by decide) q9) ?_
  refine Go.by (fun _ q9 => XS.iconst W889.here W889.hx rfl (hb hby dc47_11) q9) ?_
  show Go _ _ _ _ _ _ _ _ _ (T888.setTop (mkF m 12 #[.val (.ref x)] [(.int (0 : Int32))]))
  exact W889.retN (z' := (0 : Int32)) (by decide) (by decide) hret (by simp) (hb hby dc47_12) rfl ⟨rfl, rfl⟩
theorem c_ispR (hw : HW Z a0) (hEL : EW Z a0 EL_) (h0 : Heap) (hE0 : Ext Z.heap h0) (x q : Addr) (FX : Fld Z h0 x "java/util/Optional" "value" "Ljava/lang/Object;" (.ref q)) :
    Con l Z EL_ [] N51 jdk_32_method_6_code 1 (some .boolean) [] (⟨0, 0, 0, 0⟩ : Room) #[(.ref x)] h0 (fun v h' => v = (some (.int 1)) ∧ h' = h0) := by
  refine Con.mk (plainFor_of_name pn_9) hEL hE0 (fun x hx => by cases hx) ?_
  intro p e s m below meth c T0 hby hml hret hnm W0
  rw [(show entryFrame m #[(.ref x)] 1 = mkF m 0 #[.val (.ref x)] [] from by first | (simp [entryFrame, mkF, argsToLocals, Value.category]; done) | rfl)]
  refine Go.by (fun _ q9 => XS.aloadN W0.here W0.hx rfl (hb hby dc47_0) rfl rfl q9) ?_
  show Go _ _ _ _ _ _ _ _ _ (T0.setTop (mkF m 1 #[.val (.ref x)] [(.ref x)]))
  refine W0.getf (host := "") (Or.inl (wd223 hw)) Via.refl FX (hb hby dc47_1) ?_
  intro T890 W891
  refine Go.by (fun _ q9 => XS.ifnullNo W891.here W891.hx rfl (hb hby dc47_4) rfl q9) ?_
  refine Go.by (fun _ q9 => XS.iconst W891.here W891.hx rfl (hb hby dc47_7) (XS.goto W891.here W891.hx rfl (pc0 := 8) (pc' := 12) rfl (hb hby dc47_8) (by decide) (by decide) q9)) ?_
  show Go _ _ _ _ _ _ _ _ _ (T890.setTop (mkF m 12 #[.val (.ref x)] [(.int (1 : Int32))]))
  exact W891.retN (z' := (1 : Int32)) (by decide) (by decide) hret (by simp) (hb hby dc47_12) rfl ⟨rfl, rfl⟩
theorem c_oget (hw : HW Z a0) (hEL : EW Z a0 EL_) (h0 : Heap) (hE0 : Ext Z.heap h0) (x q : Addr) (FX : Fld Z h0 x "java/util/Optional" "value" "Ljava/lang/Object;" (.ref q)) :
    Con l Z EL_ [] N52 jdk_32_method_5_code 1 (some (.object "java/lang/Object")) [] (⟨0, 0, 0, 0⟩ : Room) #[(.ref x)] h0 (fun v h' => v = (some (.ref q)) ∧ h' = h0) := by
  refine Con.mk (plainFor_of_name pn_9) hEL hE0 (fun x hx => by cases hx) ?_
  intro p e s m below meth c T0 hby hml hret hnm W0
  rw [(show entryFrame m #[(.ref x)] 1 = mkF m 0 #[.val (.ref x)] [] from by first | (simp [entryFrame, mkF, argsToLocals, Value.category]; done) | rfl)]
  refine Go.by (fun _ q9 => XS.aloadN W0.here W0.hx rfl (hb hby dc48_0) rfl rfl q9) ?_
  show Go _ _ _ _ _ _ _ _ _ (T0.setTop (mkF m 1 #[.val (.ref x)] [(.ref x)]))
  refine W0.getf (host := "") (Or.inl (wd223 hw)) Via.refl FX (hb hby dc48_1) ?_
  intro T892 W893
  refine Go.by (fun _ q9 => XS.ifnonnullYes W893.here W893.hx rfl (pc0 := 4) (pc' := 17) rfl (hb hby dc48_4) rfl (by decide) (by decide) q9) ?_
  refine Go.by (fun _ q9 => XS.aloadN W893.here W893.hx rfl (hb hby dc48_17) rfl rfl q9) ?_
  show Go _ _ _ _ _ _ _ _ _ (T892.setTop (mkF m 18 #[.val (.ref x)] [(.ref x)]))
  refine W893.getf (host := "") (Or.inl (wd223 hw)) Via.refl FX (hb hby dc48_18) ?_
  intro T894 W895
  show Go _ _ _ _ _ _ _ _ _ (T894.setTop (mkF m 21 #[.val (.ref x)] [(.ref q)]))
  exact W895.retA (by decide) (by decide) hret rfl rfl (hb hby dc48_21) ⟨rfl, rfl⟩
theorem c_scheme_0 (hw : HW Z a0) (hEL : EW Z a0 EL_) (h0 : Heap) (hE0 : Ext Z.heap h0) (lst ea  : Addr) (ke : ClassId) (x qa em : Addr) (cq : List Int32) (G1 : Int32) (SG1 : Sta Z Z.heap "java/lang/String" "COMPACT_STRINGS" "Z" (.int G1)) (hG : ¬ G1 = 0) (SE : Sta Z Z.heap "java/util/Optional" "EMPTY" "Ljava/util/Optional;" (.ref em)) (EE : Exa Z Z.heap em "java/util/Optional") (FE : Fld Z Z.heap em "java/util/Optional" "value" "Ljava/lang/Object;" .null) (E_x : Exa Z h0 x cFF) (FX : Fld Z h0 x cFF "schemes" "Ljava/util/List;" (.ref lst)) (E_l : Exa Z h0 lst cLN) (F_e : Fld Z h0 lst cLN "elements" "[Ljava/lang/Object;" (.ref ea)) (A_e : Arv Z h0 ea ke (.object "java/lang/Object") 0 [] .null)  (SQ : Str Z h0 qa cq) (lq : cq.length ≤ 4000)  :
    Con l Z EL_ [] N55 prog_26_method_2_code 4 (some (.object "java/util/Optional")) [] (⟨4, 2, 5, 60⟩ : Room) #[(.ref x), (.ref qa)] h0 (fun v h' => ∃ r, v = some (.ref r) ∧ Ext h0 h' ∧ Exa Z h' r "java/util/Optional" ∧ Fld Z h' r "java/util/Optional" "value" "Ljava/lang/Object;" (.null)) := by
  refine Con.mk (plainFor_of_name pn_20) hEL hE0 (fun x hx => by cases hx) ?_
  intro p e s m below meth c T0 hby hml hret hnm W0
  rw [(show entryFrame m #[(.ref x), (.ref qa)] 4 = mkF m 0 #[.val (.ref x), .val (.ref qa), .unset, .unset] [] from by first | (simp [entryFrame, mkF, argsToLocals, Value.category]; done) | rfl)]
  refine Go.by (fun _ q9 => XS.aloadN W0.here W0.hx rfl (hb hby dc49_0) rfl rfl q9) ?_
  show Go _ _ _ _ _ _ _ _ _ (T0.setTop (mkF m 1 #[.val (.ref x), .val (.ref qa), .unset, .unset] [(.ref x)]))
  refine W0.getf (host := "") (Or.inl (wd166 hw)) Via.refl FX (hb hby dc49_1) ?_
  intro T896 W897
  show Go _ _ _ _ _ _ _ _ _ (T896.setTop (mkF m 4 #[.val (.ref x), .val (.ref qa), .unset, .unset] [(.ref lst)]))
  refine W897.callF (xi := N53) (y := N42) (wd173 hw) (wd174 hw) (wd175 hw) (wd176 hw) (wd177 hw) (wd178 hw) (wd179 hw) (wd180 hw) (wd181 hw) (wd182 hw) (by decide) E_l (a := lst) (c_iter_0 l Z a0 hw hEL h0 hE0 lst ea  ke E_l F_e A_e) all0 (by decide) (by decide) (k' := 1) (n' := 4) rfl rfl (by decide) (by decide) (by rw [hml]; rfl) (argsL := []) (rest := []) (lenOf pd_23 rfl) rfl rfl (Wt := 0) (Nat.le_of_eq rfl) (hb hby dc49_4) ?_
  intro v_ T898 h900 W899 hq_
  obtain ⟨it, rfl, X1, gi, i1, i2, i3, i4⟩ := hq_
  have W901 := W899.safeE i1 (by decide) (by decide)
  refine Go.by (fun _ q9 => XS.astoreN W901.here W901.hx rfl (hb hby dc49_9) rfl rfl (l' := #[.val (.ref x), .val (.ref qa), .val (.ref it), .unset]) rfl (XS.aloadN W901.here W901.hx rfl (hb hby dc49_10) rfl rfl q9)) ?_
  show Go _ _ _ _ _ _ _ _ _ (T898.setTop (mkF m 11 #[.val (.ref x), .val (.ref qa), .val (.ref it), .unset] [(.ref it)]))
  refine W901.callFp (xi := N54) (y := N43) (wd208 hw) (wd209 hw) (wd210 hw) (wd211 hw) (wd212 hw) (wd213 hw) (wd214 hw) (wd215 hw) (wd185 hw) (wd216 hw) (by decide) i1 (a := it) (c_hn l Z a0 hw hEL h900 W901.old it (0 : Int32) (0 : Int32) i4 i3) all0 (by decide) (by decide) (k' := 1) (n' := 4) rfl rfl (by decide) (by decide) (by rw [hml]; rfl) (argsL := []) (rest := []) (lenOf pd_18 rfl) rfl rfl (Wt := 0) (Nat.le_of_eq rfl) (hb hby dc49_11) ?_
  intro T902 W903
  refine Go.by (fun _ q9 => XS.ifYes W903.here W903.hx rfl (pc0 := 16) (pc' := 48) rfl (hb hby dc49_16) rfl ((if0 _ _).trans (teq (by decide)).1) (by decide) (by decide) q9) ?_
  show Go _ _ _ _ _ _ _ _ _ (T902.setTop (mkF m 48 #[.val (.ref x), .val (.ref qa), .val (.ref it), .unset] []))
  refine W903.callSp (y := N11) (wd217 hw) (wd85 hw) (wd86 hw) (wd87 hw) (by decide) (c_oempty l Z a0 hw hEL h900 W903.old em SE) all0 (by decide) (by decide) (k' := 1) (n' := 4) rfl rfl (by decide) (by decide) (by rw [hml]; rfl) (argsL := []) (rest := []) (lenOf pd_24 rfl) rfl rfl (Wt := 0) (Nat.le_of_eq rfl) (hb hby dc49_48) ?_
  intro T904 W905
  show Go _ _ _ _ _ _ _ _ _ (T904.setTop (mkF m 51 #[.val (.ref x), .val (.ref qa), .val (.ref it), .unset] [(.ref em)]))
  exact W905.retA (by decide) (by decide) hret rfl rfl (hb hby dc49_51) ⟨em, rfl, X1, EE.ext W905.old, FE.ext W905.old⟩
theorem c_scheme_1 (hw : HW Z a0) (hEL : EW Z a0 EL_) (h0 : Heap) (hE0 : Ext Z.heap h0) (lst emp s0 : Addr) (x qa em : Addr) (cq : List Int32) (G1 : Int32) (n0 : Addr) (cs0 : List Int32) (SG1 : Sta Z Z.heap "java/lang/String" "COMPACT_STRINGS" "Z" (.int G1)) (hG : ¬ G1 = 0) (SE : Sta Z Z.heap "java/util/Optional" "EMPTY" "Ljava/util/Optional;" (.ref em)) (EE : Exa Z Z.heap em "java/util/Optional") (FE : Fld Z Z.heap em "java/util/Optional" "value" "Ljava/lang/Object;" .null) (E_x : Exa Z h0 x cFF) (FX : Fld Z h0 x cFF "schemes" "Ljava/util/List;" (.ref lst)) (E_l : Exa Z h0 lst cL2) (F_0 : Fld Z h0 lst cL2 "e0" "Ljava/lang/Object;" (.ref s0)) (F_1 : Fld Z h0 lst cL2 "e1" "Ljava/lang/Object;" (.ref emp)) (SM : Sta Z Z.heap cIC "EMPTY" "Ljava/lang/Object;" (.ref emp)) (EM : Exa Z Z.heap emp "java/lang/Object") (E_s0 : Exa Z h0 s0 cSC) (SQ : Str Z h0 qa cq) (lq : cq.length ≤ 4000) (FN0 : Fld Z h0 s0 cSC "name" "Ljava/lang/String;" (.ref n0)) (S0 : Str Z h0 n0 cs0) (l0 : cs0.length ≤ 4000) :
    Con l Z EL_ [] N55 prog_26_method_2_code 4 (some (.object "java/util/Optional")) [] (⟨4, 2, 5, 60⟩ : Room) #[(.ref x), (.ref qa)] h0 (fun v h' => ∃ r, v = some (.ref r) ∧ Ext h0 h' ∧ Exa Z h' r "java/util/Optional" ∧ Fld Z h' r "java/util/Optional" "value" "Ljava/lang/Object;" (if cs0 = cq then (.ref s0) else .null)) := by
  refine Con.mk (plainFor_of_name pn_20) hEL hE0 (fun x hx => by cases hx) ?_
  intro p e s m below meth c T0 hby hml hret hnm W0
  rw [(show entryFrame m #[(.ref x), (.ref qa)] 4 = mkF m 0 #[.val (.ref x), .val (.ref qa), .unset, .unset] [] from by first | (simp [entryFrame, mkF, argsToLocals, Value.category]; done) | rfl)]
  refine Go.by (fun _ q9 => XS.aloadN W0.here W0.hx rfl (hb hby dc49_0) rfl rfl q9) ?_
  show Go _ _ _ _ _ _ _ _ _ (T0.setTop (mkF m 1 #[.val (.ref x), .val (.ref qa), .unset, .unset] [(.ref x)]))
  refine W0.getf (host := "") (Or.inl (wd166 hw)) Via.refl FX (hb hby dc49_1) ?_
  intro T906 W907
  show Go _ _ _ _ _ _ _ _ _ (T906.setTop (mkF m 4 #[.val (.ref x), .val (.ref qa), .unset, .unset] [(.ref lst)]))
  refine W907.callF (xi := N53) (y := N42) (wd173 hw) (wd174 hw) (wd175 hw) (wd329 hw) (wd177 hw) (wd178 hw) (wd330 hw) (wd331 hw) (wd181 hw) (wd182 hw) (by decide) E_l (a := lst) (c_iter_1 l Z a0 hw hEL h0 hE0 lst emp s0 E_l F_0 F_1 SM EM) all0 (by decide) (by decide) (k' := 1) (n' := 4) rfl rfl (by decide) (by decide) (by rw [hml]; rfl) (argsL := []) (rest := []) (lenOf pd_23 rfl) rfl rfl (Wt := 0) (Nat.le_of_eq rfl) (hb hby dc49_4) ?_
  intro v_ T908 h910 W909 hq_
  obtain ⟨it, rfl, X1, gi, i1, i2, i3, i4⟩ := hq_
  have W911 := W909.safeE i1 (by decide) (by decide)
  refine Go.by (fun _ q9 => XS.astoreN W911.here W911.hx rfl (hb hby dc49_9) rfl rfl (l' := #[.val (.ref x), .val (.ref qa), .val (.ref it), .unset]) rfl (XS.aloadN W911.here W911.hx rfl (hb hby dc49_10) rfl rfl q9)) ?_
  show Go _ _ _ _ _ _ _ _ _ (T908.setTop (mkF m 11 #[.val (.ref x), .val (.ref qa), .val (.ref it), .unset] [(.ref it)]))
  refine W911.callFp (xi := N54) (y := N43) (wd208 hw) (wd209 hw) (wd210 hw) (wd211 hw) (wd212 hw) (wd213 hw) (wd214 hw) (wd215 hw) (wd185 hw) (wd216 hw) (by decide) i1 (a := it) (c_hn l Z a0 hw hEL h910 W911.old it (0 : Int32) (1 : Int32) i4 i3) all0 (by decide) (by decide) (k' := 1) (n' := 4) rfl rfl (by decide) (by decide) (by rw [hml]; rfl) (argsL := []) (rest := []) (lenOf pd_18 rfl) rfl rfl (Wt := 0) (Nat.le_of_eq rfl) (hb hby dc49_11) ?_
  intro T912 W913
  refine Go.by (fun _ q9 => XS.ifNo W913.here W913.hx rfl (hb hby dc49_16) rfl ((if0 _ _).trans (feq (by decide)).1) q9) ?_
  refine Go.by (fun _ q9 => XS.aloadN W913.here W913.hx rfl (hb hby dc49_19) rfl rfl q9) ?_
  show Go _ _ _ _ _ _ _ _ _ (T912.setTop (mkF m 20 #[.val (.ref x), .val (.ref qa), .val (.ref it), .unset] [(.ref it)]))
  refine W913.callFH (xi := N56) (y := N46) (wd335 hw) (wd336 hw) (wd337 hw) (wd338 hw) (wd339 hw) (wd340 hw) (wd341 hw) (wd215 hw) (wd185 hw) (wd342 hw) (by decide) i1 (a := it) (Nar.c_next_1_0 l Z a0 hw hEL h910 W913.old it lst emp s0 i1 i2 i3 i4 (Nat.le_trans hE0.1 gi) (E_l.ext X1) (F_0.ext X1) (F_1.ext X1) SM EM) (allS (m_ 0) all0) (by decide) (by decide) (k' := 1) (n' := 4) rfl rfl (by decide) (by decide) (by rw [hml]; rfl) (argsL := []) (rest := []) (lenOf pd_25 rfl) rfl rfl (Wt := 0) (Nat.le_of_eq rfl) (hb hby dc49_20) ?_
  intro v_ T914 h916 W915 hq_
  obtain ⟨rfl, K0, j0, k0, m0, o0⟩ := hq_
  have X917 : Ext h0 h916 := (Ext.keep' X1 K0 (allS gi all0))
  show Go _ _ _ _ _ _ _ _ _ (T914.setTop (mkF m 25 #[.val (.ref x), .val (.ref qa), .val (.ref it), .unset] [(.ref s0)]))
  refine W915.castY (wd351 hw) (Ins.self (E_s0.ext X917)) (hb hby dc49_25) ?_
  intro T918 W919
  refine Go.by (fun _ q9 => XS.astoreN W919.here W919.hx rfl (hb hby dc49_28) rfl rfl (l' := #[.val (.ref x), .val (.ref qa), .val (.ref it), .val (.ref s0)]) rfl (XS.aloadN W919.here W919.hx rfl (hb hby dc49_29) rfl rfl q9)) ?_
  show Go _ _ _ _ _ _ _ _ _ (T918.setTop (mkF m 30 #[.val (.ref x), .val (.ref qa), .val (.ref it), .val (.ref s0)] [(.ref s0)]))
  refine W919.callVp (y := N48) (z := N48) (wd353 hw) (wd354 hw) (nf_sel rfl (wd356 hw)) (wd356 hw) (wd355 hw) (wd83 hw) (wd357 hw) (by decide) (E_s0.ext X917) (a := s0) (c_sname l Z a0 hw hEL h916 W919.old s0 n0 (FN0.ext X917)) all0 (by decide) (by decide) (k' := 1) (n' := 4) rfl rfl (by decide) (by decide) (by rw [hml]; rfl) (argsL := []) (rest := []) (lenOf pd_26 rfl) rfl rfl (Wt := 0) (Nat.le_of_eq rfl) (hb hby dc49_30) ?_
  intro T920 W921
  refine Go.by (fun _ q9 => XS.aloadN W921.here W921.hx rfl (hb hby dc49_33) rfl rfl q9) ?_
  show Go _ _ _ _ _ _ _ _ _ (T920.setTop (mkF m 34 #[.val (.ref x), .val (.ref qa), .val (.ref it), .val (.ref s0)] [(.ref qa), (.ref n0)]))
  refine W921.strEq (k_eq hw) (wd5 hw) (wd358 hw) (wd320 hw) (wd322 hw) (wd321 hw) (S0.ext X917) (SQ.ext X917) l0 lq (SG1.ext W921.old) hG (by decide) (Wt := 0) (by decide) (by rw [hml]; rfl) (Nat.le_of_eq rfl) (by decide) (by decide) (hb hby dc49_34) ?_
  intro T922 rr0 W923 hrr0
  by_cases q0 : cs0 = cq
  · refine Go.by (fun _ q9 => XS.ifNo W923.here W923.hx rfl (hb hby dc49_37) rfl ((if0 _ _).trans (feq (by rw [hrr0, if_pos q0]; decide)).1) q9) ?_
    refine Go.by (fun _ q9 => XS.aloadN W923.here W923.hx rfl (hb hby dc49_40) rfl rfl q9) ?_
    show Go _ _ _ _ _ _ _ _ _ (T922.setTop (mkF m 41 #[.val (.ref x), .val (.ref qa), .val (.ref it), .val (.ref s0)] [(.ref s0)]))
    refine W923.callS (y := N50) (wd362 hw) (wd363 hw) (wd86 hw) (wd364 hw) (by decide) (c_oof l Z a0 hw hEL h916 W923.old s0) all0 (by decide) (by decide) (k' := 2) (n' := 5) rfl rfl (by decide) (by decide) (by rw [hml]; rfl) (argsL := [(.ref s0)]) (rest := []) (lenOf pd_27 rfl) rfl rfl (Wt := 0) (Nat.le_of_eq rfl) (hb hby dc49_41) ?_
    intro v_ T924 h926 W925 hq_
    obtain ⟨r, rfl, X9, E9, F9⟩ := hq_
    show Go _ _ _ _ _ _ _ _ _ (T924.setTop (mkF m 44 #[.val (.ref x), .val (.ref qa), .val (.ref it), .val (.ref s0)] [(.ref r)]))
    have X927 : Ext h0 h926 := (Ext.trans' X917 X9)
    exact W925.retA (by decide) (by decide) hret rfl rfl (hb hby dc49_44) ⟨r, rfl, X927, E9, by rw [if_pos q0]; exact F9⟩
  · refine Go.by (fun _ q9 => XS.ifYes W923.here W923.hx rfl (pc0 := 37) (pc' := 45) rfl (hb hby dc49_37) rfl ((if0 _ _).trans (teq (by rw [hrr0, if_neg q0])).1) (by decide) (by decide) q9) ?_
    refine Go.by (fun _ q9 => XS.goto W923.here W923.hx rfl (pc0 := 45) (pc' := 10) rfl (hb hby dc49_45) (by decide) (by decide) (XS.aloadN W923.here W923.hx rfl (hb hby dc49_10) rfl rfl q9)) ?_
    show Go _ _ _ _ _ _ _ _ _ (T922.setTop (mkF m 11 #[.val (.ref x), .val (.ref qa), .val (.ref it), .val (.ref s0)] [(.ref it)]))
    refine W923.callFp (xi := N54) (y := N43) (wd208 hw) (wd209 hw) (wd210 hw) (wd211 hw) (wd212 hw) (wd213 hw) (wd214 hw) (wd215 hw) (wd185 hw) (wd216 hw) (by decide) j0 (a := it) (c_hn l Z a0 hw hEL h916 W923.old it (1 : Int32) (1 : Int32) o0 m0) all0 (by decide) (by decide) (k' := 1) (n' := 4) rfl rfl (by decide) (by decide) (by rw [hml]; rfl) (argsL := []) (rest := []) (lenOf pd_18 rfl) rfl rfl (Wt := 0) (Nat.le_of_eq rfl) (hb hby dc49_11) ?_
    intro T928 W929
    refine Go.by (fun _ q9 => XS.ifYes W929.here W929.hx rfl (pc0 := 16) (pc' := 48) rfl (hb hby dc49_16) rfl ((if0 _ _).trans (teq (by decide)).1) (by decide) (by decide) q9) ?_
    show Go _ _ _ _ _ _ _ _ _ (T928.setTop (mkF m 48 #[.val (.ref x), .val (.ref qa), .val (.ref it), .val (.ref s0)] []))
    refine W929.callSp (y := N11) (wd217 hw) (wd85 hw) (wd86 hw) (wd87 hw) (by decide) (c_oempty l Z a0 hw hEL h916 W929.old em SE) all0 (by decide) (by decide) (k' := 1) (n' := 4) rfl rfl (by decide) (by decide) (by rw [hml]; rfl) (argsL := []) (rest := []) (lenOf pd_24 rfl) rfl rfl (Wt := 0) (Nat.le_of_eq rfl) (hb hby dc49_48) ?_
    intro T930 W931
    show Go _ _ _ _ _ _ _ _ _ (T930.setTop (mkF m 51 #[.val (.ref x), .val (.ref qa), .val (.ref it), .val (.ref s0)] [(.ref em)]))
    exact W931.retA (by decide) (by decide) hret rfl rfl (hb hby dc49_51) ⟨em, rfl, X917, EE.ext W931.old, by rw [if_neg q0]; exact FE.ext W931.old⟩
theorem c_scheme_2 (hw : HW Z a0) (hEL : EW Z a0 EL_) (h0 : Heap) (hE0 : Ext Z.heap h0) (lst emp s0 s1 : Addr) (x qa em : Addr) (cq : List Int32) (G1 : Int32) (n0 n1 : Addr) (cs0 cs1 : List Int32) (SG1 : Sta Z Z.heap "java/lang/String" "COMPACT_STRINGS" "Z" (.int G1)) (hG : ¬ G1 = 0) (SE : Sta Z Z.heap "java/util/Optional" "EMPTY" "Ljava/util/Optional;" (.ref em)) (EE : Exa Z Z.heap em "java/util/Optional") (FE : Fld Z Z.heap em "java/util/Optional" "value" "Ljava/lang/Object;" .null) (E_x : Exa Z h0 x cFF) (FX : Fld Z h0 x cFF "schemes" "Ljava/util/List;" (.ref lst)) (E_l : Exa Z h0 lst cL2) (F_0 : Fld Z h0 lst cL2 "e0" "Ljava/lang/Object;" (.ref s0)) (F_1 : Fld Z h0 lst cL2 "e1" "Ljava/lang/Object;" (.ref s1)) (SM : Sta Z Z.heap cIC "EMPTY" "Ljava/lang/Object;" (.ref emp)) (EM : Exa Z Z.heap emp "java/lang/Object") (E_s0 : Exa Z h0 s0 cSC) (E_s1 : Exa Z h0 s1 cSC) (SQ : Str Z h0 qa cq) (lq : cq.length ≤ 4000) (FN0 : Fld Z h0 s0 cSC "name" "Ljava/lang/String;" (.ref n0)) (S0 : Str Z h0 n0 cs0) (l0 : cs0.length ≤ 4000) (FN1 : Fld Z h0 s1 cSC "name" "Ljava/lang/String;" (.ref n1)) (S1 : Str Z h0 n1 cs1) (l1 : cs1.length ≤ 4000) :
    Con l Z EL_ [] N55 prog_26_method_2_code 4 (some (.object "java/util/Optional")) [] (⟨4, 2, 5, 60⟩ : Room) #[(.ref x), (.ref qa)] h0 (fun v h' => ∃ r, v = some (.ref r) ∧ Ext h0 h' ∧ Exa Z h' r "java/util/Optional" ∧ Fld Z h' r "java/util/Optional" "value" "Ljava/lang/Object;" (if cs0 = cq then (.ref s0) else if cs1 = cq then (.ref s1) else .null)) := by
  refine Con.mk (plainFor_of_name pn_20) hEL hE0 (fun x hx => by cases hx) ?_
  intro p e s m below meth c T0 hby hml hret hnm W0
  rw [(show entryFrame m #[(.ref x), (.ref qa)] 4 = mkF m 0 #[.val (.ref x), .val (.ref qa), .unset, .unset] [] from by first | (simp [entryFrame, mkF, argsToLocals, Value.category]; done) | rfl)]
  refine Go.by (fun _ q9 => XS.aloadN W0.here W0.hx rfl (hb hby dc49_0) rfl rfl q9) ?_
  show Go _ _ _ _ _ _ _ _ _ (T0.setTop (mkF m 1 #[.val (.ref x), .val (.ref qa), .unset, .unset] [(.ref x)]))
  refine W0.getf (host := "") (Or.inl (wd166 hw)) Via.refl FX (hb hby dc49_1) ?_
  intro T932 W933
  show Go _ _ _ _ _ _ _ _ _ (T932.setTop (mkF m 4 #[.val (.ref x), .val (.ref qa), .unset, .unset] [(.ref lst)]))
  refine W933.callF (xi := N53) (y := N42) (wd173 hw) (wd174 hw) (wd175 hw) (wd329 hw) (wd177 hw) (wd178 hw) (wd330 hw) (wd331 hw) (wd181 hw) (wd182 hw) (by decide) E_l (a := lst) (c_iter_2 l Z a0 hw hEL h0 hE0 lst emp s0 s1 E_l F_0 F_1 SM EM E_s1) all0 (by decide) (by decide) (k' := 1) (n' := 4) rfl rfl (by decide) (by decide) (by rw [hml]; rfl) (argsL := []) (rest := []) (lenOf pd_23 rfl) rfl rfl (Wt := 0) (Nat.le_of_eq rfl) (hb hby dc49_4) ?_
  intro v_ T934 h936 W935 hq_
  obtain ⟨it, rfl, X1, gi, i1, i2, i3, i4⟩ := hq_
  have W937 := W935.safeE i1 (by decide) (by decide)
  refine Go.by (fun _ q9 => XS.astoreN W937.here W937.hx rfl (hb hby dc49_9) rfl rfl (l' := #[.val (.ref x), .val (.ref qa), .val (.ref it), .unset]) rfl (XS.aloadN W937.here W937.hx rfl (hb hby dc49_10) rfl rfl q9)) ?_
  show Go _ _ _ _ _ _ _ _ _ (T934.setTop (mkF m 11 #[.val (.ref x), .val (.ref qa), .val (.ref it), .unset] [(.ref it)]))
  refine W937.callFp (xi := N54) (y := N43) (wd208 hw) (wd209 hw) (wd210 hw) (wd211 hw) (wd212 hw) (wd213 hw) (wd214 hw) (wd215 hw) (wd185 hw) (wd216 hw) (by decide) i1 (a := it) (c_hn l Z a0 hw hEL h936 W937.old it (0 : Int32) (2 : Int32) i4 i3) all0 (by decide) (by decide) (k' := 1) (n' := 4) rfl rfl (by decide) (by decide) (by rw [hml]; rfl) (argsL := []) (rest := []) (lenOf pd_18 rfl) rfl rfl (Wt := 0) (Nat.le_of_eq rfl) (hb hby dc49_11) ?_
  intro T938 W939
  refine Go.by (fun _ q9 => XS.ifNo W939.here W939.hx rfl (hb hby dc49_16) rfl ((if0 _ _).trans (feq (by decide)).1) q9) ?_
  refine Go.by (fun _ q9 => XS.aloadN W939.here W939.hx rfl (hb hby dc49_19) rfl rfl q9) ?_
  show Go _ _ _ _ _ _ _ _ _ (T938.setTop (mkF m 20 #[.val (.ref x), .val (.ref qa), .val (.ref it), .unset] [(.ref it)]))
  refine W939.callFH (xi := N56) (y := N46) (wd335 hw) (wd336 hw) (wd337 hw) (wd338 hw) (wd339 hw) (wd340 hw) (wd341 hw) (wd215 hw) (wd185 hw) (wd342 hw) (by decide) i1 (a := it) (Nar.c_next_2_0 l Z a0 hw hEL h936 W939.old it lst emp s0 s1 i1 i2 i3 i4 (Nat.le_trans hE0.1 gi) (E_l.ext X1) (F_0.ext X1) (F_1.ext X1) SM EM (E_s1.ext X1)) (allS (m_ 0) all0) (by decide) (by decide) (k' := 1) (n' := 4) rfl rfl (by decide) (by decide) (by rw [hml]; rfl) (argsL := []) (rest := []) (lenOf pd_25 rfl) rfl rfl (Wt := 0) (Nat.le_of_eq rfl) (hb hby dc49_20) ?_
  intro v_ T940 h942 W941 hq_
  obtain ⟨rfl, K0, j0, k0, m0, o0⟩ := hq_
  have X943 : Ext h0 h942 := (Ext.keep' X1 K0 (allS gi all0))
  show Go _ _ _ _ _ _ _ _ _ (T940.setTop (mkF m 25 #[.val (.ref x), .val (.ref qa), .val (.ref it), .unset] [(.ref s0)]))
  refine W941.castY (wd351 hw) (Ins.self (E_s0.ext X943)) (hb hby dc49_25) ?_
  intro T944 W945
  refine Go.by (fun _ q9 => XS.astoreN W945.here W945.hx rfl (hb hby dc49_28) rfl rfl (l' := #[.val (.ref x), .val (.ref qa), .val (.ref it), .val (.ref s0)]) rfl (XS.aloadN W945.here W945.hx rfl (hb hby dc49_29) rfl rfl q9)) ?_
  show Go _ _ _ _ _ _ _ _ _ (T944.setTop (mkF m 30 #[.val (.ref x), .val (.ref qa), .val (.ref it), .val (.ref s0)] [(.ref s0)]))
  refine W945.callVp (y := N48) (z := N48) (wd353 hw) (wd354 hw) (nf_sel rfl (wd356 hw)) (wd356 hw) (wd355 hw) (wd83 hw) (wd357 hw) (by decide) (E_s0.ext X943) (a := s0) (c_sname l Z a0 hw hEL h942 W945.old s0 n0 (FN0.ext X943)) all0 (by decide) (by decide) (k' := 1) (n' := 4) rfl rfl (by decide) (by decide) (by rw [hml]; rfl) (argsL := []) (rest := []) (lenOf pd_26 rfl) rfl rfl (Wt := 0) (Nat.le_of_eq rfl) (hb hby dc49_30) ?_
  intro T946 W947
  refine Go.by (fun _ q9 => XS.aloadN W947.here W947.hx rfl (hb hby dc49_33) rfl rfl q9) ?_
  show Go _ _ _ _ _ _ _ _ _ (T946.setTop (mkF m 34 #[.val (.ref x), .val (.ref qa), .val (.ref it), .val (.ref s0)] [(.ref qa), (.ref n0)]))
  refine W947.strEq (k_eq hw) (wd5 hw) (wd358 hw) (wd320 hw) (wd322 hw) (wd321 hw) (S0.ext X943) (SQ.ext X943) l0 lq (SG1.ext W947.old) hG (by decide) (Wt := 0) (by decide) (by rw [hml]; rfl) (Nat.le_of_eq rfl) (by decide) (by decide) (hb hby dc49_34) ?_
  intro T948 rr0 W949 hrr0
  by_cases q0 : cs0 = cq
  · refine Go.by (fun _ q9 => XS.ifNo W949.here W949.hx rfl (hb hby dc49_37) rfl ((if0 _ _).trans (feq (by rw [hrr0, if_pos q0]; decide)).1) q9) ?_
    refine Go.by (fun _ q9 => XS.aloadN W949.here W949.hx rfl (hb hby dc49_40) rfl rfl q9) ?_
    show Go _ _ _ _ _ _ _ _ _ (T948.setTop (mkF m 41 #[.val (.ref x), .val (.ref qa), .val (.ref it), .val (.ref s0)] [(.ref s0)]))
    refine W949.callS (y := N50) (wd362 hw) (wd363 hw) (wd86 hw) (wd364 hw) (by decide) (c_oof l Z a0 hw hEL h942 W949.old s0) all0 (by decide) (by decide) (k' := 2) (n' := 5) rfl rfl (by decide) (by decide) (by rw [hml]; rfl) (argsL := [(.ref s0)]) (rest := []) (lenOf pd_27 rfl) rfl rfl (Wt := 0) (Nat.le_of_eq rfl) (hb hby dc49_41) ?_
    intro v_ T950 h952 W951 hq_
    obtain ⟨r, rfl, X9, E9, F9⟩ := hq_
    show Go _ _ _ _ _ _ _ _ _ (T950.setTop (mkF m 44 #[.val (.ref x), .val (.ref qa), .val (.ref it), .val (.ref s0)] [(.ref r)]))
    have X953 : Ext h0 h952 := (Ext.trans' X943 X9)
    exact W951.retA (by decide) (by decide) hret rfl rfl (hb hby dc49_44) ⟨r, rfl, X953, E9, by rw [if_pos q0]; exact F9⟩
  · refine Go.by (fun _ q9 => XS.ifYes W949.here W949.hx rfl (pc0 := 37) (pc' := 45) rfl (hb hby dc49_37) rfl ((if0 _ _).trans (teq (by rw [hrr0, if_neg q0])).1) (by decide) (by decide) q9) ?_
    refine Go.by (fun _ q9 => XS.goto W949.here W949.hx rfl (pc0 := 45) (pc' := 10) rfl (hb hby dc49_45) (by decide) (by decide) (XS.aloadN W949.here W949.hx rfl (hb hby dc49_10) rfl rfl q9)) ?_
    show Go _ _ _ _ _ _ _ _ _ (T948.setTop (mkF m 11 #[.val (.ref x), .val (.ref qa), .val (.ref it), .val (.ref s0)] [(.ref it)]))
    refine W949.callFp (xi := N54) (y := N43) (wd208 hw) (wd209 hw) (wd210 hw) (wd211 hw) (wd212 hw) (wd213 hw) (wd214 hw) (wd215 hw) (wd185 hw) (wd216 hw) (by decide) j0 (a := it) (c_hn l Z a0 hw hEL h942 W949.old it (1 : Int32) (2 : Int32) o0 m0) all0 (by decide) (by decide) (k' := 1) (n' := 4) rfl rfl (by decide) (by decide) (by rw [hml]; rfl) (argsL := []) (rest := []) (lenOf pd_18 rfl) rfl rfl (Wt := 0) (Nat.le_of_eq rfl) (hb hby dc49_11) ?_
    intro T954 W955
    refine Go.by (fun _ q9 => XS.ifNo W955.here W955.hx rfl (hb hby dc49_16) rfl ((if0 _ _).trans (feq (by decide)).1) q9) ?_
    refine Go.by (fun _ q9 => XS.aloadN W955.here W955.hx rfl (hb hby dc49_19) rfl rfl q9) ?_
    show Go _ _ _ _ _ _ _ _ _ (T954.setTop (mkF m 20 #[.val (.ref x), .val (.ref qa), .val (.ref it), .val (.ref s0)] [(.ref it)]))
    refine W955.callFH (xi := N56) (y := N46) (wd335 hw) (wd336 hw) (wd337 hw) (wd338 hw) (wd339 hw) (wd340 hw) (wd341 hw) (wd215 hw) (wd185 hw) (wd342 hw) (by decide) j0 (a := it) (Nar.c_next_2_1 l Z a0 hw hEL h942 W955.old it lst emp s0 s1 j0 k0 m0 o0 (Nat.le_trans hE0.1 gi) (E_l.ext X943) (F_0.ext X943) (F_1.ext X943) SM EM (E_s1.ext X943)) (allS (m_ 0) all0) (by decide) (by decide) (k' := 1) (n' := 4) rfl rfl (by decide) (by decide) (by rw [hml]; rfl) (argsL := []) (rest := []) (lenOf pd_25 rfl) rfl rfl (Wt := 0) (Nat.le_of_eq rfl) (hb hby dc49_20) ?_
    intro v_ T956 h958 W957 hq_
    obtain ⟨rfl, K1, j1, k1, m1, o1⟩ := hq_
    have X959 : Ext h0 h958 := (Ext.keep' X943 K1 (allS gi all0))
    show Go _ _ _ _ _ _ _ _ _ (T956.setTop (mkF m 25 #[.val (.ref x), .val (.ref qa), .val (.ref it), .val (.ref s0)] [(.ref s1)]))
    refine W957.castY (wd351 hw) (Ins.self (E_s1.ext X959)) (hb hby dc49_25) ?_
    intro T960 W961
    refine Go.by (fun _ q9 => XS.astoreN W961.here W961.hx rfl (hb hby dc49_28) rfl rfl (l' := #[.val (.ref x), .val (.ref qa), .val (.ref it), .val (.ref s1)]) rfl (XS.aloadN W961.here W961.hx rfl (hb hby dc49_29) rfl rfl q9)) ?_
    show Go _ _ _ _ _ _ _ _ _ (T960.setTop (mkF m 30 #[.val (.ref x), .val (.ref qa), .val (.ref it), .val (.ref s1)] [(.ref s1)]))
    refine W961.callVp (y := N48) (z := N48) (wd353 hw) (wd354 hw) (nf_sel rfl (wd356 hw)) (wd356 hw) (wd355 hw) (wd83 hw) (wd357 hw) (by decide) (E_s1.ext X959) (a := s1) (c_sname l Z a0 hw hEL h958 W961.old s1 n1 (FN1.ext X959)) all0 (by decide) (by decide) (k' := 1) (n' := 4) rfl rfl (by decide) (by decide) (by rw [hml]; rfl) (argsL := []) (rest := []) (lenOf pd_26 rfl) rfl rfl (Wt := 0) (Nat.le_of_eq rfl) (hb hby dc49_30) ?_
    intro T962 W963
    refine Go.by (fun _ q9 => XS.aloadN W963.here W963.hx rfl (hb hby dc49_33) rfl rfl q9) ?_
    show Go _ _ _ _ _ _ _ _ _ (T962.setTop (mkF m 34 #[.val (.ref x), .val (.ref qa), .val (.ref it), .val (.ref s1)] [(.ref qa), (.ref n1)]))
    refine W963.strEq (k_eq hw) (wd5 hw) (wd358 hw) (wd320 hw) (wd322 hw) (wd321 hw) (S1.ext X959) (SQ.ext X959) l1 lq (SG1.ext W963.old) hG (by decide) (Wt := 0) (by decide) (by rw [hml]; rfl) (Nat.le_of_eq rfl) (by decide) (by decide) (hb hby dc49_34) ?_
    intro T964 rr1 W965 hrr1
    by_cases q1 : cs1 = cq
    · refine Go.by (fun _ q9 => XS.ifNo W965.here W965.hx rfl (hb hby dc49_37) rfl ((if0 _ _).trans (feq (by rw [hrr1, if_pos q1]; decide)).1) q9) ?_
      refine Go.by (fun _ q9 => XS.aloadN W965.here W965.hx rfl (hb hby dc49_40) rfl rfl q9) ?_
      show Go _ _ _ _ _ _ _ _ _ (T964.setTop (mkF m 41 #[.val (.ref x), .val (.ref qa), .val (.ref it), .val (.ref s1)] [(.ref s1)]))
      refine W965.callS (y := N50) (wd362 hw) (wd363 hw) (wd86 hw) (wd364 hw) (by decide) (c_oof l Z a0 hw hEL h958 W965.old s1) all0 (by decide) (by decide) (k' := 2) (n' := 5) rfl rfl (by decide) (by decide) (by rw [hml]; rfl) (argsL := [(.ref s1)]) (rest := []) (lenOf pd_27 rfl) rfl rfl (Wt := 0) (Nat.le_of_eq rfl) (hb hby dc49_41) ?_
      intro v_ T966 h968 W967 hq_
      obtain ⟨r, rfl, X9, E9, F9⟩ := hq_
      show Go _ _ _ _ _ _ _ _ _ (T966.setTop (mkF m 44 #[.val (.ref x), .val (.ref qa), .val (.ref it), .val (.ref s1)] [(.ref r)]))
      have X969 : Ext h0 h968 := (Ext.trans' X959 X9)
      exact W967.retA (by decide) (by decide) hret rfl rfl (hb hby dc49_44) ⟨r, rfl, X969, E9, by rw [if_neg q0, if_pos q1]; exact F9⟩
    · refine Go.by (fun _ q9 => XS.ifYes W965.here W965.hx rfl (pc0 := 37) (pc' := 45) rfl (hb hby dc49_37) rfl ((if0 _ _).trans (teq (by rw [hrr1, if_neg q1])).1) (by decide) (by decide) q9) ?_
      refine Go.by (fun _ q9 => XS.goto W965.here W965.hx rfl (pc0 := 45) (pc' := 10) rfl (hb hby dc49_45) (by decide) (by decide) (XS.aloadN W965.here W965.hx rfl (hb hby dc49_10) rfl rfl q9)) ?_
      show Go _ _ _ _ _ _ _ _ _ (T964.setTop (mkF m 11 #[.val (.ref x), .val (.ref qa), .val (.ref it), .val (.ref s1)] [(.ref it)]))
      refine W965.callFp (xi := N54) (y := N43) (wd208 hw) (wd209 hw) (wd210 hw) (wd211 hw) (wd212 hw) (wd213 hw) (wd214 hw) (wd215 hw) (wd185 hw) (wd216 hw) (by decide) j1 (a := it) (c_hn l Z a0 hw hEL h958 W965.old it (2 : Int32) (2 : Int32) o1 m1) all0 (by decide) (by decide) (k' := 1) (n' := 4) rfl rfl (by decide) (by decide) (by rw [hml]; rfl) (argsL := []) (rest := []) (lenOf pd_18 rfl) rfl rfl (Wt := 0) (Nat.le_of_eq rfl) (hb hby dc49_11) ?_
      intro T970 W971
      refine Go.by (fun _ q9 => XS.ifYes W971.here W971.hx rfl (pc0 := 16) (pc' := 48) rfl (hb hby dc49_16) rfl ((if0 _ _).trans (teq (by decide)).1) (by decide) (by decide) q9) ?_
      show Go _ _ _ _ _ _ _ _ _ (T970.setTop (mkF m 48 #[.val (.ref x), .val (.ref qa), .val (.ref it), .val (.ref s1)] []))
      refine W971.callSp (y := N11) (wd217 hw) (wd85 hw) (wd86 hw) (wd87 hw) (by decide) (c_oempty l Z a0 hw hEL h958 W971.old em SE) all0 (by decide) (by decide) (k' := 1) (n' := 4) rfl rfl (by decide) (by decide) (by rw [hml]; rfl) (argsL := []) (rest := []) (lenOf pd_24 rfl) rfl rfl (Wt := 0) (Nat.le_of_eq rfl) (hb hby dc49_48) ?_
      intro T972 W973
      show Go _ _ _ _ _ _ _ _ _ (T972.setTop (mkF m 51 #[.val (.ref x), .val (.ref qa), .val (.ref it), .val (.ref s1)] [(.ref em)]))
      exact W973.retA (by decide) (by decide) hret rfl rfl (hb hby dc49_51) ⟨em, rfl, X959, EE.ext W973.old, by rw [if_neg q0, if_neg q1]; exact FE.ext W973.old⟩
theorem c_scheme_3 (hw : HW Z a0) (hEL : EW Z a0 EL_) (h0 : Heap) (hE0 : Ext Z.heap h0) (lst ea s0 s1 s2 : Addr) (ke : ClassId) (x qa em : Addr) (cq : List Int32) (G1 : Int32) (n0 n1 n2 : Addr) (cs0 cs1 cs2 : List Int32) (SG1 : Sta Z Z.heap "java/lang/String" "COMPACT_STRINGS" "Z" (.int G1)) (hG : ¬ G1 = 0) (SE : Sta Z Z.heap "java/util/Optional" "EMPTY" "Ljava/util/Optional;" (.ref em)) (EE : Exa Z Z.heap em "java/util/Optional") (FE : Fld Z Z.heap em "java/util/Optional" "value" "Ljava/lang/Object;" .null) (E_x : Exa Z h0 x cFF) (FX : Fld Z h0 x cFF "schemes" "Ljava/util/List;" (.ref lst)) (E_l : Exa Z h0 lst cLN) (F_e : Fld Z h0 lst cLN "elements" "[Ljava/lang/Object;" (.ref ea)) (A_e : Arv Z h0 ea ke (.object "java/lang/Object") 3 [(.ref s0), (.ref s1), (.ref s2)] .null) (E_s0 : Exa Z h0 s0 cSC) (E_s1 : Exa Z h0 s1 cSC) (E_s2 : Exa Z h0 s2 cSC) (SQ : Str Z h0 qa cq) (lq : cq.length ≤ 4000) (FN0 : Fld Z h0 s0 cSC "name" "Ljava/lang/String;" (.ref n0)) (S0 : Str Z h0 n0 cs0) (l0 : cs0.length ≤ 4000) (FN1 : Fld Z h0 s1 cSC "name" "Ljava/lang/String;" (.ref n1)) (S1 : Str Z h0 n1 cs1) (l1 : cs1.length ≤ 4000) (FN2 : Fld Z h0 s2 cSC "name" "Ljava/lang/String;" (.ref n2)) (S2 : Str Z h0 n2 cs2) (l2 : cs2.length ≤ 4000) :
    Con l Z EL_ [] N55 prog_26_method_2_code 4 (some (.object "java/util/Optional")) [] (⟨4, 2, 5, 60⟩ : Room) #[(.ref x), (.ref qa)] h0 (fun v h' => ∃ r, v = some (.ref r) ∧ Ext h0 h' ∧ Exa Z h' r "java/util/Optional" ∧ Fld Z h' r "java/util/Optional" "value" "Ljava/lang/Object;" (if cs0 = cq then (.ref s0) else if cs1 = cq then (.ref s1) else if cs2 = cq then (.ref s2) else .null)) := by
  refine Con.mk (plainFor_of_name pn_20) hEL hE0 (fun x hx => by cases hx) ?_
  intro p e s m below meth c T0 hby hml hret hnm W0
  rw [(show entryFrame m #[(.ref x), (.ref qa)] 4 = mkF m 0 #[.val (.ref x), .val (.ref qa), .unset, .unset] [] from by first | (simp [entryFrame, mkF, argsToLocals, Value.category]; done) | rfl)]
  refine Go.by (fun _ q9 => XS.aloadN W0.here W0.hx rfl (hb hby dc49_0) rfl rfl q9) ?_
  show Go _ _ _ _ _ _ _ _ _ (T0.setTop (mkF m 1 #[.val (.ref x), .val (.ref qa), .unset, .unset] [(.ref x)]))
  refine W0.getf (host := "") (Or.inl (wd166 hw)) Via.refl FX (hb hby dc49_1) ?_
  intro T974 W975
  show Go _ _ _ _ _ _ _ _ _ (T974.setTop (mkF m 4 #[.val (.ref x), .val (.ref qa), .unset, .unset] [(.ref lst)]))
  refine W975.callF (xi := N53) (y := N42) (wd173 hw) (wd174 hw) (wd175 hw) (wd176 hw) (wd177 hw) (wd178 hw) (wd179 hw) (wd180 hw) (wd181 hw) (wd182 hw) (by decide) E_l (a := lst) (c_iter_3 l Z a0 hw hEL h0 hE0 lst ea s0 s1 s2 ke E_l F_e A_e) all0 (by decide) (by decide) (k' := 1) (n' := 4) rfl rfl (by decide) (by decide) (by rw [hml]; rfl) (argsL := []) (rest := []) (lenOf pd_23 rfl) rfl rfl (Wt := 0) (Nat.le_of_eq rfl) (hb hby dc49_4) ?_
  intro v_ T976 h978 W977 hq_
  obtain ⟨it, rfl, X1, gi, i1, i2, i3, i4⟩ := hq_
  have W979 := W977.safeE i1 (by decide) (by decide)
  refine Go.by (fun _ q9 => XS.astoreN W979.here W979.hx rfl (hb hby dc49_9) rfl rfl (l' := #[.val (.ref x), .val (.ref qa), .val (.ref it), .unset]) rfl (XS.aloadN W979.here W979.hx rfl (hb hby dc49_10) rfl rfl q9)) ?_
  show Go _ _ _ _ _ _ _ _ _ (T976.setTop (mkF m 11 #[.val (.ref x), .val (.ref qa), .val (.ref it), .unset] [(.ref it)]))
  refine W979.callFp (xi := N54) (y := N43) (wd208 hw) (wd209 hw) (wd210 hw) (wd211 hw) (wd212 hw) (wd213 hw) (wd214 hw) (wd215 hw) (wd185 hw) (wd216 hw) (by decide) i1 (a := it) (c_hn l Z a0 hw hEL h978 W979.old it (0 : Int32) (3 : Int32) i4 i3) all0 (by decide) (by decide) (k' := 1) (n' := 4) rfl rfl (by decide) (by decide) (by rw [hml]; rfl) (argsL := []) (rest := []) (lenOf pd_18 rfl) rfl rfl (Wt := 0) (Nat.le_of_eq rfl) (hb hby dc49_11) ?_
  intro T980 W981
  refine Go.by (fun _ q9 => XS.ifNo W981.here W981.hx rfl (hb hby dc49_16) rfl ((if0 _ _).trans (feq (by decide)).1) q9) ?_
  refine Go.by (fun _ q9 => XS.aloadN W981.here W981.hx rfl (hb hby dc49_19) rfl rfl q9) ?_
  show Go _ _ _ _ _ _ _ _ _ (T980.setTop (mkF m 20 #[.val (.ref x), .val (.ref qa), .val (.ref it), .unset] [(.ref it)]))
  refine W981.callFH (xi := N56) (y := N46) (wd335 hw) (wd336 hw) (wd337 hw) (wd338 hw) (wd339 hw) (wd340 hw) (wd341 hw) (wd215 hw) (wd185 hw) (wd342 hw) (by decide) i1 (a := it) (Nar.c_next_3_0 l Z a0 hw hEL h978 W981.old it lst ea s0 s1 s2 ke i1 i2 i3 i4 (Nat.le_trans hE0.1 gi) (E_l.ext X1) (F_e.ext X1) (A_e.ext X1)) (allS (m_ 0) all0) (by decide) (by decide) (k' := 1) (n' := 4) rfl rfl (by decide) (by decide) (by rw [hml]; rfl) (argsL := []) (rest := []) (lenOf pd_25 rfl) rfl rfl (Wt := 0) (Nat.le_of_eq rfl) (hb hby dc49_20) ?_
  intro v_ T982 h984 W983 hq_
  obtain ⟨rfl, K0, j0, k0, m0, o0⟩ := hq_
  have X985 : Ext h0 h984 := (Ext.keep' X1 K0 (allS gi all0))
  show Go _ _ _ _ _ _ _ _ _ (T982.setTop (mkF m 25 #[.val (.ref x), .val (.ref qa), .val (.ref it), .unset] [(.ref s0)]))
  refine W983.castY (wd351 hw) (Ins.self (E_s0.ext X985)) (hb hby dc49_25) ?_
  intro T986 W987
  refine Go.by (fun _ q9 => XS.astoreN W987.here W987.hx rfl (hb hby dc49_28) rfl rfl (l' := #[.val (.ref x), .val (.ref qa), .val (.ref it), .val (.ref s0)]) rfl (XS.aloadN W987.here W987.hx rfl (hb hby dc49_29) rfl rfl q9)) ?_
  show Go _ _ _ _ _ _ _ _ _ (T986.setTop (mkF m 30 #[.val (.ref x), .val (.ref qa), .val (.ref it), .val (.ref s0)] [(.ref s0)]))
  refine W987.callVp (y := N48) (z := N48) (wd353 hw) (wd354 hw) (nf_sel rfl (wd356 hw)) (wd356 hw) (wd355 hw) (wd83 hw) (wd357 hw) (by decide) (E_s0.ext X985) (a := s0) (c_sname l Z a0 hw hEL h984 W987.old s0 n0 (FN0.ext X985)) all0 (by decide) (by decide) (k' := 1) (n' := 4) rfl rfl (by decide) (by decide) (by rw [hml]; rfl) (argsL := []) (rest := []) (lenOf pd_26 rfl) rfl rfl (Wt := 0) (Nat.le_of_eq rfl) (hb hby dc49_30) ?_
  intro T988 W989
  refine Go.by (fun _ q9 => XS.aloadN W989.here W989.hx rfl (hb hby dc49_33) rfl rfl q9) ?_
  show Go _ _ _ _ _ _ _ _ _ (T988.setTop (mkF m 34 #[.val (.ref x), .val (.ref qa), .val (.ref it), .val (.ref s0)] [(.ref qa), (.ref n0)]))
  refine W989.strEq (k_eq hw) (wd5 hw) (wd358 hw) (wd320 hw) (wd322 hw) (wd321 hw) (S0.ext X985) (SQ.ext X985) l0 lq (SG1.ext W989.old) hG (by decide) (Wt := 0) (by decide) (by rw [hml]; rfl) (Nat.le_of_eq rfl) (by decide) (by decide) (hb hby dc49_34) ?_
  intro T990 rr0 W991 hrr0
  by_cases q0 : cs0 = cq
  · refine Go.by (fun _ q9 => XS.ifNo W991.here W991.hx rfl (hb hby dc49_37) rfl ((if0 _ _).trans (feq (by rw [hrr0, if_pos q0]; decide)).1) q9) ?_
    refine Go.by (fun _ q9 => XS.aloadN W991.here W991.hx rfl (hb hby dc49_40) rfl rfl q9) ?_
    show Go _ _ _ _ _ _ _ _ _ (T990.setTop (mkF m 41 #[.val (.ref x), .val (.ref qa), .val (.ref it), .val (.ref s0)] [(.ref s0)]))
    refine W991.callS (y := N50) (wd362 hw) (wd363 hw) (wd86 hw) (wd364 hw) (by decide) (c_oof l Z a0 hw hEL h984 W991.old s0) all0 (by decide) (by decide) (k' := 2) (n' := 5) rfl rfl (by decide) (by decide) (by rw [hml]; rfl) (argsL := [(.ref s0)]) (rest := []) (lenOf pd_27 rfl) rfl rfl (Wt := 0) (Nat.le_of_eq rfl) (hb hby dc49_41) ?_
    intro v_ T992 h994 W993 hq_
    obtain ⟨r, rfl, X9, E9, F9⟩ := hq_
    show Go _ _ _ _ _ _ _ _ _ (T992.setTop (mkF m 44 #[.val (.ref x), .val (.ref qa), .val (.ref it), .val (.ref s0)] [(.ref r)]))
    have X995 : Ext h0 h994 := (Ext.trans' X985 X9)
    exact W993.retA (by decide) (by decide) hret rfl rfl (hb hby dc49_44) ⟨r, rfl, X995, E9, by rw [if_pos q0]; exact F9⟩
  · refine Go.by (fun _ q9 => XS.ifYes W991.here W991.hx rfl (pc0 := 37) (pc' := 45) rfl (hb hby dc49_37) rfl ((if0 _ _).trans (teq (by rw [hrr0, if_neg q0])).1) (by decide) (by decide) q9) ?_
    refine Go.by (fun _ q9 => XS.goto W991.here W991.hx rfl (pc0 := 45) (pc' := 10) rfl (hb hby dc49_45) (by decide) (by decide) (XS.aloadN W991.here W991.hx rfl (hb hby dc49_10) rfl rfl q9)) ?_
    show Go _ _ _ _ _ _ _ _ _ (T990.setTop (mkF m 11 #[.val (.ref x), .val (.ref qa), .val (.ref it), .val (.ref s0)] [(.ref it)]))
    refine W991.callFp (xi := N54) (y := N43) (wd208 hw) (wd209 hw) (wd210 hw) (wd211 hw) (wd212 hw) (wd213 hw) (wd214 hw) (wd215 hw) (wd185 hw) (wd216 hw) (by decide) j0 (a := it) (c_hn l Z a0 hw hEL h984 W991.old it (1 : Int32) (3 : Int32) o0 m0) all0 (by decide) (by decide) (k' := 1) (n' := 4) rfl rfl (by decide) (by decide) (by rw [hml]; rfl) (argsL := []) (rest := []) (lenOf pd_18 rfl) rfl rfl (Wt := 0) (Nat.le_of_eq rfl) (hb hby dc49_11) ?_
    intro T996 W997
    refine Go.by (fun _ q9 => XS.ifNo W997.here W997.hx rfl (hb hby dc49_16) rfl ((if0 _ _).trans (feq (by decide)).1) q9) ?_
    refine Go.by (fun _ q9 => XS.aloadN W997.here W997.hx rfl (hb hby dc49_19) rfl rfl q9) ?_
    show Go _ _ _ _ _ _ _ _ _ (T996.setTop (mkF m 20 #[.val (.ref x), .val (.ref qa), .val (.ref it), .val (.ref s0)] [(.ref it)]))
    refine W997.callFH (xi := N56) (y := N46) (wd335 hw) (wd336 hw) (wd337 hw) (wd338 hw) (wd339 hw) (wd340 hw) (wd341 hw) (wd215 hw) (wd185 hw) (wd342 hw) (by decide) j0 (a := it) (Nar.c_next_3_1 l Z a0 hw hEL h984 W997.old it lst ea s0 s1 s2 ke j0 k0 m0 o0 (Nat.le_trans hE0.1 gi) (E_l.ext X985) (F_e.ext X985) (A_e.ext X985)) (allS (m_ 0) all0) (by decide) (by decide) (k' := 1) (n' := 4) rfl rfl (by decide) (by decide) (by rw [hml]; rfl) (argsL := []) (rest := []) (lenOf pd_25 rfl) rfl rfl (Wt := 0) (Nat.le_of_eq rfl) (hb hby dc49_20) ?_
    intro v_ T998 h1000 W999 hq_
    obtain ⟨rfl, K1, j1, k1, m1, o1⟩ := hq_
    have X1001 : Ext h0 h1000 := (Ext.keep' X985 K1 (allS gi all0))
    show Go _ _ _ _ _ _ _ _ _ (T998.setTop (mkF m 25 #[.val (.ref x), .val (.ref qa), .val (.ref it), .val (.ref s0)] [(.ref s1)]))
    refine W999.castY (wd351 hw) (Ins.self (E_s1.ext X1001)) (hb hby dc49_25) ?_
    intro T1002 W1003
    refine Go.by (fun _ q9 => XS.astoreN W1003.here W1003.hx rfl (hb hby dc49_28) rfl rfl (l' := #[.val (.ref x), .val (.ref qa), .val (.ref it), .val (.ref s1)]) rfl (XS.aloadN W1003.here W1003.hx rfl (hb hby dc49_29) rfl rfl q9)) ?_
    show Go _ _ _ _ _ _ _ _ _ (T1002.setTop (mkF m 30 #[.val (.ref x), .val (.ref qa), .val (.ref it), .val (.ref s1)] [(.ref s1)]))
    refine W1003.callVp (y := N48) (z := N48) (wd353 hw) (wd354 hw) (nf_sel rfl (wd356 hw)) (wd356 hw) (wd355 hw) (wd83 hw) (wd357 hw) (by decide) (E_s1.ext X1001) (a := s1) (c_sname l Z a0 hw hEL h1000 W1003.old s1 n1 (FN1.ext X1001)) all0 (by decide) (by decide) (k' := 1) (n' := 4) rfl rfl (by decide) (by decide) (by rw [hml]; rfl) (argsL := []) (rest := []) (lenOf pd_26 rfl) rfl rfl (Wt := 0) (Nat.le_of_eq rfl) (hb hby dc49_30) ?_
    intro T1004 W1005
    refine Go.by (fun _ q9 => XS.aloadN W1005.here W1005.hx rfl (hb hby dc49_33) rfl rfl q9) ?_
    show Go _ _ _ _ _ _ _ _ _ (T1004.setTop (mkF m 34 #[.val (.ref x), .val (.ref qa), .val (.ref it), .val (.ref s1)] [(.ref qa), (.ref n1)]))
    refine W1005.strEq (k_eq hw) (wd5 hw) (wd358 hw) (wd320 hw) (wd322 hw) (wd321 hw) (S1.ext X1001) (SQ.ext X1001) l1 lq (SG1.ext W1005.old) hG (by decide) (Wt := 0) (by decide) (by rw [hml]; rfl) (Nat.le_of_eq rfl) (by decide) (by decide) (hb hby dc49_34) ?_
    intro T1006 rr1 W1007 hrr1
    by_cases q1 : cs1 = cq
    · refine Go.by (fun _ q9 => XS.ifNo W1007.here W1007.hx rfl (hb hby dc49_37) rfl ((if0 _ _).trans (feq (by rw [hrr1, if_pos q1]; decide)).1) q9) ?_
      refine Go.by (fun _ q9 => XS.aloadN W1007.here W1007.hx rfl (hb hby dc49_40) rfl rfl q9) ?_
      show Go _ _ _ _ _ _ _ _ _ (T1006.setTop (mkF m 41 #[.val (.ref x), .val (.ref qa), .val (.ref it), .val (.ref s1)] [(.ref s1)]))
      refine W1007.callS (y := N50) (wd362 hw) (wd363 hw) (wd86 hw) (wd364 hw) (by decide) (c_oof l Z a0 hw hEL h1000 W1007.old s1) all0 (by decide) (by decide) (k' := 2) (n' := 5) rfl rfl (by decide) (by decide) (by rw [hml]; rfl) (argsL := [(.ref s1)]) (rest := []) (lenOf pd_27 rfl) rfl rfl (Wt := 0) (Nat.le_of_eq rfl) (hb hby dc49_41) ?_
      intro v_ T1008 h1010 W1009 hq_
      obtain ⟨r, rfl, X9, E9, F9⟩ := hq_
      show Go _ _ _ _ _ _ _ _ _ (T1008.setTop (mkF m 44 #[.val (.ref x), .val (.ref qa), .val (.ref it), .val (.ref s1)] [(.ref r)]))
      have X1011 : Ext h0 h1010 := (Ext.trans' X1001 X9)
      exact W1009.retA (by decide) (by decide) hret rfl rfl (hb hby dc49_44) ⟨r, rfl, X1011, E9, by rw [if_neg q0, if_pos q1]; exact F9⟩
    · refine Go.by (fun _ q9 => XS.ifYes W1007.here W1007.hx rfl (pc0 := 37) (pc' := 45) rfl (hb hby dc49_37) rfl ((if0 _ _).trans (teq (by rw [hrr1, if_neg q1])).1) (by decide) (by decide) q9) ?_
      refine Go.by (fun _ q9 => XS.goto W1007.here W1007.hx rfl (pc0 := 45) (pc' := 10) rfl (hb hby dc49_45) (by decide) (by decide) (XS.aloadN W1007.here W1007.hx rfl (hb hby dc49_10) rfl rfl q9)) ?_
      show Go _ _ _ _ _ _ _ _ _ (T1006.setTop (mkF m 11 #[.val (.ref x), .val (.ref qa), .val (.ref it), .val (.ref s1)] [(.ref it)]))
      refine W1007.callFp (xi := N54) (y := N43) (wd208 hw) (wd209 hw) (wd210 hw) (wd211 hw) (wd212 hw) (wd213 hw) (wd214 hw) (wd215 hw) (wd185 hw) (wd216 hw) (by decide) j1 (a := it) (c_hn l Z a0 hw hEL h1000 W1007.old it (2 : Int32) (3 : Int32) o1 m1) all0 (by decide) (by decide) (k' := 1) (n' := 4) rfl rfl (by decide) (by decide) (by rw [hml]; rfl) (argsL := []) (rest := []) (lenOf pd_18 rfl) rfl rfl (Wt := 0) (Nat.le_of_eq rfl) (hb hby dc49_11) ?_
      intro T1012 W1013
      refine Go.by (fun _ q9 => XS.ifNo W1013.here W1013.hx rfl (hb hby dc49_16) rfl ((if0 _ _).trans (feq (by decide)).1) q9) ?_
      refine Go.by (fun _ q9 => XS.aloadN W1013.here W1013.hx rfl (hb hby dc49_19) rfl rfl q9) ?_
      show Go _ _ _ _ _ _ _ _ _ (T1012.setTop (mkF m 20 #[.val (.ref x), .val (.ref qa), .val (.ref it), .val (.ref s1)] [(.ref it)]))
      refine W1013.callFH (xi := N56) (y := N46) (wd335 hw) (wd336 hw) (wd337 hw) (wd338 hw) (wd339 hw) (wd340 hw) (wd341 hw) (wd215 hw) (wd185 hw) (wd342 hw) (by decide) j1 (a := it) (Nar.c_next_3_2 l Z a0 hw hEL h1000 W1013.old it lst ea s0 s1 s2 ke j1 k1 m1 o1 (Nat.le_trans hE0.1 gi) (E_l.ext X1001) (F_e.ext X1001) (A_e.ext X1001)) (allS (m_ 0) all0) (by decide) (by decide) (k' := 1) (n' := 4) rfl rfl (by decide) (by decide) (by rw [hml]; rfl) (argsL := []) (rest := []) (lenOf pd_25 rfl) rfl rfl (Wt := 0) (Nat.le_of_eq rfl) (hb hby dc49_20) ?_
      intro v_ T1014 h1016 W1015 hq_
      obtain ⟨rfl, K2, j2, k2, m2, o2⟩ := hq_
      have X1017 : Ext h0 h1016 := (Ext.keep' X1001 K2 (allS gi all0))
      show Go _ _ _ _ _ _ _ _ _ (T1014.setTop (mkF m 25 #[.val (.ref x), .val (.ref qa), .val (.ref it), .val (.ref s1)] [(.ref s2)]))
      refine W1015.castY (wd351 hw) (Ins.self (E_s2.ext X1017)) (hb hby dc49_25) ?_
      intro T1018 W1019
      refine Go.by (fun _ q9 => XS.astoreN W1019.here W1019.hx rfl (hb hby dc49_28) rfl rfl (l' := #[.val (.ref x), .val (.ref qa), .val (.ref it), .val (.ref s2)]) rfl (XS.aloadN W1019.here W1019.hx rfl (hb hby dc49_29) rfl rfl q9)) ?_
      show Go _ _ _ _ _ _ _ _ _ (T1018.setTop (mkF m 30 #[.val (.ref x), .val (.ref qa), .val (.ref it), .val (.ref s2)] [(.ref s2)]))
      refine W1019.callVp (y := N48) (z := N48) (wd353 hw) (wd354 hw) (nf_sel rfl (wd356 hw)) (wd356 hw) (wd355 hw) (wd83 hw) (wd357 hw) (by decide) (E_s2.ext X1017) (a := s2) (c_sname l Z a0 hw hEL h1016 W1019.old s2 n2 (FN2.ext X1017)) all0 (by decide) (by decide) (k' := 1) (n' := 4) rfl rfl (by decide) (by decide) (by rw [hml]; rfl) (argsL := []) (rest := []) (lenOf pd_26 rfl) rfl rfl (Wt := 0) (Nat.le_of_eq rfl) (hb hby dc49_30) ?_
      intro T1020 W1021
      refine Go.by (fun _ q9 => XS.aloadN W1021.here W1021.hx rfl (hb hby dc49_33) rfl rfl q9) ?_
      show Go _ _ _ _ _ _ _ _ _ (T1020.setTop (mkF m 34 #[.val (.ref x), .val (.ref qa), .val (.ref it), .val (.ref s2)] [(.ref qa), (.ref n2)]))
      refine W1021.strEq (k_eq hw) (wd5 hw) (wd358 hw) (wd320 hw) (wd322 hw) (wd321 hw) (S2.ext X1017) (SQ.ext X1017) l2 lq (SG1.ext W1021.old) hG (by decide) (Wt := 0) (by decide) (by rw [hml]; rfl) (Nat.le_of_eq rfl) (by decide) (by decide) (hb hby dc49_34) ?_
      intro T1022 rr2 W1023 hrr2
      by_cases q2 : cs2 = cq
      · refine Go.by (fun _ q9 => XS.ifNo W1023.here W1023.hx rfl (hb hby dc49_37) rfl ((if0 _ _).trans (feq (by rw [hrr2, if_pos q2]; decide)).1) q9) ?_
        refine Go.by (fun _ q9 => XS.aloadN W1023.here W1023.hx rfl (hb hby dc49_40) rfl rfl q9) ?_
        show Go _ _ _ _ _ _ _ _ _ (T1022.setTop (mkF m 41 #[.val (.ref x), .val (.ref qa), .val (.ref it), .val (.ref s2)] [(.ref s2)]))
        refine W1023.callS (y := N50) (wd362 hw) (wd363 hw) (wd86 hw) (wd364 hw) (by decide) (c_oof l Z a0 hw hEL h1016 W1023.old s2) all0 (by decide) (by decide) (k' := 2) (n' := 5) rfl rfl (by decide) (by decide) (by rw [hml]; rfl) (argsL := [(.ref s2)]) (rest := []) (lenOf pd_27 rfl) rfl rfl (Wt := 0) (Nat.le_of_eq rfl) (hb hby dc49_41) ?_
        intro v_ T1024 h1026 W1025 hq_
        obtain ⟨r, rfl, X9, E9, F9⟩ := hq_
        show Go _ _ _ _ _ _ _ _ _ (T1024.setTop (mkF m 44 #[.val (.ref x), .val (.ref qa), .val (.ref it), .val (.ref s2)] [(.ref r)]))
        have X1027 : Ext h0 h1026 := (Ext.trans' X1017 X9)
        exact W1025.retA (by decide) (by decide) hret rfl rfl (hb hby dc49_44) ⟨r, rfl, X1027, E9, by rw [if_neg q0, if_neg q1, if_pos q2]; exact F9⟩
      · refine Go.by (fun _ q9 => XS.ifYes W1023.here W1023.hx rfl (pc0 := 37) (pc' := 45) rfl (hb hby dc49_37) rfl ((if0 _ _).trans (teq (by rw [hrr2, if_neg q2])).1) (by decide) (by decide) q9) ?_
        refine Go.by (fun _ q9 => XS.goto W1023.here W1023.hx rfl (pc0 := 45) (pc' := 10) rfl (hb hby dc49_45) (by decide) (by decide) (XS.aloadN W1023.here W1023.hx rfl (hb hby dc49_10) rfl rfl q9)) ?_
        show Go _ _ _ _ _ _ _ _ _ (T1022.setTop (mkF m 11 #[.val (.ref x), .val (.ref qa), .val (.ref it), .val (.ref s2)] [(.ref it)]))
        refine W1023.callFp (xi := N54) (y := N43) (wd208 hw) (wd209 hw) (wd210 hw) (wd211 hw) (wd212 hw) (wd213 hw) (wd214 hw) (wd215 hw) (wd185 hw) (wd216 hw) (by decide) j2 (a := it) (c_hn l Z a0 hw hEL h1016 W1023.old it (3 : Int32) (3 : Int32) o2 m2) all0 (by decide) (by decide) (k' := 1) (n' := 4) rfl rfl (by decide) (by decide) (by rw [hml]; rfl) (argsL := []) (rest := []) (lenOf pd_18 rfl) rfl rfl (Wt := 0) (Nat.le_of_eq rfl) (hb hby dc49_11) ?_
        intro T1028 W1029
        refine Go.by (fun _ q9 => XS.ifYes W1029.here W1029.hx rfl (pc0 := 16) (pc' := 48) rfl (hb hby dc49_16) rfl ((if0 _ _).trans (teq (by decide)).1) (by decide) (by decide) q9) ?_
        show Go _ _ _ _ _ _ _ _ _ (T1028.setTop (mkF m 48 #[.val (.ref x), .val (.ref qa), .val (.ref it), .val (.ref s2)] []))
        refine W1029.callSp (y := N11) (wd217 hw) (wd85 hw) (wd86 hw) (wd87 hw) (by decide) (c_oempty l Z a0 hw hEL h1016 W1029.old em SE) all0 (by decide) (by decide) (k' := 1) (n' := 4) rfl rfl (by decide) (by decide) (by rw [hml]; rfl) (argsL := []) (rest := []) (lenOf pd_24 rfl) rfl rfl (Wt := 0) (Nat.le_of_eq rfl) (hb hby dc49_48) ?_
        intro T1030 W1031
        show Go _ _ _ _ _ _ _ _ _ (T1030.setTop (mkF m 51 #[.val (.ref x), .val (.ref qa), .val (.ref it), .val (.ref s2)] [(.ref em)]))
        exact W1031.retA (by decide) (by decide) hret rfl rfl (hb hby dc49_51) ⟨em, rfl, X1017, EE.ext W1031.old, by rw [if_neg q0, if_neg q1, if_neg q2]; exact FE.ext W1031.old⟩
theorem c_law (hw : HW Z a0) (hEL : EW Z a0 EL_) (h0 : Heap) (hE0 : Ext Z.heap h0) (p0 p1 p2 p3 p4 G1 : Int32) (bz em dd el ee emp mr : Addr) (kd kee : ClassId) (SG1 : Sta Z Z.heap "java/lang/String" "COMPACT_STRINGS" "Z" (.int G1)) (hG : ¬ G1 = 0) (EZ : Exa Z Z.heap bz "java/math/BigDecimal") (FZ : Fld Z Z.heap bz "java/math/BigDecimal" "intCompact" "J" (.long 0)) (SZ : Sta Z Z.heap "java/math/BigDecimal" "ZERO" "Ljava/math/BigDecimal;" (.ref bz)) (SE : Sta Z Z.heap "java/util/Optional" "EMPTY" "Ljava/util/Optional;" (.ref em)) (EE : Exa Z Z.heap em "java/util/Optional") (FE : Fld Z Z.heap em "java/util/Optional" "value" "Ljava/lang/Object;" .null) (SD : Sta Z Z.heap cAL "DEFAULTCAPACITY_EMPTY_ELEMENTDATA" "[Ljava/lang/Object;" (.ref dd)) (DA : Arv Z Z.heap dd kd (.object "java/lang/Object") 0 [] .null) (SL : Sta Z Z.heap cIC "EMPTY_LIST" "Ljava/util/ImmutableCollections$ListN;" (.ref el)) (EL0 : Exa Z Z.heap el cLN) (FE0 : Fld Z Z.heap el cLN "elements" "[Ljava/lang/Object;" (.ref ee)) (AE0 : Arv Z Z.heap ee kee (.object "java/lang/Object") 0 [] .null) (SM : Sta Z Z.heap cIC "EMPTY" "Ljava/lang/Object;" (.ref emp)) (EM : Exa Z Z.heap emp "java/lang/Object") (MR : MirA Z "[Ljava/lang/Object;" mr) :
    Con l Z EL_ [] x code maxLocals ret tables_1 room_1 #[(.int p0), (.int p1), (.int p2), (.int p3), (.int p4)] h0 (fun v h' => v = some (.int 1)) := by
  refine Con.mk (plainFor_of_name pn_1) hEL hE0 (fun x hx => by cases hx) ?_
  intro p e s m below meth c T0 hby hml hret hnm W0
  rw [(show entryFrame m #[(.int p0), (.int p1), (.int p2), (.int p3), (.int p4)] maxLocals = mkF m 0 #[.val (.int p0), .val (.int p1), .val (.int p2), .val (.int p3), .val (.int p4), .unset, .unset, .unset, .unset, .unset, .unset, .unset, .unset, .unset, .unset, .unset, .unset, .unset, .unset] [] from by first | (simp [entryFrame, mkF, argsToLocals, Value.category, maxLocals]; done) | rfl)]
  refine Go.by (fun _ q9 => XS.iloadN W0.here W0.hx rfl (hb hby at_0) rfl q9) ?_
  show Go _ _ _ _ _ _ _ _ _ (T0.setTop (mkF m 1 #[.val (.int p0), .val (.int p1), .val (.int p2), .val (.int p3), .val (.int p4), .unset, .unset, .unset, .unset, .unset, .unset, .unset, .unset, .unset, .unset, .unset, .unset, .unset, .unset] [(.int p0)]))
  refine W0.callS (y := N2) (wd0 hw) (wd1 hw) (wd2 hw) (wd3 hw) (by decide) (c_name l Z a0 hw hEL h0 hE0 p0 G1 SG1 hG) all0 (by decide) (by decide) (k' := 6) (n' := 24) rfl rfl (by decide) (by decide) (by rw [hml]; rfl) (argsL := [(.int p0)]) (rest := []) (lenOf pd_28 rfl) rfl rfl (Wt := 0) (Nat.le_of_eq rfl) (hb hby at_1) ?_
  intro v_ T1032 h1034 W1033 hq_
  obtain ⟨n0, cs0, rfl, X_n0, S0, l0⟩ := hq_
  refine Go.by (fun _ q9 => XS.astore W1033.here W1033.hx rfl (hb hby at_4) rfl rfl (l' := #[.val (.int p0), .val (.int p1), .val (.int p2), .val (.int p3), .val (.int p4), .val (.ref n0), .unset, .unset, .unset, .unset, .unset, .unset, .unset, .unset, .unset, .unset, .unset, .unset, .unset]) rfl (XS.iloadN W1033.here W1033.hx rfl (hb hby at_6) rfl q9)) ?_
  show Go _ _ _ _ _ _ _ _ _ (T1032.setTop (mkF m 7 #[.val (.int p0), .val (.int p1), .val (.int p2), .val (.int p3), .val (.int p4), .val (.ref n0), .unset, .unset, .unset, .unset, .unset, .unset, .unset, .unset, .unset, .unset, .unset, .unset, .unset] [(.int p1)]))
  refine W1033.callS (y := N2) (wd0 hw) (wd1 hw) (wd2 hw) (wd3 hw) (by decide) (c_name l Z a0 hw hEL h1034 W1033.old p1 G1 SG1 hG) all0 (by decide) (by decide) (k' := 12) (n' := 48) rfl rfl (by decide) (by decide) (by rw [hml]; rfl) (argsL := [(.int p1)]) (rest := []) (lenOf pd_28 rfl) rfl rfl (Wt := 0) (Nat.le_of_eq rfl) (hb hby at_7) ?_
  intro v_ T1035 h1037 W1036 hq_
  obtain ⟨n1, cs1, rfl, X_n1, S1, l1⟩ := hq_
  refine Go.by (fun _ q9 => XS.astore W1036.here W1036.hx rfl (hb hby at_10) rfl rfl (l' := #[.val (.int p0), .val (.int p1), .val (.int p2), .val (.int p3), .val (.int p4), .val (.ref n0), .val (.ref n1), .unset, .unset, .unset, .unset, .unset, .unset, .unset, .unset, .unset, .unset, .unset, .unset]) rfl (XS.iloadN W1036.here W1036.hx rfl (hb hby at_12) rfl q9)) ?_
  show Go _ _ _ _ _ _ _ _ _ (T1035.setTop (mkF m 13 #[.val (.int p0), .val (.int p1), .val (.int p2), .val (.int p3), .val (.int p4), .val (.ref n0), .val (.ref n1), .unset, .unset, .unset, .unset, .unset, .unset, .unset, .unset, .unset, .unset, .unset, .unset] [(.int p2)]))
  refine W1036.callS (y := N2) (wd0 hw) (wd1 hw) (wd2 hw) (wd3 hw) (by decide) (c_name l Z a0 hw hEL h1037 W1036.old p2 G1 SG1 hG) all0 (by decide) (by decide) (k' := 18) (n' := 72) rfl rfl (by decide) (by decide) (by rw [hml]; rfl) (argsL := [(.int p2)]) (rest := []) (lenOf pd_28 rfl) rfl rfl (Wt := 0) (Nat.le_of_eq rfl) (hb hby at_13) ?_
  intro v_ T1038 h1040 W1039 hq_
  obtain ⟨n2, cs2, rfl, X_n2, S2, l2⟩ := hq_
  refine Go.by (fun _ q9 => XS.astore W1039.here W1039.hx rfl (hb hby at_16) rfl rfl (l' := #[.val (.int p0), .val (.int p1), .val (.int p2), .val (.int p3), .val (.int p4), .val (.ref n0), .val (.ref n1), .val (.ref n2), .unset, .unset, .unset, .unset, .unset, .unset, .unset, .unset, .unset, .unset, .unset]) rfl (XS.iload W1039.here W1039.hx rfl (hb hby at_18) rfl (XS.iconst W1039.here W1039.hx rfl (hb hby at_20) (XS.iand W1039.here W1039.hx rfl (hb hby at_21) rfl (XS.istore W1039.here W1039.hx rfl (hb hby at_22) rfl (l' := #[.val (.int p0), .val (.int p1), .val (.int p2), .val (.int p3), .val (.int p4), .val (.ref n0), .val (.ref n1), .val (.ref n2), .val (.int (p4 &&& (3 : Int32))), .unset, .unset, .unset, .unset, .unset, .unset, .unset, .unset, .unset, .unset]) rfl q9))))) ?_
  show Go _ _ _ _ _ _ _ _ _ (T1038.setTop (mkF m 24 #[.val (.int p0), .val (.int p1), .val (.int p2), .val (.int p3), .val (.int p4), .val (.ref n0), .val (.ref n1), .val (.ref n2), .val (.int (p4 &&& (3 : Int32))), .unset, .unset, .unset, .unset, .unset, .unset, .unset, .unset, .unset, .unset] []))
  obtain ⟨md, h_md⟩ : ∃ z : Int32, z = (p4 &&& (3 : Int32)) := ⟨_, rfl⟩
  rw [← h_md]
  clear h_md
  refine Go.by (fun _ q9 => XS.iload W1039.here W1039.hx rfl (hb hby at_24) rfl (XS.iconst W1039.here W1039.hx rfl (hb hby at_26) (XS.iushr W1039.here W1039.hx rfl (hb hby at_27) rfl (XS.iconst W1039.here W1039.hx rfl (hb hby at_28) (XS.iand W1039.here W1039.hx rfl (hb hby at_29) rfl (XS.istore W1039.here W1039.hx rfl (hb hby at_30) rfl (l' := #[.val (.int p0), .val (.int p1), .val (.int p2), .val (.int p3), .val (.int p4), .val (.ref n0), .val (.ref n1), .val (.ref n2), .val (.int md), .val (.int (((p4.toUInt32 >>> ((2 : Int32) &&& 31).toUInt32).toInt32) &&& (3 : Int32))), .unset, .unset, .unset, .unset, .unset, .unset, .unset, .unset, .unset]) rfl q9)))))) ?_
  show Go _ _ _ _ _ _ _ _ _ (T1038.setTop (mkF m 32 #[.val (.int p0), .val (.int p1), .val (.int p2), .val (.int p3), .val (.int p4), .val (.ref n0), .val (.ref n1), .val (.ref n2), .val (.int md), .val (.int (((p4.toUInt32 >>> ((2 : Int32) &&& 31).toUInt32).toInt32) &&& (3 : Int32))), .unset, .unset, .unset, .unset, .unset, .unset, .unset, .unset, .unset] []))
  obtain ⟨ct, h_ct⟩ : ∃ z : Int32, z = (((p4.toUInt32 >>> ((2 : Int32) &&& 31).toUInt32).toInt32) &&& (3 : Int32)) := ⟨_, rfl⟩
  rw [← h_ct]
  clear h_ct
  refine Go.by (fun _ q9 => XS.iload W1039.here W1039.hx rfl (hb hby at_32) rfl q9) ?_
  suffices J1041 : ∀ (T1042 : State) (h1044 : Heap) (qa : Addr) (cq : List Int32), Wk p l e room_1 s m #[(.int p0), (.int p1), (.int p2), (.int p3), (.int p4)] below meth c Z a0 EL_ "com/example/cuenta/cuenta/FuelSchemesSchemePinLaw" [] T1042 h1044 24 96 → Str Z h1044 n0 cs0 → Str Z h1044 n1 cs1 → Str Z h1044 n2 cs2 → Str Z h1044 qa cq → cq.length ≤ 4000 → Go p e below s Z EL_ room_1.cells room_1.slots (fun v h' => v = some (.int 1)) (T1042.setTop (mkF m 82 #[.val (.int p0), .val (.int p1), .val (.int p2), .val (.int p3), .val (.int p4), .val (.ref n0), .val (.ref n1), .val (.ref n2), .val (.int md), .val (.int ct), .val (.ref qa), .unset, .unset, .unset, .unset, .unset, .unset, .unset, .unset] [])) by
    by_cases m0 : md = (0 : Int32)
    · refine Go.by (fun _ q9 => XS.ifNo W1039.here W1039.hx rfl (hb hby at_34) rfl ((if0 _ _).trans (teq m0).2) q9) ?_
      refine Go.by (fun _ q9 => XS.iloadN W1039.here W1039.hx rfl (hb hby at_37) rfl q9) ?_
      show Go _ _ _ _ _ _ _ _ _ (T1038.setTop (mkF m 38 #[.val (.int p0), .val (.int p1), .val (.int p2), .val (.int p3), .val (.int p4), .val (.ref n0), .val (.ref n1), .val (.ref n2), .val (.int md), .val (.int ct), .unset, .unset, .unset, .unset, .unset, .unset, .unset, .unset, .unset] [(.int p0)]))
      refine W1039.callS (y := N2) (wd0 hw) (wd1 hw) (wd2 hw) (wd3 hw) (by decide) (c_name l Z a0 hw hEL h1040 W1039.old p0 G1 SG1 hG) all0 (by decide) (by decide) (k' := 24) (n' := 96) rfl rfl (by decide) (by decide) (by rw [hml]; rfl) (argsL := [(.int p0)]) (rest := []) (lenOf pd_28 rfl) rfl rfl (Wt := 0) (Nat.le_of_eq rfl) (hb hby at_38) ?_
      intro v_ T1045 h1047 W1046 hq_
      obtain ⟨qb, cb, rfl, X_qb, SB, lb⟩ := hq_
      refine Go.by (fun _ q9 => XS.astore W1046.here W1046.hx rfl (hb hby at_41) rfl rfl (l' := #[.val (.int p0), .val (.int p1), .val (.int p2), .val (.int p3), .val (.int p4), .val (.ref n0), .val (.ref n1), .val (.ref n2), .val (.int md), .val (.int ct), .val (.ref qb), .unset, .unset, .unset, .unset, .unset, .unset, .unset, .unset]) rfl (XS.goto W1046.here W1046.hx rfl (pc0 := 43) (pc' := 82) rfl (hb hby at_43) (by decide) (by decide) q9)) ?_
      show Go _ _ _ _ _ _ _ _ _ (T1045.setTop (mkF m 82 #[.val (.int p0), .val (.int p1), .val (.int p2), .val (.int p3), .val (.int p4), .val (.ref n0), .val (.ref n1), .val (.ref n2), .val (.int md), .val (.int ct), .val (.ref qb), .unset, .unset, .unset, .unset, .unset, .unset, .unset, .unset] []))
      have X1048 : Ext h1034 h1040 := (Ext.trans' X_n1 X_n2)
      have X1049 : Ext h1034 h1047 := (Ext.trans' X1048 X_qb)
      have X1050 : Ext h1037 h1047 := (Ext.trans' X_n2 X_qb)
      exact J1041 _ _ _ _ ((W1046.less all0).mono (by decide) (by decide)) (S0.ext X1049) (S1.ext X1050) (S2.ext X_qb) SB lb
    · refine Go.by (fun _ q9 => XS.ifYes W1039.here W1039.hx rfl (pc0 := 34) (pc' := 46) rfl (hb hby at_34) rfl ((if0 _ _).trans (feq m0).2) (by decide) (by decide) q9) ?_
      refine Go.by (fun _ q9 => XS.iload W1039.here W1039.hx rfl (hb hby at_46) rfl (XS.iconst W1039.here W1039.hx rfl (hb hby at_48) q9)) ?_
      by_cases m1 : md = (1 : Int32)
      · refine Go.by (fun _ q9 => XS.icmpNo W1039.here W1039.hx rfl (hb hby at_49) rfl (teq m1).2 q9) ?_
        refine Go.by (fun _ q9 => XS.iloadN W1039.here W1039.hx rfl (hb hby at_52) rfl q9) ?_
        show Go _ _ _ _ _ _ _ _ _ (T1038.setTop (mkF m 53 #[.val (.int p0), .val (.int p1), .val (.int p2), .val (.int p3), .val (.int p4), .val (.ref n0), .val (.ref n1), .val (.ref n2), .val (.int md), .val (.int ct), .unset, .unset, .unset, .unset, .unset, .unset, .unset, .unset, .unset] [(.int p1)]))
        refine W1039.callS (y := N2) (wd0 hw) (wd1 hw) (wd2 hw) (wd3 hw) (by decide) (c_name l Z a0 hw hEL h1040 W1039.old p1 G1 SG1 hG) all0 (by decide) (by decide) (k' := 24) (n' := 96) rfl rfl (by decide) (by decide) (by rw [hml]; rfl) (argsL := [(.int p1)]) (rest := []) (lenOf pd_28 rfl) rfl rfl (Wt := 0) (Nat.le_of_eq rfl) (hb hby at_53) ?_
        intro v_ T1051 h1053 W1052 hq_
        obtain ⟨qb, cb, rfl, X_qb, SB, lb⟩ := hq_
        refine Go.by (fun _ q9 => XS.astore W1052.here W1052.hx rfl (hb hby at_56) rfl rfl (l' := #[.val (.int p0), .val (.int p1), .val (.int p2), .val (.int p3), .val (.int p4), .val (.ref n0), .val (.ref n1), .val (.ref n2), .val (.int md), .val (.int ct), .val (.ref qb), .unset, .unset, .unset, .unset, .unset, .unset, .unset, .unset]) rfl (XS.goto W1052.here W1052.hx rfl (pc0 := 58) (pc' := 82) rfl (hb hby at_58) (by decide) (by decide) q9)) ?_
        show Go _ _ _ _ _ _ _ _ _ (T1051.setTop (mkF m 82 #[.val (.int p0), .val (.int p1), .val (.int p2), .val (.int p3), .val (.int p4), .val (.ref n0), .val (.ref n1), .val (.ref n2), .val (.int md), .val (.int ct), .val (.ref qb), .unset, .unset, .unset, .unset, .unset, .unset, .unset, .unset] []))
        have X1054 : Ext h1034 h1040 := (Ext.trans' X_n1 X_n2)
        have X1055 : Ext h1034 h1053 := (Ext.trans' X1054 X_qb)
        have X1056 : Ext h1037 h1053 := (Ext.trans' X_n2 X_qb)
        exact J1041 _ _ _ _ ((W1052.less all0).mono (by decide) (by decide)) (S0.ext X1055) (S1.ext X1056) (S2.ext X_qb) SB lb
      · refine Go.by (fun _ q9 => XS.icmpYes W1039.here W1039.hx rfl (pc0 := 49) (pc' := 61) rfl (hb hby at_49) rfl (feq m1).2 (by decide) (by decide) q9) ?_
        refine Go.by (fun _ q9 => XS.iload W1039.here W1039.hx rfl (hb hby at_61) rfl (XS.iconst W1039.here W1039.hx rfl (hb hby at_63) q9)) ?_
        by_cases m2 : md = (2 : Int32)
        · refine Go.by (fun _ q9 => XS.icmpNo W1039.here W1039.hx rfl (hb hby at_64) rfl (teq m2).2 q9) ?_
          refine Go.by (fun _ q9 => XS.iloadN W1039.here W1039.hx rfl (hb hby at_67) rfl q9) ?_
          show Go _ _ _ _ _ _ _ _ _ (T1038.setTop (mkF m 68 #[.val (.int p0), .val (.int p1), .val (.int p2), .val (.int p3), .val (.int p4), .val (.ref n0), .val (.ref n1), .val (.ref n2), .val (.int md), .val (.int ct), .unset, .unset, .unset, .unset, .unset, .unset, .unset, .unset, .unset] [(.int p2)]))
          refine W1039.callS (y := N2) (wd0 hw) (wd1 hw) (wd2 hw) (wd3 hw) (by decide) (c_name l Z a0 hw hEL h1040 W1039.old p2 G1 SG1 hG) all0 (by decide) (by decide) (k' := 24) (n' := 96) rfl rfl (by decide) (by decide) (by rw [hml]; rfl) (argsL := [(.int p2)]) (rest := []) (lenOf pd_28 rfl) rfl rfl (Wt := 0) (Nat.le_of_eq rfl) (hb hby at_68) ?_
          intro v_ T1057 h1059 W1058 hq_
          obtain ⟨qb, cb, rfl, X_qb, SB, lb⟩ := hq_
          refine Go.by (fun _ q9 => XS.astore W1058.here W1058.hx rfl (hb hby at_71) rfl rfl (l' := #[.val (.int p0), .val (.int p1), .val (.int p2), .val (.int p3), .val (.int p4), .val (.ref n0), .val (.ref n1), .val (.ref n2), .val (.int md), .val (.int ct), .val (.ref qb), .unset, .unset, .unset, .unset, .unset, .unset, .unset, .unset]) rfl (XS.goto W1058.here W1058.hx rfl (pc0 := 73) (pc' := 82) rfl (hb hby at_73) (by decide) (by decide) q9)) ?_
          show Go _ _ _ _ _ _ _ _ _ (T1057.setTop (mkF m 82 #[.val (.int p0), .val (.int p1), .val (.int p2), .val (.int p3), .val (.int p4), .val (.ref n0), .val (.ref n1), .val (.ref n2), .val (.int md), .val (.int ct), .val (.ref qb), .unset, .unset, .unset, .unset, .unset, .unset, .unset, .unset] []))
          have X1060 : Ext h1034 h1040 := (Ext.trans' X_n1 X_n2)
          have X1061 : Ext h1034 h1059 := (Ext.trans' X1060 X_qb)
          have X1062 : Ext h1037 h1059 := (Ext.trans' X_n2 X_qb)
          exact J1041 _ _ _ _ ((W1058.less all0).mono (by decide) (by decide)) (S0.ext X1061) (S1.ext X1062) (S2.ext X_qb) SB lb
        · refine Go.by (fun _ q9 => XS.icmpYes W1039.here W1039.hx rfl (pc0 := 64) (pc' := 76) rfl (hb hby at_64) rfl (feq m2).2 (by decide) (by decide) q9) ?_
          refine Go.by (fun _ q9 => XS.iloadN W1039.here W1039.hx rfl (hb hby at_76) rfl q9) ?_
          show Go _ _ _ _ _ _ _ _ _ (T1038.setTop (mkF m 77 #[.val (.int p0), .val (.int p1), .val (.int p2), .val (.int p3), .val (.int p4), .val (.ref n0), .val (.ref n1), .val (.ref n2), .val (.int md), .val (.int ct), .unset, .unset, .unset, .unset, .unset, .unset, .unset, .unset, .unset] [(.int p3)]))
          refine W1039.callS (y := N2) (wd0 hw) (wd1 hw) (wd2 hw) (wd3 hw) (by decide) (c_name l Z a0 hw hEL h1040 W1039.old p3 G1 SG1 hG) all0 (by decide) (by decide) (k' := 24) (n' := 96) rfl rfl (by decide) (by decide) (by rw [hml]; rfl) (argsL := [(.int p3)]) (rest := []) (lenOf pd_28 rfl) rfl rfl (Wt := 0) (Nat.le_of_eq rfl) (hb hby at_77) ?_
          intro v_ T1063 h1065 W1064 hq_
          obtain ⟨qb, cb, rfl, X_qb, SB, lb⟩ := hq_
          refine Go.by (fun _ q9 => XS.astore W1064.here W1064.hx rfl (hb hby at_80) rfl rfl (l' := #[.val (.int p0), .val (.int p1), .val (.int p2), .val (.int p3), .val (.int p4), .val (.ref n0), .val (.ref n1), .val (.ref n2), .val (.int md), .val (.int ct), .val (.ref qb), .unset, .unset, .unset, .unset, .unset, .unset, .unset, .unset]) rfl q9) ?_
          show Go _ _ _ _ _ _ _ _ _ (T1063.setTop (mkF m 82 #[.val (.int p0), .val (.int p1), .val (.int p2), .val (.int p3), .val (.int p4), .val (.ref n0), .val (.ref n1), .val (.ref n2), .val (.int md), .val (.int ct), .val (.ref qb), .unset, .unset, .unset, .unset, .unset, .unset, .unset, .unset] []))
          have X1066 : Ext h1034 h1040 := (Ext.trans' X_n1 X_n2)
          have X1067 : Ext h1034 h1065 := (Ext.trans' X1066 X_qb)
          have X1068 : Ext h1037 h1065 := (Ext.trans' X_n2 X_qb)
          exact J1041 _ _ _ _ ((W1064.less all0).mono (by decide) (by decide)) (S0.ext X1067) (S1.ext X1068) (S2.ext X_qb) SB lb
  intro T1042 h1044 qa cq W1043 T0' T1' T2' SQ lq
  show Go _ _ _ _ _ _ _ _ _ (T1042.setTop (mkF m 82 #[.val (.int p0), .val (.int p1), .val (.int p2), .val (.int p3), .val (.int p4), .val (.ref n0), .val (.ref n1), .val (.ref n2), .val (.int md), .val (.int ct), .val (.ref qa), .unset, .unset, .unset, .unset, .unset, .unset, .unset, .unset] []))
  refine W1043.new (wd37 hw) (wd38 hw) (wd39 hw) (hb hby at_82) (k' := 25) (n' := 101) rfl rfl (by decide) (by decide) ?_
  intro T1069 h1070 fc W1071 E1072 g_fc z_fc A_fc D_fc
  have F_crudeOilCoefficient_fc : Fld Z h1070 fc cFS "crudeOilCoefficient" "Ljava/math/BigDecimal;" .null := D_fc (Or.inr (wd72 hw)) (ty := (.object "java/math/BigDecimal")) (by decide)
  have F_lngCoefficient_fc : Fld Z h1070 fc cFS "lngCoefficient" "Ljava/math/BigDecimal;" .null := D_fc (Or.inr (wd74 hw)) (ty := (.object "java/math/BigDecimal")) (by decide)
  have F_coalCoefficient_fc : Fld Z h1070 fc cFS "coalCoefficient" "Ljava/math/BigDecimal;" .null := D_fc (Or.inr (wd76 hw)) (ty := (.object "java/math/BigDecimal")) (by decide)
  have F_baseFuelPrice_fc : Fld Z h1070 fc cFS "baseFuelPrice" "J" (.long (0 : Int64)) := D_fc (Or.inr (wd78 hw)) (ty := .long) (by decide)
  have F_baseUnitPrice_fc : Fld Z h1070 fc cFS "baseUnitPrice" "Ljava/math/BigDecimal;" .null := D_fc (Or.inr (wd80 hw)) (ty := (.object "java/math/BigDecimal")) (by decide)
  refine Go.by (fun _ q9 => XS.dup W1071.here W1071.hx rfl (hb hby at_85) rfl rfl q9) ?_
  show Go _ _ _ _ _ _ _ _ _ (T1069.setTop (mkF m 86 #[.val (.int p0), .val (.int p1), .val (.int p2), .val (.int p3), .val (.int p4), .val (.ref n0), .val (.ref n1), .val (.ref n2), .val (.int md), .val (.int ct), .val (.ref qa), .unset, .unset, .unset, .unset, .unset, .unset, .unset, .unset] [(.ref fc), (.ref fc)]))
  refine W1071.gets (host := "") (Or.inl (wd40 hw)) Via.refl (SZ.ext W1071.old) (hb hby at_86) ?_
  intro T1073 W1074
  show Go _ _ _ _ _ _ _ _ _ (T1073.setTop (mkF m 89 #[.val (.int p0), .val (.int p1), .val (.int p2), .val (.int p3), .val (.int p4), .val (.ref n0), .val (.ref n1), .val (.ref n2), .val (.int md), .val (.int ct), .val (.ref qa), .unset, .unset, .unset, .unset, .unset, .unset, .unset, .unset] [(.ref bz), (.ref fc), (.ref fc)]))
  refine W1074.gets (host := "") (Or.inl (wd40 hw)) Via.refl (SZ.ext W1074.old) (hb hby at_89) ?_
  intro T1075 W1076
  show Go _ _ _ _ _ _ _ _ _ (T1075.setTop (mkF m 92 #[.val (.int p0), .val (.int p1), .val (.int p2), .val (.int p3), .val (.int p4), .val (.ref n0), .val (.ref n1), .val (.ref n2), .val (.int md), .val (.int ct), .val (.ref qa), .unset, .unset, .unset, .unset, .unset, .unset, .unset, .unset] [(.ref bz), (.ref bz), (.ref fc), (.ref fc)]))
  refine W1076.gets (host := "") (Or.inl (wd40 hw)) Via.refl (SZ.ext W1076.old) (hb hby at_92) ?_
  intro T1077 W1078
  refine Go.by (fun _ q9 => XS.lconst W1078.here W1078.hx rfl (hb hby at_95) q9) ?_
  show Go _ _ _ _ _ _ _ _ _ (T1077.setTop (mkF m 96 #[.val (.int p0), .val (.int p1), .val (.int p2), .val (.int p3), .val (.int p4), .val (.ref n0), .val (.ref n1), .val (.ref n2), .val (.int md), .val (.int ct), .val (.ref qa), .unset, .unset, .unset, .unset, .unset, .unset, .unset, .unset] [(.long (1 : Int64)), (.ref bz), (.ref bz), (.ref bz), (.ref fc), (.ref fc)]))
  refine W1078.gets (host := "") (Or.inl (wd40 hw)) Via.refl (SZ.ext W1078.old) (hb hby at_96) ?_
  intro T1079 W1080
  show Go _ _ _ _ _ _ _ _ _ (T1079.setTop (mkF m 99 #[.val (.int p0), .val (.int p1), .val (.int p2), .val (.int p3), .val (.int p4), .val (.ref n0), .val (.ref n1), .val (.ref n2), .val (.int md), .val (.int ct), .val (.ref qa), .unset, .unset, .unset, .unset, .unset, .unset, .unset, .unset] [(.ref bz), (.long (1 : Int64)), (.ref bz), (.ref bz), (.ref bz), (.ref fc), (.ref fc)]))
  refine W1080.callI (y := N7) rfl (wd42 hw) (wd43 hw) (wd39 hw) (wd44 hw) (by decide) (a := fc) (c_fsinit l Z a0 hw hEL h1070 W1080.old fc bz A_fc F_crudeOilCoefficient_fc F_lngCoefficient_fc F_coalCoefficient_fc F_baseFuelPrice_fc F_baseUnitPrice_fc z_fc EZ FZ) (allS (m_ 0) all0) (by decide) (by decide) (k' := 33) (n' := 385) rfl rfl (by decide) (by decide) (by rw [hml]; rfl) (argsL := [(.ref bz), (.ref bz), (.ref bz), (.long (1 : Int64)), (.ref bz)]) (rest := [(.ref fc)]) (lenOf pd_29 rfl) rfl rfl (Wt := 1) (Nat.le_of_eq rfl) (hb hby at_99) ?_
  intro v_ T1081 h1083 W1082 hq_
  obtain ⟨rfl, K_fc⟩ := hq_
  refine Go.by (fun _ q9 => XS.astore W1082.here W1082.hx rfl (hb hby at_102) rfl rfl (l' := #[.val (.int p0), .val (.int p1), .val (.int p2), .val (.int p3), .val (.int p4), .val (.ref n0), .val (.ref n1), .val (.ref n2), .val (.int md), .val (.int ct), .val (.ref qa), .val (.ref fc), .unset, .unset, .unset, .unset, .unset, .unset, .unset]) rfl q9) ?_
  show Go _ _ _ _ _ _ _ _ _ (T1081.setTop (mkF m 104 #[.val (.int p0), .val (.int p1), .val (.int p2), .val (.int p3), .val (.int p4), .val (.ref n0), .val (.ref n1), .val (.ref n2), .val (.int md), .val (.int ct), .val (.ref qa), .val (.ref fc), .unset, .unset, .unset, .unset, .unset, .unset, .unset] []))
  refine W1082.new (wd81 hw) (wd82 hw) (wd83 hw) (hb hby at_104) (k' := 34) (n' := 388) rfl rfl (by decide) (by decide) ?_
  intro T1084 h1085 s0 W1086 E1087 g_s0 z_s0 A_s0 D_s0
  have F_name_s0 : Fld Z h1085 s0 cSC "name" "Ljava/lang/String;" .null := D_s0 (Or.inr (wd101 hw)) (ty := (.object "java/lang/String")) (by decide)
  have F_fuelCost_s0 : Fld Z h1085 s0 cSC "fuelCost" "Lcom/example/cuenta/cuenta/FuelScheme;" .null := D_s0 (Or.inr (wd103 hw)) (ty := (.object cFS)) (by decide)
  have F_island_s0 : Fld Z h1085 s0 cSC "island" "Ljava/util/Optional;" .null := D_s0 (Or.inr (wd105 hw)) (ty := (.object "java/util/Optional")) (by decide)
  refine Go.by (fun _ q9 => XS.dup W1086.here W1086.hx rfl (hb hby at_107) rfl rfl (XS.aload W1086.here W1086.hx rfl (hb hby at_108) rfl rfl (XS.aload W1086.here W1086.hx rfl (hb hby at_110) rfl rfl q9))) ?_
  show Go _ _ _ _ _ _ _ _ _ (T1084.setTop (mkF m 112 #[.val (.int p0), .val (.int p1), .val (.int p2), .val (.int p3), .val (.int p4), .val (.ref n0), .val (.ref n1), .val (.ref n2), .val (.int md), .val (.int ct), .val (.ref qa), .val (.ref fc), .unset, .unset, .unset, .unset, .unset, .unset, .unset] [(.ref fc), (.ref n0), (.ref s0), (.ref s0)]))
  refine W1086.callSp (y := N11) (wd84 hw) (wd85 hw) (wd86 hw) (wd87 hw) (by decide) (c_oempty l Z a0 hw hEL h1085 W1086.old em SE) all0 (by decide) (by decide) (k' := 34) (n' := 388) rfl rfl (by decide) (by decide) (by rw [hml]; rfl) (argsL := []) (rest := [(.ref fc), (.ref n0), (.ref s0), (.ref s0)]) (lenOf pd_24 rfl) rfl rfl (Wt := 4) (Nat.le_of_eq rfl) (hb hby at_112) ?_
  intro T1088 W1089
  show Go _ _ _ _ _ _ _ _ _ (T1088.setTop (mkF m 115 #[.val (.int p0), .val (.int p1), .val (.int p2), .val (.int p3), .val (.int p4), .val (.ref n0), .val (.ref n1), .val (.ref n2), .val (.int md), .val (.int ct), .val (.ref qa), .val (.ref fc), .unset, .unset, .unset, .unset, .unset, .unset, .unset] [(.ref em), (.ref fc), (.ref n0), (.ref s0), (.ref s0)]))
  refine W1089.callI (y := N10) rfl (wd89 hw) (wd90 hw) (wd83 hw) (wd91 hw) (by decide) (a := s0) (c_scinit l Z a0 hw hEL h1085 W1089.old s0 n0 fc em A_s0 F_name_s0 F_fuelCost_s0 F_island_s0 z_s0) (allS (m_ 0) all0) (by decide) (by decide) (k' := 40) (n' := 472) rfl rfl (by decide) (by decide) (by rw [hml]; rfl) (argsL := [(.ref n0), (.ref fc), (.ref em)]) (rest := [(.ref s0)]) (lenOf pd_30 rfl) rfl rfl (Wt := 1) (Nat.le_of_eq rfl) (hb hby at_115) ?_
  intro v_ T1090 h1092 W1091 hq_
  obtain ⟨rfl, K_s0, E_s0, N_s0⟩ := hq_
  refine Go.by (fun _ q9 => XS.astore W1091.here W1091.hx rfl (hb hby at_118) rfl rfl (l' := #[.val (.int p0), .val (.int p1), .val (.int p2), .val (.int p3), .val (.int p4), .val (.ref n0), .val (.ref n1), .val (.ref n2), .val (.int md), .val (.int ct), .val (.ref qa), .val (.ref fc), .val (.ref s0), .unset, .unset, .unset, .unset, .unset, .unset]) rfl q9) ?_
  show Go _ _ _ _ _ _ _ _ _ (T1090.setTop (mkF m 120 #[.val (.int p0), .val (.int p1), .val (.int p2), .val (.int p3), .val (.int p4), .val (.ref n0), .val (.ref n1), .val (.ref n2), .val (.int md), .val (.int ct), .val (.ref qa), .val (.ref fc), .val (.ref s0), .unset, .unset, .unset, .unset, .unset, .unset] []))
  refine W1091.new (wd81 hw) (wd82 hw) (wd83 hw) (hb hby at_120) (k' := 41) (n' := 475) rfl rfl (by decide) (by decide) ?_
  intro T1093 h1094 s1 W1095 E1096 g_s1 z_s1 A_s1 D_s1
  have F_name_s1 : Fld Z h1094 s1 cSC "name" "Ljava/lang/String;" .null := D_s1 (Or.inr (wd101 hw)) (ty := (.object "java/lang/String")) (by decide)
  have F_fuelCost_s1 : Fld Z h1094 s1 cSC "fuelCost" "Lcom/example/cuenta/cuenta/FuelScheme;" .null := D_s1 (Or.inr (wd103 hw)) (ty := (.object cFS)) (by decide)
  have F_island_s1 : Fld Z h1094 s1 cSC "island" "Ljava/util/Optional;" .null := D_s1 (Or.inr (wd105 hw)) (ty := (.object "java/util/Optional")) (by decide)
  refine Go.by (fun _ q9 => XS.dup W1095.here W1095.hx rfl (hb hby at_123) rfl rfl (XS.aload W1095.here W1095.hx rfl (hb hby at_124) rfl rfl (XS.aload W1095.here W1095.hx rfl (hb hby at_126) rfl rfl q9))) ?_
  show Go _ _ _ _ _ _ _ _ _ (T1093.setTop (mkF m 128 #[.val (.int p0), .val (.int p1), .val (.int p2), .val (.int p3), .val (.int p4), .val (.ref n0), .val (.ref n1), .val (.ref n2), .val (.int md), .val (.int ct), .val (.ref qa), .val (.ref fc), .val (.ref s0), .unset, .unset, .unset, .unset, .unset, .unset] [(.ref fc), (.ref n1), (.ref s1), (.ref s1)]))
  refine W1095.callSp (y := N11) (wd84 hw) (wd85 hw) (wd86 hw) (wd87 hw) (by decide) (c_oempty l Z a0 hw hEL h1094 W1095.old em SE) all0 (by decide) (by decide) (k' := 41) (n' := 475) rfl rfl (by decide) (by decide) (by rw [hml]; rfl) (argsL := []) (rest := [(.ref fc), (.ref n1), (.ref s1), (.ref s1)]) (lenOf pd_24 rfl) rfl rfl (Wt := 4) (Nat.le_of_eq rfl) (hb hby at_128) ?_
  intro T1097 W1098
  show Go _ _ _ _ _ _ _ _ _ (T1097.setTop (mkF m 131 #[.val (.int p0), .val (.int p1), .val (.int p2), .val (.int p3), .val (.int p4), .val (.ref n0), .val (.ref n1), .val (.ref n2), .val (.int md), .val (.int ct), .val (.ref qa), .val (.ref fc), .val (.ref s0), .unset, .unset, .unset, .unset, .unset, .unset] [(.ref em), (.ref fc), (.ref n1), (.ref s1), (.ref s1)]))
  refine W1098.callI (y := N10) rfl (wd89 hw) (wd90 hw) (wd83 hw) (wd91 hw) (by decide) (a := s1) (c_scinit l Z a0 hw hEL h1094 W1098.old s1 n1 fc em A_s1 F_name_s1 F_fuelCost_s1 F_island_s1 z_s1) (allS (m_ 0) all0) (by decide) (by decide) (k' := 47) (n' := 559) rfl rfl (by decide) (by decide) (by rw [hml]; rfl) (argsL := [(.ref n1), (.ref fc), (.ref em)]) (rest := [(.ref s1)]) (lenOf pd_30 rfl) rfl rfl (Wt := 1) (Nat.le_of_eq rfl) (hb hby at_131) ?_
  intro v_ T1099 h1101 W1100 hq_
  obtain ⟨rfl, K_s1, E_s1, N_s1⟩ := hq_
  refine Go.by (fun _ q9 => XS.astore W1100.here W1100.hx rfl (hb hby at_134) rfl rfl (l' := #[.val (.int p0), .val (.int p1), .val (.int p2), .val (.int p3), .val (.int p4), .val (.ref n0), .val (.ref n1), .val (.ref n2), .val (.int md), .val (.int ct), .val (.ref qa), .val (.ref fc), .val (.ref s0), .val (.ref s1), .unset, .unset, .unset, .unset, .unset]) rfl q9) ?_
  show Go _ _ _ _ _ _ _ _ _ (T1099.setTop (mkF m 136 #[.val (.int p0), .val (.int p1), .val (.int p2), .val (.int p3), .val (.int p4), .val (.ref n0), .val (.ref n1), .val (.ref n2), .val (.int md), .val (.int ct), .val (.ref qa), .val (.ref fc), .val (.ref s0), .val (.ref s1), .unset, .unset, .unset, .unset, .unset] []))
  refine W1100.new (wd81 hw) (wd82 hw) (wd83 hw) (hb hby at_136) (k' := 48) (n' := 562) rfl rfl (by decide) (by decide) ?_
  intro T1102 h1103 s2 W1104 E1105 g_s2 z_s2 A_s2 D_s2
  have F_name_s2 : Fld Z h1103 s2 cSC "name" "Ljava/lang/String;" .null := D_s2 (Or.inr (wd101 hw)) (ty := (.object "java/lang/String")) (by decide)
  have F_fuelCost_s2 : Fld Z h1103 s2 cSC "fuelCost" "Lcom/example/cuenta/cuenta/FuelScheme;" .null := D_s2 (Or.inr (wd103 hw)) (ty := (.object cFS)) (by decide)
  have F_island_s2 : Fld Z h1103 s2 cSC "island" "Ljava/util/Optional;" .null := D_s2 (Or.inr (wd105 hw)) (ty := (.object "java/util/Optional")) (by decide)
  refine Go.by (fun _ q9 => XS.dup W1104.here W1104.hx rfl (hb hby at_139) rfl rfl (XS.aload W1104.here W1104.hx rfl (hb hby at_140) rfl rfl (XS.aload W1104.here W1104.hx rfl (hb hby at_142) rfl rfl q9))) ?_
  show Go _ _ _ _ _ _ _ _ _ (T1102.setTop (mkF m 144 #[.val (.int p0), .val (.int p1), .val (.int p2), .val (.int p3), .val (.int p4), .val (.ref n0), .val (.ref n1), .val (.ref n2), .val (.int md), .val (.int ct), .val (.ref qa), .val (.ref fc), .val (.ref s0), .val (.ref s1), .unset, .unset, .unset, .unset, .unset] [(.ref fc), (.ref n2), (.ref s2), (.ref s2)]))
  refine W1104.callSp (y := N11) (wd84 hw) (wd85 hw) (wd86 hw) (wd87 hw) (by decide) (c_oempty l Z a0 hw hEL h1103 W1104.old em SE) all0 (by decide) (by decide) (k' := 48) (n' := 562) rfl rfl (by decide) (by decide) (by rw [hml]; rfl) (argsL := []) (rest := [(.ref fc), (.ref n2), (.ref s2), (.ref s2)]) (lenOf pd_24 rfl) rfl rfl (Wt := 4) (Nat.le_of_eq rfl) (hb hby at_144) ?_
  intro T1106 W1107
  show Go _ _ _ _ _ _ _ _ _ (T1106.setTop (mkF m 147 #[.val (.int p0), .val (.int p1), .val (.int p2), .val (.int p3), .val (.int p4), .val (.ref n0), .val (.ref n1), .val (.ref n2), .val (.int md), .val (.int ct), .val (.ref qa), .val (.ref fc), .val (.ref s0), .val (.ref s1), .unset, .unset, .unset, .unset, .unset] [(.ref em), (.ref fc), (.ref n2), (.ref s2), (.ref s2)]))
  refine W1107.callI (y := N10) rfl (wd89 hw) (wd90 hw) (wd83 hw) (wd91 hw) (by decide) (a := s2) (c_scinit l Z a0 hw hEL h1103 W1107.old s2 n2 fc em A_s2 F_name_s2 F_fuelCost_s2 F_island_s2 z_s2) (allS (m_ 0) all0) (by decide) (by decide) (k' := 54) (n' := 646) rfl rfl (by decide) (by decide) (by rw [hml]; rfl) (argsL := [(.ref n2), (.ref fc), (.ref em)]) (rest := [(.ref s2)]) (lenOf pd_30 rfl) rfl rfl (Wt := 1) (Nat.le_of_eq rfl) (hb hby at_147) ?_
  intro v_ T1108 h1110 W1109 hq_
  obtain ⟨rfl, K_s2, E_s2, N_s2⟩ := hq_
  refine Go.by (fun _ q9 => XS.astore W1109.here W1109.hx rfl (hb hby at_150) rfl rfl (l' := #[.val (.int p0), .val (.int p1), .val (.int p2), .val (.int p3), .val (.int p4), .val (.ref n0), .val (.ref n1), .val (.ref n2), .val (.int md), .val (.int ct), .val (.ref qa), .val (.ref fc), .val (.ref s0), .val (.ref s1), .val (.ref s2), .unset, .unset, .unset, .unset]) rfl q9) ?_
  show Go _ _ _ _ _ _ _ _ _ (T1108.setTop (mkF m 152 #[.val (.int p0), .val (.int p1), .val (.int p2), .val (.int p3), .val (.int p4), .val (.ref n0), .val (.ref n1), .val (.ref n2), .val (.int md), .val (.int ct), .val (.ref qa), .val (.ref fc), .val (.ref s0), .val (.ref s1), .val (.ref s2), .unset, .unset, .unset, .unset] []))
  refine W1109.new (wd106 hw) (wd107 hw) (wd108 hw) (hb hby at_152) (k' := 55) (n' := 649) rfl rfl (by decide) (by decide) ?_
  intro T1111 h1112 al W1113 E1114 g_al z_al A_al D_al
  have F_modCount_al : Fld Z h1112 al "java/util/AbstractList" "modCount" "I" (.int (0 : Int32)) := D_al (Or.inl (wd126 hw)) (ty := .int) (by decide)
  have F_elementData_al : Fld Z h1112 al cAL "elementData" "[Ljava/lang/Object;" .null := D_al (Or.inl (wd129 hw)) (ty := (.array (.object "java/lang/Object"))) (by decide)
  have F_size_al : Fld Z h1112 al cAL "size" "I" (.int (0 : Int32)) := D_al (Or.inl (wd161 hw)) (ty := .int) (by decide)
  refine Go.by (fun _ q9 => XS.dup W1113.here W1113.hx rfl (hb hby at_155) rfl rfl q9) ?_
  show Go _ _ _ _ _ _ _ _ _ (T1111.setTop (mkF m 156 #[.val (.int p0), .val (.int p1), .val (.int p2), .val (.int p3), .val (.int p4), .val (.ref n0), .val (.ref n1), .val (.ref n2), .val (.int md), .val (.int ct), .val (.ref qa), .val (.ref fc), .val (.ref s0), .val (.ref s1), .val (.ref s2), .unset, .unset, .unset, .unset] [(.ref al), (.ref al)]))
  refine W1113.callI (y := N14) rfl (wd109 hw) (wd110 hw) (wd108 hw) (wd111 hw) (by decide) (a := al) (c_alinit l Z a0 hw hEL h1112 W1113.old al dd A_al F_modCount_al F_elementData_al z_al F_size_al SD) (allS (m_ 0) all0) (by decide) (by decide) (k' := 55) (n' := 649) rfl rfl (by decide) (by decide) (by rw [hml]; rfl) (argsL := []) (rest := [(.ref al)]) (lenOf pd_4 rfl) rfl rfl (Wt := 1) (Nat.le_of_eq rfl) (hb hby at_156) ?_
  intro v_ T1115 h1117 W1116 hq_
  obtain ⟨rfl, K_al, E_al, M_al, D_al, Z_al⟩ := hq_
  show Go _ _ _ _ _ _ _ _ _ (T1115.setTop (mkF m 159 #[.val (.int p0), .val (.int p1), .val (.int p2), .val (.int p3), .val (.int p4), .val (.ref n0), .val (.ref n1), .val (.ref n2), .val (.int md), .val (.int ct), .val (.ref qa), .val (.ref fc), .val (.ref s0), .val (.ref s1), .val (.ref s2), .unset, .unset, .unset, .unset] [(.ref al)]))
  refine Go.by (fun _ q9 => XS.astore W1116.here W1116.hx rfl (hb hby at_159) rfl rfl (l' := #[.val (.int p0), .val (.int p1), .val (.int p2), .val (.int p3), .val (.int p4), .val (.ref n0), .val (.ref n1), .val (.ref n2), .val (.int md), .val (.int ct), .val (.ref qa), .val (.ref fc), .val (.ref s0), .val (.ref s1), .val (.ref s2), .val (.ref al), .unset, .unset, .unset]) rfl (XS.iload W1116.here W1116.hx rfl (hb hby at_161) rfl (XS.iconst W1116.here W1116.hx rfl (hb hby at_163) q9))) ?_
  show Go _ _ _ _ _ _ _ _ _ (T1115.setTop (mkF m 164 #[.val (.int p0), .val (.int p1), .val (.int p2), .val (.int p3), .val (.int p4), .val (.ref n0), .val (.ref n1), .val (.ref n2), .val (.int md), .val (.int ct), .val (.ref qa), .val (.ref fc), .val (.ref s0), .val (.ref s1), .val (.ref s2), .val (.ref al), .unset, .unset, .unset] [(.int (1 : Int32)), (.int ct)]))
  rcases lt3 ct with ⟨c1, c2, c3⟩ | ⟨c1, c2, c3⟩ | ⟨c1, c2, c3⟩ | ⟨c1, c2, c3⟩
  · refine Go.by (fun _ q9 => XS.icmpYes W1116.here W1116.hx rfl (pc0 := 164) (pc' := 177) rfl (hb hby at_164) rfl (tlt c1).1 (by decide) (by decide) q9) ?_
    refine Go.by (fun _ q9 => XS.iload W1116.here W1116.hx rfl (hb hby at_177) rfl (XS.iconst W1116.here W1116.hx rfl (hb hby at_179) q9)) ?_
    refine Go.by (fun _ q9 => XS.icmpYes W1116.here W1116.hx rfl (pc0 := 180) (pc' := 193) rfl (hb hby at_180) rfl (tlt c2).1 (by decide) (by decide) q9) ?_
    refine Go.by (fun _ q9 => XS.iload W1116.here W1116.hx rfl (hb hby at_193) rfl (XS.iconst W1116.here W1116.hx rfl (hb hby at_195) q9)) ?_
    refine Go.by (fun _ q9 => XS.icmpYes W1116.here W1116.hx rfl (pc0 := 196) (pc' := 209) rfl (hb hby at_196) rfl (tlt c3).1 (by decide) (by decide) q9) ?_
    show Go _ _ _ _ _ _ _ _ _ (T1115.setTop (mkF m 209 #[.val (.int p0), .val (.int p1), .val (.int p2), .val (.int p3), .val (.int p4), .val (.ref n0), .val (.ref n1), .val (.ref n2), .val (.int md), .val (.int ct), .val (.ref qa), .val (.ref fc), .val (.ref s0), .val (.ref s1), .val (.ref s2), .val (.ref al), .unset, .unset, .unset] []))
    refine W1116.new (wd130 hw) (wd131 hw) (wd132 hw) (hb hby at_209) (k' := 56) (n' := 650) rfl rfl (by decide) (by decide) ?_
    intro T1118 h1119 fs W1120 E1121 g_fs z_fs A_fs D_fs
    have F_schemes_fs : Fld Z h1119 fs cFF "schemes" "Ljava/util/List;" .null := D_fs (Or.inr (wd167 hw)) (ty := (.object "java/util/List")) (by decide)
    refine Go.by (fun _ q9 => XS.dup W1120.here W1120.hx rfl (hb hby at_212) rfl rfl (XS.aload W1120.here W1120.hx rfl (hb hby at_213) rfl rfl q9)) ?_
    show Go _ _ _ _ _ _ _ _ _ (T1118.setTop (mkF m 215 #[.val (.int p0), .val (.int p1), .val (.int p2), .val (.int p3), .val (.int p4), .val (.ref n0), .val (.ref n1), .val (.ref n2), .val (.int md), .val (.int ct), .val (.ref qa), .val (.ref fc), .val (.ref s0), .val (.ref s1), .val (.ref s2), .val (.ref al), .unset, .unset, .unset] [(.ref al), (.ref fs), (.ref fs)]))
    refine W1120.callI (y := N36) rfl (wd133 hw) (wd134 hw) (wd132 hw) (wd135 hw) (by decide) (a := fs) (c_fssinit_0 l Z a0 hw hEL h1119 W1120.old fs al el ee emp kee  A_fs F_schemes_fs z_fs (E_al.ext E1121) (Z_al.ext E1121) SL EL0 FE0 AE0 SM EM) (allS (m_ 0) all0) (by decide) (by decide) (k' := 59) (n' := 658) rfl rfl (by decide) (by decide) (by rw [hml]; rfl) (argsL := [(.ref al)]) (rest := [(.ref fs)]) (lenOf pd_31 rfl) rfl rfl (Wt := 1) (Nat.le_of_eq rfl) (hb hby at_215) ?_
    intro v_ T1122 h1124 W1123 hq_
    obtain ⟨lst, rfl, K_fs, E_fs, F_fs, ea, ke, E_l, F_e, A_e⟩ := hq_
    refine Go.by (fun _ q9 => XS.astore W1123.here W1123.hx rfl (hb hby at_218) rfl rfl (l' := #[.val (.int p0), .val (.int p1), .val (.int p2), .val (.int p3), .val (.int p4), .val (.ref n0), .val (.ref n1), .val (.ref n2), .val (.int md), .val (.int ct), .val (.ref qa), .val (.ref fc), .val (.ref s0), .val (.ref s1), .val (.ref s2), .val (.ref al), .val (.ref fs), .unset, .unset]) rfl (XS.aconstNull W1123.here W1123.hx rfl (hb hby at_220) (XS.astore W1123.here W1123.hx rfl (hb hby at_221) rfl rfl (l' := #[.val (.int p0), .val (.int p1), .val (.int p2), .val (.int p3), .val (.int p4), .val (.ref n0), .val (.ref n1), .val (.ref n2), .val (.int md), .val (.int ct), .val (.ref qa), .val (.ref fc), .val (.ref s0), .val (.ref s1), .val (.ref s2), .val (.ref al), .val (.ref fs), .val .null, .unset]) rfl (XS.iload W1123.here W1123.hx rfl (hb hby at_223) rfl (XS.iconst W1123.here W1123.hx rfl (hb hby at_225) q9))))) ?_
    refine Go.by (fun _ q9 => XS.icmpYes W1123.here W1123.hx rfl (pc0 := 226) (pc' := 246) rfl (hb hby at_226) rfl (tlt c1).1 (by decide) (by decide) q9) ?_
    refine Go.by (fun _ q9 => XS.iload W1123.here W1123.hx rfl (hb hby at_246) rfl (XS.iconst W1123.here W1123.hx rfl (hb hby at_248) q9)) ?_
    refine Go.by (fun _ q9 => XS.icmpYes W1123.here W1123.hx rfl (pc0 := 249) (pc' := 269) rfl (hb hby at_249) rfl (tlt c2).1 (by decide) (by decide) q9) ?_
    refine Go.by (fun _ q9 => XS.iload W1123.here W1123.hx rfl (hb hby at_269) rfl (XS.iconst W1123.here W1123.hx rfl (hb hby at_271) q9)) ?_
    refine Go.by (fun _ q9 => XS.icmpYes W1123.here W1123.hx rfl (pc0 := 272) (pc' := 289) rfl (hb hby at_272) rfl (tlt c3).1 (by decide) (by decide) q9) ?_
    refine Go.by (fun _ q9 => XS.aload W1123.here W1123.hx rfl (hb hby at_289) rfl rfl (XS.aload W1123.here W1123.hx rfl (hb hby at_291) rfl rfl q9)) ?_
    have X1125 : Ext h1044 h1083 := (Ext.keep' E1072 K_fc (allS (Nat.le_of_eq g_fc) all0))
    have X1126 : Ext h1044 h1085 := (Ext.trans' X1125 E1087)
    have X1127 : Ext h1044 h1092 := (Ext.keep' X1126 K_s0 (allS (Nat.le_trans X1125.1 (Nat.le_of_eq g_s0)) all0))
    have X1128 : Ext h1044 h1094 := (Ext.trans' X1127 E1096)
    have X1129 : Ext h1044 h1101 := (Ext.keep' X1128 K_s1 (allS (Nat.le_trans X1127.1 (Nat.le_of_eq g_s1)) all0))
    have X1130 : Ext h1044 h1103 := (Ext.trans' X1129 E1105)
    have X1131 : Ext h1044 h1110 := (Ext.keep' X1130 K_s2 (allS (Nat.le_trans X1129.1 (Nat.le_of_eq g_s2)) all0))
    have X1132 : Ext h1044 h1112 := (Ext.trans' X1131 E1114)
    have X1133 : Ext h1044 h1117 := (Ext.keep' X1132 K_al (allS (Nat.le_trans X1131.1 (Nat.le_of_eq g_al)) all0))
    have X1134 : Ext h1044 h1119 := (Ext.trans' X1133 E1121)
    have X1135 : Ext h1044 h1124 := (Ext.keep' X1134 K_fs (allS (Nat.le_trans X1133.1 (Nat.le_of_eq g_fs)) all0))
    show Go _ _ _ _ _ _ _ _ _ (T1122.setTop (mkF m 293 #[.val (.int p0), .val (.int p1), .val (.int p2), .val (.int p3), .val (.int p4), .val (.ref n0), .val (.ref n1), .val (.ref n2), .val (.int md), .val (.int ct), .val (.ref qa), .val (.ref fc), .val (.ref s0), .val (.ref s1), .val (.ref s2), .val (.ref al), .val (.ref fs), .val .null, .unset] [(.ref qa), (.ref fs)]))
    refine W1123.callV (y := N55) (z := N55) (wd168 hw) (wd169 hw) (nf_sel rfl (wd171 hw)) (wd171 hw) (wd170 hw) (wd132 hw) (wd172 hw) (by decide) E_fs (a := fs) (c_scheme_0 l Z a0 hw hEL h1124 W1123.old lst ea  ke fs qa em cq G1   SG1 hG SE EE FE E_fs F_fs E_l F_e A_e  (SQ.ext X1135) lq ) all0 (by decide) (by decide) (k' := 61) (n' := 663) rfl rfl (by decide) (by decide) (by rw [hml]; rfl) (argsL := [(.ref qa)]) (rest := []) (lenOf pd_32 rfl) rfl rfl (Wt := 0) (Nat.le_of_eq rfl) (hb hby at_293) ?_
    intro v_ T1136 h1138 W1137 hq_
    obtain ⟨ro, rfl, X_ro, E_ro, F_ro⟩ := hq_
    show Go _ _ _ _ _ _ _ _ _ (T1136.setTop (mkF m 296 #[.val (.int p0), .val (.int p1), .val (.int p2), .val (.int p3), .val (.int p4), .val (.ref n0), .val (.ref n1), .val (.ref n2), .val (.int md), .val (.int ct), .val (.ref qa), .val (.ref fc), .val (.ref s0), .val (.ref s1), .val (.ref s2), .val (.ref al), .val (.ref fs), .val .null, .unset] [(.ref ro)]))
    refine Go.by (fun _ q9 => XS.astore W1137.here W1137.hx rfl (hb hby at_296) rfl rfl (l' := #[.val (.int p0), .val (.int p1), .val (.int p2), .val (.int p3), .val (.int p4), .val (.ref n0), .val (.ref n1), .val (.ref n2), .val (.int md), .val (.int ct), .val (.ref qa), .val (.ref fc), .val (.ref s0), .val (.ref s1), .val (.ref s2), .val (.ref al), .val (.ref fs), .val .null, .val (.ref ro)]) rfl (XS.aload W1137.here W1137.hx rfl (hb hby at_298) rfl rfl q9)) ?_
    refine Go.by (fun _ q9 => XS.ifnonnullNo W1137.here W1137.hx rfl (hb hby at_300) rfl q9) ?_
    refine Go.by (fun _ q9 => XS.aload W1137.here W1137.hx rfl (hb hby at_303) rfl rfl q9) ?_
    show Go _ _ _ _ _ _ _ _ _ (T1136.setTop (mkF m 305 #[.val (.int p0), .val (.int p1), .val (.int p2), .val (.int p3), .val (.int p4), .val (.ref n0), .val (.ref n1), .val (.ref n2), .val (.int md), .val (.int ct), .val (.ref qa), .val (.ref fc), .val (.ref s0), .val (.ref s1), .val (.ref s2), .val (.ref al), .val (.ref fs), .val .null, .val (.ref ro)] [(.ref ro)]))
    refine W1137.callVp (y := N51) (z := N51) (wd218 hw) (wd219 hw) (nf_sel rfl (wd221 hw)) (wd221 hw) (wd220 hw) (wd86 hw) (wd222 hw) (by decide) E_ro (a := ro) (c_ispN l Z a0 hw hEL h1138 W1137.old ro ro F_ro) all0 (by decide) (by decide) (k' := 61) (n' := 663) rfl rfl (by decide) (by decide) (by rw [hml]; rfl) (argsL := []) (rest := []) (lenOf pd_18 rfl) rfl rfl (Wt := 0) (Nat.le_of_eq rfl) (hb hby at_305) ?_
    intro T1139 W1140
    refine Go.by (fun _ q9 => XS.ifNo W1140.here W1140.hx rfl (hb hby at_308) rfl ((if0 _ _).trans (teq rfl).2) q9) ?_
    refine Go.by (fun _ q9 => XS.iconst W1140.here W1140.hx rfl (hb hby at_311) (XS.goto W1140.here W1140.hx rfl (pc0 := 312) (pc' := 316) rfl (hb hby at_312) (by decide) (by decide) q9)) ?_
    show Go _ _ _ _ _ _ _ _ _ (T1139.setTop (mkF m 316 #[.val (.int p0), .val (.int p1), .val (.int p2), .val (.int p3), .val (.int p4), .val (.ref n0), .val (.ref n1), .val (.ref n2), .val (.int md), .val (.int ct), .val (.ref qa), .val (.ref fc), .val (.ref s0), .val (.ref s1), .val (.ref s2), .val (.ref al), .val (.ref fs), .val .null, .val (.ref ro)] [(.int (1 : Int32))]))
    exact W1140.retN (z' := (1 : Int32)) (by decide) (by decide) hret (by simp) (hb hby at_316) rfl rfl
  · refine Go.by (fun _ q9 => XS.icmpNo W1116.here W1116.hx rfl (hb hby at_164) rfl (flt c1).1 q9) ?_
    refine Go.by (fun _ q9 => XS.aload W1116.here W1116.hx rfl (hb hby at_167) rfl rfl (XS.aload W1116.here W1116.hx rfl (hb hby at_169) rfl rfl q9)) ?_
    have X1141 : Ext h1092 h1101 := (Ext.keep' E1096 K_s1 (allS (Nat.le_of_eq g_s1) all0))
    have X1142 : Ext h1092 h1103 := (Ext.trans' X1141 E1105)
    have X1143 : Ext h1092 h1110 := (Ext.keep' X1142 K_s2 (allS (Nat.le_trans X1141.1 (Nat.le_of_eq g_s2)) all0))
    have X1144 : Ext h1092 h1112 := (Ext.trans' X1143 E1114)
    have X1145 : Ext h1092 h1117 := (Ext.keep' X1144 K_al (allS (Nat.le_trans X1143.1 (Nat.le_of_eq g_al)) all0))
    show Go _ _ _ _ _ _ _ _ _ (T1115.setTop (mkF m 171 #[.val (.int p0), .val (.int p1), .val (.int p2), .val (.int p3), .val (.int p4), .val (.ref n0), .val (.ref n1), .val (.ref n2), .val (.int md), .val (.int ct), .val (.ref qa), .val (.ref fc), .val (.ref s0), .val (.ref s1), .val (.ref s2), .val (.ref al), .unset, .unset, .unset] [(.ref s0), (.ref al)]))
    refine W1116.callF (xi := N57) (y := N20) (wd225 hw) (wd226 hw) (wd227 hw) (wd228 hw) (wd229 hw) (wd230 hw) (wd231 hw) (wd232 hw) (wd108 hw) (wd233 hw) (by decide) E_al (a := al) (c_add_0 l Z a0 hw hEL h1117 W1116.old al dd kd (0 : Int32) s0 E_al M_al D_al Z_al z_al SD DA (E_s0.ext X1145)) (allS (m_ 0) all0) (by decide) (by decide) (k' := 56) (n' := 659) rfl rfl (by decide) (by decide) (by rw [hml]; rfl) (argsL := [(.ref s0)]) (rest := []) (lenOf pd_33 rfl) rfl rfl (Wt := 0) (Nat.le_of_eq rfl) (hb hby at_171) ?_
    intro v_ T1146 h1148 W1147 hq_
    obtain ⟨r, kr, rfl, Ka0, gr, Er0, Ar0, Ovr0, Ea0, Ma0, Da0, Za0⟩ := hq_
    have W1149 := W1147.safeE Er0 (by decide) (by decide)
    refine Go.by (fun _ q9 => XS.pop W1149.here W1149.hx rfl (hb hby at_176) rfl rfl (XS.iload W1149.here W1149.hx rfl (hb hby at_177) rfl (XS.iconst W1149.here W1149.hx rfl (hb hby at_179) q9))) ?_
    refine Go.by (fun _ q9 => XS.icmpYes W1149.here W1149.hx rfl (pc0 := 180) (pc' := 193) rfl (hb hby at_180) rfl (tlt c2).1 (by decide) (by decide) q9) ?_
    refine Go.by (fun _ q9 => XS.iload W1149.here W1149.hx rfl (hb hby at_193) rfl (XS.iconst W1149.here W1149.hx rfl (hb hby at_195) q9)) ?_
    refine Go.by (fun _ q9 => XS.icmpYes W1149.here W1149.hx rfl (pc0 := 196) (pc' := 209) rfl (hb hby at_196) rfl (tlt c3).1 (by decide) (by decide) q9) ?_
    show Go _ _ _ _ _ _ _ _ _ (T1146.setTop (mkF m 209 #[.val (.int p0), .val (.int p1), .val (.int p2), .val (.int p3), .val (.int p4), .val (.ref n0), .val (.ref n1), .val (.ref n2), .val (.int md), .val (.int ct), .val (.ref qa), .val (.ref fc), .val (.ref s0), .val (.ref s1), .val (.ref s2), .val (.ref al), .unset, .unset, .unset] []))
    refine W1149.new (wd130 hw) (wd131 hw) (wd132 hw) (hb hby at_209) (k' := 57) (n' := 660) rfl rfl (by decide) (by decide) ?_
    intro T1150 h1151 fs W1152 E1153 g_fs z_fs A_fs D_fs
    have F_schemes_fs : Fld Z h1151 fs cFF "schemes" "Ljava/util/List;" .null := D_fs (Or.inr (wd167 hw)) (ty := (.object "java/util/List")) (by decide)
    refine Go.by (fun _ q9 => XS.dup W1152.here W1152.hx rfl (hb hby at_212) rfl rfl (XS.aload W1152.here W1152.hx rfl (hb hby at_213) rfl rfl q9)) ?_
    have X1154 : Ext h1092 h1148 := (Ext.keep' X1145 Ka0 (allS (Nat.le_trans X1143.1 (Nat.le_of_eq g_al)) all0))
    have X1155 : Ext h1092 h1151 := (Ext.trans' X1154 E1153)
    show Go _ _ _ _ _ _ _ _ _ (T1150.setTop (mkF m 215 #[.val (.int p0), .val (.int p1), .val (.int p2), .val (.int p3), .val (.int p4), .val (.ref n0), .val (.ref n1), .val (.ref n2), .val (.int md), .val (.int ct), .val (.ref qa), .val (.ref fc), .val (.ref s0), .val (.ref s1), .val (.ref s2), .val (.ref al), .unset, .unset, .unset] [(.ref al), (.ref fs), (.ref fs)]))
    refine W1152.callI (y := N36) rfl (wd133 hw) (wd134 hw) (wd132 hw) (wd135 hw) (by decide) (a := fs) (c_fssinit_1 l Z a0 hw hEL h1151 W1152.old fs al el ee emp kee r mr kr s0  A_fs F_schemes_fs z_fs (Ea0.ext E1153) (Za0.ext E1153) SL EL0 FE0 AE0 SM EM (Da0.ext E1153) MR (Er0.ext E1153) (Ar0.ext E1153) (E_s0.ext X1155)) (allS (m_ 0) all0) (by decide) (by decide) (k' := 60) (n' := 668) rfl rfl (by decide) (by decide) (by rw [hml]; rfl) (argsL := [(.ref al)]) (rest := [(.ref fs)]) (lenOf pd_31 rfl) rfl rfl (Wt := 1) (Nat.le_of_eq rfl) (hb hby at_215) ?_
    intro v_ T1156 h1158 W1157 hq_
    obtain ⟨lst, rfl, K_fs, E_fs, F_fs, E_l, F_0, F_1⟩ := hq_
    refine Go.by (fun _ q9 => XS.astore W1157.here W1157.hx rfl (hb hby at_218) rfl rfl (l' := #[.val (.int p0), .val (.int p1), .val (.int p2), .val (.int p3), .val (.int p4), .val (.ref n0), .val (.ref n1), .val (.ref n2), .val (.int md), .val (.int ct), .val (.ref qa), .val (.ref fc), .val (.ref s0), .val (.ref s1), .val (.ref s2), .val (.ref al), .val (.ref fs), .unset, .unset]) rfl (XS.aconstNull W1157.here W1157.hx rfl (hb hby at_220) (XS.astore W1157.here W1157.hx rfl (hb hby at_221) rfl rfl (l' := #[.val (.int p0), .val (.int p1), .val (.int p2), .val (.int p3), .val (.int p4), .val (.ref n0), .val (.ref n1), .val (.ref n2), .val (.int md), .val (.int ct), .val (.ref qa), .val (.ref fc), .val (.ref s0), .val (.ref s1), .val (.ref s2), .val (.ref al), .val (.ref fs), .val .null, .unset]) rfl (XS.iload W1157.here W1157.hx rfl (hb hby at_223) rfl (XS.iconst W1157.here W1157.hx rfl (hb hby at_225) q9))))) ?_
    refine Go.by (fun _ q9 => XS.icmpNo W1157.here W1157.hx rfl (hb hby at_226) rfl (flt c1).1 q9) ?_
    refine Go.by (fun _ q9 => XS.aload W1157.here W1157.hx rfl (hb hby at_229) rfl rfl (XS.aload W1157.here W1157.hx rfl (hb hby at_231) rfl rfl q9)) ?_
    have X1159 : Ext h1044 h1083 := (Ext.keep' E1072 K_fc (allS (Nat.le_of_eq g_fc) all0))
    have X1160 : Ext h1044 h1085 := (Ext.trans' X1159 E1087)
    have X1161 : Ext h1044 h1092 := (Ext.keep' X1160 K_s0 (allS (Nat.le_trans X1159.1 (Nat.le_of_eq g_s0)) all0))
    have X1162 : Ext h1044 h1094 := (Ext.trans' X1161 E1096)
    have X1163 : Ext h1044 h1101 := (Ext.keep' X1162 K_s1 (allS (Nat.le_trans X1161.1 (Nat.le_of_eq g_s1)) all0))
    have X1164 : Ext h1044 h1103 := (Ext.trans' X1163 E1105)
    have X1165 : Ext h1044 h1110 := (Ext.keep' X1164 K_s2 (allS (Nat.le_trans X1163.1 (Nat.le_of_eq g_s2)) all0))
    have X1166 : Ext h1044 h1112 := (Ext.trans' X1165 E1114)
    have X1167 : Ext h1044 h1117 := (Ext.keep' X1166 K_al (allS (Nat.le_trans X1165.1 (Nat.le_of_eq g_al)) all0))
    have X1168 : Ext h1044 h1148 := (Ext.keep' X1167 Ka0 (allS (Nat.le_trans X1165.1 (Nat.le_of_eq g_al)) all0))
    have X1169 : Ext h1044 h1151 := (Ext.trans' X1168 E1153)
    have X1170 : Ext h1044 h1158 := (Ext.keep' X1169 K_fs (allS (Nat.le_trans X1168.1 (Nat.le_of_eq g_fs)) all0))
    show Go _ _ _ _ _ _ _ _ _ (T1156.setTop (mkF m 233 #[.val (.int p0), .val (.int p1), .val (.int p2), .val (.int p3), .val (.int p4), .val (.ref n0), .val (.ref n1), .val (.ref n2), .val (.int md), .val (.int ct), .val (.ref qa), .val (.ref fc), .val (.ref s0), .val (.ref s1), .val (.ref s2), .val (.ref al), .val (.ref fs), .val .null, .unset] [(.ref qa), (.ref n0)]))
    refine W1157.strEq (k_eq hw) (wd5 hw) (wd319 hw) (wd320 hw) (wd322 hw) (wd321 hw) (T0'.ext X1170) (SQ.ext X1170) l0 lq (SG1.ext W1157.old) hG (by decide) (Wt := 0) (by decide) (by rw [hml]; rfl) (Nat.le_of_eq rfl) (by decide) (by decide) (hb hby at_233) ?_
    intro T1171 rr0 W1172 hrr0
    by_cases q0 : cs0 = cq
    · refine Go.by (fun _ q9 => XS.ifNo W1172.here W1172.hx rfl (hb hby at_236) rfl ((if0 _ _).trans (feq (by rw [hrr0, if_pos q0]; decide)).1) q9) ?_
      refine Go.by (fun _ q9 => XS.aload W1172.here W1172.hx rfl (hb hby at_239) rfl rfl (XS.astore W1172.here W1172.hx rfl (hb hby at_241) rfl rfl (l' := #[.val (.int p0), .val (.int p1), .val (.int p2), .val (.int p3), .val (.int p4), .val (.ref n0), .val (.ref n1), .val (.ref n2), .val (.int md), .val (.int ct), .val (.ref qa), .val (.ref fc), .val (.ref s0), .val (.ref s1), .val (.ref s2), .val (.ref al), .val (.ref fs), .val (.ref s0), .unset]) rfl (XS.goto W1172.here W1172.hx rfl (pc0 := 243) (pc' := 289) rfl (hb hby at_243) (by decide) (by decide) q9))) ?_
      refine Go.by (fun _ q9 => XS.aload W1172.here W1172.hx rfl (hb hby at_289) rfl rfl (XS.aload W1172.here W1172.hx rfl (hb hby at_291) rfl rfl q9)) ?_
      have X1173 : Ext h1092 h1158 := (Ext.keep' X1155 K_fs (allS (Nat.le_trans X1154.1 (Nat.le_of_eq g_fs)) all0))
      show Go _ _ _ _ _ _ _ _ _ (T1171.setTop (mkF m 293 #[.val (.int p0), .val (.int p1), .val (.int p2), .val (.int p3), .val (.int p4), .val (.ref n0), .val (.ref n1), .val (.ref n2), .val (.int md), .val (.int ct), .val (.ref qa), .val (.ref fc), .val (.ref s0), .val (.ref s1), .val (.ref s2), .val (.ref al), .val (.ref fs), .val (.ref s0), .unset] [(.ref qa), (.ref fs)]))
      refine W1172.callV (y := N55) (z := N55) (wd168 hw) (wd169 hw) (nf_sel rfl (wd171 hw)) (wd171 hw) (wd170 hw) (wd132 hw) (wd172 hw) (by decide) E_fs (a := fs) (c_scheme_1 l Z a0 hw hEL h1158 W1172.old lst emp s0 fs qa em cq G1 n0 cs0 SG1 hG SE EE FE E_fs F_fs E_l F_0 F_1 SM EM (E_s0.ext X1173) (SQ.ext X1170) lq (N_s0.ext X1173) (T0'.ext X1170) l0) all0 (by decide) (by decide) (k' := 62) (n' := 673) rfl rfl (by decide) (by decide) (by rw [hml]; rfl) (argsL := [(.ref qa)]) (rest := []) (lenOf pd_32 rfl) rfl rfl (Wt := 0) (Nat.le_of_eq rfl) (hb hby at_293) ?_
      intro v_ T1174 h1176 W1175 hq_
      obtain ⟨ro, rfl, X_ro, E_ro, F_ro⟩ := hq_
      rw [if_pos q0] at F_ro
      show Go _ _ _ _ _ _ _ _ _ (T1174.setTop (mkF m 296 #[.val (.int p0), .val (.int p1), .val (.int p2), .val (.int p3), .val (.int p4), .val (.ref n0), .val (.ref n1), .val (.ref n2), .val (.int md), .val (.int ct), .val (.ref qa), .val (.ref fc), .val (.ref s0), .val (.ref s1), .val (.ref s2), .val (.ref al), .val (.ref fs), .val (.ref s0), .unset] [(.ref ro)]))
      refine Go.by (fun _ q9 => XS.astore W1175.here W1175.hx rfl (hb hby at_296) rfl rfl (l' := #[.val (.int p0), .val (.int p1), .val (.int p2), .val (.int p3), .val (.int p4), .val (.ref n0), .val (.ref n1), .val (.ref n2), .val (.int md), .val (.int ct), .val (.ref qa), .val (.ref fc), .val (.ref s0), .val (.ref s1), .val (.ref s2), .val (.ref al), .val (.ref fs), .val (.ref s0), .val (.ref ro)]) rfl (XS.aload W1175.here W1175.hx rfl (hb hby at_298) rfl rfl q9)) ?_
      refine Go.by (fun _ q9 => XS.ifnonnullYes W1175.here W1175.hx rfl (pc0 := 300) (pc' := 317) rfl (hb hby at_300) rfl (by decide) (by decide) q9) ?_
      refine Go.by (fun _ q9 => XS.aload W1175.here W1175.hx rfl (hb hby at_317) rfl rfl q9) ?_
      show Go _ _ _ _ _ _ _ _ _ (T1174.setTop (mkF m 319 #[.val (.int p0), .val (.int p1), .val (.int p2), .val (.int p3), .val (.int p4), .val (.ref n0), .val (.ref n1), .val (.ref n2), .val (.int md), .val (.int ct), .val (.ref qa), .val (.ref fc), .val (.ref s0), .val (.ref s1), .val (.ref s2), .val (.ref al), .val (.ref fs), .val (.ref s0), .val (.ref ro)] [(.ref ro)]))
      refine W1175.callVp (y := N51) (z := N51) (wd218 hw) (wd219 hw) (nf_sel rfl (wd221 hw)) (wd221 hw) (wd220 hw) (wd86 hw) (wd222 hw) (by decide) E_ro (a := ro) (c_ispR l Z a0 hw hEL h1176 W1175.old ro s0 F_ro) all0 (by decide) (by decide) (k' := 62) (n' := 673) rfl rfl (by decide) (by decide) (by rw [hml]; rfl) (argsL := []) (rest := []) (lenOf pd_18 rfl) rfl rfl (Wt := 0) (Nat.le_of_eq rfl) (hb hby at_319) ?_
      intro T1177 W1178
      refine Go.by (fun _ q9 => XS.ifNo W1178.here W1178.hx rfl (hb hby at_322) rfl ((if0 _ _).trans (feq (by decide)).1) q9) ?_
      refine Go.by (fun _ q9 => XS.aload W1178.here W1178.hx rfl (hb hby at_325) rfl rfl q9) ?_
      show Go _ _ _ _ _ _ _ _ _ (T1177.setTop (mkF m 327 #[.val (.int p0), .val (.int p1), .val (.int p2), .val (.int p3), .val (.int p4), .val (.ref n0), .val (.ref n1), .val (.ref n2), .val (.int md), .val (.int ct), .val (.ref qa), .val (.ref fc), .val (.ref s0), .val (.ref s1), .val (.ref s2), .val (.ref al), .val (.ref fs), .val (.ref s0), .val (.ref ro)] [(.ref ro)]))
      refine W1178.callVp (y := N52) (z := N52) (wd373 hw) (wd374 hw) (nf_sel rfl (wd376 hw)) (wd376 hw) (wd375 hw) (wd86 hw) (wd377 hw) (by decide) E_ro (a := ro) (c_oget l Z a0 hw hEL h1176 W1178.old ro s0 F_ro) all0 (by decide) (by decide) (k' := 62) (n' := 673) rfl rfl (by decide) (by decide) (by rw [hml]; rfl) (argsL := []) (rest := []) (lenOf pd_25 rfl) rfl rfl (Wt := 0) (Nat.le_of_eq rfl) (hb hby at_327) ?_
      intro T1179 W1180
      refine Go.by (fun _ q9 => XS.aload W1180.here W1180.hx rfl (hb hby at_330) rfl rfl q9) ?_
      refine Go.by (fun _ q9 => acmpW W1180 (g := (mkF m 332 #[.val (.int p0), .val (.int p1), .val (.int p2), .val (.int p3), .val (.int p4), .val (.ref n0), .val (.ref n1), .val (.ref n2), .val (.int md), .val (.int ct), .val (.ref qa), .val (.ref fc), .val (.ref s0), .val (.ref s1), .val (.ref s2), .val (.ref al), .val (.ref fs), .val (.ref s0), .val (.ref ro)] [(.ref s0), (.ref s0)])) rfl rfl rfl (pc0 := 332) (pc' := 335) (same := true) rfl (hb hby at_332) rfl (decide_eq_true rfl) (by decide) (by decide) q9) ?_
      refine Go.by (fun _ q9 => XS.iconst W1180.here W1180.hx rfl (hb hby at_335) (XS.goto W1180.here W1180.hx rfl (pc0 := 336) (pc' := 340) rfl (hb hby at_336) (by decide) (by decide) q9)) ?_
      show Go _ _ _ _ _ _ _ _ _ (T1179.setTop (mkF m 340 #[.val (.int p0), .val (.int p1), .val (.int p2), .val (.int p3), .val (.int p4), .val (.ref n0), .val (.ref n1), .val (.ref n2), .val (.int md), .val (.int ct), .val (.ref qa), .val (.ref fc), .val (.ref s0), .val (.ref s1), .val (.ref s2), .val (.ref al), .val (.ref fs), .val (.ref s0), .val (.ref ro)] [(.int (1 : Int32))]))
      exact W1180.retN (z' := (1 : Int32)) (by decide) (by decide) hret (by simp) (hb hby at_340) rfl rfl
    · refine Go.by (fun _ q9 => XS.ifYes W1172.here W1172.hx rfl (pc0 := 236) (pc' := 246) rfl (hb hby at_236) rfl ((if0 _ _).trans (teq (by rw [hrr0, if_neg q0])).1) (by decide) (by decide) q9) ?_
      refine Go.by (fun _ q9 => XS.iload W1172.here W1172.hx rfl (hb hby at_246) rfl (XS.iconst W1172.here W1172.hx rfl (hb hby at_248) q9)) ?_
      refine Go.by (fun _ q9 => XS.icmpYes W1172.here W1172.hx rfl (pc0 := 249) (pc' := 269) rfl (hb hby at_249) rfl (tlt c2).1 (by decide) (by decide) q9) ?_
      refine Go.by (fun _ q9 => XS.iload W1172.here W1172.hx rfl (hb hby at_269) rfl (XS.iconst W1172.here W1172.hx rfl (hb hby at_271) q9)) ?_
      refine Go.by (fun _ q9 => XS.icmpYes W1172.here W1172.hx rfl (pc0 := 272) (pc' := 289) rfl (hb hby at_272) rfl (tlt c3).1 (by decide) (by decide) q9) ?_
      refine Go.by (fun _ q9 => XS.aload W1172.here W1172.hx rfl (hb hby at_289) rfl rfl (XS.aload W1172.here W1172.hx rfl (hb hby at_291) rfl rfl q9)) ?_
      have X1181 : Ext h1092 h1158 := (Ext.keep' X1155 K_fs (allS (Nat.le_trans X1154.1 (Nat.le_of_eq g_fs)) all0))
      show Go _ _ _ _ _ _ _ _ _ (T1171.setTop (mkF m 293 #[.val (.int p0), .val (.int p1), .val (.int p2), .val (.int p3), .val (.int p4), .val (.ref n0), .val (.ref n1), .val (.ref n2), .val (.int md), .val (.int ct), .val (.ref qa), .val (.ref fc), .val (.ref s0), .val (.ref s1), .val (.ref s2), .val (.ref al), .val (.ref fs), .val .null, .unset] [(.ref qa), (.ref fs)]))
      refine W1172.callV (y := N55) (z := N55) (wd168 hw) (wd169 hw) (nf_sel rfl (wd171 hw)) (wd171 hw) (wd170 hw) (wd132 hw) (wd172 hw) (by decide) E_fs (a := fs) (c_scheme_1 l Z a0 hw hEL h1158 W1172.old lst emp s0 fs qa em cq G1 n0 cs0 SG1 hG SE EE FE E_fs F_fs E_l F_0 F_1 SM EM (E_s0.ext X1181) (SQ.ext X1170) lq (N_s0.ext X1181) (T0'.ext X1170) l0) all0 (by decide) (by decide) (k' := 62) (n' := 673) rfl rfl (by decide) (by decide) (by rw [hml]; rfl) (argsL := [(.ref qa)]) (rest := []) (lenOf pd_32 rfl) rfl rfl (Wt := 0) (Nat.le_of_eq rfl) (hb hby at_293) ?_
      intro v_ T1182 h1184 W1183 hq_
      obtain ⟨ro, rfl, X_ro, E_ro, F_ro⟩ := hq_
      rw [if_neg q0] at F_ro
      show Go _ _ _ _ _ _ _ _ _ (T1182.setTop (mkF m 296 #[.val (.int p0), .val (.int p1), .val (.int p2), .val (.int p3), .val (.int p4), .val (.ref n0), .val (.ref n1), .val (.ref n2), .val (.int md), .val (.int ct), .val (.ref qa), .val (.ref fc), .val (.ref s0), .val (.ref s1), .val (.ref s2), .val (.ref al), .val (.ref fs), .val .null, .unset] [(.ref ro)]))
      refine Go.by (fun _ q9 => XS.astore W1183.here W1183.hx rfl (hb hby at_296) rfl rfl (l' := #[.val (.int p0), .val (.int p1), .val (.int p2), .val (.int p3), .val (.int p4), .val (.ref n0), .val (.ref n1), .val (.ref n2), .val (.int md), .val (.int ct), .val (.ref qa), .val (.ref fc), .val (.ref s0), .val (.ref s1), .val (.ref s2), .val (.ref al), .val (.ref fs), .val .null, .val (.ref ro)]) rfl (XS.aload W1183.here W1183.hx rfl (hb hby at_298) rfl rfl q9)) ?_
      refine Go.by (fun _ q9 => XS.ifnonnullNo W1183.here W1183.hx rfl (hb hby at_300) rfl q9) ?_
      refine Go.by (fun _ q9 => XS.aload W1183.here W1183.hx rfl (hb hby at_303) rfl rfl q9) ?_
      show Go _ _ _ _ _ _ _ _ _ (T1182.setTop (mkF m 305 #[.val (.int p0), .val (.int p1), .val (.int p2), .val (.int p3), .val (.int p4), .val (.ref n0), .val (.ref n1), .val (.ref n2), .val (.int md), .val (.int ct), .val (.ref qa), .val (.ref fc), .val (.ref s0), .val (.ref s1), .val (.ref s2), .val (.ref al), .val (.ref fs), .val .null, .val (.ref ro)] [(.ref ro)]))
      refine W1183.callVp (y := N51) (z := N51) (wd218 hw) (wd219 hw) (nf_sel rfl (wd221 hw)) (wd221 hw) (wd220 hw) (wd86 hw) (wd222 hw) (by decide) E_ro (a := ro) (c_ispN l Z a0 hw hEL h1184 W1183.old ro ro F_ro) all0 (by decide) (by decide) (k' := 62) (n' := 673) rfl rfl (by decide) (by decide) (by rw [hml]; rfl) (argsL := []) (rest := []) (lenOf pd_18 rfl) rfl rfl (Wt := 0) (Nat.le_of_eq rfl) (hb hby at_305) ?_
      intro T1185 W1186
      refine Go.by (fun _ q9 => XS.ifNo W1186.here W1186.hx rfl (hb hby at_308) rfl ((if0 _ _).trans (teq rfl).2) q9) ?_
      refine Go.by (fun _ q9 => XS.iconst W1186.here W1186.hx rfl (hb hby at_311) (XS.goto W1186.here W1186.hx rfl (pc0 := 312) (pc' := 316) rfl (hb hby at_312) (by decide) (by decide) q9)) ?_
      show Go _ _ _ _ _ _ _ _ _ (T1185.setTop (mkF m 316 #[.val (.int p0), .val (.int p1), .val (.int p2), .val (.int p3), .val (.int p4), .val (.ref n0), .val (.ref n1), .val (.ref n2), .val (.int md), .val (.int ct), .val (.ref qa), .val (.ref fc), .val (.ref s0), .val (.ref s1), .val (.ref s2), .val (.ref al), .val (.ref fs), .val .null, .val (.ref ro)] [(.int (1 : Int32))]))
      exact W1186.retN (z' := (1 : Int32)) (by decide) (by decide) hret (by simp) (hb hby at_316) rfl rfl
  · refine Go.by (fun _ q9 => XS.icmpNo W1116.here W1116.hx rfl (hb hby at_164) rfl (flt c1).1 q9) ?_
    refine Go.by (fun _ q9 => XS.aload W1116.here W1116.hx rfl (hb hby at_167) rfl rfl (XS.aload W1116.here W1116.hx rfl (hb hby at_169) rfl rfl q9)) ?_
    have X1187 : Ext h1092 h1101 := (Ext.keep' E1096 K_s1 (allS (Nat.le_of_eq g_s1) all0))
    have X1188 : Ext h1092 h1103 := (Ext.trans' X1187 E1105)
    have X1189 : Ext h1092 h1110 := (Ext.keep' X1188 K_s2 (allS (Nat.le_trans X1187.1 (Nat.le_of_eq g_s2)) all0))
    have X1190 : Ext h1092 h1112 := (Ext.trans' X1189 E1114)
    have X1191 : Ext h1092 h1117 := (Ext.keep' X1190 K_al (allS (Nat.le_trans X1189.1 (Nat.le_of_eq g_al)) all0))
    show Go _ _ _ _ _ _ _ _ _ (T1115.setTop (mkF m 171 #[.val (.int p0), .val (.int p1), .val (.int p2), .val (.int p3), .val (.int p4), .val (.ref n0), .val (.ref n1), .val (.ref n2), .val (.int md), .val (.int ct), .val (.ref qa), .val (.ref fc), .val (.ref s0), .val (.ref s1), .val (.ref s2), .val (.ref al), .unset, .unset, .unset] [(.ref s0), (.ref al)]))
    refine W1116.callF (xi := N57) (y := N20) (wd225 hw) (wd226 hw) (wd227 hw) (wd228 hw) (wd229 hw) (wd230 hw) (wd231 hw) (wd232 hw) (wd108 hw) (wd233 hw) (by decide) E_al (a := al) (c_add_0 l Z a0 hw hEL h1117 W1116.old al dd kd (0 : Int32) s0 E_al M_al D_al Z_al z_al SD DA (E_s0.ext X1191)) (allS (m_ 0) all0) (by decide) (by decide) (k' := 56) (n' := 659) rfl rfl (by decide) (by decide) (by rw [hml]; rfl) (argsL := [(.ref s0)]) (rest := []) (lenOf pd_33 rfl) rfl rfl (Wt := 0) (Nat.le_of_eq rfl) (hb hby at_171) ?_
    intro v_ T1192 h1194 W1193 hq_
    obtain ⟨r, kr, rfl, Ka0, gr, Er0, Ar0, Ovr0, Ea0, Ma0, Da0, Za0⟩ := hq_
    have W1195 := W1193.safeE Er0 (by decide) (by decide)
    refine Go.by (fun _ q9 => XS.pop W1195.here W1195.hx rfl (hb hby at_176) rfl rfl (XS.iload W1195.here W1195.hx rfl (hb hby at_177) rfl (XS.iconst W1195.here W1195.hx rfl (hb hby at_179) q9))) ?_
    refine Go.by (fun _ q9 => XS.icmpNo W1195.here W1195.hx rfl (hb hby at_180) rfl (flt c2).1 q9) ?_
    refine Go.by (fun _ q9 => XS.aload W1195.here W1195.hx rfl (hb hby at_183) rfl rfl (XS.aload W1195.here W1195.hx rfl (hb hby at_185) rfl rfl q9)) ?_
    have X1196 : Ext h1101 h1110 := (Ext.keep' E1105 K_s2 (allS (Nat.le_of_eq g_s2) all0))
    have X1197 : Ext h1101 h1112 := (Ext.trans' X1196 E1114)
    have X1198 : Ext h1101 h1117 := (Ext.keep' X1197 K_al (allS (Nat.le_trans X1196.1 (Nat.le_of_eq g_al)) all0))
    have X1199 : Ext h1101 h1194 := (Ext.keep' X1198 Ka0 (allS (Nat.le_trans X1196.1 (Nat.le_of_eq g_al)) all0))
    show Go _ _ _ _ _ _ _ _ _ (T1192.setTop (mkF m 187 #[.val (.int p0), .val (.int p1), .val (.int p2), .val (.int p3), .val (.int p4), .val (.ref n0), .val (.ref n1), .val (.ref n2), .val (.int md), .val (.int ct), .val (.ref qa), .val (.ref fc), .val (.ref s0), .val (.ref s1), .val (.ref s2), .val (.ref al), .unset, .unset, .unset] [(.ref s1), (.ref al)]))
    refine W1195.callF (xi := N57) (y := N20) (wd225 hw) (wd226 hw) (wd227 hw) (wd228 hw) (wd229 hw) (wd230 hw) (wd231 hw) (wd232 hw) (wd108 hw) (wd233 hw) (by decide) Ea0 (a := al) (c_add_1 l Z a0 hw hEL h1194 W1195.old al r kr ((0 : Int32) + (1 : Int32)) s0 s1 Ea0 Ma0 Da0 Za0 z_al Er0 (Nat.le_trans W1116.old.1 gr) Ar0 Ovr0 (E_s1.ext X1199)) (allS (m_ 1) (allS (m_ 0) all0)) (by decide) (by decide) (k' := 56) (n' := 659) rfl rfl (by decide) (by decide) (by rw [hml]; rfl) (argsL := [(.ref s1)]) (rest := []) (lenOf pd_33 rfl) rfl rfl (Wt := 0) (Nat.le_of_eq rfl) (hb hby at_187) ?_
    intro v_ T1200 h1202 W1201 hq_
    obtain ⟨rfl, Ka1, Er1, Ar1, Ea1, Ma1, Da1, Za1⟩ := hq_
    refine Go.by (fun _ q9 => XS.pop W1201.here W1201.hx rfl (hb hby at_192) rfl rfl (XS.iload W1201.here W1201.hx rfl (hb hby at_193) rfl (XS.iconst W1201.here W1201.hx rfl (hb hby at_195) q9))) ?_
    refine Go.by (fun _ q9 => XS.icmpYes W1201.here W1201.hx rfl (pc0 := 196) (pc' := 209) rfl (hb hby at_196) rfl (tlt c3).1 (by decide) (by decide) q9) ?_
    show Go _ _ _ _ _ _ _ _ _ (T1200.setTop (mkF m 209 #[.val (.int p0), .val (.int p1), .val (.int p2), .val (.int p3), .val (.int p4), .val (.ref n0), .val (.ref n1), .val (.ref n2), .val (.int md), .val (.int ct), .val (.ref qa), .val (.ref fc), .val (.ref s0), .val (.ref s1), .val (.ref s2), .val (.ref al), .unset, .unset, .unset] []))
    refine W1201.new (wd130 hw) (wd131 hw) (wd132 hw) (hb hby at_209) (k' := 57) (n' := 660) rfl rfl (by decide) (by decide) ?_
    intro T1203 h1204 fs W1205 E1206 g_fs z_fs A_fs D_fs
    have F_schemes_fs : Fld Z h1204 fs cFF "schemes" "Ljava/util/List;" .null := D_fs (Or.inr (wd167 hw)) (ty := (.object "java/util/List")) (by decide)
    refine Go.by (fun _ q9 => XS.dup W1205.here W1205.hx rfl (hb hby at_212) rfl rfl (XS.aload W1205.here W1205.hx rfl (hb hby at_213) rfl rfl q9)) ?_
    have X1207 : Ext h1092 h1194 := (Ext.keep' X1191 Ka0 (allS (Nat.le_trans X1189.1 (Nat.le_of_eq g_al)) all0))
    have X1208 : Ext h1092 h1202 := (Ext.keep' X1207 Ka1 (allS (Nat.le_trans X1189.1 (Nat.le_of_eq g_al)) (allS (Nat.le_trans X1191.1 gr) all0)))
    have X1209 : Ext h1092 h1204 := (Ext.trans' X1208 E1206)
    have X1210 : Ext h1101 h1202 := (Ext.keep' X1199 Ka1 (allS (Nat.le_trans X1196.1 (Nat.le_of_eq g_al)) (allS (Nat.le_trans X1198.1 gr) all0)))
    have X1211 : Ext h1101 h1204 := (Ext.trans' X1210 E1206)
    show Go _ _ _ _ _ _ _ _ _ (T1203.setTop (mkF m 215 #[.val (.int p0), .val (.int p1), .val (.int p2), .val (.int p3), .val (.int p4), .val (.ref n0), .val (.ref n1), .val (.ref n2), .val (.int md), .val (.int ct), .val (.ref qa), .val (.ref fc), .val (.ref s0), .val (.ref s1), .val (.ref s2), .val (.ref al), .unset, .unset, .unset] [(.ref al), (.ref fs), (.ref fs)]))
    refine W1205.callI (y := N36) rfl (wd133 hw) (wd134 hw) (wd132 hw) (wd135 hw) (by decide) (a := fs) (c_fssinit_2 l Z a0 hw hEL h1204 W1205.old fs al el ee emp kee r mr kr s0 s1  A_fs F_schemes_fs z_fs (Ea1.ext E1206) (Za1.ext E1206) SL EL0 FE0 AE0 SM EM (Da1.ext E1206) MR (Er1.ext E1206) (Ar1.ext E1206) (E_s0.ext X1209) (E_s1.ext X1211)) (allS (m_ 0) all0) (by decide) (by decide) (k' := 60) (n' := 668) rfl rfl (by decide) (by decide) (by rw [hml]; rfl) (argsL := [(.ref al)]) (rest := [(.ref fs)]) (lenOf pd_31 rfl) rfl rfl (Wt := 1) (Nat.le_of_eq rfl) (hb hby at_215) ?_
    intro v_ T1212 h1214 W1213 hq_
    obtain ⟨lst, rfl, K_fs, E_fs, F_fs, E_l, F_0, F_1⟩ := hq_
    refine Go.by (fun _ q9 => XS.astore W1213.here W1213.hx rfl (hb hby at_218) rfl rfl (l' := #[.val (.int p0), .val (.int p1), .val (.int p2), .val (.int p3), .val (.int p4), .val (.ref n0), .val (.ref n1), .val (.ref n2), .val (.int md), .val (.int ct), .val (.ref qa), .val (.ref fc), .val (.ref s0), .val (.ref s1), .val (.ref s2), .val (.ref al), .val (.ref fs), .unset, .unset]) rfl (XS.aconstNull W1213.here W1213.hx rfl (hb hby at_220) (XS.astore W1213.here W1213.hx rfl (hb hby at_221) rfl rfl (l' := #[.val (.int p0), .val (.int p1), .val (.int p2), .val (.int p3), .val (.int p4), .val (.ref n0), .val (.ref n1), .val (.ref n2), .val (.int md), .val (.int ct), .val (.ref qa), .val (.ref fc), .val (.ref s0), .val (.ref s1), .val (.ref s2), .val (.ref al), .val (.ref fs), .val .null, .unset]) rfl (XS.iload W1213.here W1213.hx rfl (hb hby at_223) rfl (XS.iconst W1213.here W1213.hx rfl (hb hby at_225) q9))))) ?_
    refine Go.by (fun _ q9 => XS.icmpNo W1213.here W1213.hx rfl (hb hby at_226) rfl (flt c1).1 q9) ?_
    refine Go.by (fun _ q9 => XS.aload W1213.here W1213.hx rfl (hb hby at_229) rfl rfl (XS.aload W1213.here W1213.hx rfl (hb hby at_231) rfl rfl q9)) ?_
    have X1215 : Ext h1044 h1083 := (Ext.keep' E1072 K_fc (allS (Nat.le_of_eq g_fc) all0))
    have X1216 : Ext h1044 h1085 := (Ext.trans' X1215 E1087)
    have X1217 : Ext h1044 h1092 := (Ext.keep' X1216 K_s0 (allS (Nat.le_trans X1215.1 (Nat.le_of_eq g_s0)) all0))
    have X1218 : Ext h1044 h1094 := (Ext.trans' X1217 E1096)
    have X1219 : Ext h1044 h1101 := (Ext.keep' X1218 K_s1 (allS (Nat.le_trans X1217.1 (Nat.le_of_eq g_s1)) all0))
    have X1220 : Ext h1044 h1103 := (Ext.trans' X1219 E1105)
    have X1221 : Ext h1044 h1110 := (Ext.keep' X1220 K_s2 (allS (Nat.le_trans X1219.1 (Nat.le_of_eq g_s2)) all0))
    have X1222 : Ext h1044 h1112 := (Ext.trans' X1221 E1114)
    have X1223 : Ext h1044 h1117 := (Ext.keep' X1222 K_al (allS (Nat.le_trans X1221.1 (Nat.le_of_eq g_al)) all0))
    have X1224 : Ext h1044 h1194 := (Ext.keep' X1223 Ka0 (allS (Nat.le_trans X1221.1 (Nat.le_of_eq g_al)) all0))
    have X1225 : Ext h1044 h1202 := (Ext.keep' X1224 Ka1 (allS (Nat.le_trans X1221.1 (Nat.le_of_eq g_al)) (allS (Nat.le_trans X1223.1 gr) all0)))
    have X1226 : Ext h1044 h1204 := (Ext.trans' X1225 E1206)
    have X1227 : Ext h1044 h1214 := (Ext.keep' X1226 K_fs (allS (Nat.le_trans X1225.1 (Nat.le_of_eq g_fs)) all0))
    show Go _ _ _ _ _ _ _ _ _ (T1212.setTop (mkF m 233 #[.val (.int p0), .val (.int p1), .val (.int p2), .val (.int p3), .val (.int p4), .val (.ref n0), .val (.ref n1), .val (.ref n2), .val (.int md), .val (.int ct), .val (.ref qa), .val (.ref fc), .val (.ref s0), .val (.ref s1), .val (.ref s2), .val (.ref al), .val (.ref fs), .val .null, .unset] [(.ref qa), (.ref n0)]))
    refine W1213.strEq (k_eq hw) (wd5 hw) (wd319 hw) (wd320 hw) (wd322 hw) (wd321 hw) (T0'.ext X1227) (SQ.ext X1227) l0 lq (SG1.ext W1213.old) hG (by decide) (Wt := 0) (by decide) (by rw [hml]; rfl) (Nat.le_of_eq rfl) (by decide) (by decide) (hb hby at_233) ?_
    intro T1228 rr0 W1229 hrr0
    by_cases q0 : cs0 = cq
    · refine Go.by (fun _ q9 => XS.ifNo W1229.here W1229.hx rfl (hb hby at_236) rfl ((if0 _ _).trans (feq (by rw [hrr0, if_pos q0]; decide)).1) q9) ?_
      refine Go.by (fun _ q9 => XS.aload W1229.here W1229.hx rfl (hb hby at_239) rfl rfl (XS.astore W1229.here W1229.hx rfl (hb hby at_241) rfl rfl (l' := #[.val (.int p0), .val (.int p1), .val (.int p2), .val (.int p3), .val (.int p4), .val (.ref n0), .val (.ref n1), .val (.ref n2), .val (.int md), .val (.int ct), .val (.ref qa), .val (.ref fc), .val (.ref s0), .val (.ref s1), .val (.ref s2), .val (.ref al), .val (.ref fs), .val (.ref s0), .unset]) rfl (XS.goto W1229.here W1229.hx rfl (pc0 := 243) (pc' := 289) rfl (hb hby at_243) (by decide) (by decide) q9))) ?_
      refine Go.by (fun _ q9 => XS.aload W1229.here W1229.hx rfl (hb hby at_289) rfl rfl (XS.aload W1229.here W1229.hx rfl (hb hby at_291) rfl rfl q9)) ?_
      have X1230 : Ext h1092 h1214 := (Ext.keep' X1209 K_fs (allS (Nat.le_trans X1208.1 (Nat.le_of_eq g_fs)) all0))
      have X1231 : Ext h1101 h1214 := (Ext.keep' X1211 K_fs (allS (Nat.le_trans X1210.1 (Nat.le_of_eq g_fs)) all0))
      show Go _ _ _ _ _ _ _ _ _ (T1228.setTop (mkF m 293 #[.val (.int p0), .val (.int p1), .val (.int p2), .val (.int p3), .val (.int p4), .val (.ref n0), .val (.ref n1), .val (.ref n2), .val (.int md), .val (.int ct), .val (.ref qa), .val (.ref fc), .val (.ref s0), .val (.ref s1), .val (.ref s2), .val (.ref al), .val (.ref fs), .val (.ref s0), .unset] [(.ref qa), (.ref fs)]))
      refine W1229.callV (y := N55) (z := N55) (wd168 hw) (wd169 hw) (nf_sel rfl (wd171 hw)) (wd171 hw) (wd170 hw) (wd132 hw) (wd172 hw) (by decide) E_fs (a := fs) (c_scheme_2 l Z a0 hw hEL h1214 W1229.old lst emp s0 s1 fs qa em cq G1 n0 n1 cs0 cs1 SG1 hG SE EE FE E_fs F_fs E_l F_0 F_1 SM EM (E_s0.ext X1230) (E_s1.ext X1231) (SQ.ext X1227) lq (N_s0.ext X1230) (T0'.ext X1227) l0 (N_s1.ext X1231) (T1'.ext X1227) l1) all0 (by decide) (by decide) (k' := 62) (n' := 673) rfl rfl (by decide) (by decide) (by rw [hml]; rfl) (argsL := [(.ref qa)]) (rest := []) (lenOf pd_32 rfl) rfl rfl (Wt := 0) (Nat.le_of_eq rfl) (hb hby at_293) ?_
      intro v_ T1232 h1234 W1233 hq_
      obtain ⟨ro, rfl, X_ro, E_ro, F_ro⟩ := hq_
      rw [if_pos q0] at F_ro
      show Go _ _ _ _ _ _ _ _ _ (T1232.setTop (mkF m 296 #[.val (.int p0), .val (.int p1), .val (.int p2), .val (.int p3), .val (.int p4), .val (.ref n0), .val (.ref n1), .val (.ref n2), .val (.int md), .val (.int ct), .val (.ref qa), .val (.ref fc), .val (.ref s0), .val (.ref s1), .val (.ref s2), .val (.ref al), .val (.ref fs), .val (.ref s0), .unset] [(.ref ro)]))
      refine Go.by (fun _ q9 => XS.astore W1233.here W1233.hx rfl (hb hby at_296) rfl rfl (l' := #[.val (.int p0), .val (.int p1), .val (.int p2), .val (.int p3), .val (.int p4), .val (.ref n0), .val (.ref n1), .val (.ref n2), .val (.int md), .val (.int ct), .val (.ref qa), .val (.ref fc), .val (.ref s0), .val (.ref s1), .val (.ref s2), .val (.ref al), .val (.ref fs), .val (.ref s0), .val (.ref ro)]) rfl (XS.aload W1233.here W1233.hx rfl (hb hby at_298) rfl rfl q9)) ?_
      refine Go.by (fun _ q9 => XS.ifnonnullYes W1233.here W1233.hx rfl (pc0 := 300) (pc' := 317) rfl (hb hby at_300) rfl (by decide) (by decide) q9) ?_
      refine Go.by (fun _ q9 => XS.aload W1233.here W1233.hx rfl (hb hby at_317) rfl rfl q9) ?_
      show Go _ _ _ _ _ _ _ _ _ (T1232.setTop (mkF m 319 #[.val (.int p0), .val (.int p1), .val (.int p2), .val (.int p3), .val (.int p4), .val (.ref n0), .val (.ref n1), .val (.ref n2), .val (.int md), .val (.int ct), .val (.ref qa), .val (.ref fc), .val (.ref s0), .val (.ref s1), .val (.ref s2), .val (.ref al), .val (.ref fs), .val (.ref s0), .val (.ref ro)] [(.ref ro)]))
      refine W1233.callVp (y := N51) (z := N51) (wd218 hw) (wd219 hw) (nf_sel rfl (wd221 hw)) (wd221 hw) (wd220 hw) (wd86 hw) (wd222 hw) (by decide) E_ro (a := ro) (c_ispR l Z a0 hw hEL h1234 W1233.old ro s0 F_ro) all0 (by decide) (by decide) (k' := 62) (n' := 673) rfl rfl (by decide) (by decide) (by rw [hml]; rfl) (argsL := []) (rest := []) (lenOf pd_18 rfl) rfl rfl (Wt := 0) (Nat.le_of_eq rfl) (hb hby at_319) ?_
      intro T1235 W1236
      refine Go.by (fun _ q9 => XS.ifNo W1236.here W1236.hx rfl (hb hby at_322) rfl ((if0 _ _).trans (feq (by decide)).1) q9) ?_
      refine Go.by (fun _ q9 => XS.aload W1236.here W1236.hx rfl (hb hby at_325) rfl rfl q9) ?_
      show Go _ _ _ _ _ _ _ _ _ (T1235.setTop (mkF m 327 #[.val (.int p0), .val (.int p1), .val (.int p2), .val (.int p3), .val (.int p4), .val (.ref n0), .val (.ref n1), .val (.ref n2), .val (.int md), .val (.int ct), .val (.ref qa), .val (.ref fc), .val (.ref s0), .val (.ref s1), .val (.ref s2), .val (.ref al), .val (.ref fs), .val (.ref s0), .val (.ref ro)] [(.ref ro)]))
      refine W1236.callVp (y := N52) (z := N52) (wd373 hw) (wd374 hw) (nf_sel rfl (wd376 hw)) (wd376 hw) (wd375 hw) (wd86 hw) (wd377 hw) (by decide) E_ro (a := ro) (c_oget l Z a0 hw hEL h1234 W1236.old ro s0 F_ro) all0 (by decide) (by decide) (k' := 62) (n' := 673) rfl rfl (by decide) (by decide) (by rw [hml]; rfl) (argsL := []) (rest := []) (lenOf pd_25 rfl) rfl rfl (Wt := 0) (Nat.le_of_eq rfl) (hb hby at_327) ?_
      intro T1237 W1238
      refine Go.by (fun _ q9 => XS.aload W1238.here W1238.hx rfl (hb hby at_330) rfl rfl q9) ?_
      refine Go.by (fun _ q9 => acmpW W1238 (g := (mkF m 332 #[.val (.int p0), .val (.int p1), .val (.int p2), .val (.int p3), .val (.int p4), .val (.ref n0), .val (.ref n1), .val (.ref n2), .val (.int md), .val (.int ct), .val (.ref qa), .val (.ref fc), .val (.ref s0), .val (.ref s1), .val (.ref s2), .val (.ref al), .val (.ref fs), .val (.ref s0), .val (.ref ro)] [(.ref s0), (.ref s0)])) rfl rfl rfl (pc0 := 332) (pc' := 335) (same := true) rfl (hb hby at_332) rfl (decide_eq_true rfl) (by decide) (by decide) q9) ?_
      refine Go.by (fun _ q9 => XS.iconst W1238.here W1238.hx rfl (hb hby at_335) (XS.goto W1238.here W1238.hx rfl (pc0 := 336) (pc' := 340) rfl (hb hby at_336) (by decide) (by decide) q9)) ?_
      show Go _ _ _ _ _ _ _ _ _ (T1237.setTop (mkF m 340 #[.val (.int p0), .val (.int p1), .val (.int p2), .val (.int p3), .val (.int p4), .val (.ref n0), .val (.ref n1), .val (.ref n2), .val (.int md), .val (.int ct), .val (.ref qa), .val (.ref fc), .val (.ref s0), .val (.ref s1), .val (.ref s2), .val (.ref al), .val (.ref fs), .val (.ref s0), .val (.ref ro)] [(.int (1 : Int32))]))
      exact W1238.retN (z' := (1 : Int32)) (by decide) (by decide) hret (by simp) (hb hby at_340) rfl rfl
    · refine Go.by (fun _ q9 => XS.ifYes W1229.here W1229.hx rfl (pc0 := 236) (pc' := 246) rfl (hb hby at_236) rfl ((if0 _ _).trans (teq (by rw [hrr0, if_neg q0])).1) (by decide) (by decide) q9) ?_
      refine Go.by (fun _ q9 => XS.iload W1229.here W1229.hx rfl (hb hby at_246) rfl (XS.iconst W1229.here W1229.hx rfl (hb hby at_248) q9)) ?_
      refine Go.by (fun _ q9 => XS.icmpNo W1229.here W1229.hx rfl (hb hby at_249) rfl (flt c2).1 q9) ?_
      refine Go.by (fun _ q9 => XS.aload W1229.here W1229.hx rfl (hb hby at_252) rfl rfl (XS.aload W1229.here W1229.hx rfl (hb hby at_254) rfl rfl q9)) ?_
      show Go _ _ _ _ _ _ _ _ _ (T1228.setTop (mkF m 256 #[.val (.int p0), .val (.int p1), .val (.int p2), .val (.int p3), .val (.int p4), .val (.ref n0), .val (.ref n1), .val (.ref n2), .val (.int md), .val (.int ct), .val (.ref qa), .val (.ref fc), .val (.ref s0), .val (.ref s1), .val (.ref s2), .val (.ref al), .val (.ref fs), .val .null, .unset] [(.ref qa), (.ref n1)]))
      refine W1229.strEq (k_eq hw) (wd5 hw) (wd319 hw) (wd320 hw) (wd322 hw) (wd321 hw) (T1'.ext X1227) (SQ.ext X1227) l1 lq (SG1.ext W1229.old) hG (by decide) (Wt := 0) (by decide) (by rw [hml]; rfl) (Nat.le_of_eq rfl) (by decide) (by decide) (hb hby at_256) ?_
      intro T1239 rr1 W1240 hrr1
      by_cases q1 : cs1 = cq
      · refine Go.by (fun _ q9 => XS.ifNo W1240.here W1240.hx rfl (hb hby at_259) rfl ((if0 _ _).trans (feq (by rw [hrr1, if_pos q1]; decide)).1) q9) ?_
        refine Go.by (fun _ q9 => XS.aload W1240.here W1240.hx rfl (hb hby at_262) rfl rfl (XS.astore W1240.here W1240.hx rfl (hb hby at_264) rfl rfl (l' := #[.val (.int p0), .val (.int p1), .val (.int p2), .val (.int p3), .val (.int p4), .val (.ref n0), .val (.ref n1), .val (.ref n2), .val (.int md), .val (.int ct), .val (.ref qa), .val (.ref fc), .val (.ref s0), .val (.ref s1), .val (.ref s2), .val (.ref al), .val (.ref fs), .val (.ref s1), .unset]) rfl (XS.goto W1240.here W1240.hx rfl (pc0 := 266) (pc' := 289) rfl (hb hby at_266) (by decide) (by decide) q9))) ?_
        refine Go.by (fun _ q9 => XS.aload W1240.here W1240.hx rfl (hb hby at_289) rfl rfl (XS.aload W1240.here W1240.hx rfl (hb hby at_291) rfl rfl q9)) ?_
        have X1241 : Ext h1092 h1214 := (Ext.keep' X1209 K_fs (allS (Nat.le_trans X1208.1 (Nat.le_of_eq g_fs)) all0))
        have X1242 : Ext h1101 h1214 := (Ext.keep' X1211 K_fs (allS (Nat.le_trans X1210.1 (Nat.le_of_eq g_fs)) all0))
        show Go _ _ _ _ _ _ _ _ _ (T1239.setTop (mkF m 293 #[.val (.int p0), .val (.int p1), .val (.int p2), .val (.int p3), .val (.int p4), .val (.ref n0), .val (.ref n1), .val (.ref n2), .val (.int md), .val (.int ct), .val (.ref qa), .val (.ref fc), .val (.ref s0), .val (.ref s1), .val (.ref s2), .val (.ref al), .val (.ref fs), .val (.ref s1), .unset] [(.ref qa), (.ref fs)]))
        refine W1240.callV (y := N55) (z := N55) (wd168 hw) (wd169 hw) (nf_sel rfl (wd171 hw)) (wd171 hw) (wd170 hw) (wd132 hw) (wd172 hw) (by decide) E_fs (a := fs) (c_scheme_2 l Z a0 hw hEL h1214 W1240.old lst emp s0 s1 fs qa em cq G1 n0 n1 cs0 cs1 SG1 hG SE EE FE E_fs F_fs E_l F_0 F_1 SM EM (E_s0.ext X1241) (E_s1.ext X1242) (SQ.ext X1227) lq (N_s0.ext X1241) (T0'.ext X1227) l0 (N_s1.ext X1242) (T1'.ext X1227) l1) all0 (by decide) (by decide) (k' := 62) (n' := 673) rfl rfl (by decide) (by decide) (by rw [hml]; rfl) (argsL := [(.ref qa)]) (rest := []) (lenOf pd_32 rfl) rfl rfl (Wt := 0) (Nat.le_of_eq rfl) (hb hby at_293) ?_
        intro v_ T1243 h1245 W1244 hq_
        obtain ⟨ro, rfl, X_ro, E_ro, F_ro⟩ := hq_
        rw [if_neg q0, if_pos q1] at F_ro
        show Go _ _ _ _ _ _ _ _ _ (T1243.setTop (mkF m 296 #[.val (.int p0), .val (.int p1), .val (.int p2), .val (.int p3), .val (.int p4), .val (.ref n0), .val (.ref n1), .val (.ref n2), .val (.int md), .val (.int ct), .val (.ref qa), .val (.ref fc), .val (.ref s0), .val (.ref s1), .val (.ref s2), .val (.ref al), .val (.ref fs), .val (.ref s1), .unset] [(.ref ro)]))
        refine Go.by (fun _ q9 => XS.astore W1244.here W1244.hx rfl (hb hby at_296) rfl rfl (l' := #[.val (.int p0), .val (.int p1), .val (.int p2), .val (.int p3), .val (.int p4), .val (.ref n0), .val (.ref n1), .val (.ref n2), .val (.int md), .val (.int ct), .val (.ref qa), .val (.ref fc), .val (.ref s0), .val (.ref s1), .val (.ref s2), .val (.ref al), .val (.ref fs), .val (.ref s1), .val (.ref ro)]) rfl (XS.aload W1244.here W1244.hx rfl (hb hby at_298) rfl rfl q9)) ?_
        refine Go.by (fun _ q9 => XS.ifnonnullYes W1244.here W1244.hx rfl (pc0 := 300) (pc' := 317) rfl (hb hby at_300) rfl (by decide) (by decide) q9) ?_
        refine Go.by (fun _ q9 => XS.aload W1244.here W1244.hx rfl (hb hby at_317) rfl rfl q9) ?_
        show Go _ _ _ _ _ _ _ _ _ (T1243.setTop (mkF m 319 #[.val (.int p0), .val (.int p1), .val (.int p2), .val (.int p3), .val (.int p4), .val (.ref n0), .val (.ref n1), .val (.ref n2), .val (.int md), .val (.int ct), .val (.ref qa), .val (.ref fc), .val (.ref s0), .val (.ref s1), .val (.ref s2), .val (.ref al), .val (.ref fs), .val (.ref s1), .val (.ref ro)] [(.ref ro)]))
        refine W1244.callVp (y := N51) (z := N51) (wd218 hw) (wd219 hw) (nf_sel rfl (wd221 hw)) (wd221 hw) (wd220 hw) (wd86 hw) (wd222 hw) (by decide) E_ro (a := ro) (c_ispR l Z a0 hw hEL h1245 W1244.old ro s1 F_ro) all0 (by decide) (by decide) (k' := 62) (n' := 673) rfl rfl (by decide) (by decide) (by rw [hml]; rfl) (argsL := []) (rest := []) (lenOf pd_18 rfl) rfl rfl (Wt := 0) (Nat.le_of_eq rfl) (hb hby at_319) ?_
        intro T1246 W1247
        refine Go.by (fun _ q9 => XS.ifNo W1247.here W1247.hx rfl (hb hby at_322) rfl ((if0 _ _).trans (feq (by decide)).1) q9) ?_
        refine Go.by (fun _ q9 => XS.aload W1247.here W1247.hx rfl (hb hby at_325) rfl rfl q9) ?_
        show Go _ _ _ _ _ _ _ _ _ (T1246.setTop (mkF m 327 #[.val (.int p0), .val (.int p1), .val (.int p2), .val (.int p3), .val (.int p4), .val (.ref n0), .val (.ref n1), .val (.ref n2), .val (.int md), .val (.int ct), .val (.ref qa), .val (.ref fc), .val (.ref s0), .val (.ref s1), .val (.ref s2), .val (.ref al), .val (.ref fs), .val (.ref s1), .val (.ref ro)] [(.ref ro)]))
        refine W1247.callVp (y := N52) (z := N52) (wd373 hw) (wd374 hw) (nf_sel rfl (wd376 hw)) (wd376 hw) (wd375 hw) (wd86 hw) (wd377 hw) (by decide) E_ro (a := ro) (c_oget l Z a0 hw hEL h1245 W1247.old ro s1 F_ro) all0 (by decide) (by decide) (k' := 62) (n' := 673) rfl rfl (by decide) (by decide) (by rw [hml]; rfl) (argsL := []) (rest := []) (lenOf pd_25 rfl) rfl rfl (Wt := 0) (Nat.le_of_eq rfl) (hb hby at_327) ?_
        intro T1248 W1249
        refine Go.by (fun _ q9 => XS.aload W1249.here W1249.hx rfl (hb hby at_330) rfl rfl q9) ?_
        refine Go.by (fun _ q9 => acmpW W1249 (g := (mkF m 332 #[.val (.int p0), .val (.int p1), .val (.int p2), .val (.int p3), .val (.int p4), .val (.ref n0), .val (.ref n1), .val (.ref n2), .val (.int md), .val (.int ct), .val (.ref qa), .val (.ref fc), .val (.ref s0), .val (.ref s1), .val (.ref s2), .val (.ref al), .val (.ref fs), .val (.ref s1), .val (.ref ro)] [(.ref s1), (.ref s1)])) rfl rfl rfl (pc0 := 332) (pc' := 335) (same := true) rfl (hb hby at_332) rfl (decide_eq_true rfl) (by decide) (by decide) q9) ?_
        refine Go.by (fun _ q9 => XS.iconst W1249.here W1249.hx rfl (hb hby at_335) (XS.goto W1249.here W1249.hx rfl (pc0 := 336) (pc' := 340) rfl (hb hby at_336) (by decide) (by decide) q9)) ?_
        show Go _ _ _ _ _ _ _ _ _ (T1248.setTop (mkF m 340 #[.val (.int p0), .val (.int p1), .val (.int p2), .val (.int p3), .val (.int p4), .val (.ref n0), .val (.ref n1), .val (.ref n2), .val (.int md), .val (.int ct), .val (.ref qa), .val (.ref fc), .val (.ref s0), .val (.ref s1), .val (.ref s2), .val (.ref al), .val (.ref fs), .val (.ref s1), .val (.ref ro)] [(.int (1 : Int32))]))
        exact W1249.retN (z' := (1 : Int32)) (by decide) (by decide) hret (by simp) (hb hby at_340) rfl rfl
      · refine Go.by (fun _ q9 => XS.ifYes W1240.here W1240.hx rfl (pc0 := 259) (pc' := 269) rfl (hb hby at_259) rfl ((if0 _ _).trans (teq (by rw [hrr1, if_neg q1])).1) (by decide) (by decide) q9) ?_
        refine Go.by (fun _ q9 => XS.iload W1240.here W1240.hx rfl (hb hby at_269) rfl (XS.iconst W1240.here W1240.hx rfl (hb hby at_271) q9)) ?_
        refine Go.by (fun _ q9 => XS.icmpYes W1240.here W1240.hx rfl (pc0 := 272) (pc' := 289) rfl (hb hby at_272) rfl (tlt c3).1 (by decide) (by decide) q9) ?_
        refine Go.by (fun _ q9 => XS.aload W1240.here W1240.hx rfl (hb hby at_289) rfl rfl (XS.aload W1240.here W1240.hx rfl (hb hby at_291) rfl rfl q9)) ?_
        have X1250 : Ext h1092 h1214 := (Ext.keep' X1209 K_fs (allS (Nat.le_trans X1208.1 (Nat.le_of_eq g_fs)) all0))
        have X1251 : Ext h1101 h1214 := (Ext.keep' X1211 K_fs (allS (Nat.le_trans X1210.1 (Nat.le_of_eq g_fs)) all0))
        show Go _ _ _ _ _ _ _ _ _ (T1239.setTop (mkF m 293 #[.val (.int p0), .val (.int p1), .val (.int p2), .val (.int p3), .val (.int p4), .val (.ref n0), .val (.ref n1), .val (.ref n2), .val (.int md), .val (.int ct), .val (.ref qa), .val (.ref fc), .val (.ref s0), .val (.ref s1), .val (.ref s2), .val (.ref al), .val (.ref fs), .val .null, .unset] [(.ref qa), (.ref fs)]))
        refine W1240.callV (y := N55) (z := N55) (wd168 hw) (wd169 hw) (nf_sel rfl (wd171 hw)) (wd171 hw) (wd170 hw) (wd132 hw) (wd172 hw) (by decide) E_fs (a := fs) (c_scheme_2 l Z a0 hw hEL h1214 W1240.old lst emp s0 s1 fs qa em cq G1 n0 n1 cs0 cs1 SG1 hG SE EE FE E_fs F_fs E_l F_0 F_1 SM EM (E_s0.ext X1250) (E_s1.ext X1251) (SQ.ext X1227) lq (N_s0.ext X1250) (T0'.ext X1227) l0 (N_s1.ext X1251) (T1'.ext X1227) l1) all0 (by decide) (by decide) (k' := 62) (n' := 673) rfl rfl (by decide) (by decide) (by rw [hml]; rfl) (argsL := [(.ref qa)]) (rest := []) (lenOf pd_32 rfl) rfl rfl (Wt := 0) (Nat.le_of_eq rfl) (hb hby at_293) ?_
        intro v_ T1252 h1254 W1253 hq_
        obtain ⟨ro, rfl, X_ro, E_ro, F_ro⟩ := hq_
        rw [if_neg q0, if_neg q1] at F_ro
        show Go _ _ _ _ _ _ _ _ _ (T1252.setTop (mkF m 296 #[.val (.int p0), .val (.int p1), .val (.int p2), .val (.int p3), .val (.int p4), .val (.ref n0), .val (.ref n1), .val (.ref n2), .val (.int md), .val (.int ct), .val (.ref qa), .val (.ref fc), .val (.ref s0), .val (.ref s1), .val (.ref s2), .val (.ref al), .val (.ref fs), .val .null, .unset] [(.ref ro)]))
        refine Go.by (fun _ q9 => XS.astore W1253.here W1253.hx rfl (hb hby at_296) rfl rfl (l' := #[.val (.int p0), .val (.int p1), .val (.int p2), .val (.int p3), .val (.int p4), .val (.ref n0), .val (.ref n1), .val (.ref n2), .val (.int md), .val (.int ct), .val (.ref qa), .val (.ref fc), .val (.ref s0), .val (.ref s1), .val (.ref s2), .val (.ref al), .val (.ref fs), .val .null, .val (.ref ro)]) rfl (XS.aload W1253.here W1253.hx rfl (hb hby at_298) rfl rfl q9)) ?_
        refine Go.by (fun _ q9 => XS.ifnonnullNo W1253.here W1253.hx rfl (hb hby at_300) rfl q9) ?_
        refine Go.by (fun _ q9 => XS.aload W1253.here W1253.hx rfl (hb hby at_303) rfl rfl q9) ?_
        show Go _ _ _ _ _ _ _ _ _ (T1252.setTop (mkF m 305 #[.val (.int p0), .val (.int p1), .val (.int p2), .val (.int p3), .val (.int p4), .val (.ref n0), .val (.ref n1), .val (.ref n2), .val (.int md), .val (.int ct), .val (.ref qa), .val (.ref fc), .val (.ref s0), .val (.ref s1), .val (.ref s2), .val (.ref al), .val (.ref fs), .val .null, .val (.ref ro)] [(.ref ro)]))
        refine W1253.callVp (y := N51) (z := N51) (wd218 hw) (wd219 hw) (nf_sel rfl (wd221 hw)) (wd221 hw) (wd220 hw) (wd86 hw) (wd222 hw) (by decide) E_ro (a := ro) (c_ispN l Z a0 hw hEL h1254 W1253.old ro ro F_ro) all0 (by decide) (by decide) (k' := 62) (n' := 673) rfl rfl (by decide) (by decide) (by rw [hml]; rfl) (argsL := []) (rest := []) (lenOf pd_18 rfl) rfl rfl (Wt := 0) (Nat.le_of_eq rfl) (hb hby at_305) ?_
        intro T1255 W1256
        refine Go.by (fun _ q9 => XS.ifNo W1256.here W1256.hx rfl (hb hby at_308) rfl ((if0 _ _).trans (teq rfl).2) q9) ?_
        refine Go.by (fun _ q9 => XS.iconst W1256.here W1256.hx rfl (hb hby at_311) (XS.goto W1256.here W1256.hx rfl (pc0 := 312) (pc' := 316) rfl (hb hby at_312) (by decide) (by decide) q9)) ?_
        show Go _ _ _ _ _ _ _ _ _ (T1255.setTop (mkF m 316 #[.val (.int p0), .val (.int p1), .val (.int p2), .val (.int p3), .val (.int p4), .val (.ref n0), .val (.ref n1), .val (.ref n2), .val (.int md), .val (.int ct), .val (.ref qa), .val (.ref fc), .val (.ref s0), .val (.ref s1), .val (.ref s2), .val (.ref al), .val (.ref fs), .val .null, .val (.ref ro)] [(.int (1 : Int32))]))
        exact W1256.retN (z' := (1 : Int32)) (by decide) (by decide) hret (by simp) (hb hby at_316) rfl rfl
  · refine Go.by (fun _ q9 => XS.icmpNo W1116.here W1116.hx rfl (hb hby at_164) rfl (flt c1).1 q9) ?_
    refine Go.by (fun _ q9 => XS.aload W1116.here W1116.hx rfl (hb hby at_167) rfl rfl (XS.aload W1116.here W1116.hx rfl (hb hby at_169) rfl rfl q9)) ?_
    have X1257 : Ext h1092 h1101 := (Ext.keep' E1096 K_s1 (allS (Nat.le_of_eq g_s1) all0))
    have X1258 : Ext h1092 h1103 := (Ext.trans' X1257 E1105)
    have X1259 : Ext h1092 h1110 := (Ext.keep' X1258 K_s2 (allS (Nat.le_trans X1257.1 (Nat.le_of_eq g_s2)) all0))
    have X1260 : Ext h1092 h1112 := (Ext.trans' X1259 E1114)
    have X1261 : Ext h1092 h1117 := (Ext.keep' X1260 K_al (allS (Nat.le_trans X1259.1 (Nat.le_of_eq g_al)) all0))
    show Go _ _ _ _ _ _ _ _ _ (T1115.setTop (mkF m 171 #[.val (.int p0), .val (.int p1), .val (.int p2), .val (.int p3), .val (.int p4), .val (.ref n0), .val (.ref n1), .val (.ref n2), .val (.int md), .val (.int ct), .val (.ref qa), .val (.ref fc), .val (.ref s0), .val (.ref s1), .val (.ref s2), .val (.ref al), .unset, .unset, .unset] [(.ref s0), (.ref al)]))
    refine W1116.callF (xi := N57) (y := N20) (wd225 hw) (wd226 hw) (wd227 hw) (wd228 hw) (wd229 hw) (wd230 hw) (wd231 hw) (wd232 hw) (wd108 hw) (wd233 hw) (by decide) E_al (a := al) (c_add_0 l Z a0 hw hEL h1117 W1116.old al dd kd (0 : Int32) s0 E_al M_al D_al Z_al z_al SD DA (E_s0.ext X1261)) (allS (m_ 0) all0) (by decide) (by decide) (k' := 56) (n' := 659) rfl rfl (by decide) (by decide) (by rw [hml]; rfl) (argsL := [(.ref s0)]) (rest := []) (lenOf pd_33 rfl) rfl rfl (Wt := 0) (Nat.le_of_eq rfl) (hb hby at_171) ?_
    intro v_ T1262 h1264 W1263 hq_
    obtain ⟨r, kr, rfl, Ka0, gr, Er0, Ar0, Ovr0, Ea0, Ma0, Da0, Za0⟩ := hq_
    have W1265 := W1263.safeE Er0 (by decide) (by decide)
    refine Go.by (fun _ q9 => XS.pop W1265.here W1265.hx rfl (hb hby at_176) rfl rfl (XS.iload W1265.here W1265.hx rfl (hb hby at_177) rfl (XS.iconst W1265.here W1265.hx rfl (hb hby at_179) q9))) ?_
    refine Go.by (fun _ q9 => XS.icmpNo W1265.here W1265.hx rfl (hb hby at_180) rfl (flt c2).1 q9) ?_
    refine Go.by (fun _ q9 => XS.aload W1265.here W1265.hx rfl (hb hby at_183) rfl rfl (XS.aload W1265.here W1265.hx rfl (hb hby at_185) rfl rfl q9)) ?_
    have X1266 : Ext h1101 h1110 := (Ext.keep' E1105 K_s2 (allS (Nat.le_of_eq g_s2) all0))
    have X1267 : Ext h1101 h1112 := (Ext.trans' X1266 E1114)
    have X1268 : Ext h1101 h1117 := (Ext.keep' X1267 K_al (allS (Nat.le_trans X1266.1 (Nat.le_of_eq g_al)) all0))
    have X1269 : Ext h1101 h1264 := (Ext.keep' X1268 Ka0 (allS (Nat.le_trans X1266.1 (Nat.le_of_eq g_al)) all0))
    show Go _ _ _ _ _ _ _ _ _ (T1262.setTop (mkF m 187 #[.val (.int p0), .val (.int p1), .val (.int p2), .val (.int p3), .val (.int p4), .val (.ref n0), .val (.ref n1), .val (.ref n2), .val (.int md), .val (.int ct), .val (.ref qa), .val (.ref fc), .val (.ref s0), .val (.ref s1), .val (.ref s2), .val (.ref al), .unset, .unset, .unset] [(.ref s1), (.ref al)]))
    refine W1265.callF (xi := N57) (y := N20) (wd225 hw) (wd226 hw) (wd227 hw) (wd228 hw) (wd229 hw) (wd230 hw) (wd231 hw) (wd232 hw) (wd108 hw) (wd233 hw) (by decide) Ea0 (a := al) (c_add_1 l Z a0 hw hEL h1264 W1265.old al r kr ((0 : Int32) + (1 : Int32)) s0 s1 Ea0 Ma0 Da0 Za0 z_al Er0 (Nat.le_trans W1116.old.1 gr) Ar0 Ovr0 (E_s1.ext X1269)) (allS (m_ 1) (allS (m_ 0) all0)) (by decide) (by decide) (k' := 56) (n' := 659) rfl rfl (by decide) (by decide) (by rw [hml]; rfl) (argsL := [(.ref s1)]) (rest := []) (lenOf pd_33 rfl) rfl rfl (Wt := 0) (Nat.le_of_eq rfl) (hb hby at_187) ?_
    intro v_ T1270 h1272 W1271 hq_
    obtain ⟨rfl, Ka1, Er1, Ar1, Ea1, Ma1, Da1, Za1⟩ := hq_
    refine Go.by (fun _ q9 => XS.pop W1271.here W1271.hx rfl (hb hby at_192) rfl rfl (XS.iload W1271.here W1271.hx rfl (hb hby at_193) rfl (XS.iconst W1271.here W1271.hx rfl (hb hby at_195) q9))) ?_
    refine Go.by (fun _ q9 => XS.icmpNo W1271.here W1271.hx rfl (hb hby at_196) rfl (flt c3).1 q9) ?_
    refine Go.by (fun _ q9 => XS.aload W1271.here W1271.hx rfl (hb hby at_199) rfl rfl (XS.aload W1271.here W1271.hx rfl (hb hby at_201) rfl rfl q9)) ?_
    have X1273 : Ext h1110 h1117 := (Ext.keep' E1114 K_al (allS (Nat.le_of_eq g_al) all0))
    have X1274 : Ext h1110 h1264 := (Ext.keep' X1273 Ka0 (allS (Nat.le_of_eq g_al) all0))
    have X1275 : Ext h1110 h1272 := (Ext.keep' X1274 Ka1 (allS (Nat.le_of_eq g_al) (allS (Nat.le_trans X1273.1 gr) all0)))
    show Go _ _ _ _ _ _ _ _ _ (T1270.setTop (mkF m 203 #[.val (.int p0), .val (.int p1), .val (.int p2), .val (.int p3), .val (.int p4), .val (.ref n0), .val (.ref n1), .val (.ref n2), .val (.int md), .val (.int ct), .val (.ref qa), .val (.ref fc), .val (.ref s0), .val (.ref s1), .val (.ref s2), .val (.ref al), .unset, .unset, .unset] [(.ref s2), (.ref al)]))
    refine W1271.callF (xi := N57) (y := N20) (wd225 hw) (wd226 hw) (wd227 hw) (wd228 hw) (wd229 hw) (wd230 hw) (wd231 hw) (wd232 hw) (wd108 hw) (wd233 hw) (by decide) Ea1 (a := al) (c_add_2 l Z a0 hw hEL h1272 W1271.old al r kr (((0 : Int32) + (1 : Int32)) + (1 : Int32)) s0 s1 s2 Ea1 Ma1 Da1 Za1 z_al Er1 (Nat.le_trans W1116.old.1 gr) Ar1 Ovr0 (E_s2.ext X1275)) (allS (m_ 1) (allS (m_ 0) all0)) (by decide) (by decide) (k' := 56) (n' := 659) rfl rfl (by decide) (by decide) (by rw [hml]; rfl) (argsL := [(.ref s2)]) (rest := []) (lenOf pd_33 rfl) rfl rfl (Wt := 0) (Nat.le_of_eq rfl) (hb hby at_203) ?_
    intro v_ T1276 h1278 W1277 hq_
    obtain ⟨rfl, Ka2, Er2, Ar2, Ea2, Ma2, Da2, Za2⟩ := hq_
    refine Go.by (fun _ q9 => XS.pop W1277.here W1277.hx rfl (hb hby at_208) rfl rfl q9) ?_
    show Go _ _ _ _ _ _ _ _ _ (T1276.setTop (mkF m 209 #[.val (.int p0), .val (.int p1), .val (.int p2), .val (.int p3), .val (.int p4), .val (.ref n0), .val (.ref n1), .val (.ref n2), .val (.int md), .val (.int ct), .val (.ref qa), .val (.ref fc), .val (.ref s0), .val (.ref s1), .val (.ref s2), .val (.ref al), .unset, .unset, .unset] []))
    refine W1277.new (wd130 hw) (wd131 hw) (wd132 hw) (hb hby at_209) (k' := 57) (n' := 660) rfl rfl (by decide) (by decide) ?_
    intro T1279 h1280 fs W1281 E1282 g_fs z_fs A_fs D_fs
    have F_schemes_fs : Fld Z h1280 fs cFF "schemes" "Ljava/util/List;" .null := D_fs (Or.inr (wd167 hw)) (ty := (.object "java/util/List")) (by decide)
    refine Go.by (fun _ q9 => XS.dup W1281.here W1281.hx rfl (hb hby at_212) rfl rfl (XS.aload W1281.here W1281.hx rfl (hb hby at_213) rfl rfl q9)) ?_
    have X1283 : Ext h1092 h1264 := (Ext.keep' X1261 Ka0 (allS (Nat.le_trans X1259.1 (Nat.le_of_eq g_al)) all0))
    have X1284 : Ext h1092 h1272 := (Ext.keep' X1283 Ka1 (allS (Nat.le_trans X1259.1 (Nat.le_of_eq g_al)) (allS (Nat.le_trans X1261.1 gr) all0)))
    have X1285 : Ext h1092 h1278 := (Ext.keep' X1284 Ka2 (allS (Nat.le_trans X1259.1 (Nat.le_of_eq g_al)) (allS (Nat.le_trans X1261.1 gr) all0)))
    have X1286 : Ext h1092 h1280 := (Ext.trans' X1285 E1282)
    have X1287 : Ext h1101 h1272 := (Ext.keep' X1269 Ka1 (allS (Nat.le_trans X1266.1 (Nat.le_of_eq g_al)) (allS (Nat.le_trans X1268.1 gr) all0)))
    have X1288 : Ext h1101 h1278 := (Ext.keep' X1287 Ka2 (allS (Nat.le_trans X1266.1 (Nat.le_of_eq g_al)) (allS (Nat.le_trans X1268.1 gr) all0)))
    have X1289 : Ext h1101 h1280 := (Ext.trans' X1288 E1282)
    have X1290 : Ext h1110 h1278 := (Ext.keep' X1275 Ka2 (allS (Nat.le_of_eq g_al) (allS (Nat.le_trans X1273.1 gr) all0)))
    have X1291 : Ext h1110 h1280 := (Ext.trans' X1290 E1282)
    show Go _ _ _ _ _ _ _ _ _ (T1279.setTop (mkF m 215 #[.val (.int p0), .val (.int p1), .val (.int p2), .val (.int p3), .val (.int p4), .val (.ref n0), .val (.ref n1), .val (.ref n2), .val (.int md), .val (.int ct), .val (.ref qa), .val (.ref fc), .val (.ref s0), .val (.ref s1), .val (.ref s2), .val (.ref al), .unset, .unset, .unset] [(.ref al), (.ref fs), (.ref fs)]))
    refine W1281.callI (y := N36) rfl (wd133 hw) (wd134 hw) (wd132 hw) (wd135 hw) (by decide) (a := fs) (c_fssinit_3 l Z a0 hw hEL h1280 W1281.old fs al el ee emp kee r mr kr s0 s1 s2  A_fs F_schemes_fs z_fs (Ea2.ext E1282) (Za2.ext E1282) SL EL0 FE0 AE0 SM EM (Da2.ext E1282) MR (Er2.ext E1282) (Ar2.ext E1282) (E_s0.ext X1286) (E_s1.ext X1289) (E_s2.ext X1291)) (allS (m_ 0) all0) (by decide) (by decide) (k' := 60) (n' := 668) rfl rfl (by decide) (by decide) (by rw [hml]; rfl) (argsL := [(.ref al)]) (rest := [(.ref fs)]) (lenOf pd_31 rfl) rfl rfl (Wt := 1) (Nat.le_of_eq rfl) (hb hby at_215) ?_
    intro v_ T1292 h1294 W1293 hq_
    obtain ⟨lst, rfl, K_fs, E_fs, F_fs, ea, ke, E_l, F_e, A_e⟩ := hq_
    refine Go.by (fun _ q9 => XS.astore W1293.here W1293.hx rfl (hb hby at_218) rfl rfl (l' := #[.val (.int p0), .val (.int p1), .val (.int p2), .val (.int p3), .val (.int p4), .val (.ref n0), .val (.ref n1), .val (.ref n2), .val (.int md), .val (.int ct), .val (.ref qa), .val (.ref fc), .val (.ref s0), .val (.ref s1), .val (.ref s2), .val (.ref al), .val (.ref fs), .unset, .unset]) rfl (XS.aconstNull W1293.here W1293.hx rfl (hb hby at_220) (XS.astore W1293.here W1293.hx rfl (hb hby at_221) rfl rfl (l' := #[.val (.int p0), .val (.int p1), .val (.int p2), .val (.int p3), .val (.int p4), .val (.ref n0), .val (.ref n1), .val (.ref n2), .val (.int md), .val (.int ct), .val (.ref qa), .val (.ref fc), .val (.ref s0), .val (.ref s1), .val (.ref s2), .val (.ref al), .val (.ref fs), .val .null, .unset]) rfl (XS.iload W1293.here W1293.hx rfl (hb hby at_223) rfl (XS.iconst W1293.here W1293.hx rfl (hb hby at_225) q9))))) ?_
    refine Go.by (fun _ q9 => XS.icmpNo W1293.here W1293.hx rfl (hb hby at_226) rfl (flt c1).1 q9) ?_
    refine Go.by (fun _ q9 => XS.aload W1293.here W1293.hx rfl (hb hby at_229) rfl rfl (XS.aload W1293.here W1293.hx rfl (hb hby at_231) rfl rfl q9)) ?_
    have X1295 : Ext h1044 h1083 := (Ext.keep' E1072 K_fc (allS (Nat.le_of_eq g_fc) all0))
    have X1296 : Ext h1044 h1085 := (Ext.trans' X1295 E1087)
    have X1297 : Ext h1044 h1092 := (Ext.keep' X1296 K_s0 (allS (Nat.le_trans X1295.1 (Nat.le_of_eq g_s0)) all0))
    have X1298 : Ext h1044 h1094 := (Ext.trans' X1297 E1096)
    have X1299 : Ext h1044 h1101 := (Ext.keep' X1298 K_s1 (allS (Nat.le_trans X1297.1 (Nat.le_of_eq g_s1)) all0))
    have X1300 : Ext h1044 h1103 := (Ext.trans' X1299 E1105)
    have X1301 : Ext h1044 h1110 := (Ext.keep' X1300 K_s2 (allS (Nat.le_trans X1299.1 (Nat.le_of_eq g_s2)) all0))
    have X1302 : Ext h1044 h1112 := (Ext.trans' X1301 E1114)
    have X1303 : Ext h1044 h1117 := (Ext.keep' X1302 K_al (allS (Nat.le_trans X1301.1 (Nat.le_of_eq g_al)) all0))
    have X1304 : Ext h1044 h1264 := (Ext.keep' X1303 Ka0 (allS (Nat.le_trans X1301.1 (Nat.le_of_eq g_al)) all0))
    have X1305 : Ext h1044 h1272 := (Ext.keep' X1304 Ka1 (allS (Nat.le_trans X1301.1 (Nat.le_of_eq g_al)) (allS (Nat.le_trans X1303.1 gr) all0)))
    have X1306 : Ext h1044 h1278 := (Ext.keep' X1305 Ka2 (allS (Nat.le_trans X1301.1 (Nat.le_of_eq g_al)) (allS (Nat.le_trans X1303.1 gr) all0)))
    have X1307 : Ext h1044 h1280 := (Ext.trans' X1306 E1282)
    have X1308 : Ext h1044 h1294 := (Ext.keep' X1307 K_fs (allS (Nat.le_trans X1306.1 (Nat.le_of_eq g_fs)) all0))
    show Go _ _ _ _ _ _ _ _ _ (T1292.setTop (mkF m 233 #[.val (.int p0), .val (.int p1), .val (.int p2), .val (.int p3), .val (.int p4), .val (.ref n0), .val (.ref n1), .val (.ref n2), .val (.int md), .val (.int ct), .val (.ref qa), .val (.ref fc), .val (.ref s0), .val (.ref s1), .val (.ref s2), .val (.ref al), .val (.ref fs), .val .null, .unset] [(.ref qa), (.ref n0)]))
    refine W1293.strEq (k_eq hw) (wd5 hw) (wd319 hw) (wd320 hw) (wd322 hw) (wd321 hw) (T0'.ext X1308) (SQ.ext X1308) l0 lq (SG1.ext W1293.old) hG (by decide) (Wt := 0) (by decide) (by rw [hml]; rfl) (Nat.le_of_eq rfl) (by decide) (by decide) (hb hby at_233) ?_
    intro T1309 rr0 W1310 hrr0
    by_cases q0 : cs0 = cq
    · refine Go.by (fun _ q9 => XS.ifNo W1310.here W1310.hx rfl (hb hby at_236) rfl ((if0 _ _).trans (feq (by rw [hrr0, if_pos q0]; decide)).1) q9) ?_
      refine Go.by (fun _ q9 => XS.aload W1310.here W1310.hx rfl (hb hby at_239) rfl rfl (XS.astore W1310.here W1310.hx rfl (hb hby at_241) rfl rfl (l' := #[.val (.int p0), .val (.int p1), .val (.int p2), .val (.int p3), .val (.int p4), .val (.ref n0), .val (.ref n1), .val (.ref n2), .val (.int md), .val (.int ct), .val (.ref qa), .val (.ref fc), .val (.ref s0), .val (.ref s1), .val (.ref s2), .val (.ref al), .val (.ref fs), .val (.ref s0), .unset]) rfl (XS.goto W1310.here W1310.hx rfl (pc0 := 243) (pc' := 289) rfl (hb hby at_243) (by decide) (by decide) q9))) ?_
      refine Go.by (fun _ q9 => XS.aload W1310.here W1310.hx rfl (hb hby at_289) rfl rfl (XS.aload W1310.here W1310.hx rfl (hb hby at_291) rfl rfl q9)) ?_
      have X1311 : Ext h1092 h1294 := (Ext.keep' X1286 K_fs (allS (Nat.le_trans X1285.1 (Nat.le_of_eq g_fs)) all0))
      have X1312 : Ext h1101 h1294 := (Ext.keep' X1289 K_fs (allS (Nat.le_trans X1288.1 (Nat.le_of_eq g_fs)) all0))
      have X1313 : Ext h1110 h1294 := (Ext.keep' X1291 K_fs (allS (Nat.le_trans X1290.1 (Nat.le_of_eq g_fs)) all0))
      show Go _ _ _ _ _ _ _ _ _ (T1309.setTop (mkF m 293 #[.val (.int p0), .val (.int p1), .val (.int p2), .val (.int p3), .val (.int p4), .val (.ref n0), .val (.ref n1), .val (.ref n2), .val (.int md), .val (.int ct), .val (.ref qa), .val (.ref fc), .val (.ref s0), .val (.ref s1), .val (.ref s2), .val (.ref al), .val (.ref fs), .val (.ref s0), .unset] [(.ref qa), (.ref fs)]))
      refine W1310.callV (y := N55) (z := N55) (wd168 hw) (wd169 hw) (nf_sel rfl (wd171 hw)) (wd171 hw) (wd170 hw) (wd132 hw) (wd172 hw) (by decide) E_fs (a := fs) (c_scheme_3 l Z a0 hw hEL h1294 W1310.old lst ea s0 s1 s2 ke fs qa em cq G1 n0 n1 n2 cs0 cs1 cs2 SG1 hG SE EE FE E_fs F_fs E_l F_e A_e (E_s0.ext X1311) (E_s1.ext X1312) (E_s2.ext X1313) (SQ.ext X1308) lq (N_s0.ext X1311) (T0'.ext X1308) l0 (N_s1.ext X1312) (T1'.ext X1308) l1 (N_s2.ext X1313) (T2'.ext X1308) l2) all0 (by decide) (by decide) (k' := 62) (n' := 673) rfl rfl (by decide) (by decide) (by rw [hml]; rfl) (argsL := [(.ref qa)]) (rest := []) (lenOf pd_32 rfl) rfl rfl (Wt := 0) (Nat.le_of_eq rfl) (hb hby at_293) ?_
      intro v_ T1314 h1316 W1315 hq_
      obtain ⟨ro, rfl, X_ro, E_ro, F_ro⟩ := hq_
      rw [if_pos q0] at F_ro
      show Go _ _ _ _ _ _ _ _ _ (T1314.setTop (mkF m 296 #[.val (.int p0), .val (.int p1), .val (.int p2), .val (.int p3), .val (.int p4), .val (.ref n0), .val (.ref n1), .val (.ref n2), .val (.int md), .val (.int ct), .val (.ref qa), .val (.ref fc), .val (.ref s0), .val (.ref s1), .val (.ref s2), .val (.ref al), .val (.ref fs), .val (.ref s0), .unset] [(.ref ro)]))
      refine Go.by (fun _ q9 => XS.astore W1315.here W1315.hx rfl (hb hby at_296) rfl rfl (l' := #[.val (.int p0), .val (.int p1), .val (.int p2), .val (.int p3), .val (.int p4), .val (.ref n0), .val (.ref n1), .val (.ref n2), .val (.int md), .val (.int ct), .val (.ref qa), .val (.ref fc), .val (.ref s0), .val (.ref s1), .val (.ref s2), .val (.ref al), .val (.ref fs), .val (.ref s0), .val (.ref ro)]) rfl (XS.aload W1315.here W1315.hx rfl (hb hby at_298) rfl rfl q9)) ?_
      refine Go.by (fun _ q9 => XS.ifnonnullYes W1315.here W1315.hx rfl (pc0 := 300) (pc' := 317) rfl (hb hby at_300) rfl (by decide) (by decide) q9) ?_
      refine Go.by (fun _ q9 => XS.aload W1315.here W1315.hx rfl (hb hby at_317) rfl rfl q9) ?_
      show Go _ _ _ _ _ _ _ _ _ (T1314.setTop (mkF m 319 #[.val (.int p0), .val (.int p1), .val (.int p2), .val (.int p3), .val (.int p4), .val (.ref n0), .val (.ref n1), .val (.ref n2), .val (.int md), .val (.int ct), .val (.ref qa), .val (.ref fc), .val (.ref s0), .val (.ref s1), .val (.ref s2), .val (.ref al), .val (.ref fs), .val (.ref s0), .val (.ref ro)] [(.ref ro)]))
      refine W1315.callVp (y := N51) (z := N51) (wd218 hw) (wd219 hw) (nf_sel rfl (wd221 hw)) (wd221 hw) (wd220 hw) (wd86 hw) (wd222 hw) (by decide) E_ro (a := ro) (c_ispR l Z a0 hw hEL h1316 W1315.old ro s0 F_ro) all0 (by decide) (by decide) (k' := 62) (n' := 673) rfl rfl (by decide) (by decide) (by rw [hml]; rfl) (argsL := []) (rest := []) (lenOf pd_18 rfl) rfl rfl (Wt := 0) (Nat.le_of_eq rfl) (hb hby at_319) ?_
      intro T1317 W1318
      refine Go.by (fun _ q9 => XS.ifNo W1318.here W1318.hx rfl (hb hby at_322) rfl ((if0 _ _).trans (feq (by decide)).1) q9) ?_
      refine Go.by (fun _ q9 => XS.aload W1318.here W1318.hx rfl (hb hby at_325) rfl rfl q9) ?_
      show Go _ _ _ _ _ _ _ _ _ (T1317.setTop (mkF m 327 #[.val (.int p0), .val (.int p1), .val (.int p2), .val (.int p3), .val (.int p4), .val (.ref n0), .val (.ref n1), .val (.ref n2), .val (.int md), .val (.int ct), .val (.ref qa), .val (.ref fc), .val (.ref s0), .val (.ref s1), .val (.ref s2), .val (.ref al), .val (.ref fs), .val (.ref s0), .val (.ref ro)] [(.ref ro)]))
      refine W1318.callVp (y := N52) (z := N52) (wd373 hw) (wd374 hw) (nf_sel rfl (wd376 hw)) (wd376 hw) (wd375 hw) (wd86 hw) (wd377 hw) (by decide) E_ro (a := ro) (c_oget l Z a0 hw hEL h1316 W1318.old ro s0 F_ro) all0 (by decide) (by decide) (k' := 62) (n' := 673) rfl rfl (by decide) (by decide) (by rw [hml]; rfl) (argsL := []) (rest := []) (lenOf pd_25 rfl) rfl rfl (Wt := 0) (Nat.le_of_eq rfl) (hb hby at_327) ?_
      intro T1319 W1320
      refine Go.by (fun _ q9 => XS.aload W1320.here W1320.hx rfl (hb hby at_330) rfl rfl q9) ?_
      refine Go.by (fun _ q9 => acmpW W1320 (g := (mkF m 332 #[.val (.int p0), .val (.int p1), .val (.int p2), .val (.int p3), .val (.int p4), .val (.ref n0), .val (.ref n1), .val (.ref n2), .val (.int md), .val (.int ct), .val (.ref qa), .val (.ref fc), .val (.ref s0), .val (.ref s1), .val (.ref s2), .val (.ref al), .val (.ref fs), .val (.ref s0), .val (.ref ro)] [(.ref s0), (.ref s0)])) rfl rfl rfl (pc0 := 332) (pc' := 335) (same := true) rfl (hb hby at_332) rfl (decide_eq_true rfl) (by decide) (by decide) q9) ?_
      refine Go.by (fun _ q9 => XS.iconst W1320.here W1320.hx rfl (hb hby at_335) (XS.goto W1320.here W1320.hx rfl (pc0 := 336) (pc' := 340) rfl (hb hby at_336) (by decide) (by decide) q9)) ?_
      show Go _ _ _ _ _ _ _ _ _ (T1319.setTop (mkF m 340 #[.val (.int p0), .val (.int p1), .val (.int p2), .val (.int p3), .val (.int p4), .val (.ref n0), .val (.ref n1), .val (.ref n2), .val (.int md), .val (.int ct), .val (.ref qa), .val (.ref fc), .val (.ref s0), .val (.ref s1), .val (.ref s2), .val (.ref al), .val (.ref fs), .val (.ref s0), .val (.ref ro)] [(.int (1 : Int32))]))
      exact W1320.retN (z' := (1 : Int32)) (by decide) (by decide) hret (by simp) (hb hby at_340) rfl rfl
    · refine Go.by (fun _ q9 => XS.ifYes W1310.here W1310.hx rfl (pc0 := 236) (pc' := 246) rfl (hb hby at_236) rfl ((if0 _ _).trans (teq (by rw [hrr0, if_neg q0])).1) (by decide) (by decide) q9) ?_
      refine Go.by (fun _ q9 => XS.iload W1310.here W1310.hx rfl (hb hby at_246) rfl (XS.iconst W1310.here W1310.hx rfl (hb hby at_248) q9)) ?_
      refine Go.by (fun _ q9 => XS.icmpNo W1310.here W1310.hx rfl (hb hby at_249) rfl (flt c2).1 q9) ?_
      refine Go.by (fun _ q9 => XS.aload W1310.here W1310.hx rfl (hb hby at_252) rfl rfl (XS.aload W1310.here W1310.hx rfl (hb hby at_254) rfl rfl q9)) ?_
      show Go _ _ _ _ _ _ _ _ _ (T1309.setTop (mkF m 256 #[.val (.int p0), .val (.int p1), .val (.int p2), .val (.int p3), .val (.int p4), .val (.ref n0), .val (.ref n1), .val (.ref n2), .val (.int md), .val (.int ct), .val (.ref qa), .val (.ref fc), .val (.ref s0), .val (.ref s1), .val (.ref s2), .val (.ref al), .val (.ref fs), .val .null, .unset] [(.ref qa), (.ref n1)]))
      refine W1310.strEq (k_eq hw) (wd5 hw) (wd319 hw) (wd320 hw) (wd322 hw) (wd321 hw) (T1'.ext X1308) (SQ.ext X1308) l1 lq (SG1.ext W1310.old) hG (by decide) (Wt := 0) (by decide) (by rw [hml]; rfl) (Nat.le_of_eq rfl) (by decide) (by decide) (hb hby at_256) ?_
      intro T1321 rr1 W1322 hrr1
      by_cases q1 : cs1 = cq
      · refine Go.by (fun _ q9 => XS.ifNo W1322.here W1322.hx rfl (hb hby at_259) rfl ((if0 _ _).trans (feq (by rw [hrr1, if_pos q1]; decide)).1) q9) ?_
        refine Go.by (fun _ q9 => XS.aload W1322.here W1322.hx rfl (hb hby at_262) rfl rfl (XS.astore W1322.here W1322.hx rfl (hb hby at_264) rfl rfl (l' := #[.val (.int p0), .val (.int p1), .val (.int p2), .val (.int p3), .val (.int p4), .val (.ref n0), .val (.ref n1), .val (.ref n2), .val (.int md), .val (.int ct), .val (.ref qa), .val (.ref fc), .val (.ref s0), .val (.ref s1), .val (.ref s2), .val (.ref al), .val (.ref fs), .val (.ref s1), .unset]) rfl (XS.goto W1322.here W1322.hx rfl (pc0 := 266) (pc' := 289) rfl (hb hby at_266) (by decide) (by decide) q9))) ?_
        refine Go.by (fun _ q9 => XS.aload W1322.here W1322.hx rfl (hb hby at_289) rfl rfl (XS.aload W1322.here W1322.hx rfl (hb hby at_291) rfl rfl q9)) ?_
        have X1323 : Ext h1092 h1294 := (Ext.keep' X1286 K_fs (allS (Nat.le_trans X1285.1 (Nat.le_of_eq g_fs)) all0))
        have X1324 : Ext h1101 h1294 := (Ext.keep' X1289 K_fs (allS (Nat.le_trans X1288.1 (Nat.le_of_eq g_fs)) all0))
        have X1325 : Ext h1110 h1294 := (Ext.keep' X1291 K_fs (allS (Nat.le_trans X1290.1 (Nat.le_of_eq g_fs)) all0))
        show Go _ _ _ _ _ _ _ _ _ (T1321.setTop (mkF m 293 #[.val (.int p0), .val (.int p1), .val (.int p2), .val (.int p3), .val (.int p4), .val (.ref n0), .val (.ref n1), .val (.ref n2), .val (.int md), .val (.int ct), .val (.ref qa), .val (.ref fc), .val (.ref s0), .val (.ref s1), .val (.ref s2), .val (.ref al), .val (.ref fs), .val (.ref s1), .unset] [(.ref qa), (.ref fs)]))
        refine W1322.callV (y := N55) (z := N55) (wd168 hw) (wd169 hw) (nf_sel rfl (wd171 hw)) (wd171 hw) (wd170 hw) (wd132 hw) (wd172 hw) (by decide) E_fs (a := fs) (c_scheme_3 l Z a0 hw hEL h1294 W1322.old lst ea s0 s1 s2 ke fs qa em cq G1 n0 n1 n2 cs0 cs1 cs2 SG1 hG SE EE FE E_fs F_fs E_l F_e A_e (E_s0.ext X1323) (E_s1.ext X1324) (E_s2.ext X1325) (SQ.ext X1308) lq (N_s0.ext X1323) (T0'.ext X1308) l0 (N_s1.ext X1324) (T1'.ext X1308) l1 (N_s2.ext X1325) (T2'.ext X1308) l2) all0 (by decide) (by decide) (k' := 62) (n' := 673) rfl rfl (by decide) (by decide) (by rw [hml]; rfl) (argsL := [(.ref qa)]) (rest := []) (lenOf pd_32 rfl) rfl rfl (Wt := 0) (Nat.le_of_eq rfl) (hb hby at_293) ?_
        intro v_ T1326 h1328 W1327 hq_
        obtain ⟨ro, rfl, X_ro, E_ro, F_ro⟩ := hq_
        rw [if_neg q0, if_pos q1] at F_ro
        show Go _ _ _ _ _ _ _ _ _ (T1326.setTop (mkF m 296 #[.val (.int p0), .val (.int p1), .val (.int p2), .val (.int p3), .val (.int p4), .val (.ref n0), .val (.ref n1), .val (.ref n2), .val (.int md), .val (.int ct), .val (.ref qa), .val (.ref fc), .val (.ref s0), .val (.ref s1), .val (.ref s2), .val (.ref al), .val (.ref fs), .val (.ref s1), .unset] [(.ref ro)]))
        refine Go.by (fun _ q9 => XS.astore W1327.here W1327.hx rfl (hb hby at_296) rfl rfl (l' := #[.val (.int p0), .val (.int p1), .val (.int p2), .val (.int p3), .val (.int p4), .val (.ref n0), .val (.ref n1), .val (.ref n2), .val (.int md), .val (.int ct), .val (.ref qa), .val (.ref fc), .val (.ref s0), .val (.ref s1), .val (.ref s2), .val (.ref al), .val (.ref fs), .val (.ref s1), .val (.ref ro)]) rfl (XS.aload W1327.here W1327.hx rfl (hb hby at_298) rfl rfl q9)) ?_
        refine Go.by (fun _ q9 => XS.ifnonnullYes W1327.here W1327.hx rfl (pc0 := 300) (pc' := 317) rfl (hb hby at_300) rfl (by decide) (by decide) q9) ?_
        refine Go.by (fun _ q9 => XS.aload W1327.here W1327.hx rfl (hb hby at_317) rfl rfl q9) ?_
        show Go _ _ _ _ _ _ _ _ _ (T1326.setTop (mkF m 319 #[.val (.int p0), .val (.int p1), .val (.int p2), .val (.int p3), .val (.int p4), .val (.ref n0), .val (.ref n1), .val (.ref n2), .val (.int md), .val (.int ct), .val (.ref qa), .val (.ref fc), .val (.ref s0), .val (.ref s1), .val (.ref s2), .val (.ref al), .val (.ref fs), .val (.ref s1), .val (.ref ro)] [(.ref ro)]))
        refine W1327.callVp (y := N51) (z := N51) (wd218 hw) (wd219 hw) (nf_sel rfl (wd221 hw)) (wd221 hw) (wd220 hw) (wd86 hw) (wd222 hw) (by decide) E_ro (a := ro) (c_ispR l Z a0 hw hEL h1328 W1327.old ro s1 F_ro) all0 (by decide) (by decide) (k' := 62) (n' := 673) rfl rfl (by decide) (by decide) (by rw [hml]; rfl) (argsL := []) (rest := []) (lenOf pd_18 rfl) rfl rfl (Wt := 0) (Nat.le_of_eq rfl) (hb hby at_319) ?_
        intro T1329 W1330
        refine Go.by (fun _ q9 => XS.ifNo W1330.here W1330.hx rfl (hb hby at_322) rfl ((if0 _ _).trans (feq (by decide)).1) q9) ?_
        refine Go.by (fun _ q9 => XS.aload W1330.here W1330.hx rfl (hb hby at_325) rfl rfl q9) ?_
        show Go _ _ _ _ _ _ _ _ _ (T1329.setTop (mkF m 327 #[.val (.int p0), .val (.int p1), .val (.int p2), .val (.int p3), .val (.int p4), .val (.ref n0), .val (.ref n1), .val (.ref n2), .val (.int md), .val (.int ct), .val (.ref qa), .val (.ref fc), .val (.ref s0), .val (.ref s1), .val (.ref s2), .val (.ref al), .val (.ref fs), .val (.ref s1), .val (.ref ro)] [(.ref ro)]))
        refine W1330.callVp (y := N52) (z := N52) (wd373 hw) (wd374 hw) (nf_sel rfl (wd376 hw)) (wd376 hw) (wd375 hw) (wd86 hw) (wd377 hw) (by decide) E_ro (a := ro) (c_oget l Z a0 hw hEL h1328 W1330.old ro s1 F_ro) all0 (by decide) (by decide) (k' := 62) (n' := 673) rfl rfl (by decide) (by decide) (by rw [hml]; rfl) (argsL := []) (rest := []) (lenOf pd_25 rfl) rfl rfl (Wt := 0) (Nat.le_of_eq rfl) (hb hby at_327) ?_
        intro T1331 W1332
        refine Go.by (fun _ q9 => XS.aload W1332.here W1332.hx rfl (hb hby at_330) rfl rfl q9) ?_
        refine Go.by (fun _ q9 => acmpW W1332 (g := (mkF m 332 #[.val (.int p0), .val (.int p1), .val (.int p2), .val (.int p3), .val (.int p4), .val (.ref n0), .val (.ref n1), .val (.ref n2), .val (.int md), .val (.int ct), .val (.ref qa), .val (.ref fc), .val (.ref s0), .val (.ref s1), .val (.ref s2), .val (.ref al), .val (.ref fs), .val (.ref s1), .val (.ref ro)] [(.ref s1), (.ref s1)])) rfl rfl rfl (pc0 := 332) (pc' := 335) (same := true) rfl (hb hby at_332) rfl (decide_eq_true rfl) (by decide) (by decide) q9) ?_
        refine Go.by (fun _ q9 => XS.iconst W1332.here W1332.hx rfl (hb hby at_335) (XS.goto W1332.here W1332.hx rfl (pc0 := 336) (pc' := 340) rfl (hb hby at_336) (by decide) (by decide) q9)) ?_
        show Go _ _ _ _ _ _ _ _ _ (T1331.setTop (mkF m 340 #[.val (.int p0), .val (.int p1), .val (.int p2), .val (.int p3), .val (.int p4), .val (.ref n0), .val (.ref n1), .val (.ref n2), .val (.int md), .val (.int ct), .val (.ref qa), .val (.ref fc), .val (.ref s0), .val (.ref s1), .val (.ref s2), .val (.ref al), .val (.ref fs), .val (.ref s1), .val (.ref ro)] [(.int (1 : Int32))]))
        exact W1332.retN (z' := (1 : Int32)) (by decide) (by decide) hret (by simp) (hb hby at_340) rfl rfl
      · refine Go.by (fun _ q9 => XS.ifYes W1322.here W1322.hx rfl (pc0 := 259) (pc' := 269) rfl (hb hby at_259) rfl ((if0 _ _).trans (teq (by rw [hrr1, if_neg q1])).1) (by decide) (by decide) q9) ?_
        refine Go.by (fun _ q9 => XS.iload W1322.here W1322.hx rfl (hb hby at_269) rfl (XS.iconst W1322.here W1322.hx rfl (hb hby at_271) q9)) ?_
        refine Go.by (fun _ q9 => XS.icmpNo W1322.here W1322.hx rfl (hb hby at_272) rfl (flt c3).1 q9) ?_
        refine Go.by (fun _ q9 => XS.aload W1322.here W1322.hx rfl (hb hby at_275) rfl rfl (XS.aload W1322.here W1322.hx rfl (hb hby at_277) rfl rfl q9)) ?_
        show Go _ _ _ _ _ _ _ _ _ (T1321.setTop (mkF m 279 #[.val (.int p0), .val (.int p1), .val (.int p2), .val (.int p3), .val (.int p4), .val (.ref n0), .val (.ref n1), .val (.ref n2), .val (.int md), .val (.int ct), .val (.ref qa), .val (.ref fc), .val (.ref s0), .val (.ref s1), .val (.ref s2), .val (.ref al), .val (.ref fs), .val .null, .unset] [(.ref qa), (.ref n2)]))
        refine W1322.strEq (k_eq hw) (wd5 hw) (wd319 hw) (wd320 hw) (wd322 hw) (wd321 hw) (T2'.ext X1308) (SQ.ext X1308) l2 lq (SG1.ext W1322.old) hG (by decide) (Wt := 0) (by decide) (by rw [hml]; rfl) (Nat.le_of_eq rfl) (by decide) (by decide) (hb hby at_279) ?_
        intro T1333 rr2 W1334 hrr2
        by_cases q2 : cs2 = cq
        · refine Go.by (fun _ q9 => XS.ifNo W1334.here W1334.hx rfl (hb hby at_282) rfl ((if0 _ _).trans (feq (by rw [hrr2, if_pos q2]; decide)).1) q9) ?_
          refine Go.by (fun _ q9 => XS.aload W1334.here W1334.hx rfl (hb hby at_285) rfl rfl (XS.astore W1334.here W1334.hx rfl (hb hby at_287) rfl rfl (l' := #[.val (.int p0), .val (.int p1), .val (.int p2), .val (.int p3), .val (.int p4), .val (.ref n0), .val (.ref n1), .val (.ref n2), .val (.int md), .val (.int ct), .val (.ref qa), .val (.ref fc), .val (.ref s0), .val (.ref s1), .val (.ref s2), .val (.ref al), .val (.ref fs), .val (.ref s2), .unset]) rfl q9)) ?_
          refine Go.by (fun _ q9 => XS.aload W1334.here W1334.hx rfl (hb hby at_289) rfl rfl (XS.aload W1334.here W1334.hx rfl (hb hby at_291) rfl rfl q9)) ?_
          have X1335 : Ext h1092 h1294 := (Ext.keep' X1286 K_fs (allS (Nat.le_trans X1285.1 (Nat.le_of_eq g_fs)) all0))
          have X1336 : Ext h1101 h1294 := (Ext.keep' X1289 K_fs (allS (Nat.le_trans X1288.1 (Nat.le_of_eq g_fs)) all0))
          have X1337 : Ext h1110 h1294 := (Ext.keep' X1291 K_fs (allS (Nat.le_trans X1290.1 (Nat.le_of_eq g_fs)) all0))
          show Go _ _ _ _ _ _ _ _ _ (T1333.setTop (mkF m 293 #[.val (.int p0), .val (.int p1), .val (.int p2), .val (.int p3), .val (.int p4), .val (.ref n0), .val (.ref n1), .val (.ref n2), .val (.int md), .val (.int ct), .val (.ref qa), .val (.ref fc), .val (.ref s0), .val (.ref s1), .val (.ref s2), .val (.ref al), .val (.ref fs), .val (.ref s2), .unset] [(.ref qa), (.ref fs)]))
          refine W1334.callV (y := N55) (z := N55) (wd168 hw) (wd169 hw) (nf_sel rfl (wd171 hw)) (wd171 hw) (wd170 hw) (wd132 hw) (wd172 hw) (by decide) E_fs (a := fs) (c_scheme_3 l Z a0 hw hEL h1294 W1334.old lst ea s0 s1 s2 ke fs qa em cq G1 n0 n1 n2 cs0 cs1 cs2 SG1 hG SE EE FE E_fs F_fs E_l F_e A_e (E_s0.ext X1335) (E_s1.ext X1336) (E_s2.ext X1337) (SQ.ext X1308) lq (N_s0.ext X1335) (T0'.ext X1308) l0 (N_s1.ext X1336) (T1'.ext X1308) l1 (N_s2.ext X1337) (T2'.ext X1308) l2) all0 (by decide) (by decide) (k' := 62) (n' := 673) rfl rfl (by decide) (by decide) (by rw [hml]; rfl) (argsL := [(.ref qa)]) (rest := []) (lenOf pd_32 rfl) rfl rfl (Wt := 0) (Nat.le_of_eq rfl) (hb hby at_293) ?_
          intro v_ T1338 h1340 W1339 hq_
          obtain ⟨ro, rfl, X_ro, E_ro, F_ro⟩ := hq_
          rw [if_neg q0, if_neg q1, if_pos q2] at F_ro
          show Go _ _ _ _ _ _ _ _ _ (T1338.setTop (mkF m 296 #[.val (.int p0), .val (.int p1), .val (.int p2), .val (.int p3), .val (.int p4), .val (.ref n0), .val (.ref n1), .val (.ref n2), .val (.int md), .val (.int ct), .val (.ref qa), .val (.ref fc), .val (.ref s0), .val (.ref s1), .val (.ref s2), .val (.ref al), .val (.ref fs), .val (.ref s2), .unset] [(.ref ro)]))
          refine Go.by (fun _ q9 => XS.astore W1339.here W1339.hx rfl (hb hby at_296) rfl rfl (l' := #[.val (.int p0), .val (.int p1), .val (.int p2), .val (.int p3), .val (.int p4), .val (.ref n0), .val (.ref n1), .val (.ref n2), .val (.int md), .val (.int ct), .val (.ref qa), .val (.ref fc), .val (.ref s0), .val (.ref s1), .val (.ref s2), .val (.ref al), .val (.ref fs), .val (.ref s2), .val (.ref ro)]) rfl (XS.aload W1339.here W1339.hx rfl (hb hby at_298) rfl rfl q9)) ?_
          refine Go.by (fun _ q9 => XS.ifnonnullYes W1339.here W1339.hx rfl (pc0 := 300) (pc' := 317) rfl (hb hby at_300) rfl (by decide) (by decide) q9) ?_
          refine Go.by (fun _ q9 => XS.aload W1339.here W1339.hx rfl (hb hby at_317) rfl rfl q9) ?_
          show Go _ _ _ _ _ _ _ _ _ (T1338.setTop (mkF m 319 #[.val (.int p0), .val (.int p1), .val (.int p2), .val (.int p3), .val (.int p4), .val (.ref n0), .val (.ref n1), .val (.ref n2), .val (.int md), .val (.int ct), .val (.ref qa), .val (.ref fc), .val (.ref s0), .val (.ref s1), .val (.ref s2), .val (.ref al), .val (.ref fs), .val (.ref s2), .val (.ref ro)] [(.ref ro)]))
          refine W1339.callVp (y := N51) (z := N51) (wd218 hw) (wd219 hw) (nf_sel rfl (wd221 hw)) (wd221 hw) (wd220 hw) (wd86 hw) (wd222 hw) (by decide) E_ro (a := ro) (c_ispR l Z a0 hw hEL h1340 W1339.old ro s2 F_ro) all0 (by decide) (by decide) (k' := 62) (n' := 673) rfl rfl (by decide) (by decide) (by rw [hml]; rfl) (argsL := []) (rest := []) (lenOf pd_18 rfl) rfl rfl (Wt := 0) (Nat.le_of_eq rfl) (hb hby at_319) ?_
          intro T1341 W1342
          refine Go.by (fun _ q9 => XS.ifNo W1342.here W1342.hx rfl (hb hby at_322) rfl ((if0 _ _).trans (feq (by decide)).1) q9) ?_
          refine Go.by (fun _ q9 => XS.aload W1342.here W1342.hx rfl (hb hby at_325) rfl rfl q9) ?_
          show Go _ _ _ _ _ _ _ _ _ (T1341.setTop (mkF m 327 #[.val (.int p0), .val (.int p1), .val (.int p2), .val (.int p3), .val (.int p4), .val (.ref n0), .val (.ref n1), .val (.ref n2), .val (.int md), .val (.int ct), .val (.ref qa), .val (.ref fc), .val (.ref s0), .val (.ref s1), .val (.ref s2), .val (.ref al), .val (.ref fs), .val (.ref s2), .val (.ref ro)] [(.ref ro)]))
          refine W1342.callVp (y := N52) (z := N52) (wd373 hw) (wd374 hw) (nf_sel rfl (wd376 hw)) (wd376 hw) (wd375 hw) (wd86 hw) (wd377 hw) (by decide) E_ro (a := ro) (c_oget l Z a0 hw hEL h1340 W1342.old ro s2 F_ro) all0 (by decide) (by decide) (k' := 62) (n' := 673) rfl rfl (by decide) (by decide) (by rw [hml]; rfl) (argsL := []) (rest := []) (lenOf pd_25 rfl) rfl rfl (Wt := 0) (Nat.le_of_eq rfl) (hb hby at_327) ?_
          intro T1343 W1344
          refine Go.by (fun _ q9 => XS.aload W1344.here W1344.hx rfl (hb hby at_330) rfl rfl q9) ?_
          refine Go.by (fun _ q9 => acmpW W1344 (g := (mkF m 332 #[.val (.int p0), .val (.int p1), .val (.int p2), .val (.int p3), .val (.int p4), .val (.ref n0), .val (.ref n1), .val (.ref n2), .val (.int md), .val (.int ct), .val (.ref qa), .val (.ref fc), .val (.ref s0), .val (.ref s1), .val (.ref s2), .val (.ref al), .val (.ref fs), .val (.ref s2), .val (.ref ro)] [(.ref s2), (.ref s2)])) rfl rfl rfl (pc0 := 332) (pc' := 335) (same := true) rfl (hb hby at_332) rfl (decide_eq_true rfl) (by decide) (by decide) q9) ?_
          refine Go.by (fun _ q9 => XS.iconst W1344.here W1344.hx rfl (hb hby at_335) (XS.goto W1344.here W1344.hx rfl (pc0 := 336) (pc' := 340) rfl (hb hby at_336) (by decide) (by decide) q9)) ?_
          show Go _ _ _ _ _ _ _ _ _ (T1343.setTop (mkF m 340 #[.val (.int p0), .val (.int p1), .val (.int p2), .val (.int p3), .val (.int p4), .val (.ref n0), .val (.ref n1), .val (.ref n2), .val (.int md), .val (.int ct), .val (.ref qa), .val (.ref fc), .val (.ref s0), .val (.ref s1), .val (.ref s2), .val (.ref al), .val (.ref fs), .val (.ref s2), .val (.ref ro)] [(.int (1 : Int32))]))
          exact W1344.retN (z' := (1 : Int32)) (by decide) (by decide) hret (by simp) (hb hby at_340) rfl rfl
        · refine Go.by (fun _ q9 => XS.ifYes W1334.here W1334.hx rfl (pc0 := 282) (pc' := 289) rfl (hb hby at_282) rfl ((if0 _ _).trans (teq (by rw [hrr2, if_neg q2])).1) (by decide) (by decide) q9) ?_
          refine Go.by (fun _ q9 => XS.aload W1334.here W1334.hx rfl (hb hby at_289) rfl rfl (XS.aload W1334.here W1334.hx rfl (hb hby at_291) rfl rfl q9)) ?_
          have X1345 : Ext h1092 h1294 := (Ext.keep' X1286 K_fs (allS (Nat.le_trans X1285.1 (Nat.le_of_eq g_fs)) all0))
          have X1346 : Ext h1101 h1294 := (Ext.keep' X1289 K_fs (allS (Nat.le_trans X1288.1 (Nat.le_of_eq g_fs)) all0))
          have X1347 : Ext h1110 h1294 := (Ext.keep' X1291 K_fs (allS (Nat.le_trans X1290.1 (Nat.le_of_eq g_fs)) all0))
          show Go _ _ _ _ _ _ _ _ _ (T1333.setTop (mkF m 293 #[.val (.int p0), .val (.int p1), .val (.int p2), .val (.int p3), .val (.int p4), .val (.ref n0), .val (.ref n1), .val (.ref n2), .val (.int md), .val (.int ct), .val (.ref qa), .val (.ref fc), .val (.ref s0), .val (.ref s1), .val (.ref s2), .val (.ref al), .val (.ref fs), .val .null, .unset] [(.ref qa), (.ref fs)]))
          refine W1334.callV (y := N55) (z := N55) (wd168 hw) (wd169 hw) (nf_sel rfl (wd171 hw)) (wd171 hw) (wd170 hw) (wd132 hw) (wd172 hw) (by decide) E_fs (a := fs) (c_scheme_3 l Z a0 hw hEL h1294 W1334.old lst ea s0 s1 s2 ke fs qa em cq G1 n0 n1 n2 cs0 cs1 cs2 SG1 hG SE EE FE E_fs F_fs E_l F_e A_e (E_s0.ext X1345) (E_s1.ext X1346) (E_s2.ext X1347) (SQ.ext X1308) lq (N_s0.ext X1345) (T0'.ext X1308) l0 (N_s1.ext X1346) (T1'.ext X1308) l1 (N_s2.ext X1347) (T2'.ext X1308) l2) all0 (by decide) (by decide) (k' := 62) (n' := 673) rfl rfl (by decide) (by decide) (by rw [hml]; rfl) (argsL := [(.ref qa)]) (rest := []) (lenOf pd_32 rfl) rfl rfl (Wt := 0) (Nat.le_of_eq rfl) (hb hby at_293) ?_
          intro v_ T1348 h1350 W1349 hq_
          obtain ⟨ro, rfl, X_ro, E_ro, F_ro⟩ := hq_
          rw [if_neg q0, if_neg q1, if_neg q2] at F_ro
          show Go _ _ _ _ _ _ _ _ _ (T1348.setTop (mkF m 296 #[.val (.int p0), .val (.int p1), .val (.int p2), .val (.int p3), .val (.int p4), .val (.ref n0), .val (.ref n1), .val (.ref n2), .val (.int md), .val (.int ct), .val (.ref qa), .val (.ref fc), .val (.ref s0), .val (.ref s1), .val (.ref s2), .val (.ref al), .val (.ref fs), .val .null, .unset] [(.ref ro)]))
          refine Go.by (fun _ q9 => XS.astore W1349.here W1349.hx rfl (hb hby at_296) rfl rfl (l' := #[.val (.int p0), .val (.int p1), .val (.int p2), .val (.int p3), .val (.int p4), .val (.ref n0), .val (.ref n1), .val (.ref n2), .val (.int md), .val (.int ct), .val (.ref qa), .val (.ref fc), .val (.ref s0), .val (.ref s1), .val (.ref s2), .val (.ref al), .val (.ref fs), .val .null, .val (.ref ro)]) rfl (XS.aload W1349.here W1349.hx rfl (hb hby at_298) rfl rfl q9)) ?_
          refine Go.by (fun _ q9 => XS.ifnonnullNo W1349.here W1349.hx rfl (hb hby at_300) rfl q9) ?_
          refine Go.by (fun _ q9 => XS.aload W1349.here W1349.hx rfl (hb hby at_303) rfl rfl q9) ?_
          show Go _ _ _ _ _ _ _ _ _ (T1348.setTop (mkF m 305 #[.val (.int p0), .val (.int p1), .val (.int p2), .val (.int p3), .val (.int p4), .val (.ref n0), .val (.ref n1), .val (.ref n2), .val (.int md), .val (.int ct), .val (.ref qa), .val (.ref fc), .val (.ref s0), .val (.ref s1), .val (.ref s2), .val (.ref al), .val (.ref fs), .val .null, .val (.ref ro)] [(.ref ro)]))
          refine W1349.callVp (y := N51) (z := N51) (wd218 hw) (wd219 hw) (nf_sel rfl (wd221 hw)) (wd221 hw) (wd220 hw) (wd86 hw) (wd222 hw) (by decide) E_ro (a := ro) (c_ispN l Z a0 hw hEL h1350 W1349.old ro ro F_ro) all0 (by decide) (by decide) (k' := 62) (n' := 673) rfl rfl (by decide) (by decide) (by rw [hml]; rfl) (argsL := []) (rest := []) (lenOf pd_18 rfl) rfl rfl (Wt := 0) (Nat.le_of_eq rfl) (hb hby at_305) ?_
          intro T1351 W1352
          refine Go.by (fun _ q9 => XS.ifNo W1352.here W1352.hx rfl (hb hby at_308) rfl ((if0 _ _).trans (teq rfl).2) q9) ?_
          refine Go.by (fun _ q9 => XS.iconst W1352.here W1352.hx rfl (hb hby at_311) (XS.goto W1352.here W1352.hx rfl (pc0 := 312) (pc' := 316) rfl (hb hby at_312) (by decide) (by decide) q9)) ?_
          show Go _ _ _ _ _ _ _ _ _ (T1351.setTop (mkF m 316 #[.val (.int p0), .val (.int p1), .val (.int p2), .val (.int p3), .val (.int p4), .val (.ref n0), .val (.ref n1), .val (.ref n2), .val (.int md), .val (.int ct), .val (.ref qa), .val (.ref fc), .val (.ref s0), .val (.ref s1), .val (.ref s2), .val (.ref al), .val (.ref fs), .val .null, .val (.ref ro)] [(.int (1 : Int32))]))
          exact W1352.retN (z' := (1 : Int32)) (by decide) (by decide) hret (by simp) (hb hby at_316) rfl rfl
end Co
set_option maxRecDepth 65536 in
set_option maxHeartbeats 40000000 in
theorem comes_1 {Post : Tables → Env → Array Value → State → Outcome → State → Prop} (hpost : ∀ tb e args s v u, (limb_1_1.after args s (.returned v) u = true ∧ limb_1_2.after args s (.returned v) u = true ∧ True) → FramedW s (.returned v) u (Jvm.fieldLocs frame_1_writes args s ++ Jvm.arrayLocs frame_1_arrays args s ++ Jvm.staticLocs frame_1_statics s) 72 8448 → Post tb e args s (.returned v) u) :
    ArmFor flags0 classFile x code maxLocals ret World_1 tables_1 room_1 Calls_1 rest_1 Pre_1 Post := by
  intro l hfl _ _ p e ha hc hk s m args below hf hA hF happ hP
  obtain ⟨hcalls, hrest, hpre⟩ := hP
  obtain ⟨-, -, -, hnamed, -, -, -, hat⟩ := (Spec.applies_iff hf).mp happ
  obtain ⟨hg, hn⟩ := and_e (Cond.before_iff.mp (show (Jvm.Cond.and given_1 narrow_1).before args s = true from hpre))
  obtain ⟨h1, hg0⟩ := and_e hg
  obtain ⟨ga0, hg1⟩ := and_e hg0
  obtain ⟨ga1, hg2⟩ := and_e hg1
  obtain ⟨ga2, hg3⟩ := and_e hg2
  obtain ⟨ga3, hg4⟩ := and_e hg3
  have ga4 := hg4
  obtain ⟨w0, w1, w2, w3, w4, rfl⟩ : ∃ w0 w1 w2 w3 w4 : Value, args = #[w0, w1, w2, w3, w4] := by
    have hs : args.size = 5 := by simpa [Cond.value, given_1] using h1
    obtain ⟨L⟩ := args
    match L, hs with
    | [w0, w1, w2, w3, w4], _ => exact ⟨w0, w1, w2, w3, w4, rfl⟩
  have hw := fun d (hd : d ∈ tables_1) => atoms_spec (ws := Jvm.Cond.code x code maxLocals ret :: tables_1) hat d (List.mem_cons_of_mem _ hd)
  obtain ⟨hsets, hown0⟩ := atoms_of _ (rest_1_c_eq ▸ (show rest_1_c.before _ s = true from hrest))
  have hfit : Fit s := fun {y c} hc i hi => by
    obtain ⟨ha, rfl⟩ := Array.getElem?_eq_some_iff.mp hc
    have q := List.all_eq_true.mp ((Array.all_eq_true_iff_forall_mem.mp hF) _ (Array.getElem_mem ha)) i (List.mem_range.mpr hi)
    simpa [Array.getElem?_eq_getElem hi] using q
  obtain ⟨p0, ea0⟩ := is_v ga0
  obtain rfl : w0 = (.int p0) := Option.some.inj ea0
  obtain ⟨p1, ea1⟩ := is_v ga1
  obtain rfl : w1 = (.int p1) := Option.some.inj ea1
  obtain ⟨p2, ea2⟩ := is_v ga2
  obtain rfl : w2 = (.int p2) := Option.some.inj ea2
  obtain ⟨p3, ea3⟩ := is_v ga3
  obtain rfl : w3 = (.int p3) := Option.some.inj ea3
  obtain ⟨p4, ea4⟩ := is_v ga4
  obtain rfl : w4 = (.int p4) := Option.some.inj ea4
  have hcw := hsets _ (m_ 2)
  have nG := not_v (Cond.before_iff.mp hcw)
  obtain ⟨G1, eG⟩ := is_v (Cond.before_iff.mp (hsets _ (m_ 1)))
  have SG1 : Sta s s.heap "java/lang/String" "COMPACT_STRINGS" "Z" (.int G1) := Sta.start eG (Or.inl (hsets _ (m_ 0)))
  have hG : ¬ (G1 = (0 : Int32)) := gotF (Cond.eq_ints eG (Term.int_eval (0))) nG
  obtain ⟨bz, SZ, EZ, eZ⟩ := sta_exa (Cond.before_iff.mp (hsets _ (m_ 13))) (Or.inl (hsets _ (m_ 10)))
  have FZ : Fld s s.heap bz "java/math/BigDecimal" "intCompact" "J" (.long 0) := Fld.start (by rw [← fld_at eZ]; exact Cond.eq_long (hsets _ (m_ 15)) rfl)
  obtain ⟨em, SE, EE, eE⟩ := sta_exa (Cond.before_iff.mp (hsets _ (m_ 24))) (Or.inl (hsets _ (m_ 23)))
  have FE : Fld s s.heap em "java/util/Optional" "value" "Ljava/lang/Object;" .null := Fld.start (by rw [← fld_at eE]; exact null_v (Cond.before_iff.mp (hsets _ (m_ 25))))
  obtain ⟨dd, SD, XD, eD⟩ := sta_exa (Cond.before_iff.mp (hsets _ (m_ 33))) (Or.inr ⟨(wd108 hw), (hsets _ (m_ 28))⟩)
  obtain ⟨kd, DA⟩ := arv_of (z := 0) (vs := []) (dv := .null) hfit eD (Cond.before_iff.mp (hsets _ (m_ 32))) (Cond.eq_int (hsets _ (m_ 34)) rfl) (by decide) (by rfl) (by simp) trivial
  obtain ⟨el, SL, EL0, eL⟩ := sta_exa (Cond.before_iff.mp (hsets _ (m_ 37))) (Or.inl (hsets _ (m_ 36)))
  obtain ⟨ee, eEE⟩ := arr_v (Cond.before_iff.mp (hsets _ (m_ 38)))
  obtain ⟨kee, AE0⟩ := arv_of (z := 0) (vs := []) (dv := .null) hfit eEE (Cond.before_iff.mp (hsets _ (m_ 38))) (Cond.eq_int (hsets _ (m_ 40)) rfl) (by decide) (by rfl) (by simp) trivial
  have FE0 : Fld s s.heap el cLN "elements" "[Ljava/lang/Object;" (.ref ee) := Fld.start (by rw [← fld_at eL]; exact eEE)
  obtain ⟨emp, SM, EM, eM⟩ := sta_exa (Cond.before_iff.mp (hsets _ (m_ 44))) (Or.inl (hsets _ (m_ 43)))
  obtain ⟨cM, kM, mr, hM1, hM2, hM3⟩ := hcalls.1
  have MR : MirA s "[Ljava/lang/Object;" mr := ⟨cM, kM, hM1, hM2, hM3.1⟩
  have hEL : EW s #[(.int p0), (.int p1), (.int p2), (.int p3), (.int p4)] EL_ := (EW.cons (wd18 hw) (by decide +kernel) EW.nil)
  have hCH : CHv s EL_ s.vm s.heap := CHv.start hEL (fun p hp => hcalls.2.1 p (by rcases List.mem_singleton.mp hp with rfl; exact List.mem_of_getElem? (i := 7) rfl)) hcw (wd19 hw) (wd5 hw)
  obtain ⟨n, o, h1, h2, h3, _, L, rfl, ⟨rfl, N⟩, hCq, hq⟩ := c_law l s _ hw hEL s.heap (Ext.refl' _) p0 p1 p2 p3 p4 G1 bz em dd el ee emp mr kd kee SG1 hG EZ FZ SZ SE EE FE SD DA SL EL0 FE0 AE0 SM EM MR p e ha hc hk s m _ below hf ((Spec.applies_iff_loose hf).mp happ).1 ⟨rfl, State.Warmed39.refl s, rfl, hCH, all0⟩ trivial
  exact ⟨n, _, h1, h2, h3, hpost _ _ _ _ _ _ ⟨Cond.after_iff.mpr rfl, Cond.after_iff.mpr (eq_i res_at (Term.int_eval (1)) rfl), trivial⟩ ⟨hq.1, hq.2.1, hq.2.2.1, (hq.2.2.2.sift fun y hy => Or.inr (N y hy)).mono (by decide) (by decide)⟩⟩
theorem main_1_1 : Claimed_1_1 := comes_1 fun _ _ _ _ _ _ h hF => ⟨h.1, hF⟩
theorem main_1_2 : Claimed_1_2 := comes_1 fun _ _ _ _ _ _ h hF => ⟨h.2.1, hF⟩
end Jvm.Pilot.@@N@@
namespace Jvm.Pilot.@@N@@
open Jvm Jvm.ClassFile Sem Op Lib Jvm.Free Jvm.Stand Jvm.Pilot.@@N@@.Jvm.D
/-! MADE BY PROGRAM (witnessworld.py) out of the Statement's table words and the real class files: 51 classes; the members and pool entries that the words name. The judged class is class 1, her method 1. -/
namespace start1
open Jvm.ClassFile
def u (s : String) : CpInfo := .utf8 (stringToUtf16 s)
/-- a pool by its gaps: so many unusable entries, then the entry; so many at the end -/
def gap : Nat → List CpInfo → List CpInfo
  | 0, r => r
  | n + 1, r => .unusable :: gap n r
def poolList (es : List (Nat × CpInfo)) (last : Nat) : List CpInfo := es.foldr (fun e r => gap e.1 (e.2 :: r)) (gap last [])
def pool (es : List (Nat × CpInfo)) (last : Nat) : Array CpInfo := ⟨poolList es last⟩
def fileOf (pool : Array CpInfo) (this : Nat) (attrs : Array Attribute := #[]) (ms : Array MethodInfo := #[]) (fl : Nat := 33) (sup : Nat := 0) (ifs : Array Nat := #[]) (fds : Array FieldInfo := #[]) : ClassFile where
  minorVersion := 0
  majorVersion := 65
  constantPool := pool
  accessFlags := fl
  thisClass := this
  superClass := sup
  interfaces := ifs
  fields := fds
  methods := ms
  attributes := attrs
def plain (name : String) (sup : Option ClassId) : Class where
  name := name
  kind := .ordinary
  loader := none
  accessFlags := 33
  super := sup
  interfaces := #[]
  cf := none
  fields := #[]
  methods := #[]
  instanceTypes := #[]
  staticTypes := #[]
  resolved := #[]
  callSites := []
  init := .initialized
  statics := none
  mirror := none

def pool0 : Array CpInfo := pool [(5, u "<init>"), (0, u "()V"), (1, .class_ 10), (1, u "java/lang/Object"), (0, u "getClass"), (0, u "()Ljava/lang/Class;")] 111

def k0c0 : Code := { maxStack := 0, maxLocals := 1, code := object_method_1_code, exceptionTable := #[], attributes := #[] }
def k0m0 : Method := { name := "<init>", desc := "()V", sig := { parameters := [], returnType := none }, accessFlags := 1, code := some k0c0 }
def k0m1 : Method := { name := "getClass", desc := "()Ljava/lang/Class;", sig := { parameters := [], returnType := some (.object "java/lang/Class") }, accessFlags := 273, code := none }
/-- java/lang/Object -/
def k0 : Class := { plain "java/lang/Object" none with
  accessFlags := 33
  interfaces := #[]
  cf := some (fileOf pool0 8 #[] #[{ accessFlags := 1, nameIndex := 5, descriptorIndex := 6, attributes := #[] }, { accessFlags := 273, nameIndex := 11, descriptorIndex := 12, attributes := #[] }] 33 0 #[] #[])
  fields := #[]
  methods := #[k0m0, k0m1]
  instanceTypes := #[]
  staticTypes := #[]
  resolved := Array.replicate 124 none
  statics := none }

def pool1 : Array CpInfo := pool [(2, .class_ 4), (0, .nameAndType 5 6), (0, u "java/lang/Object"), (0, u "<init>"), (0, u "()V"), (0, .methodref 8 9), (0, .class_ 10), (0, .nameAndType 11 12), (0, u "com/example/cuenta/cuenta/FuelSchemesSchemePinLaw"), (0, u "name"), (0, u "(I)Ljava/lang/String;"), (0, .class_ 14), (0, u "com/example/cuenta/cuenta/FuelScheme"), (0, .fieldref 16 17), (0, .class_ 18), (0, .nameAndType 19 20), (0, u "java/math/BigDecimal"), (0, u "ZERO"), (0, u "Ljava/math/BigDecimal;"), (0, .methodref 13 22), (0, .nameAndType 5 23), (0, u "(Ljava/math/BigDecimal;Ljava/math/BigDecimal;Ljava/math/BigDecimal;JLjava/math/BigDecimal;)V"), (0, .class_ 25), (0, u "com/example/cuenta/cuenta/FuelSchemes$Scheme"), (0, .methodref 27 28), (0, .class_ 29), (0, .nameAndType 30 31), (0, u "java/util/Optional"), (0, u "empty"), (0, u "()Ljava/util/Optional;"), (0, .methodref 24 33), (0, .nameAndType 5 34), (0, u "(Ljava/lang/String;Lcom/example/cuenta/cuenta/FuelScheme;Ljava/util/Optional;)V"), (0, .class_ 36), (0, u "java/util/ArrayList"), (0, .methodref 35 3), (0, .interfaceMethodref 39 40), (0, .class_ 41), (0, .nameAndType 42 43), (0, u "java/util/List"), (0, u "add"), (0, u "(Ljava/lang/Object;)Z"), (0, .class_ 45), (0, u "com/example/cuenta/cuenta/FuelSchemes"), (0, .methodref 44 47), (0, .nameAndType 5 48), (0, u "(Ljava/util/List;)V"), (0, .methodref 50 51), (0, .class_ 52), (0, .nameAndType 53 43), (0, u "java/lang/String"), (0, u "equals"), (0, .methodref 44 55), (0, .nameAndType 56 57), (0, u "scheme"), (0, u "(Ljava/lang/String;)Ljava/util/Optional;"), (0, .methodref 27 59), (0, .nameAndType 60 61), (0, u "isPresent"), (0, u "()Z"), (0, .methodref 27 63), (0, .nameAndType 64 65), (0, u "get"), (0, u "()Ljava/lang/Object;"), (0, .methodref 50 67), (0, .nameAndType 5 68), (0, u "([C)V"), (2, u "law"), (0, u "(IIIII)Z")] 5

def k1m0 : Method := { name := "<init>", desc := "()V", sig := { parameters := [], returnType := none }, accessFlags := 2, code := none }
def k1c1 : Code := { maxStack := 8, maxLocals := 19, code := code, exceptionTable := #[], attributes := #[] }
def k1m1 : Method := { name := "law", desc := "(IIIII)Z", sig := { parameters := [.int, .int, .int, .int, .int], returnType := some .boolean }, accessFlags := 9, code := some k1c1 }
def k1c2 : Code := { maxStack := 4, maxLocals := 3, code := method_3_code, exceptionTable := #[], attributes := #[] }
def k1m2 : Method := { name := "name", desc := "(I)Ljava/lang/String;", sig := { parameters := [.int], returnType := some (.object "java/lang/String") }, accessFlags := 10, code := some k1c2 }
/-- com/example/cuenta/cuenta/FuelSchemesSchemePinLaw -/
def k1 : Class := { plain "com/example/cuenta/cuenta/FuelSchemesSchemePinLaw" (some 0) with
  accessFlags := 49
  interfaces := #[]
  cf := some (fileOf pool1 8 #[] #[{ accessFlags := 2, nameIndex := 5, descriptorIndex := 6, attributes := #[] }, { accessFlags := 9, nameIndex := 71, descriptorIndex := 72, attributes := #[] }, { accessFlags := 10, nameIndex := 11, descriptorIndex := 12, attributes := #[] }] 49 2 #[] #[])
  fields := #[]
  methods := #[k1m0, k1m1, k1m2]
  instanceTypes := #[]
  staticTypes := #[]
  resolved := Array.replicate 78 none
  statics := none }

def pool2 : Array CpInfo := pool [(1, .class_ 2), (0, u "java/io/Serializable"), (0, .class_ 4), (0, u "java/lang/Object")] 2

/-- java/io/Serializable -/
def k2 : Class := { plain "java/io/Serializable" (some 0) with
  accessFlags := 1537
  interfaces := #[]
  cf := some (fileOf pool2 1 #[] #[] 1537 3 #[] #[])
  fields := #[]
  methods := #[]
  instanceTypes := #[]
  staticTypes := #[]
  resolved := Array.replicate 7 none
  statics := none }

def pool3 : Array CpInfo := pool [(1, .class_ 2), (0, u "java/lang/Comparable"), (0, .class_ 4), (0, u "java/lang/Object")] 7

/-- java/lang/Comparable -/
def k3 : Class := { plain "java/lang/Comparable" (some 0) with
  accessFlags := 1537
  interfaces := #[]
  cf := some (fileOf pool3 1 #[] #[] 1537 3 #[] #[])
  fields := #[]
  methods := #[]
  instanceTypes := #[]
  staticTypes := #[]
  resolved := Array.replicate 12 none
  statics := none }

def pool4 : Array CpInfo := pool [(2, .class_ 4), (1, u "java/lang/CharSequence"), (42, .class_ 48), (0, u "java/lang/CharSequence$1CodePointIterator"), (10, .class_ 60), (0, u "java/lang/CharSequence$1CharIterator"), (5, .class_ 67), (0, u "java/lang/Object")] 63

/-- java/lang/CharSequence -/
def k4 : Class := { plain "java/lang/CharSequence" (some 0) with
  accessFlags := 1537
  interfaces := #[]
  cf := some (fileOf pool4 2 #[.nestMembers #[47, 59]] #[] 1537 66 #[] #[])
  fields := #[]
  methods := #[]
  instanceTypes := #[]
  staticTypes := #[]
  resolved := Array.replicate 131 none
  statics := none }

def pool5 : Array CpInfo := pool [(1, .class_ 2), (0, u "java/lang/constant/Constable"), (0, .class_ 4), (0, u "java/lang/Object")] 6

/-- java/lang/constant/Constable -/
def k5 : Class := { plain "java/lang/constant/Constable" (some 0) with
  accessFlags := 1537
  interfaces := #[]
  cf := some (fileOf pool5 1 #[] #[] 1537 3 #[] #[])
  fields := #[]
  methods := #[]
  instanceTypes := #[]
  staticTypes := #[]
  resolved := Array.replicate 11 none
  statics := none }

def pool6 : Array CpInfo := pool [(1, .class_ 2), (0, u "java/lang/constant/ConstantDesc"), (0, .class_ 4), (0, u "java/lang/Object")] 32

/-- java/lang/constant/ConstantDesc -/
def k6 : Class := { plain "java/lang/constant/ConstantDesc" (some 0) with
  accessFlags := 1537
  interfaces := #[]
  cf := some (fileOf pool6 1 #[] #[] 1537 3 #[] #[])
  fields := #[]
  methods := #[]
  instanceTypes := #[]
  staticTypes := #[]
  resolved := Array.replicate 37 none
  statics := none }

def pool7 : Array CpInfo := pool [(1, .methodref 2 3), (0, .class_ 4), (0, .nameAndType 5 6), (0, u "java/lang/Object"), (0, u "<init>"), (0, u "()V"), (0, .string 8), (0, u ""), (0, .fieldref 10 11), (0, .class_ 12), (0, .nameAndType 13 14), (0, u "java/lang/String"), (0, u "value"), (0, u "[B"), (0, .fieldref 10 16), (0, .nameAndType 17 18), (0, u "coder"), (0, u "B"), (2, u "hash"), (0, u "I"), (2, u "hashIsZero"), (0, u "Z"), (0, .methodref 10 28), (0, .nameAndType 5 29), (0, u "([CIILjava/lang/Void;)V"), (8, .fieldref 10 39), (0, .nameAndType 40 26), (0, u "COMPACT_STRINGS"), (1, .class_ 44), (1, u "java/lang/StringUTF16"), (0, u "compress"), (1, .methodref 42 48), (0, .nameAndType 49 50), (0, u "coderFromArrayLen"), (0, u "([BI)B"), (56, .class_ 109), (1, u "java/lang/StringLatin1"), (67, .methodref 42 178), (0, .nameAndType 45 179), (0, u "([CII)[B"), (361, .methodref 107 542), (0, .nameAndType 543 544), (0, u "equals"), (0, u "([B[B)Z"), (28, u "(Ljava/lang/Object;)Z"), (1, .class_ 576), (0, u "java/lang/CharSequence"), (22, u "CASE_INSENSITIVE_ORDER"), (0, u "Ljava/util/Comparator;"), (409, u "([C)V"), (90, u "serialPersistentFields"), (0, u "[Ljava/io/ObjectStreamField;"), (0, .class_ 1104), (0, u "java/lang/String$CaseInsensitiveComparator"), (1, .class_ 1107), (0, u "java/io/Serializable"), (0, .class_ 1109), (0, u "java/lang/Comparable"), (0, .class_ 1111), (0, u "java/lang/constant/Constable"), (0, .class_ 1113), (0, u "java/lang/constant/ConstantDesc"), (2, u "serialVersionUID"), (0, u "J"), (3, u "REPL"), (0, u "C"), (2, u "LATIN1"), (1, u "UTF16")] 323

def k7m0 : Method := { name := "<init>", desc := "()V", sig := { parameters := [], returnType := none }, accessFlags := 1, code := none }
def k7c1 : Code := { maxStack := 5, maxLocals := 2, code := jdk_42_method_3_code, exceptionTable := #[], attributes := #[] }
def k7m1 : Method := { name := "<init>", desc := "([C)V", sig := { parameters := [(.array .char)], returnType := none }, accessFlags := 1, code := some k7c1 }
def k7c2 : Code := { maxStack := 2, maxLocals := 3, code := jdk_42_method_66_code, exceptionTable := #[], attributes := #[] }
def k7m2 : Method := { name := "equals", desc := "(Ljava/lang/Object;)Z", sig := { parameters := [(.object "java/lang/Object")], returnType := some .boolean }, accessFlags := 1, code := some k7c2 }
def k7c3 : Code := { maxStack := 4, maxLocals := 6, code := jdk_42_method_149_code, exceptionTable := #[], attributes := #[] }
def k7m3 : Method := { name := "<init>", desc := "([CIILjava/lang/Void;)V", sig := { parameters := [(.array .char), .int, .int, (.object "java/lang/Void")], returnType := none }, accessFlags := 2, code := some k7c3 }
/-- java/lang/String -/
def k7 : Class := { plain "java/lang/String" (some 0) with
  accessFlags := 49
  interfaces := #[2, 3, 4, 5, 6]
  cf := some (fileOf pool7 10 #[.nestMembers #[1103]] #[{ accessFlags := 1, nameIndex := 5, descriptorIndex := 6, attributes := #[] }, { accessFlags := 1, nameIndex := 5, descriptorIndex := 1010, attributes := #[] }, { accessFlags := 1, nameIndex := 543, descriptorIndex := 573, attributes := #[] }, { accessFlags := 2, nameIndex := 5, descriptorIndex := 29, attributes := #[] }] 49 2 #[1106, 1108, 575, 1110, 1112] #[{ accessFlags := 18, nameIndex := 13, descriptorIndex := 14, attributes := #[] }, { accessFlags := 18, nameIndex := 17, descriptorIndex := 18, attributes := #[] }, { accessFlags := 2, nameIndex := 21, descriptorIndex := 22, attributes := #[] }, { accessFlags := 2, nameIndex := 25, descriptorIndex := 26, attributes := #[] }, { accessFlags := 26, nameIndex := 1116, descriptorIndex := 1117, attributes := #[] }, { accessFlags := 24, nameIndex := 40, descriptorIndex := 26, attributes := #[] }, { accessFlags := 26, nameIndex := 1101, descriptorIndex := 1102, attributes := #[] }, { accessFlags := 26, nameIndex := 1121, descriptorIndex := 1122, attributes := #[] }, { accessFlags := 25, nameIndex := 599, descriptorIndex := 600, attributes := #[] }, { accessFlags := 24, nameIndex := 1125, descriptorIndex := 18, attributes := #[] }, { accessFlags := 24, nameIndex := 1127, descriptorIndex := 18, attributes := #[] }])
  fields := #[{ name := "value", type := (.array .byte), accessFlags := 18, slot := 0, constantValue := 0 }, { name := "coder", type := .byte, accessFlags := 18, slot := 1, constantValue := 0 }, { name := "hash", type := .int, accessFlags := 2, slot := 2, constantValue := 0 }, { name := "hashIsZero", type := .boolean, accessFlags := 2, slot := 3, constantValue := 0 }, { name := "serialVersionUID", type := .long, accessFlags := 26, slot := 0, constantValue := 0 }, { name := "COMPACT_STRINGS", type := .boolean, accessFlags := 24, slot := 1, constantValue := 0 }, { name := "serialPersistentFields", type := (.array (.object "java/io/ObjectStreamField")), accessFlags := 26, slot := 2, constantValue := 0 }, { name := "REPL", type := .char, accessFlags := 26, slot := 3, constantValue := 0 }, { name := "CASE_INSENSITIVE_ORDER", type := (.object "java/util/Comparator"), accessFlags := 25, slot := 4, constantValue := 0 }, { name := "LATIN1", type := .byte, accessFlags := 24, slot := 5, constantValue := 0 }, { name := "UTF16", type := .byte, accessFlags := 24, slot := 6, constantValue := 0 }]
  methods := #[k7m0, k7m1, k7m2, k7m3]
  instanceTypes := #[(.array .byte), .byte, .int, .boolean]
  staticTypes := #[.long, .boolean, (.array (.object "java/io/ObjectStreamField")), .char, (.object "java/util/Comparator"), .byte, .byte]
  resolved := Array.replicate 1451 none
  statics := some 0 }

def pool8 : Array CpInfo := pool [(6, .class_ 8), (1, u "java/lang/Object"), (0, u "<init>"), (0, u "()V"), (1, .class_ 14), (1, u "java/lang/StringUTF16"), (31, u "$assertionsDisabled"), (0, u "Z"), (13, u "HI_BYTE_SHIFT"), (0, u "I"), (2, u "LO_BYTE_SHIFT"), (49, .methodref 12 116), (0, .nameAndType 117 118), (0, u "compress"), (0, u "([CI[BII)I"), (3, u "([CII)[B"), (138, u "coderFromArrayLen"), (0, u "([BI)B"), (106, .class_ 371), (1, u "java/lang/StringUTF16$LinesSpliterator"), (58, u "MAX_LENGTH"), (196, .class_ 628), (0, u "java/lang/StringUTF16$CodePointsSpliterator"), (0, .class_ 630), (0, u "java/lang/StringUTF16$CharsSpliterator")] 4

def k8m0 : Method := { name := "<init>", desc := "()V", sig := { parameters := [], returnType := none }, accessFlags := 0, code := none }
def k8c1 : Code := { maxStack := 2, maxLocals := 2, code := jdk_52_method_15_code, exceptionTable := #[], attributes := #[] }
def k8m1 : Method := { name := "coderFromArrayLen", desc := "([BI)B", sig := { parameters := [(.array .byte), .int], returnType := some .byte }, accessFlags := 8, code := some k8c1 }
def k8c2 : Code := { maxStack := 5, maxLocals := 6, code := jdk_52_method_16_code, exceptionTable := #[], attributes := #[] }
def k8m2 : Method := { name := "compress", desc := "([CII)[B", sig := { parameters := [(.array .char), .int, .int], returnType := some (.array .byte) }, accessFlags := 9, code := some k8c2 }
def k8c3 : Code := { maxStack := 3, maxLocals := 7, code := jdk_52_method_21_code, exceptionTable := #[], attributes := #[] }
def k8m3 : Method := { name := "compress", desc := "([CI[BII)I", sig := { parameters := [(.array .char), .int, (.array .byte), .int, .int], returnType := some .int }, accessFlags := 9, code := some k8c3 }
/-- java/lang/StringUTF16 -/
def k8 : Class := { plain "java/lang/StringUTF16" (some 0) with
  accessFlags := 48
  interfaces := #[]
  cf := some (fileOf pool8 12 #[.nestMembers #[627, 629, 369]] #[{ accessFlags := 0, nameIndex := 9, descriptorIndex := 10, attributes := #[] }, { accessFlags := 8, nameIndex := 261, descriptorIndex := 262, attributes := #[] }, { accessFlags := 9, nameIndex := 117, descriptorIndex := 122, attributes := #[] }, { accessFlags := 9, nameIndex := 117, descriptorIndex := 118, attributes := #[] }] 48 6 #[] #[{ accessFlags := 26, nameIndex := 61, descriptorIndex := 62, attributes := #[] }, { accessFlags := 26, nameIndex := 65, descriptorIndex := 62, attributes := #[] }, { accessFlags := 24, nameIndex := 430, descriptorIndex := 62, attributes := #[] }, { accessFlags := 4120, nameIndex := 46, descriptorIndex := 47, attributes := #[] }])
  fields := #[{ name := "HI_BYTE_SHIFT", type := .int, accessFlags := 26, slot := 0, constantValue := 0 }, { name := "LO_BYTE_SHIFT", type := .int, accessFlags := 26, slot := 1, constantValue := 0 }, { name := "MAX_LENGTH", type := .int, accessFlags := 24, slot := 2, constantValue := 0 }, { name := "$assertionsDisabled", type := .boolean, accessFlags := 4120, slot := 3, constantValue := 0 }]
  methods := #[k8m0, k8m1, k8m2, k8m3]
  instanceTypes := #[]
  staticTypes := #[.int, .int, .int, .boolean]
  resolved := Array.replicate 635 none
  statics := none }

def pool9 : Array CpInfo := pool [(1, .methodref 2 3), (0, .class_ 4), (0, .nameAndType 5 6), (0, u "java/lang/Object"), (0, u "<init>"), (0, u "()V"), (0, .class_ 8), (0, u "java/lang/Record")] 13

def k9c0 : Code := { maxStack := 1, maxLocals := 1, code := jdk_30_method_1_code, exceptionTable := #[], attributes := #[] }
def k9m0 : Method := { name := "<init>", desc := "()V", sig := { parameters := [], returnType := none }, accessFlags := 4, code := some k9c0 }
/-- java/lang/Record -/
def k9 : Class := { plain "java/lang/Record" (some 0) with
  accessFlags := 1057
  interfaces := #[]
  cf := some (fileOf pool9 7 #[] #[{ accessFlags := 4, nameIndex := 5, descriptorIndex := 6, attributes := #[] }] 1057 2 #[] #[])
  fields := #[]
  methods := #[k9m0]
  instanceTypes := #[]
  staticTypes := #[]
  resolved := Array.replicate 22 none
  statics := none }

def pool10 : Array CpInfo := pool [(1, .methodref 2 3), (0, .class_ 4), (0, .nameAndType 5 6), (0, u "java/lang/Record"), (0, u "<init>"), (0, u "()V"), (0, .string 8), (0, u "crude_oil_coefficient"), (0, .methodref 10 11), (0, .class_ 12), (0, .nameAndType 13 14), (0, u "com/example/cuenta/cuenta/Checks"), (0, u "notNegative"), (0, u "(Ljava/math/BigDecimal;Ljava/lang/String;)Ljava/math/BigDecimal;"), (0, .string 16), (0, u "lng_coefficient"), (0, .string 18), (0, u "coal_coefficient"), (9, .string 29), (0, u "base_unit_price"), (0, .fieldref 31 32), (0, .class_ 33), (0, .nameAndType 34 35), (0, u "com/example/cuenta/cuenta/FuelScheme"), (0, u "crudeOilCoefficient"), (0, u "Ljava/math/BigDecimal;"), (0, .fieldref 31 37), (0, .nameAndType 38 35), (0, u "lngCoefficient"), (0, .fieldref 31 40), (0, .nameAndType 41 35), (0, u "coalCoefficient"), (0, .fieldref 31 43), (0, .nameAndType 44 45), (0, u "baseFuelPrice"), (0, u "J"), (0, .fieldref 31 47), (0, .nameAndType 48 35), (0, u "baseUnitPrice"), (44, u "DIFFERENCE_STEP"), (17, u "AVERAGE_SCALE"), (0, u "I"), (2, u "UNIT_PRICE_SCALE"), (1, u "(Ljava/math/BigDecimal;Ljava/math/BigDecimal;Ljava/math/BigDecimal;JLjava/math/BigDecimal;)V")] 43

def k10c0 : Code := { maxStack := 4, maxLocals := 7, code := prog_25_method_1_code, exceptionTable := #[], attributes := #[] }
def k10m0 : Method := { name := "<init>", desc := "(Ljava/math/BigDecimal;Ljava/math/BigDecimal;Ljava/math/BigDecimal;JLjava/math/BigDecimal;)V", sig := { parameters := [(.object "java/math/BigDecimal"), (.object "java/math/BigDecimal"), (.object "java/math/BigDecimal"), .long, (.object "java/math/BigDecimal")], returnType := none }, accessFlags := 1, code := some k10c0 }
/-- com/example/cuenta/cuenta/FuelScheme -/
def k10 : Class := { plain "com/example/cuenta/cuenta/FuelScheme" (some 9) with
  accessFlags := 49
  interfaces := #[]
  cf := some (fileOf pool10 31 #[] #[{ accessFlags := 1, nameIndex := 5, descriptorIndex := 117, attributes := #[] }] 49 2 #[] #[{ accessFlags := 18, nameIndex := 34, descriptorIndex := 35, attributes := #[] }, { accessFlags := 18, nameIndex := 38, descriptorIndex := 35, attributes := #[] }, { accessFlags := 18, nameIndex := 41, descriptorIndex := 35, attributes := #[] }, { accessFlags := 18, nameIndex := 44, descriptorIndex := 45, attributes := #[] }, { accessFlags := 18, nameIndex := 48, descriptorIndex := 35, attributes := #[] }, { accessFlags := 26, nameIndex := 93, descriptorIndex := 35, attributes := #[] }, { accessFlags := 26, nameIndex := 111, descriptorIndex := 112, attributes := #[] }, { accessFlags := 26, nameIndex := 115, descriptorIndex := 112, attributes := #[] }])
  fields := #[{ name := "crudeOilCoefficient", type := (.object "java/math/BigDecimal"), accessFlags := 18, slot := 0, constantValue := 0 }, { name := "lngCoefficient", type := (.object "java/math/BigDecimal"), accessFlags := 18, slot := 1, constantValue := 0 }, { name := "coalCoefficient", type := (.object "java/math/BigDecimal"), accessFlags := 18, slot := 2, constantValue := 0 }, { name := "baseFuelPrice", type := .long, accessFlags := 18, slot := 3, constantValue := 0 }, { name := "baseUnitPrice", type := (.object "java/math/BigDecimal"), accessFlags := 18, slot := 4, constantValue := 0 }, { name := "DIFFERENCE_STEP", type := (.object "java/math/BigDecimal"), accessFlags := 26, slot := 0, constantValue := 0 }, { name := "AVERAGE_SCALE", type := .int, accessFlags := 26, slot := 1, constantValue := 0 }, { name := "UNIT_PRICE_SCALE", type := .int, accessFlags := 26, slot := 2, constantValue := 0 }]
  methods := #[k10m0]
  instanceTypes := #[(.object "java/math/BigDecimal"), (.object "java/math/BigDecimal"), (.object "java/math/BigDecimal"), .long, (.object "java/math/BigDecimal")]
  staticTypes := #[(.object "java/math/BigDecimal"), .int, .int]
  resolved := Array.replicate 161 none
  statics := none }

def pool11 : Array CpInfo := pool [(2, .class_ 4), (1, u "java/lang/Object"), (0, u "<init>"), (0, u "()V"), (1, .class_ 10), (1, u "java/lang/Number"), (2, .class_ 14), (0, u "java/io/Serializable"), (0, u "serialVersionUID"), (0, u "J")] 20

def k11m0 : Method := { name := "<init>", desc := "()V", sig := { parameters := [], returnType := none }, accessFlags := 1, code := none }
/-- java/lang/Number -/
def k11 : Class := { plain "java/lang/Number" (some 0) with
  accessFlags := 1057
  interfaces := #[2]
  cf := some (fileOf pool11 8 #[] #[{ accessFlags := 1, nameIndex := 5, descriptorIndex := 6, attributes := #[] }] 1057 2 #[13] #[{ accessFlags := 26, nameIndex := 15, descriptorIndex := 16, attributes := #[] }])
  fields := #[{ name := "serialVersionUID", type := .long, accessFlags := 26, slot := 0, constantValue := 0 }]
  methods := #[k11m0]
  instanceTypes := #[]
  staticTypes := #[.long]
  resolved := Array.replicate 37 none
  statics := none }

def pool12 : Array CpInfo := pool [(3, .class_ 4), (0, u "java/math/BigDecimal"), (2, .class_ 8), (0, u "java/lang/Long"), (3, .class_ 14), (1, u "java/lang/Number"), (4, u "scale"), (0, u "I"), (2, u "precision"), (0, .fieldref 3 25), (0, .nameAndType 26 27), (0, u "intCompact"), (0, u "J"), (2, u "intVal"), (0, u "Ljava/math/BigInteger;"), (65, u "LONG_TEN_POWERS_TABLE"), (0, u "[J"), (16, u "(J)I"), (9, .long 9223372036854775808), (36, u "()I"), (24, u "ZERO"), (2, u "INFLATED_BIGINT"), (15, u "TWO"), (41, u "ZERO_THROUGH_TEN"), (0, u "[Ljava/math/BigDecimal;"), (2, u "ZERO_SCALED_BY"), (19, u "signum"), (40, u "$assertionsDisabled"), (0, u "Z"), (163, u "ONE_TENTH"), (0, u "Ljava/math/BigDecimal;"), (5, u "TEN"), (14, .class_ 502), (1, u "java/math/BigDecimal$1"), (15, u "ONE_HALF"), (16, u "ONE"), (60, .methodref 7 597), (0, .nameAndType 272 115), (45, u "stringCache"), (0, u "Ljava/lang/String;"), (52, .class_ 699), (1, u "java/math/BigDecimal$LongOverflow"), (8, u "FLOAT_10_POW"), (0, u "[F"), (39, u "DOUBLE_10_POW"), (0, u "[D"), (19, .class_ 772), (1, u "java/math/BigDecimal$StringBuilderHelper"), (35, u "BIG_TEN_POWERS_TABLE_MAX"), (2, u "BIG_TEN_POWERS_TABLE"), (0, u "[Ljava/math/BigInteger;"), (14, u "THRESHOLDS_TABLE"), (23, .class_ 853), (1, u "java/math/BigDecimal$UnsafeHolder"), (214, u "LONGLONG_TEN_POWERS_TABLE"), (0, u "[[J"), (112, u "BIG_TEN_POWERS_TABLE_INITLEN"), (113, .class_ 1297), (0, u "java/lang/Comparable"), (0, u "L"), (0, u "D"), (1, u "P_F"), (1, u "Q_MIN_F"), (1, u "Q_MAX_F"), (1, u "P_D"), (1, u "Q_MIN_D"), (1, u "Q_MAX_D"), (1, u "INFLATED"), (0, u "MAX_COMPACT_DIGITS"), (1, u "serialVersionUID"), (2, u "HALF_LONG_MAX_VALUE"), (0, u "HALF_LONG_MIN_VALUE"), (0, u "ROUND_UP"), (6, u "ROUND_DOWN"), (1, u "ROUND_CEILING"), (1, u "ROUND_FLOOR"), (1, u "ROUND_HALF_UP"), (1, u "ROUND_HALF_DOWN"), (1, u "ROUND_HALF_EVEN"), (1, u "ROUND_UNNECESSARY"), (1, u "DIV_NUM_BASE")] 294

def k12c0 : Code := { maxStack := 4, maxLocals := 1, code := jdk_17_method_58_code, exceptionTable := #[], attributes := #[] }
def k12m0 : Method := { name := "signum", desc := "()I", sig := { parameters := [], returnType := some .int }, accessFlags := 1, code := some k12c0 }
/-- java/math/BigDecimal -/
def k12 : Class := { plain "java/math/BigDecimal" (some 11) with
  accessFlags := 33
  interfaces := #[3]
  cf := some (fileOf pool12 3 #[.nestMembers #[500, 851, 770, 697]] #[{ accessFlags := 1, nameIndex := 272, descriptorIndex := 162, attributes := #[] }] 33 12 #[1296] #[{ accessFlags := 26, nameIndex := 1298, descriptorIndex := 1299, attributes := #[] }, { accessFlags := 26, nameIndex := 1301, descriptorIndex := 20, attributes := #[] }, { accessFlags := 26, nameIndex := 1303, descriptorIndex := 20, attributes := #[] }, { accessFlags := 26, nameIndex := 1305, descriptorIndex := 20, attributes := #[] }, { accessFlags := 26, nameIndex := 1307, descriptorIndex := 20, attributes := #[] }, { accessFlags := 26, nameIndex := 1309, descriptorIndex := 20, attributes := #[] }, { accessFlags := 26, nameIndex := 1311, descriptorIndex := 20, attributes := #[] }, { accessFlags := 18, nameIndex := 30, descriptorIndex := 31, attributes := #[] }, { accessFlags := 18, nameIndex := 19, descriptorIndex := 20, attributes := #[] }, { accessFlags := 130, nameIndex := 23, descriptorIndex := 20, attributes := #[] }, { accessFlags := 130, nameIndex := 643, descriptorIndex := 644, attributes := #[] }, { accessFlags := 24, nameIndex := 1313, descriptorIndex := 27, attributes := #[] }, { accessFlags := 26, nameIndex := 190, descriptorIndex := 31, attributes := #[] }, { accessFlags := 146, nameIndex := 26, descriptorIndex := 27, attributes := #[] }, { accessFlags := 26, nameIndex := 1314, descriptorIndex := 20, attributes := #[] }, { accessFlags := 26, nameIndex := 1316, descriptorIndex := 27, attributes := #[] }, { accessFlags := 26, nameIndex := 248, descriptorIndex := 249, attributes := #[] }, { accessFlags := 26, nameIndex := 252, descriptorIndex := 249, attributes := #[] }, { accessFlags := 26, nameIndex := 1319, descriptorIndex := 27, attributes := #[] }, { accessFlags := 26, nameIndex := 1320, descriptorIndex := 27, attributes := #[] }, { accessFlags := 25, nameIndex := 187, descriptorIndex := 479, attributes := #[] }, { accessFlags := 25, nameIndex := 535, descriptorIndex := 479, attributes := #[] }, { accessFlags := 25, nameIndex := 206, descriptorIndex := 479, attributes := #[] }, { accessFlags := 25, nameIndex := 485, descriptorIndex := 479, attributes := #[] }, { accessFlags := 26, nameIndex := 478, descriptorIndex := 479, attributes := #[] }, { accessFlags := 26, nameIndex := 518, descriptorIndex := 479, attributes := #[] }, { accessFlags := 25, nameIndex := 1321, descriptorIndex := 20, attributes := #[] }, { accessFlags := 25, nameIndex := 1328, descriptorIndex := 20, attributes := #[] }, { accessFlags := 25, nameIndex := 1330, descriptorIndex := 20, attributes := #[] }, { accessFlags := 25, nameIndex := 1332, descriptorIndex := 20, attributes := #[] }, { accessFlags := 25, nameIndex := 1334, descriptorIndex := 20, attributes := #[] }, { accessFlags := 25, nameIndex := 1336, descriptorIndex := 20, attributes := #[] }, { accessFlags := 25, nameIndex := 1338, descriptorIndex := 20, attributes := #[] }, { accessFlags := 25, nameIndex := 1340, descriptorIndex := 20, attributes := #[] }, { accessFlags := 26, nameIndex := 749, descriptorIndex := 750, attributes := #[] }, { accessFlags := 26, nameIndex := 708, descriptorIndex := 709, attributes := #[] }, { accessFlags := 26, nameIndex := 97, descriptorIndex := 98, attributes := #[] }, { accessFlags := 74, nameIndex := 811, descriptorIndex := 812, attributes := #[] }, { accessFlags := 26, nameIndex := 1182, descriptorIndex := 20, attributes := #[] }, { accessFlags := 26, nameIndex := 808, descriptorIndex := 20, attributes := #[] }, { accessFlags := 26, nameIndex := 827, descriptorIndex := 98, attributes := #[] }, { accessFlags := 26, nameIndex := 1342, descriptorIndex := 27, attributes := #[] }, { accessFlags := 26, nameIndex := 1068, descriptorIndex := 1069, attributes := #[] }, { accessFlags := 4120, nameIndex := 313, descriptorIndex := 314, attributes := #[] }])
  fields := #[{ name := "L", type := .double, accessFlags := 26, slot := 0, constantValue := 0 }, { name := "P_F", type := .int, accessFlags := 26, slot := 1, constantValue := 0 }, { name := "Q_MIN_F", type := .int, accessFlags := 26, slot := 2, constantValue := 0 }, { name := "Q_MAX_F", type := .int, accessFlags := 26, slot := 3, constantValue := 0 }, { name := "P_D", type := .int, accessFlags := 26, slot := 4, constantValue := 0 }, { name := "Q_MIN_D", type := .int, accessFlags := 26, slot := 5, constantValue := 0 }, { name := "Q_MAX_D", type := .int, accessFlags := 26, slot := 6, constantValue := 0 }, { name := "intVal", type := (.object "java/math/BigInteger"), accessFlags := 18, slot := 0, constantValue := 0 }, { name := "scale", type := .int, accessFlags := 18, slot := 1, constantValue := 0 }, { name := "precision", type := .int, accessFlags := 130, slot := 2, constantValue := 0 }, { name := "stringCache", type := (.object "java/lang/String"), accessFlags := 130, slot := 3, constantValue := 0 }, { name := "INFLATED", type := .long, accessFlags := 24, slot := 7, constantValue := 0 }, { name := "INFLATED_BIGINT", type := (.object "java/math/BigInteger"), accessFlags := 26, slot := 8, constantValue := 0 }, { name := "intCompact", type := .long, accessFlags := 146, slot := 4, constantValue := 0 }, { name := "MAX_COMPACT_DIGITS", type := .int, accessFlags := 26, slot := 9, constantValue := 0 }, { name := "serialVersionUID", type := .long, accessFlags := 26, slot := 10, constantValue := 0 }, { name := "ZERO_THROUGH_TEN", type := (.array (.object "java/math/BigDecimal")), accessFlags := 26, slot := 11, constantValue := 0 }, { name := "ZERO_SCALED_BY", type := (.array (.object "java/math/BigDecimal")), accessFlags := 26, slot := 12, constantValue := 0 }, { name := "HALF_LONG_MAX_VALUE", type := .long, accessFlags := 26, slot := 13, constantValue := 0 }, { name := "HALF_LONG_MIN_VALUE", type := .long, accessFlags := 26, slot := 14, constantValue := 0 }, { name := "ZERO", type := (.object "java/math/BigDecimal"), accessFlags := 25, slot := 15, constantValue := 0 }, { name := "ONE", type := (.object "java/math/BigDecimal"), accessFlags := 25, slot := 16, constantValue := 0 }, { name := "TWO", type := (.object "java/math/BigDecimal"), accessFlags := 25, slot := 17, constantValue := 0 }, { name := "TEN", type := (.object "java/math/BigDecimal"), accessFlags := 25, slot := 18, constantValue := 0 }, { name := "ONE_TENTH", type := (.object "java/math/BigDecimal"), accessFlags := 26, slot := 19, constantValue := 0 }, { name := "ONE_HALF", type := (.object "java/math/BigDecimal"), accessFlags := 26, slot := 20, constantValue := 0 }, { name := "ROUND_UP", type := .int, accessFlags := 25, slot := 21, constantValue := 0 }, { name := "ROUND_DOWN", type := .int, accessFlags := 25, slot := 22, constantValue := 0 }, { name := "ROUND_CEILING", type := .int, accessFlags := 25, slot := 23, constantValue := 0 }, { name := "ROUND_FLOOR", type := .int, accessFlags := 25, slot := 24, constantValue := 0 }, { name := "ROUND_HALF_UP", type := .int, accessFlags := 25, slot := 25, constantValue := 0 }, { name := "ROUND_HALF_DOWN", type := .int, accessFlags := 25, slot := 26, constantValue := 0 }, { name := "ROUND_HALF_EVEN", type := .int, accessFlags := 25, slot := 27, constantValue := 0 }, { name := "ROUND_UNNECESSARY", type := .int, accessFlags := 25, slot := 28, constantValue := 0 }, { name := "DOUBLE_10_POW", type := (.array .double), accessFlags := 26, slot := 29, constantValue := 0 }, { name := "FLOAT_10_POW", type := (.array .float), accessFlags := 26, slot := 30, constantValue := 0 }, { name := "LONG_TEN_POWERS_TABLE", type := (.array .long), accessFlags := 26, slot := 31, constantValue := 0 }, { name := "BIG_TEN_POWERS_TABLE", type := (.array (.object "java/math/BigInteger")), accessFlags := 74, slot := 32, constantValue := 0 }, { name := "BIG_TEN_POWERS_TABLE_INITLEN", type := .int, accessFlags := 26, slot := 33, constantValue := 0 }, { name := "BIG_TEN_POWERS_TABLE_MAX", type := .int, accessFlags := 26, slot := 34, constantValue := 0 }, { name := "THRESHOLDS_TABLE", type := (.array .long), accessFlags := 26, slot := 35, constantValue := 0 }, { name := "DIV_NUM_BASE", type := .long, accessFlags := 26, slot := 36, constantValue := 0 }, { name := "LONGLONG_TEN_POWERS_TABLE", type := (.array (.array .long)), accessFlags := 26, slot := 37, constantValue := 0 }, { name := "$assertionsDisabled", type := .boolean, accessFlags := 4120, slot := 38, constantValue := 0 }]
  methods := #[k12m0]
  instanceTypes := #[(.object "java/math/BigInteger"), .int, .int, (.object "java/lang/String"), .long]
  staticTypes := #[.double, .int, .int, .int, .int, .int, .int, .long, (.object "java/math/BigInteger"), .int, .long, (.array (.object "java/math/BigDecimal")), (.array (.object "java/math/BigDecimal")), .long, .long, (.object "java/math/BigDecimal"), (.object "java/math/BigDecimal"), (.object "java/math/BigDecimal"), (.object "java/math/BigDecimal"), (.object "java/math/BigDecimal"), (.object "java/math/BigDecimal"), .int, .int, .int, .int, .int, .int, .int, .int, (.array .double), (.array .float), (.array .long), (.array (.object "java/math/BigInteger")), .int, .int, (.array .long), .long, (.array (.array .long)), .boolean]
  resolved := Array.replicate 1637 none
  statics := some 1 }

def pool13 : Array CpInfo := pool [(2, .class_ 4), (1, u "java/lang/Object"), (0, u "<init>"), (0, u "()V"), (9, .methodref 17 18), (0, .class_ 19), (0, .nameAndType 20 21), (0, u "java/math/BigDecimal"), (0, u "signum"), (0, u "()I"), (7, .class_ 30), (0, u "com/example/cuenta/cuenta/Checks"), (2, u "notNegative"), (0, u "(Ljava/math/BigDecimal;Ljava/lang/String;)Ljava/math/BigDecimal;")] 20

def k13m0 : Method := { name := "<init>", desc := "()V", sig := { parameters := [], returnType := none }, accessFlags := 2, code := none }
def k13c1 : Code := { maxStack := 4, maxLocals := 2, code := prog_4_method_2_code, exceptionTable := #[], attributes := #[] }
def k13m1 : Method := { name := "notNegative", desc := "(Ljava/math/BigDecimal;Ljava/lang/String;)Ljava/math/BigDecimal;", sig := { parameters := [(.object "java/math/BigDecimal"), (.object "java/lang/String")], returnType := some (.object "java/math/BigDecimal") }, accessFlags := 8, code := some k13c1 }
/-- com/example/cuenta/cuenta/Checks -/
def k13 : Class := { plain "com/example/cuenta/cuenta/Checks" (some 0) with
  accessFlags := 48
  interfaces := #[]
  cf := some (fileOf pool13 29 #[] #[{ accessFlags := 2, nameIndex := 5, descriptorIndex := 6, attributes := #[] }, { accessFlags := 8, nameIndex := 33, descriptorIndex := 34, attributes := #[] }] 48 2 #[] #[])
  fields := #[]
  methods := #[k13m0, k13m1]
  instanceTypes := #[]
  staticTypes := #[]
  resolved := Array.replicate 55 none
  statics := none }

def pool14 : Array CpInfo := pool [(1, .class_ 2), (0, u "java/lang/Long"), (98, u "(J)I"), (133, .class_ 237), (1, u "java/lang/Long$LongCache"), (33, .class_ 272), (0, u "java/lang/Number"), (2, u "value"), (0, u "J"), (84, u "TYPE"), (0, u "Ljava/lang/Class;"), (0, .class_ 364), (0, u "java/lang/Comparable"), (0, .class_ 366), (0, u "java/lang/constant/Constable"), (0, .class_ 368), (0, u "java/lang/constant/ConstantDesc"), (0, u "MIN_VALUE"), (1, u "MAX_VALUE"), (4, u "SIZE"), (0, u "I"), (1, u "BYTES"), (1, u "serialVersionUID"), (115, u "signum")] 26

def k14c0 : Code := { maxStack := 5, maxLocals := 2, code := jdk_35_method_57_code, exceptionTable := #[], attributes := #[] }
def k14m0 : Method := { name := "signum", desc := "(J)I", sig := { parameters := [.long], returnType := some .int }, accessFlags := 9, code := some k14c0 }
/-- java/lang/Long -/
def k14 : Class := { plain "java/lang/Long" (some 11) with
  accessFlags := 49
  interfaces := #[3, 5, 6]
  cf := some (fileOf pool14 1 #[.nestMembers #[235]] #[{ accessFlags := 9, nameIndex := 497, descriptorIndex := 101, attributes := #[] }] 49 271 #[363, 365, 367] #[{ accessFlags := 25, nameIndex := 369, descriptorIndex := 276, attributes := #[] }, { accessFlags := 25, nameIndex := 371, descriptorIndex := 276, attributes := #[] }, { accessFlags := 25, nameIndex := 361, descriptorIndex := 362, attributes := #[] }, { accessFlags := 18, nameIndex := 275, descriptorIndex := 276, attributes := #[] }, { accessFlags := 25, nameIndex := 376, descriptorIndex := 377, attributes := #[] }, { accessFlags := 25, nameIndex := 379, descriptorIndex := 377, attributes := #[] }, { accessFlags := 26, nameIndex := 381, descriptorIndex := 276, attributes := #[] }])
  fields := #[{ name := "MIN_VALUE", type := .long, accessFlags := 25, slot := 0, constantValue := 0 }, { name := "MAX_VALUE", type := .long, accessFlags := 25, slot := 1, constantValue := 0 }, { name := "TYPE", type := (.object "java/lang/Class"), accessFlags := 25, slot := 2, constantValue := 0 }, { name := "value", type := .long, accessFlags := 18, slot := 0, constantValue := 0 }, { name := "SIZE", type := .int, accessFlags := 25, slot := 3, constantValue := 0 }, { name := "BYTES", type := .int, accessFlags := 25, slot := 4, constantValue := 0 }, { name := "serialVersionUID", type := .long, accessFlags := 26, slot := 5, constantValue := 0 }]
  methods := #[k14m0]
  instanceTypes := #[.long]
  staticTypes := #[.long, .long, (.object "java/lang/Class"), .int, .int, .long]
  resolved := Array.replicate 524 none
  statics := none }

def pool15 : Array CpInfo := pool [(1, .methodref 2 3), (0, .class_ 4), (0, .nameAndType 5 6), (0, u "java/lang/Record"), (0, u "<init>"), (0, u "()V"), (0, .string 8), (0, u "name"), (0, .methodref 10 11), (0, .class_ 12), (0, .nameAndType 13 14), (0, u "java/util/Objects"), (0, u "requireNonNull"), (0, u "(Ljava/lang/Object;Ljava/lang/String;)Ljava/lang/Object;"), (0, .string 16), (0, u "fuelCost"), (0, .string 18), (0, u "island"), (0, .fieldref 20 21), (0, .class_ 22), (0, .nameAndType 8 23), (0, u "com/example/cuenta/cuenta/FuelSchemes$Scheme"), (0, u "Ljava/lang/String;"), (0, .fieldref 20 25), (0, .nameAndType 16 26), (0, u "Lcom/example/cuenta/cuenta/FuelScheme;"), (0, .fieldref 20 28), (0, .nameAndType 18 29), (0, u "Ljava/util/Optional;"), (14, u "(Ljava/lang/String;Lcom/example/cuenta/cuenta/FuelScheme;Ljava/util/Optional;)V"), (4, u "()Ljava/lang/String;"), (8, .class_ 59), (0, u "com/example/cuenta/cuenta/FuelSchemes")] 21

def k15c0 : Code := { maxStack := 2, maxLocals := 4, code := prog_27_method_1_code, exceptionTable := #[], attributes := #[] }
def k15m0 : Method := { name := "<init>", desc := "(Ljava/lang/String;Lcom/example/cuenta/cuenta/FuelScheme;Ljava/util/Optional;)V", sig := { parameters := [(.object "java/lang/String"), (.object "com/example/cuenta/cuenta/FuelScheme"), (.object "java/util/Optional")], returnType := none }, accessFlags := 1, code := some k15c0 }
def k15c1 : Code := { maxStack := 1, maxLocals := 1, code := prog_27_method_5_code, exceptionTable := #[], attributes := #[] }
def k15m1 : Method := { name := "name", desc := "()Ljava/lang/String;", sig := { parameters := [], returnType := some (.object "java/lang/String") }, accessFlags := 1, code := some k15c1 }
/-- com/example/cuenta/cuenta/FuelSchemes$Scheme -/
def k15 : Class := { plain "com/example/cuenta/cuenta/FuelSchemes$Scheme" (some 9) with
  accessFlags := 49
  interfaces := #[]
  cf := some (fileOf pool15 20 #[.nestHost 58] #[{ accessFlags := 1, nameIndex := 5, descriptorIndex := 44, attributes := #[] }, { accessFlags := 1, nameIndex := 8, descriptorIndex := 49, attributes := #[] }] 49 2 #[] #[{ accessFlags := 18, nameIndex := 8, descriptorIndex := 23, attributes := #[] }, { accessFlags := 18, nameIndex := 16, descriptorIndex := 26, attributes := #[] }, { accessFlags := 18, nameIndex := 18, descriptorIndex := 29, attributes := #[] }])
  fields := #[{ name := "name", type := (.object "java/lang/String"), accessFlags := 18, slot := 0, constantValue := 0 }, { name := "fuelCost", type := (.object "com/example/cuenta/cuenta/FuelScheme"), accessFlags := 18, slot := 1, constantValue := 0 }, { name := "island", type := (.object "java/util/Optional"), accessFlags := 18, slot := 2, constantValue := 0 }]
  methods := #[k15m0, k15m1]
  instanceTypes := #[(.object "java/lang/String"), (.object "com/example/cuenta/cuenta/FuelScheme"), (.object "java/util/Optional")]
  staticTypes := #[]
  resolved := Array.replicate 81 none
  statics := none }

def pool16 : Array CpInfo := pool [(1, .fieldref 2 3), (0, .class_ 4), (0, .nameAndType 5 6), (0, u "java/util/Optional"), (0, u "EMPTY"), (0, u "Ljava/util/Optional;"), (0, .methodref 8 9), (0, .class_ 10), (0, .nameAndType 11 12), (0, u "java/lang/Object"), (0, u "<init>"), (0, u "()V"), (0, .fieldref 2 14), (0, .nameAndType 15 16), (0, u "value"), (0, u "Ljava/lang/Object;"), (0, .methodref 18 19), (0, .class_ 20), (0, .nameAndType 21 22), (0, u "java/util/Objects"), (0, u "requireNonNull"), (0, u "(Ljava/lang/Object;)Ljava/lang/Object;"), (0, .methodref 2 24), (0, .nameAndType 11 25), (0, u "(Ljava/lang/Object;)V"), (20, u "()Z"), (8, u "empty"), (0, u "()Ljava/util/Optional;"), (8, u "(Ljava/lang/Object;)Ljava/util/Optional;"), (2, u "isPresent"), (4, u "get"), (0, u "()Ljava/lang/Object;"), (7, u "of")] 104

def k16c0 : Code := { maxStack := 1, maxLocals := 1, code := jdk_32_method_1_code, exceptionTable := #[], attributes := #[] }
def k16m0 : Method := { name := "empty", desc := "()Ljava/util/Optional;", sig := { parameters := [], returnType := some (.object "java/util/Optional") }, accessFlags := 9, code := some k16c0 }
def k16c1 : Code := { maxStack := 2, maxLocals := 2, code := jdk_32_method_2_code, exceptionTable := #[], attributes := #[] }
def k16m1 : Method := { name := "<init>", desc := "(Ljava/lang/Object;)V", sig := { parameters := [(.object "java/lang/Object")], returnType := none }, accessFlags := 2, code := some k16c1 }
def k16c2 : Code := { maxStack := 3, maxLocals := 1, code := jdk_32_method_3_code, exceptionTable := #[], attributes := #[] }
def k16m2 : Method := { name := "of", desc := "(Ljava/lang/Object;)Ljava/util/Optional;", sig := { parameters := [(.object "java/lang/Object")], returnType := some (.object "java/util/Optional") }, accessFlags := 9, code := some k16c2 }
def k16c3 : Code := { maxStack := 3, maxLocals := 1, code := jdk_32_method_5_code, exceptionTable := #[], attributes := #[] }
def k16m3 : Method := { name := "get", desc := "()Ljava/lang/Object;", sig := { parameters := [], returnType := some (.object "java/lang/Object") }, accessFlags := 1, code := some k16c3 }
def k16c4 : Code := { maxStack := 1, maxLocals := 1, code := jdk_32_method_6_code, exceptionTable := #[], attributes := #[] }
def k16m4 : Method := { name := "isPresent", desc := "()Z", sig := { parameters := [], returnType := some .boolean }, accessFlags := 1, code := some k16c4 }
/-- java/util/Optional -/
def k16 : Class := { plain "java/util/Optional" (some 0) with
  accessFlags := 49
  interfaces := #[]
  cf := some (fileOf pool16 2 #[] #[{ accessFlags := 9, nameIndex := 55, descriptorIndex := 56, attributes := #[] }, { accessFlags := 2, nameIndex := 11, descriptorIndex := 25, attributes := #[] }, { accessFlags := 9, nameIndex := 82, descriptorIndex := 65, attributes := #[] }, { accessFlags := 1, nameIndex := 73, descriptorIndex := 74, attributes := #[] }, { accessFlags := 1, nameIndex := 68, descriptorIndex := 46, attributes := #[] }] 49 8 #[] #[{ accessFlags := 26, nameIndex := 5, descriptorIndex := 6, attributes := #[] }, { accessFlags := 18, nameIndex := 15, descriptorIndex := 16, attributes := #[] }])
  fields := #[{ name := "EMPTY", type := (.object "java/util/Optional"), accessFlags := 26, slot := 0, constantValue := 0 }, { name := "value", type := (.object "java/lang/Object"), accessFlags := 18, slot := 0, constantValue := 0 }]
  methods := #[k16m0, k16m1, k16m2, k16m3, k16m4]
  instanceTypes := #[(.object "java/lang/Object")]
  staticTypes := #[(.object "java/util/Optional")]
  resolved := Array.replicate 187 none
  statics := some 2 }

def pool17 : Array CpInfo := pool [(2, .class_ 4), (1, u "java/lang/Object"), (0, u "<init>"), (0, u "()V"), (35, .class_ 44), (1, u "java/util/Objects"), (0, u "requireNonNull"), (0, u "(Ljava/lang/Object;)Ljava/lang/Object;"), (47, u "(Ljava/lang/Object;Ljava/lang/String;)Ljava/lang/Object;")] 89

def k17m0 : Method := { name := "<init>", desc := "()V", sig := { parameters := [], returnType := none }, accessFlags := 2, code := none }
def k17c1 : Code := { maxStack := 2, maxLocals := 1, code := jdk_31_method_10_code, exceptionTable := #[], attributes := #[] }
def k17m1 : Method := { name := "requireNonNull", desc := "(Ljava/lang/Object;)Ljava/lang/Object;", sig := { parameters := [(.object "java/lang/Object")], returnType := some (.object "java/lang/Object") }, accessFlags := 9, code := some k17c1 }
def k17c2 : Code := { maxStack := 3, maxLocals := 2, code := jdk_31_method_11_code, exceptionTable := #[], attributes := #[] }
def k17m2 : Method := { name := "requireNonNull", desc := "(Ljava/lang/Object;Ljava/lang/String;)Ljava/lang/Object;", sig := { parameters := [(.object "java/lang/Object"), (.object "java/lang/String")], returnType := some (.object "java/lang/Object") }, accessFlags := 9, code := some k17c2 }
/-- java/util/Objects -/
def k17 : Class := { plain "java/util/Objects" (some 0) with
  accessFlags := 49
  interfaces := #[]
  cf := some (fileOf pool17 42 #[] #[{ accessFlags := 2, nameIndex := 5, descriptorIndex := 6, attributes := #[] }, { accessFlags := 9, nameIndex := 45, descriptorIndex := 46, attributes := #[] }, { accessFlags := 9, nameIndex := 45, descriptorIndex := 94, attributes := #[] }] 49 2 #[] #[])
  fields := #[]
  methods := #[k17m0, k17m1, k17m2]
  instanceTypes := #[]
  staticTypes := #[]
  resolved := Array.replicate 184 none
  statics := none }

def pool18 : Array CpInfo := pool [(8, .class_ 10), (1, u "java/lang/Iterable"), (24, .class_ 36), (0, u "java/lang/Object")] 25

/-- java/lang/Iterable -/
def k18 : Class := { plain "java/lang/Iterable" (some 0) with
  accessFlags := 1537
  interfaces := #[]
  cf := some (fileOf pool18 8 #[] #[] 1537 35 #[] #[])
  fields := #[]
  methods := #[]
  instanceTypes := #[]
  staticTypes := #[]
  resolved := Array.replicate 62 none
  statics := none }

def pool19 : Array CpInfo := pool [(10, .class_ 12), (1, u "java/util/Collection"), (0, u "toArray"), (16, u "()Z"), (29, .class_ 61), (0, u "java/lang/Object"), (0, .class_ 63), (0, u "java/lang/Iterable"), (2, u "isEmpty"), (3, u "()[Ljava/lang/Object;")] 44

def k19m0 : Method := { name := "isEmpty", desc := "()Z", sig := { parameters := [], returnType := some .boolean }, accessFlags := 1025, code := none }
def k19m1 : Method := { name := "toArray", desc := "()[Ljava/lang/Object;", sig := { parameters := [], returnType := some (.array (.object "java/lang/Object")) }, accessFlags := 1025, code := none }
/-- java/util/Collection -/
def k19 : Class := { plain "java/util/Collection" (some 0) with
  accessFlags := 1537
  interfaces := #[18]
  cf := some (fileOf pool19 10 #[] #[{ accessFlags := 1025, nameIndex := 66, descriptorIndex := 30, attributes := #[] }, { accessFlags := 1025, nameIndex := 13, descriptorIndex := 70, attributes := #[] }] 1537 60 #[62] #[])
  fields := #[]
  methods := #[k19m0, k19m1]
  instanceTypes := #[]
  staticTypes := #[]
  resolved := Array.replicate 115 none
  statics := none }

def pool20 : Array CpInfo := pool [(1, .methodref 2 3), (0, .class_ 4), (0, .nameAndType 5 6), (0, u "java/lang/Object"), (0, u "<init>"), (0, u "()V"), (1, .class_ 10), (1, u "java/util/AbstractCollection"), (0, u "size"), (0, u "()I"), (64, .class_ 78), (0, u "java/util/Collection")] 81

def k20c0 : Code := { maxStack := 1, maxLocals := 1, code := jdk_22_method_1_code, exceptionTable := #[], attributes := #[] }
def k20m0 : Method := { name := "<init>", desc := "()V", sig := { parameters := [], returnType := none }, accessFlags := 4, code := some k20c0 }
def k20m1 : Method := { name := "size", desc := "()I", sig := { parameters := [], returnType := some .int }, accessFlags := 1025, code := none }
/-- java/util/AbstractCollection -/
def k20 : Class := { plain "java/util/AbstractCollection" (some 0) with
  accessFlags := 1057
  interfaces := #[19]
  cf := some (fileOf pool20 8 #[] #[{ accessFlags := 4, nameIndex := 5, descriptorIndex := 6, attributes := #[] }, { accessFlags := 1025, nameIndex := 11, descriptorIndex := 12, attributes := #[] }] 1057 2 #[77] #[])
  fields := #[]
  methods := #[k20m0, k20m1]
  instanceTypes := #[]
  staticTypes := #[]
  resolved := Array.replicate 160 none
  statics := none }

def pool21 : Array CpInfo := pool [(8, .class_ 10), (1, u "java/util/SequencedCollection"), (15, .class_ 27), (0, u "java/lang/Object"), (0, .class_ 29), (0, u "java/util/Collection")] 27

/-- java/util/SequencedCollection -/
def k21 : Class := { plain "java/util/SequencedCollection" (some 0) with
  accessFlags := 1537
  interfaces := #[19]
  cf := some (fileOf pool21 8 #[] #[] 1537 26 #[28] #[])
  fields := #[]
  methods := #[]
  instanceTypes := #[]
  staticTypes := #[]
  resolved := Array.replicate 57 none
  statics := none }

def pool22 : Array CpInfo := pool [(8, .class_ 10), (1, u "java/util/List"), (20, u "(Ljava/lang/Object;)V"), (16, u "<init>"), (11, u "add"), (3, u "(Ljava/lang/Object;)Z"), (10, u "get"), (0, u "(I)Ljava/lang/Object;"), (11, u "of"), (1, .fieldref 91 92), (0, .class_ 93), (0, .nameAndType 94 95), (0, u "java/util/ImmutableCollections"), (0, u "EMPTY_LIST"), (0, u "Ljava/util/ImmutableCollections$ListN;"), (0, .class_ 97), (0, u "java/util/ImmutableCollections$List12"), (0, .methodref 96 99), (0, .nameAndType 48 31), (0, .methodref 96 101), (0, .nameAndType 48 102), (0, u "(Ljava/lang/Object;Ljava/lang/Object;)V"), (0, .class_ 104), (0, u "java/lang/Object"), (3, u "([Ljava/lang/Object;)Ljava/util/List;"), (0, .methodref 91 110), (0, .nameAndType 111 108), (0, u "listFromArray"), (0, .methodref 91 113), (0, .nameAndType 114 115), (0, u "listCopy"), (0, u "(Ljava/util/Collection;)Ljava/util/List;"), (3, u "()Ljava/util/List;"), (0, .class_ 121), (0, u "java/util/SequencedCollection"), (1, u "iterator"), (0, u "()Ljava/util/Iterator;"), (109, u "copyOf")] 16

def k22m0 : Method := { name := "iterator", desc := "()Ljava/util/Iterator;", sig := { parameters := [], returnType := some (.object "java/util/Iterator") }, accessFlags := 1025, code := none }
def k22m1 : Method := { name := "add", desc := "(Ljava/lang/Object;)Z", sig := { parameters := [(.object "java/lang/Object")], returnType := some .boolean }, accessFlags := 1025, code := none }
def k22m2 : Method := { name := "get", desc := "(I)Ljava/lang/Object;", sig := { parameters := [.int], returnType := some (.object "java/lang/Object") }, accessFlags := 1025, code := none }
def k22c3 : Code := { maxStack := 1, maxLocals := 0, code := jdk_40_method_36_code, exceptionTable := #[], attributes := #[] }
def k22m3 : Method := { name := "of", desc := "()Ljava/util/List;", sig := { parameters := [], returnType := some (.object "java/util/List") }, accessFlags := 9, code := some k22c3 }
def k22c4 : Code := { maxStack := 5, maxLocals := 2, code := jdk_40_method_47_code, exceptionTable := #[], attributes := #[] }
def k22m4 : Method := { name := "of", desc := "([Ljava/lang/Object;)Ljava/util/List;", sig := { parameters := [(.array (.object "java/lang/Object"))], returnType := some (.object "java/util/List") }, accessFlags := 137, code := some k22c4 }
def k22c5 : Code := { maxStack := 1, maxLocals := 1, code := jdk_40_method_48_code, exceptionTable := #[], attributes := #[] }
def k22m5 : Method := { name := "copyOf", desc := "(Ljava/util/Collection;)Ljava/util/List;", sig := { parameters := [(.object "java/util/Collection")], returnType := some (.object "java/util/List") }, accessFlags := 9, code := some k22c5 }
/-- java/util/List -/
def k22 : Class := { plain "java/util/List" (some 0) with
  accessFlags := 1537
  interfaces := #[21]
  cf := some (fileOf pool22 8 #[] #[{ accessFlags := 1025, nameIndex := 123, descriptorIndex := 124, attributes := #[] }, { accessFlags := 1025, nameIndex := 60, descriptorIndex := 64, attributes := #[] }, { accessFlags := 1025, nameIndex := 75, descriptorIndex := 76, attributes := #[] }, { accessFlags := 9, nameIndex := 88, descriptorIndex := 119, attributes := #[] }, { accessFlags := 137, nameIndex := 88, descriptorIndex := 108, attributes := #[] }, { accessFlags := 9, nameIndex := 234, descriptorIndex := 115, attributes := #[] }] 1537 103 #[120] #[])
  fields := #[]
  methods := #[k22m0, k22m1, k22m2, k22m3, k22m4, k22m5]
  instanceTypes := #[]
  staticTypes := #[]
  resolved := Array.replicate 251 none
  statics := none }

def pool23 : Array CpInfo := pool [(1, .methodref 2 3), (0, .class_ 4), (0, .nameAndType 5 6), (0, u "java/util/AbstractCollection"), (0, u "<init>"), (0, u "()V"), (0, .fieldref 8 9), (0, .class_ 10), (0, .nameAndType 11 12), (0, u "java/util/AbstractList"), (0, u "modCount"), (0, u "I"), (64, .class_ 78), (0, u "java/util/AbstractList$Itr"), (3, .class_ 83), (0, u "java/util/AbstractList$ListItr"), (9, .class_ 94), (0, u "java/util/AbstractList$RandomAccessSubList"), (3, .class_ 99), (0, u "java/util/AbstractList$SubList"), (33, .class_ 134), (0, u "java/util/List"), (73, .class_ 209), (0, u "java/util/AbstractList$SubList$1"), (0, .class_ 211), (0, u "java/util/AbstractList$RandomAccessSpliterator")] 6

def k23c0 : Code := { maxStack := 2, maxLocals := 1, code := jdk_39_method_1_code, exceptionTable := #[], attributes := #[] }
def k23m0 : Method := { name := "<init>", desc := "()V", sig := { parameters := [], returnType := none }, accessFlags := 4, code := some k23c0 }
/-- java/util/AbstractList -/
def k23 : Class := { plain "java/util/AbstractList" (some 20) with
  accessFlags := 1057
  interfaces := #[22]
  cf := some (fileOf pool23 8 #[.nestMembers #[93, 98, 208, 210, 82, 77]] #[{ accessFlags := 4, nameIndex := 5, descriptorIndex := 6, attributes := #[] }] 1057 2 #[133] #[{ accessFlags := 132, nameIndex := 11, descriptorIndex := 12, attributes := #[] }])
  fields := #[{ name := "modCount", type := .int, accessFlags := 132, slot := 0, constantValue := 0 }]
  methods := #[k23m0]
  instanceTypes := #[.int]
  staticTypes := #[]
  resolved := Array.replicate 218 none
  statics := none }

def pool24 : Array CpInfo := pool [(1, .class_ 2), (0, u "java/util/RandomAccess"), (0, .class_ 4), (0, u "java/lang/Object")] 2

/-- java/util/RandomAccess -/
def k24 : Class := { plain "java/util/RandomAccess" (some 0) with
  accessFlags := 1537
  interfaces := #[]
  cf := some (fileOf pool24 1 #[] #[] 1537 3 #[] #[])
  fields := #[]
  methods := #[]
  instanceTypes := #[]
  staticTypes := #[]
  resolved := Array.replicate 7 none
  statics := none }

def pool25 : Array CpInfo := pool [(1, .class_ 2), (0, u "java/lang/Cloneable"), (0, .class_ 4), (0, u "java/lang/Object")] 2

/-- java/lang/Cloneable -/
def k25 : Class := { plain "java/lang/Cloneable" (some 0) with
  accessFlags := 1537
  interfaces := #[]
  cf := some (fileOf pool25 1 #[] #[] 1537 3 #[] #[])
  fields := #[]
  methods := #[]
  instanceTypes := #[]
  staticTypes := #[]
  resolved := Array.replicate 7 none
  statics := none }

def pool26 : Array CpInfo := pool [(1, .methodref 2 3), (0, .class_ 4), (0, .nameAndType 5 6), (0, u "java/util/AbstractList"), (0, u "<init>"), (0, u "()V"), (0, .class_ 8), (0, u "java/lang/Object"), (0, .fieldref 10 11), (0, .class_ 12), (0, .nameAndType 13 14), (0, u "java/util/ArrayList"), (0, u "elementData"), (0, u "[Ljava/lang/Object;"), (2, u "EMPTY_ELEMENTDATA"), (21, .fieldref 10 40), (0, .nameAndType 41 14), (0, u "DEFAULTCAPACITY_EMPTY_ELEMENTDATA"), (4, u "toArray"), (0, u "()[Ljava/lang/Object;"), (0, .fieldref 10 49), (0, .nameAndType 50 51), (0, u "size"), (0, u "I"), (6, .class_ 60), (1, u "java/util/Arrays"), (0, u "copyOf"), (1, .fieldref 10 64), (0, .nameAndType 65 51), (0, u "modCount"), (0, .methodref 58 67), (0, .nameAndType 61 68), (0, u "([Ljava/lang/Object;I)[Ljava/lang/Object;"), (0, .methodref 10 70), (0, .nameAndType 71 72), (0, u "grow"), (0, u "(I)[Ljava/lang/Object;"), (6, .methodref 80 81), (0, .class_ 82), (0, .nameAndType 83 84), (0, u "java/lang/Math"), (0, u "max"), (0, u "(II)I"), (11, u "(Ljava/lang/Object;)Z"), (32, .methodref 10 130), (0, .nameAndType 71 47), (0, .methodref 10 132), (0, .nameAndType 133 134), (0, u "add"), (0, u "(Ljava/lang/Object;[Ljava/lang/Object;I)V"), (13, .class_ 149), (0, u "java/util/List"), (23, u "()Z"), (88, .class_ 263), (0, u "java/util/ArrayList$ListItr"), (3, .class_ 268), (0, u "java/util/ArrayList$Itr"), (7, .class_ 277), (0, u "java/util/ArrayList$SubList"), (12, .class_ 291), (0, u "java/util/ArrayList$ArrayListSpliterator"), (37, .class_ 330), (0, u "java/util/RandomAccess"), (0, .class_ 332), (0, u "java/lang/Cloneable"), (0, .class_ 334), (0, u "java/io/Serializable"), (0, u "serialVersionUID"), (0, u "J"), (3, u "DEFAULT_CAPACITY"), (22, u "isEmpty"), (136, .class_ 501), (0, u "java/util/ArrayList$SubList$2"), (0, .class_ 503), (0, u "java/util/ArrayList$SubList$1")] 5

def k26c0 : Code := { maxStack := 2, maxLocals := 1, code := jdk_38_method_2_code, exceptionTable := #[], attributes := #[] }
def k26m0 : Method := { name := "<init>", desc := "()V", sig := { parameters := [], returnType := none }, accessFlags := 1, code := some k26c0 }
def k26c1 : Code := { maxStack := 4, maxLocals := 4, code := jdk_38_method_6_code, exceptionTable := #[], attributes := #[] }
def k26m1 : Method := { name := "grow", desc := "(I)[Ljava/lang/Object;", sig := { parameters := [.int], returnType := some (.array (.object "java/lang/Object")) }, accessFlags := 2, code := some k26c1 }
def k26c2 : Code := { maxStack := 3, maxLocals := 1, code := jdk_38_method_7_code, exceptionTable := #[], attributes := #[] }
def k26m2 : Method := { name := "grow", desc := "()[Ljava/lang/Object;", sig := { parameters := [], returnType := some (.array (.object "java/lang/Object")) }, accessFlags := 2, code := some k26c2 }
def k26c3 : Code := { maxStack := 1, maxLocals := 1, code := jdk_38_method_9_code, exceptionTable := #[], attributes := #[] }
def k26m3 : Method := { name := "isEmpty", desc := "()Z", sig := { parameters := [], returnType := some .boolean }, accessFlags := 1, code := some k26c3 }
def k26c4 : Code := { maxStack := 2, maxLocals := 1, code := jdk_38_method_16_code, exceptionTable := #[], attributes := #[] }
def k26m4 : Method := { name := "toArray", desc := "()[Ljava/lang/Object;", sig := { parameters := [], returnType := some (.array (.object "java/lang/Object")) }, accessFlags := 1, code := some k26c4 }
def k26c5 : Code := { maxStack := 3, maxLocals := 4, code := jdk_38_method_24_code, exceptionTable := #[], attributes := #[] }
def k26m5 : Method := { name := "add", desc := "(Ljava/lang/Object;[Ljava/lang/Object;I)V", sig := { parameters := [(.object "java/lang/Object"), (.array (.object "java/lang/Object")), .int], returnType := none }, accessFlags := 2, code := some k26c5 }
def k26c6 : Code := { maxStack := 4, maxLocals := 2, code := jdk_38_method_25_code, exceptionTable := #[], attributes := #[] }
def k26m6 : Method := { name := "add", desc := "(Ljava/lang/Object;)Z", sig := { parameters := [(.object "java/lang/Object")], returnType := some .boolean }, accessFlags := 1, code := some k26c6 }
/-- java/util/ArrayList -/
def k26 : Class := { plain "java/util/ArrayList" (some 23) with
  accessFlags := 33
  interfaces := #[22, 24, 25, 2]
  cf := some (fileOf pool26 10 #[.nestMembers #[290, 276, 500, 502, 262, 267]] #[{ accessFlags := 1, nameIndex := 5, descriptorIndex := 6, attributes := #[] }, { accessFlags := 2, nameIndex := 71, descriptorIndex := 72, attributes := #[] }, { accessFlags := 2, nameIndex := 71, descriptorIndex := 47, attributes := #[] }, { accessFlags := 1, nameIndex := 363, descriptorIndex := 173, attributes := #[] }, { accessFlags := 1, nameIndex := 46, descriptorIndex := 47, attributes := #[] }, { accessFlags := 2, nameIndex := 133, descriptorIndex := 134, attributes := #[] }, { accessFlags := 1, nameIndex := 133, descriptorIndex := 96, attributes := #[] }] 33 2 #[148, 329, 331, 333] #[{ accessFlags := 26, nameIndex := 335, descriptorIndex := 336, attributes := #[] }, { accessFlags := 26, nameIndex := 340, descriptorIndex := 51, attributes := #[] }, { accessFlags := 26, nameIndex := 17, descriptorIndex := 14, attributes := #[] }, { accessFlags := 26, nameIndex := 41, descriptorIndex := 14, attributes := #[] }, { accessFlags := 128, nameIndex := 13, descriptorIndex := 14, attributes := #[] }, { accessFlags := 2, nameIndex := 50, descriptorIndex := 51, attributes := #[] }])
  fields := #[{ name := "serialVersionUID", type := .long, accessFlags := 26, slot := 0, constantValue := 0 }, { name := "DEFAULT_CAPACITY", type := .int, accessFlags := 26, slot := 1, constantValue := 0 }, { name := "EMPTY_ELEMENTDATA", type := (.array (.object "java/lang/Object")), accessFlags := 26, slot := 2, constantValue := 0 }, { name := "DEFAULTCAPACITY_EMPTY_ELEMENTDATA", type := (.array (.object "java/lang/Object")), accessFlags := 26, slot := 3, constantValue := 0 }, { name := "elementData", type := (.array (.object "java/lang/Object")), accessFlags := 128, slot := 1, constantValue := 0 }, { name := "size", type := .int, accessFlags := 2, slot := 2, constantValue := 0 }]
  methods := #[k26m0, k26m1, k26m2, k26m3, k26m4, k26m5, k26m6]
  instanceTypes := #[.int, (.array (.object "java/lang/Object")), .int]
  staticTypes := #[.long, .int, (.array (.object "java/lang/Object")), (.array (.object "java/lang/Object"))]
  resolved := Array.replicate 509 none
  statics := some 3 }

def pool27 : Array CpInfo := pool [(1, .methodref 2 3), (0, .class_ 4), (0, .nameAndType 5 6), (0, u "java/lang/Record"), (0, u "<init>"), (0, u "()V"), (0, .interfaceMethodref 8 9), (0, .class_ 10), (0, .nameAndType 11 12), (0, u "java/util/List"), (0, u "copyOf"), (0, u "(Ljava/util/Collection;)Ljava/util/List;"), (0, .fieldref 14 15), (0, .class_ 16), (0, .nameAndType 17 18), (0, u "com/example/cuenta/cuenta/FuelSchemes"), (0, u "schemes"), (0, u "Ljava/util/List;"), (0, .interfaceMethodref 8 20), (0, .nameAndType 21 22), (0, u "iterator"), (0, u "()Ljava/util/Iterator;"), (0, .interfaceMethodref 24 25), (0, .class_ 26), (0, .nameAndType 27 28), (0, u "java/util/Iterator"), (0, u "hasNext"), (0, u "()Z"), (0, .interfaceMethodref 24 30), (0, .nameAndType 31 32), (0, u "next"), (0, u "()Ljava/lang/Object;"), (0, .class_ 34), (0, u "com/example/cuenta/cuenta/FuelSchemes$Scheme"), (0, .methodref 33 36), (0, .nameAndType 37 38), (0, u "name"), (0, u "()Ljava/lang/String;"), (0, .methodref 40 41), (0, .class_ 42), (0, .nameAndType 43 44), (0, u "java/lang/String"), (0, u "equals"), (0, u "(Ljava/lang/Object;)Z"), (0, .methodref 46 47), (0, .class_ 48), (0, .nameAndType 49 50), (0, u "java/util/Optional"), (0, u "of"), (0, u "(Ljava/lang/Object;)Ljava/util/Optional;"), (0, .methodref 46 52), (0, .nameAndType 53 54), (0, u "empty"), (0, u "()Ljava/util/Optional;"), (13, u "(Ljava/util/List;)V"), (4, u "scheme"), (0, u "(Ljava/lang/String;)Ljava/util/Optional;")] 26

def k27c0 : Code := { maxStack := 2, maxLocals := 2, code := prog_26_method_1_code, exceptionTable := #[], attributes := #[] }
def k27m0 : Method := { name := "<init>", desc := "(Ljava/util/List;)V", sig := { parameters := [(.object "java/util/List")], returnType := none }, accessFlags := 1, code := some k27c0 }
def k27c1 : Code := { maxStack := 2, maxLocals := 4, code := prog_26_method_2_code, exceptionTable := #[], attributes := #[] }
def k27m1 : Method := { name := "scheme", desc := "(Ljava/lang/String;)Ljava/util/Optional;", sig := { parameters := [(.object "java/lang/String")], returnType := some (.object "java/util/Optional") }, accessFlags := 1, code := some k27c1 }
/-- com/example/cuenta/cuenta/FuelSchemes -/
def k27 : Class := { plain "com/example/cuenta/cuenta/FuelSchemes" (some 9) with
  accessFlags := 49
  interfaces := #[]
  cf := some (fileOf pool27 14 #[.nestMembers #[33]] #[{ accessFlags := 1, nameIndex := 5, descriptorIndex := 68, attributes := #[] }, { accessFlags := 1, nameIndex := 73, descriptorIndex := 74, attributes := #[] }] 49 2 #[] #[{ accessFlags := 18, nameIndex := 17, descriptorIndex := 18, attributes := #[] }])
  fields := #[{ name := "schemes", type := (.object "java/util/List"), accessFlags := 18, slot := 0, constantValue := 0 }]
  methods := #[k27m0, k27m1]
  instanceTypes := #[(.object "java/util/List")]
  staticTypes := #[]
  resolved := Array.replicate 101 none
  statics := none }

def pool28 : Array CpInfo := pool [(2, .class_ 4), (1, u "java/lang/Object"), (0, u "<init>"), (0, u "()V"), (3, .class_ 11), (0, u "java/util/ImmutableCollections$List12"), (0, .class_ 13), (0, u "java/util/ImmutableCollections$ListN"), (3, u "Z"), (0, .class_ 19), (0, u "java/util/List"), (0, .interfaceMethodref 21 22), (0, .class_ 23), (0, .nameAndType 24 25), (0, u "java/util/Collection"), (0, u "isEmpty"), (0, u "()Z"), (0, .interfaceMethodref 18 27), (0, .nameAndType 28 29), (0, u "of"), (0, u "()Ljava/util/List;"), (0, .interfaceMethodref 21 31), (0, .nameAndType 32 33), (0, u "toArray"), (0, u "()[Ljava/lang/Object;"), (0, .interfaceMethodref 18 35), (0, .nameAndType 28 36), (0, u "([Ljava/lang/Object;)Ljava/util/List;"), (0, .methodref 38 39), (0, .class_ 40), (0, .nameAndType 41 42), (0, u "java/util/Objects"), (0, u "requireNonNull"), (0, u "(Ljava/lang/Object;)Ljava/lang/Object;"), (0, .methodref 12 44), (0, .nameAndType 5 45), (0, u "([Ljava/lang/Object;Z)V"), (1, .class_ 49), (1, u "java/util/ImmutableCollections"), (0, u "$assertionsDisabled"), (5, u "[Ljava/lang/Object;"), (5, u "EMPTY_LIST"), (0, u "Ljava/util/ImmutableCollections$ListN;"), (8, u "EMPTY_LIST_NULLS"), (22, u "SALT32L"), (0, u "J"), (2, u "REVERSE"), (6, u "archivedObjects"), (2, u "EMPTY"), (0, u "Ljava/lang/Object;"), (0, .class_ 112), (0, u "java/util/ImmutableCollections$SetN"), (5, u "EMPTY_SET"), (0, u "Ljava/util/ImmutableCollections$SetN;"), (0, .class_ 121), (0, u "java/util/ImmutableCollections$MapN"), (3, u "EMPTY_MAP"), (0, u "Ljava/util/ImmutableCollections$MapN;"), (4, u "EXPAND_FACTOR"), (0, u "I"), (9, u "listCopy"), (0, u "(Ljava/util/Collection;)Ljava/util/List;"), (7, u "listFromArray"), (17, .class_ 170), (0, u "java/util/ImmutableCollections$MapN$MapNIterator"), (0, .class_ 172), (0, u "java/util/ImmutableCollections$MapN$1"), (0, .class_ 174), (0, u "java/util/ImmutableCollections$Map1"), (0, .class_ 176), (0, u "java/util/ImmutableCollections$AbstractImmutableMap"), (0, .class_ 178), (0, u "java/util/ImmutableCollections$SetN$SetNIterator"), (0, .class_ 180), (0, u "java/util/ImmutableCollections$Set12"), (0, .class_ 182), (0, u "java/util/ImmutableCollections$Set12$1"), (0, .class_ 184), (0, u "java/util/ImmutableCollections$AbstractImmutableSet"), (0, .class_ 186), (0, u "java/util/ImmutableCollections$SubList"), (0, .class_ 188), (0, u "java/util/ImmutableCollections$ListItr"), (0, .class_ 190), (0, u "java/util/ImmutableCollections$AbstractImmutableList"), (0, .class_ 192), (0, u "java/util/ImmutableCollections$AbstractImmutableCollection"), (0, .class_ 194), (0, u "java/util/ImmutableCollections$Access"), (0, .class_ 196), (0, u "java/util/ImmutableCollections$Access$1")] 16

def k28m0 : Method := { name := "<init>", desc := "()V", sig := { parameters := [], returnType := none }, accessFlags := 2, code := none }
def k28c1 : Code := { maxStack := 1, maxLocals := 2, code := jdk_56_method_3_code, exceptionTable := #[], attributes := #[] }
def k28m1 : Method := { name := "listCopy", desc := "(Ljava/util/Collection;)Ljava/util/List;", sig := { parameters := [(.object "java/util/Collection")], returnType := some (.object "java/util/List") }, accessFlags := 8, code := some k28c1 }
def k28c2 : Code := { maxStack := 4, maxLocals := 3, code := jdk_56_method_4_code, exceptionTable := #[], attributes := #[] }
def k28m2 : Method := { name := "listFromArray", desc := "([Ljava/lang/Object;)Ljava/util/List;", sig := { parameters := [(.array (.object "java/lang/Object"))], returnType := some (.object "java/util/List") }, accessFlags := 136, code := some k28c2 }
/-- java/util/ImmutableCollections -/
def k28 : Class := { plain "java/util/ImmutableCollections" (some 0) with
  accessFlags := 32
  interfaces := #[]
  cf := some (fileOf pool28 47 #[.nestMembers #[120, 169, 171, 173, 175, 111, 177, 179, 181, 183, 12, 10, 185, 187, 189, 191, 193, 195]] #[{ accessFlags := 2, nameIndex := 5, descriptorIndex := 6, attributes := #[] }, { accessFlags := 8, nameIndex := 142, descriptorIndex := 143, attributes := #[] }, { accessFlags := 136, nameIndex := 151, descriptorIndex := 36, attributes := #[] }] 32 2 #[] #[{ accessFlags := 26, nameIndex := 95, descriptorIndex := 96, attributes := #[] }, { accessFlags := 26, nameIndex := 99, descriptorIndex := 17, attributes := #[] }, { accessFlags := 10, nameIndex := 106, descriptorIndex := 56, attributes := #[] }, { accessFlags := 26, nameIndex := 109, descriptorIndex := 110, attributes := #[] }, { accessFlags := 24, nameIndex := 62, descriptorIndex := 63, attributes := #[] }, { accessFlags := 24, nameIndex := 72, descriptorIndex := 63, attributes := #[] }, { accessFlags := 24, nameIndex := 118, descriptorIndex := 119, attributes := #[] }, { accessFlags := 24, nameIndex := 125, descriptorIndex := 126, attributes := #[] }, { accessFlags := 24, nameIndex := 131, descriptorIndex := 132, attributes := #[] }, { accessFlags := 4120, nameIndex := 50, descriptorIndex := 17, attributes := #[] }])
  fields := #[{ name := "SALT32L", type := .long, accessFlags := 26, slot := 0, constantValue := 0 }, { name := "REVERSE", type := .boolean, accessFlags := 26, slot := 1, constantValue := 0 }, { name := "archivedObjects", type := (.array (.object "java/lang/Object")), accessFlags := 10, slot := 2, constantValue := 0 }, { name := "EMPTY", type := (.object "java/lang/Object"), accessFlags := 26, slot := 3, constantValue := 0 }, { name := "EMPTY_LIST", type := (.object "java/util/ImmutableCollections$ListN"), accessFlags := 24, slot := 4, constantValue := 0 }, { name := "EMPTY_LIST_NULLS", type := (.object "java/util/ImmutableCollections$ListN"), accessFlags := 24, slot := 5, constantValue := 0 }, { name := "EMPTY_SET", type := (.object "java/util/ImmutableCollections$SetN"), accessFlags := 24, slot := 6, constantValue := 0 }, { name := "EMPTY_MAP", type := (.object "java/util/ImmutableCollections$MapN"), accessFlags := 24, slot := 7, constantValue := 0 }, { name := "EXPAND_FACTOR", type := .int, accessFlags := 24, slot := 8, constantValue := 0 }, { name := "$assertionsDisabled", type := .boolean, accessFlags := 4120, slot := 9, constantValue := 0 }]
  methods := #[k28m0, k28m1, k28m2]
  instanceTypes := #[]
  staticTypes := #[.long, .boolean, (.array (.object "java/lang/Object")), (.object "java/lang/Object"), (.object "java/util/ImmutableCollections$ListN"), (.object "java/util/ImmutableCollections$ListN"), (.object "java/util/ImmutableCollections$SetN"), (.object "java/util/ImmutableCollections$MapN"), .int, .boolean]
  resolved := Array.replicate 213 none
  statics := some 4 }

def pool29 : Array CpInfo := pool [(1, .methodref 2 3), (0, .class_ 4), (0, .nameAndType 5 6), (0, u "java/util/AbstractCollection"), (0, u "<init>"), (0, u "()V"), (1, .class_ 10), (1, u "java/util/ImmutableCollections"), (2, .class_ 14), (0, u "java/util/ImmutableCollections$AbstractImmutableCollection")] 41

def k29c0 : Code := { maxStack := 1, maxLocals := 1, code := jdk_47_method_1_code, exceptionTable := #[], attributes := #[] }
def k29m0 : Method := { name := "<init>", desc := "()V", sig := { parameters := [], returnType := none }, accessFlags := 0, code := some k29c0 }
/-- java/util/ImmutableCollections$AbstractImmutableCollection -/
def k29 : Class := { plain "java/util/ImmutableCollections$AbstractImmutableCollection" (some 20) with
  accessFlags := 1056
  interfaces := #[]
  cf := some (fileOf pool29 13 #[.nestHost 8] #[{ accessFlags := 0, nameIndex := 5, descriptorIndex := 6, attributes := #[] }] 1056 2 #[] #[])
  fields := #[]
  methods := #[k29m0]
  instanceTypes := #[]
  staticTypes := #[]
  resolved := Array.replicate 56 none
  statics := none }

def pool30 : Array CpInfo := pool [(1, .methodref 2 3), (0, .class_ 4), (0, .nameAndType 5 6), (0, u "java/util/ImmutableCollections$AbstractImmutableCollection"), (0, u "<init>"), (0, u "()V"), (1, .class_ 10), (1, u "java/util/ImmutableCollections"), (2, .methodref 14 15), (0, .class_ 16), (0, .nameAndType 17 18), (0, u "java/util/ImmutableCollections$AbstractImmutableList"), (0, u "size"), (0, u "()I"), (42, .class_ 62), (0, u "java/util/ImmutableCollections$ListItr"), (0, .methodref 61 64), (0, .nameAndType 5 65), (0, u "(Ljava/util/List;I)V"), (11, .class_ 78), (0, u "java/util/List"), (2, u "iterator"), (0, u "()Ljava/util/Iterator;"), (41, .class_ 125), (0, u "java/util/RandomAccess")] 70

def k30c0 : Code := { maxStack := 1, maxLocals := 1, code := jdk_46_method_1_code, exceptionTable := #[], attributes := #[] }
def k30m0 : Method := { name := "<init>", desc := "()V", sig := { parameters := [], returnType := none }, accessFlags := 0, code := some k30c0 }
def k30c1 : Code := { maxStack := 4, maxLocals := 1, code := jdk_46_method_10_code, exceptionTable := #[], attributes := #[] }
def k30m1 : Method := { name := "iterator", desc := "()Ljava/util/Iterator;", sig := { parameters := [], returnType := some (.object "java/util/Iterator") }, accessFlags := 1, code := some k30c1 }
/-- java/util/ImmutableCollections$AbstractImmutableList -/
def k30 : Class := { plain "java/util/ImmutableCollections$AbstractImmutableList" (some 29) with
  accessFlags := 1056
  interfaces := #[22, 24]
  cf := some (fileOf pool30 14 #[.nestHost 8] #[{ accessFlags := 0, nameIndex := 5, descriptorIndex := 6, attributes := #[] }, { accessFlags := 1, nameIndex := 81, descriptorIndex := 82, attributes := #[] }] 1056 2 #[77, 124] #[])
  fields := #[]
  methods := #[k30m0, k30m1]
  instanceTypes := #[]
  staticTypes := #[]
  resolved := Array.replicate 196 none
  statics := none }

def pool31 : Array CpInfo := pool [(1, .methodref 2 3), (0, .class_ 4), (0, .nameAndType 5 6), (0, u "java/util/ImmutableCollections$AbstractImmutableList"), (0, u "<init>"), (0, u "()V"), (0, .methodref 8 9), (0, .class_ 10), (0, .nameAndType 11 12), (0, u "java/util/Objects"), (0, u "requireNonNull"), (0, u "(Ljava/lang/Object;)Ljava/lang/Object;"), (0, .fieldref 14 15), (0, .class_ 16), (0, .nameAndType 17 18), (0, u "java/util/ImmutableCollections$List12"), (0, u "e0"), (0, u "Ljava/lang/Object;"), (0, .fieldref 20 21), (0, .class_ 22), (0, .nameAndType 23 18), (0, u "java/util/ImmutableCollections"), (0, u "EMPTY"), (0, .fieldref 14 25), (0, .nameAndType 26 18), (0, u "e1"), (24, u "size"), (0, u "()I"), (17, .class_ 71), (0, u "java/io/Serializable"), (4, u "(Ljava/lang/Object;)V"), (8, u "(Ljava/lang/Object;Ljava/lang/Object;)V"), (4, u "get"), (0, u "(I)Ljava/lang/Object;")] 33

def k31c0 : Code := { maxStack := 2, maxLocals := 2, code := jdk_44_method_1_code, exceptionTable := #[], attributes := #[] }
def k31m0 : Method := { name := "<init>", desc := "(Ljava/lang/Object;)V", sig := { parameters := [(.object "java/lang/Object")], returnType := none }, accessFlags := 0, code := some k31c0 }
def k31c1 : Code := { maxStack := 2, maxLocals := 3, code := jdk_44_method_2_code, exceptionTable := #[], attributes := #[] }
def k31m1 : Method := { name := "<init>", desc := "(Ljava/lang/Object;Ljava/lang/Object;)V", sig := { parameters := [(.object "java/lang/Object"), (.object "java/lang/Object")], returnType := none }, accessFlags := 0, code := some k31c1 }
def k31c2 : Code := { maxStack := 2, maxLocals := 1, code := jdk_44_method_3_code, exceptionTable := #[], attributes := #[] }
def k31m2 : Method := { name := "size", desc := "()I", sig := { parameters := [], returnType := some .int }, accessFlags := 1, code := some k31c2 }
def k31c3 : Code := { maxStack := 2, maxLocals := 2, code := jdk_44_method_5_code, exceptionTable := #[], attributes := #[] }
def k31m3 : Method := { name := "get", desc := "(I)Ljava/lang/Object;", sig := { parameters := [.int], returnType := some (.object "java/lang/Object") }, accessFlags := 1, code := some k31c3 }
/-- java/util/ImmutableCollections$List12 -/
def k31 : Class := { plain "java/util/ImmutableCollections$List12" (some 30) with
  accessFlags := 48
  interfaces := #[2]
  cf := some (fileOf pool31 14 #[.nestHost 20] #[{ accessFlags := 0, nameIndex := 5, descriptorIndex := 76, attributes := #[] }, { accessFlags := 0, nameIndex := 5, descriptorIndex := 85, attributes := #[] }, { accessFlags := 1, nameIndex := 51, descriptorIndex := 52, attributes := #[] }, { accessFlags := 1, nameIndex := 90, descriptorIndex := 91, attributes := #[] }] 48 2 #[70] #[{ accessFlags := 18, nameIndex := 17, descriptorIndex := 18, attributes := #[] }, { accessFlags := 18, nameIndex := 26, descriptorIndex := 18, attributes := #[] }])
  fields := #[{ name := "e0", type := (.object "java/lang/Object"), accessFlags := 18, slot := 0, constantValue := 0 }, { name := "e1", type := (.object "java/lang/Object"), accessFlags := 18, slot := 1, constantValue := 0 }]
  methods := #[k31m0, k31m1, k31m2, k31m3]
  instanceTypes := #[(.object "java/lang/Object"), (.object "java/lang/Object")]
  staticTypes := #[]
  resolved := Array.replicate 125 none
  statics := none }

def pool32 : Array CpInfo := pool [(1, .methodref 2 3), (0, .class_ 4), (0, .nameAndType 5 6), (0, u "java/util/ImmutableCollections$AbstractImmutableList"), (0, u "<init>"), (0, u "()V"), (0, .fieldref 8 9), (0, .class_ 10), (0, .nameAndType 11 12), (0, u "java/util/ImmutableCollections$ListN"), (0, u "elements"), (0, u "[Ljava/lang/Object;"), (0, .fieldref 8 14), (0, .nameAndType 15 16), (0, u "allowNulls"), (0, u "Z"), (42, .class_ 60), (0, u "java/io/Serializable"), (4, u "([Ljava/lang/Object;Z)V"), (11, u "size"), (0, u "()I"), (0, u "get"), (0, u "(I)Ljava/lang/Object;"), (33, .class_ 115), (0, u "java/util/ImmutableCollections")] 3

def k32c0 : Code := { maxStack := 2, maxLocals := 3, code := jdk_45_method_1_code, exceptionTable := #[], attributes := #[] }
def k32m0 : Method := { name := "<init>", desc := "([Ljava/lang/Object;Z)V", sig := { parameters := [(.array (.object "java/lang/Object")), .boolean], returnType := none }, accessFlags := 2, code := some k32c0 }
def k32c1 : Code := { maxStack := 1, maxLocals := 1, code := jdk_45_method_3_code, exceptionTable := #[], attributes := #[] }
def k32m1 : Method := { name := "size", desc := "()I", sig := { parameters := [], returnType := some .int }, accessFlags := 1, code := some k32c1 }
def k32c2 : Code := { maxStack := 2, maxLocals := 2, code := jdk_45_method_4_code, exceptionTable := #[], attributes := #[] }
def k32m2 : Method := { name := "get", desc := "(I)Ljava/lang/Object;", sig := { parameters := [.int], returnType := some (.object "java/lang/Object") }, accessFlags := 1, code := some k32c2 }
/-- java/util/ImmutableCollections$ListN -/
def k32 : Class := { plain "java/util/ImmutableCollections$ListN" (some 30) with
  accessFlags := 48
  interfaces := #[2]
  cf := some (fileOf pool32 8 #[.nestHost 114] #[{ accessFlags := 2, nameIndex := 5, descriptorIndex := 65, attributes := #[] }, { accessFlags := 1, nameIndex := 77, descriptorIndex := 78, attributes := #[] }, { accessFlags := 1, nameIndex := 79, descriptorIndex := 80, attributes := #[] }] 48 2 #[59] #[{ accessFlags := 18, nameIndex := 11, descriptorIndex := 12, attributes := #[] }, { accessFlags := 18, nameIndex := 15, descriptorIndex := 16, attributes := #[] }])
  fields := #[{ name := "elements", type := (.array (.object "java/lang/Object")), accessFlags := 18, slot := 0, constantValue := 0 }, { name := "allowNulls", type := .boolean, accessFlags := 18, slot := 1, constantValue := 0 }]
  methods := #[k32m0, k32m1, k32m2]
  instanceTypes := #[(.array (.object "java/lang/Object")), .boolean]
  staticTypes := #[]
  resolved := Array.replicate 119 none
  statics := none }

def pool33 : Array CpInfo := pool [(16, .class_ 18), (1, u "java/util/Iterator"), (0, u "hasNext"), (0, u "()Z"), (2, u "next"), (0, u "()Ljava/lang/Object;"), (6, .class_ 32), (0, u "java/lang/Object")] 20

def k33m0 : Method := { name := "hasNext", desc := "()Z", sig := { parameters := [], returnType := some .boolean }, accessFlags := 1025, code := none }
def k33m1 : Method := { name := "next", desc := "()Ljava/lang/Object;", sig := { parameters := [], returnType := some (.object "java/lang/Object") }, accessFlags := 1025, code := none }
/-- java/util/Iterator -/
def k33 : Class := { plain "java/util/Iterator" (some 0) with
  accessFlags := 1537
  interfaces := #[]
  cf := some (fileOf pool33 16 #[] #[{ accessFlags := 1025, nameIndex := 19, descriptorIndex := 20, attributes := #[] }, { accessFlags := 1025, nameIndex := 23, descriptorIndex := 24, attributes := #[] }] 1537 31 #[] #[])
  fields := #[]
  methods := #[k33m0, k33m1]
  instanceTypes := #[]
  staticTypes := #[]
  resolved := Array.replicate 53 none
  statics := none }

def pool34 : Array CpInfo := pool [(1, .class_ 2), (0, u "java/util/ListIterator"), (0, .class_ 4), (0, u "java/lang/Object"), (0, .class_ 6), (0, u "java/util/Iterator")] 20

/-- java/util/ListIterator -/
def k34 : Class := { plain "java/util/ListIterator" (some 0) with
  accessFlags := 1537
  interfaces := #[33]
  cf := some (fileOf pool34 1 #[] #[] 1537 3 #[5] #[])
  fields := #[]
  methods := #[]
  instanceTypes := #[]
  staticTypes := #[]
  resolved := Array.replicate 27 none
  statics := none }

def pool35 : Array CpInfo := pool [(1, .methodref 2 3), (0, .class_ 4), (0, .nameAndType 5 6), (0, u "java/lang/Object"), (0, u "<init>"), (0, u "()V"), (0, .fieldref 8 9), (0, .class_ 10), (0, .nameAndType 11 12), (0, u "java/util/ImmutableCollections$ListItr"), (0, u "list"), (0, u "Ljava/util/List;"), (0, .fieldref 8 14), (0, .nameAndType 15 16), (0, u "size"), (0, u "I"), (0, .fieldref 8 18), (0, .nameAndType 19 16), (0, u "cursor"), (0, .fieldref 8 21), (0, .nameAndType 22 23), (0, u "isListIterator"), (0, u "Z"), (0, .interfaceMethodref 25 26), (0, .class_ 27), (0, .nameAndType 28 29), (0, u "java/util/List"), (0, u "get"), (0, u "(I)Ljava/lang/Object;"), (6, .class_ 38), (1, u "java/util/ImmutableCollections"), (2, .class_ 42), (0, u "java/util/ListIterator"), (4, u "(Ljava/util/List;I)V"), (11, u "hasNext"), (0, u "()Z"), (1, u "next"), (0, u "()Ljava/lang/Object;")] 22

def k35c0 : Code := { maxStack := 2, maxLocals := 3, code := jdk_53_method_1_code, exceptionTable := #[], attributes := #[] }
def k35m0 : Method := { name := "<init>", desc := "(Ljava/util/List;I)V", sig := { parameters := [(.object "java/util/List"), .int], returnType := none }, accessFlags := 0, code := some k35c0 }
def k35c1 : Code := { maxStack := 2, maxLocals := 1, code := jdk_53_method_3_code, exceptionTable := #[], attributes := #[] }
def k35m1 : Method := { name := "hasNext", desc := "()Z", sig := { parameters := [], returnType := some .boolean }, accessFlags := 1, code := some k35c1 }
def k35c2 : Code := { maxStack := 3, maxLocals := 3, code := jdk_53_method_4_code, exceptionTable := #[{ startPc := 0, endPc := 24, handlerPc := 25, catchType := 30 }], attributes := #[] }
def k35m2 : Method := { name := "next", desc := "()Ljava/lang/Object;", sig := { parameters := [], returnType := some (.object "java/lang/Object") }, accessFlags := 1, code := some k35c2 }
/-- java/util/ImmutableCollections$ListItr -/
def k35 : Class := { plain "java/util/ImmutableCollections$ListItr" (some 0) with
  accessFlags := 48
  interfaces := #[34]
  cf := some (fileOf pool35 8 #[.nestHost 36] #[{ accessFlags := 0, nameIndex := 5, descriptorIndex := 47, attributes := #[] }, { accessFlags := 1, nameIndex := 59, descriptorIndex := 60, attributes := #[] }, { accessFlags := 1, nameIndex := 62, descriptorIndex := 63, attributes := #[] }] 48 2 #[41] #[{ accessFlags := 18, nameIndex := 11, descriptorIndex := 12, attributes := #[] }, { accessFlags := 18, nameIndex := 15, descriptorIndex := 16, attributes := #[] }, { accessFlags := 18, nameIndex := 22, descriptorIndex := 23, attributes := #[] }, { accessFlags := 2, nameIndex := 19, descriptorIndex := 16, attributes := #[] }])
  fields := #[{ name := "list", type := (.object "java/util/List"), accessFlags := 18, slot := 0, constantValue := 0 }, { name := "size", type := .int, accessFlags := 18, slot := 1, constantValue := 0 }, { name := "isListIterator", type := .boolean, accessFlags := 18, slot := 2, constantValue := 0 }, { name := "cursor", type := .int, accessFlags := 2, slot := 3, constantValue := 0 }]
  methods := #[k35m0, k35m1, k35m2]
  instanceTypes := #[(.object "java/util/List"), .int, .boolean, .int]
  staticTypes := #[]
  resolved := Array.replicate 86 none
  statics := none }

def pool36 : Array CpInfo := pool [(1, .class_ 2), (0, u "java/lang/Math"), (1, .class_ 6), (1, u "java/lang/Object"), (0, u "<init>"), (0, u "()V"), (89, .class_ 100), (1, u "java/lang/Math$RandomNumberGeneratorHolder"), (71, u "negativeZeroFloatBits"), (0, u "J"), (2, u "negativeZeroDoubleBits"), (21, u "max"), (2, u "min"), (43, u "$assertionsDisabled"), (0, u "Z"), (88, u "(II)I"), (2, u "twoToTheDoubleScaleDown"), (0, u "D"), (4, u "twoToTheDoubleScaleUp"), (9, u "E"), (3, u "PI"), (2, u "TAU"), (2, u "DEGREES_TO_RADIANS"), (0, u "RADIANS_TO_DEGREES")] 94

def k36m0 : Method := { name := "<init>", desc := "()V", sig := { parameters := [], returnType := none }, accessFlags := 2, code := none }
def k36c1 : Code := { maxStack := 2, maxLocals := 2, code := jdk_29_method_65_code, exceptionTable := #[], attributes := #[] }
def k36m1 : Method := { name := "max", desc := "(II)I", sig := { parameters := [.int, .int], returnType := some .int }, accessFlags := 9, code := some k36c1 }
def k36c2 : Code := { maxStack := 2, maxLocals := 2, code := jdk_29_method_69_code, exceptionTable := #[], attributes := #[] }
def k36m2 : Method := { name := "min", desc := "(II)I", sig := { parameters := [.int, .int], returnType := some .int }, accessFlags := 9, code := some k36c2 }
/-- java/lang/Math -/
def k36 : Class := { plain "java/lang/Math" (some 0) with
  accessFlags := 49
  interfaces := #[]
  cf := some (fileOf pool36 1 #[.nestMembers #[98]] #[{ accessFlags := 2, nameIndex := 7, descriptorIndex := 8, attributes := #[] }, { accessFlags := 9, nameIndex := 198, descriptorIndex := 335, attributes := #[] }, { accessFlags := 9, nameIndex := 201, descriptorIndex := 335, attributes := #[] }] 49 4 #[] #[{ accessFlags := 25, nameIndex := 354, descriptorIndex := 339, attributes := #[] }, { accessFlags := 25, nameIndex := 358, descriptorIndex := 339, attributes := #[] }, { accessFlags := 25, nameIndex := 361, descriptorIndex := 339, attributes := #[] }, { accessFlags := 26, nameIndex := 364, descriptorIndex := 339, attributes := #[] }, { accessFlags := 26, nameIndex := 365, descriptorIndex := 339, attributes := #[] }, { accessFlags := 26, nameIndex := 172, descriptorIndex := 173, attributes := #[] }, { accessFlags := 26, nameIndex := 176, descriptorIndex := 173, attributes := #[] }, { accessFlags := 8, nameIndex := 344, descriptorIndex := 339, attributes := #[] }, { accessFlags := 8, nameIndex := 338, descriptorIndex := 339, attributes := #[] }, { accessFlags := 4120, nameIndex := 245, descriptorIndex := 246, attributes := #[] }])
  fields := #[{ name := "E", type := .double, accessFlags := 25, slot := 0, constantValue := 0 }, { name := "PI", type := .double, accessFlags := 25, slot := 1, constantValue := 0 }, { name := "TAU", type := .double, accessFlags := 25, slot := 2, constantValue := 0 }, { name := "DEGREES_TO_RADIANS", type := .double, accessFlags := 26, slot := 3, constantValue := 0 }, { name := "RADIANS_TO_DEGREES", type := .double, accessFlags := 26, slot := 4, constantValue := 0 }, { name := "negativeZeroFloatBits", type := .long, accessFlags := 26, slot := 5, constantValue := 0 }, { name := "negativeZeroDoubleBits", type := .long, accessFlags := 26, slot := 6, constantValue := 0 }, { name := "twoToTheDoubleScaleUp", type := .double, accessFlags := 8, slot := 7, constantValue := 0 }, { name := "twoToTheDoubleScaleDown", type := .double, accessFlags := 8, slot := 8, constantValue := 0 }, { name := "$assertionsDisabled", type := .boolean, accessFlags := 4120, slot := 9, constantValue := 0 }]
  methods := #[k36m0, k36m1, k36m2]
  instanceTypes := #[]
  staticTypes := #[.double, .double, .double, .double, .double, .long, .long, .double, .double, .boolean]
  resolved := Array.replicate 460 none
  statics := none }

def pool37 : Array CpInfo := pool [(2, .class_ 4), (1, u "java/lang/Object"), (0, u "<init>"), (0, u "()V"), (7, .class_ 16), (1, u "java/util/Arrays"), (57, .class_ 76), (1, u "java/util/Arrays$NaturalOrder"), (9, .methodref 2 87), (0, .nameAndType 88 89), (0, u "getClass"), (0, u "()Ljava/lang/Class;"), (20, .class_ 111), (0, u "[Ljava/lang/Object;"), (1, .class_ 115), (1, u "java/util/Arrays$LegacyMergeSort"), (1, u "Z"), (32, .methodref 151 152), (0, .class_ 153), (0, .nameAndType 154 155), (0, u "java/lang/System"), (0, u "arraycopy"), (0, u "(Ljava/lang/Object;ILjava/lang/Object;II)V"), (144, .methodref 14 301), (0, .nameAndType 302 303), (0, u "copyOf"), (0, u "([Ljava/lang/Object;ILjava/lang/Class;)[Ljava/lang/Object;"), (0, .methodref 305 306), (0, .class_ 307), (0, .nameAndType 308 309), (0, u "java/lang/Math"), (0, u "min"), (0, u "(II)I"), (65, .class_ 376), (0, u "java/util/Arrays$ArrayList"), (68, u "$assertionsDisabled"), (269, u "MIN_ARRAY_SORT_GRAN"), (0, u "I"), (2, u "INSERTIONSORT_THRESHOLD"), (140, u "([Ljava/lang/Object;I)[Ljava/lang/Object;"), (114, .class_ 976), (0, u "java/util/Arrays$ArrayItr")] 52

def k37m0 : Method := { name := "<init>", desc := "()V", sig := { parameters := [], returnType := none }, accessFlags := 2, code := none }
def k37c1 : Code := { maxStack := 3, maxLocals := 2, code := jdk_65_method_119_code, exceptionTable := #[], attributes := #[] }
def k37m1 : Method := { name := "copyOf", desc := "([Ljava/lang/Object;I)[Ljava/lang/Object;", sig := { parameters := [(.array (.object "java/lang/Object")), .int], returnType := some (.array (.object "java/lang/Object")) }, accessFlags := 9, code := some k37c1 }
def k37c2 : Code := { maxStack := 6, maxLocals := 4, code := jdk_65_method_120_code, exceptionTable := #[], attributes := #[] }
def k37m2 : Method := { name := "copyOf", desc := "([Ljava/lang/Object;ILjava/lang/Class;)[Ljava/lang/Object;", sig := { parameters := [(.array (.object "java/lang/Object")), .int, (.object "java/lang/Class")], returnType := some (.array (.object "java/lang/Object")) }, accessFlags := 9, code := some k37c2 }
/-- java/util/Arrays -/
def k37 : Class := { plain "java/util/Arrays" (some 0) with
  accessFlags := 49
  interfaces := #[]
  cf := some (fileOf pool37 14 #[.nestMembers #[975, 375, 113, 74]] #[{ accessFlags := 2, nameIndex := 5, descriptorIndex := 6, attributes := #[] }, { accessFlags := 9, nameIndex := 302, descriptorIndex := 860, attributes := #[] }, { accessFlags := 9, nameIndex := 302, descriptorIndex := 303, attributes := #[] }] 49 2 #[] #[{ accessFlags := 26, nameIndex := 715, descriptorIndex := 716, attributes := #[] }, { accessFlags := 26, nameIndex := 719, descriptorIndex := 716, attributes := #[] }, { accessFlags := 4120, nameIndex := 445, descriptorIndex := 117, attributes := #[] }])
  fields := #[{ name := "MIN_ARRAY_SORT_GRAN", type := .int, accessFlags := 26, slot := 0, constantValue := 0 }, { name := "INSERTIONSORT_THRESHOLD", type := .int, accessFlags := 26, slot := 1, constantValue := 0 }, { name := "$assertionsDisabled", type := .boolean, accessFlags := 4120, slot := 2, constantValue := 0 }]
  methods := #[k37m0, k37m1, k37m2]
  instanceTypes := #[]
  staticTypes := #[.int, .int, .boolean]
  resolved := Array.replicate 1029 none
  statics := none }

def pool38 : Array CpInfo := pool [(2, .class_ 4), (1, u "java/lang/Object"), (0, u "<init>"), (0, u "()V"), (1, .class_ 10), (1, u "java/lang/System"), (0, u "allowSecurityManager"), (0, u "I"), (16, u "cons"), (0, u "Ljava/io/Console;"), (77, .class_ 110), (1, u "java/lang/System$CallersHolder"), (43, u "initialErrStream"), (0, u "Ljava/io/PrintStream;"), (19, u "security"), (0, u "Ljava/lang/SecurityManager;"), (31, .class_ 209), (0, u "java/lang/System$1"), (7, u "props"), (0, u "Ljava/util/Properties;"), (2, u "lineSeparator"), (0, u "Ljava/lang/String;"), (96, .class_ 321), (1, u "java/lang/System$LoggerFinder"), (5, .class_ 328), (0, u "java/lang/System$Logger"), (67, u "err"), (2, u "out"), (91, u "notSupportedJnuEncoding"), (15, u "in"), (17, u "initialIn"), (0, u "Ljava/io/InputStream;"), (35, u "bootLayer"), (0, u "Ljava/lang/ModuleLayer;"), (99, .class_ 664), (0, u "java/lang/System$2"), (9, u "NEVER"), (2, u "MAYBE"), (49, u "arraycopy"), (0, u "(Ljava/lang/Object;ILjava/lang/Object;II)V"), (72, .class_ 802), (0, u "java/lang/System$Logger$Level")] 31

def k38m0 : Method := { name := "<init>", desc := "()V", sig := { parameters := [], returnType := none }, accessFlags := 2, code := none }
def k38m1 : Method := { name := "arraycopy", desc := "(Ljava/lang/Object;ILjava/lang/Object;II)V", sig := { parameters := [(.object "java/lang/Object"), .int, (.object "java/lang/Object"), .int, .int], returnType := none }, accessFlags := 265, code := none }
/-- java/lang/System -/
def k38 : Class := { plain "java/lang/System" (some 0) with
  accessFlags := 49
  interfaces := #[]
  cf := some (fileOf pool38 8 #[.nestMembers #[319, 327, 801, 108, 663, 208]] #[{ accessFlags := 2, nameIndex := 5, descriptorIndex := 6, attributes := #[] }, { accessFlags := 265, nameIndex := 727, descriptorIndex := 728, attributes := #[] }] 49 2 #[] #[{ accessFlags := 25, nameIndex := 507, descriptorIndex := 526, attributes := #[] }, { accessFlags := 25, nameIndex := 399, descriptorIndex := 155, attributes := #[] }, { accessFlags := 25, nameIndex := 396, descriptorIndex := 155, attributes := #[] }, { accessFlags := 10, nameIndex := 525, descriptorIndex := 526, attributes := #[] }, { accessFlags := 26, nameIndex := 674, descriptorIndex := 12, attributes := #[] }, { accessFlags := 26, nameIndex := 677, descriptorIndex := 12, attributes := #[] }, { accessFlags := 10, nameIndex := 11, descriptorIndex := 12, attributes := #[] }, { accessFlags := 74, nameIndex := 175, descriptorIndex := 176, attributes := #[] }, { accessFlags := 10, nameIndex := 491, descriptorIndex := 222, attributes := #[] }, { accessFlags := 74, nameIndex := 29, descriptorIndex := 30, attributes := #[] }, { accessFlags := 74, nameIndex := 154, descriptorIndex := 155, attributes := #[] }, { accessFlags := 10, nameIndex := 217, descriptorIndex := 218, attributes := #[] }, { accessFlags := 10, nameIndex := 221, descriptorIndex := 222, attributes := #[] }, { accessFlags := 8, nameIndex := 562, descriptorIndex := 563, attributes := #[] }])
  fields := #[{ name := "in", type := (.object "java/io/InputStream"), accessFlags := 25, slot := 0, constantValue := 0 }, { name := "out", type := (.object "java/io/PrintStream"), accessFlags := 25, slot := 1, constantValue := 0 }, { name := "err", type := (.object "java/io/PrintStream"), accessFlags := 25, slot := 2, constantValue := 0 }, { name := "initialIn", type := (.object "java/io/InputStream"), accessFlags := 10, slot := 3, constantValue := 0 }, { name := "NEVER", type := .int, accessFlags := 26, slot := 4, constantValue := 0 }, { name := "MAYBE", type := .int, accessFlags := 26, slot := 5, constantValue := 0 }, { name := "allowSecurityManager", type := .int, accessFlags := 10, slot := 6, constantValue := 0 }, { name := "security", type := (.object "java/lang/SecurityManager"), accessFlags := 74, slot := 7, constantValue := 0 }, { name := "notSupportedJnuEncoding", type := (.object "java/lang/String"), accessFlags := 10, slot := 8, constantValue := 0 }, { name := "cons", type := (.object "java/io/Console"), accessFlags := 74, slot := 9, constantValue := 0 }, { name := "initialErrStream", type := (.object "java/io/PrintStream"), accessFlags := 74, slot := 10, constantValue := 0 }, { name := "props", type := (.object "java/util/Properties"), accessFlags := 10, slot := 11, constantValue := 0 }, { name := "lineSeparator", type := (.object "java/lang/String"), accessFlags := 10, slot := 12, constantValue := 0 }, { name := "bootLayer", type := (.object "java/lang/ModuleLayer"), accessFlags := 8, slot := 13, constantValue := 0 }]
  methods := #[k38m0, k38m1]
  instanceTypes := #[]
  staticTypes := #[(.object "java/io/InputStream"), (.object "java/io/PrintStream"), (.object "java/io/PrintStream"), (.object "java/io/InputStream"), .int, .int, .int, (.object "java/lang/SecurityManager"), (.object "java/lang/String"), (.object "java/io/Console"), (.object "java/io/PrintStream"), (.object "java/util/Properties"), (.object "java/lang/String"), (.object "java/lang/ModuleLayer")]
  resolved := Array.replicate 834 none
  statics := none }

def pool39 : Array CpInfo := pool [(4, .class_ 6), (1, u "java/lang/Object"), (0, u "<init>"), (0, u "()V"), (5, .class_ 16), (1, u "java/lang/StringLatin1"), (104, u "$assertionsDisabled"), (0, u "Z"), (98, .class_ 223), (1, u "java/lang/StringLatin1$LinesSpliterator"), (57, u "equals"), (0, u "([B[B)Z"), (107, .class_ 391), (0, u "java/lang/StringLatin1$CharsSpliterator")] 3

def k39m0 : Method := { name := "<init>", desc := "()V", sig := { parameters := [], returnType := none }, accessFlags := 0, code := none }
def k39c1 : Code := { maxStack := 3, maxLocals := 3, code := jdk_43_method_13_code, exceptionTable := #[], attributes := #[] }
def k39m1 : Method := { name := "equals", desc := "([B[B)Z", sig := { parameters := [(.array .byte), (.array .byte)], returnType := some .boolean }, accessFlags := 9, code := some k39c1 }
/-- java/lang/StringLatin1 -/
def k39 : Class := { plain "java/lang/StringLatin1" (some 0) with
  accessFlags := 48
  interfaces := #[]
  cf := some (fileOf pool39 14 #[.nestMembers #[390, 221]] #[{ accessFlags := 0, nameIndex := 7, descriptorIndex := 8, attributes := #[] }, { accessFlags := 9, nameIndex := 281, descriptorIndex := 282, attributes := #[] }] 48 4 #[] #[{ accessFlags := 4120, nameIndex := 121, descriptorIndex := 122, attributes := #[] }])
  fields := #[{ name := "$assertionsDisabled", type := .boolean, accessFlags := 4120, slot := 0, constantValue := 0 }]
  methods := #[k39m0, k39m1]
  instanceTypes := #[]
  staticTypes := #[.boolean]
  resolved := Array.replicate 395 none
  statics := none }

def pool40 : Array CpInfo := pool [(2, .class_ 4), (1, u "java/lang/Object"), (0, u "<init>"), (0, u "()V"), (17, .class_ 26), (1, u "jdk/internal/util/Preconditions"), (28, .class_ 56), (0, u "jdk/internal/util/Preconditions$4"), (57, .class_ 115), (0, u "jdk/internal/util/Preconditions$1"), (7, u "SIOOBE_FORMATTER"), (0, u "Ljava/util/function/BiFunction;"), (0, .class_ 126), (0, u "jdk/internal/util/Preconditions$2"), (3, u "AIOOBE_FORMATTER"), (0, .class_ 132), (0, u "jdk/internal/util/Preconditions$3"), (3, u "IOOBE_FORMATTER")] 57

def k40m0 : Method := { name := "<init>", desc := "()V", sig := { parameters := [], returnType := none }, accessFlags := 1, code := none }
/-- jdk/internal/util/Preconditions -/
def k40 : Class := { plain "jdk/internal/util/Preconditions" (some 0) with
  accessFlags := 33
  interfaces := #[]
  cf := some (fileOf pool40 24 #[.nestMembers #[55, 131, 125, 114]] #[{ accessFlags := 1, nameIndex := 5, descriptorIndex := 6, attributes := #[] }] 33 2 #[] #[{ accessFlags := 25, nameIndex := 123, descriptorIndex := 124, attributes := #[] }, { accessFlags := 25, nameIndex := 130, descriptorIndex := 124, attributes := #[] }, { accessFlags := 25, nameIndex := 136, descriptorIndex := 124, attributes := #[] }])
  fields := #[{ name := "SIOOBE_FORMATTER", type := (.object "java/util/function/BiFunction"), accessFlags := 25, slot := 0, constantValue := 0 }, { name := "AIOOBE_FORMATTER", type := (.object "java/util/function/BiFunction"), accessFlags := 25, slot := 1, constantValue := 0 }, { name := "IOOBE_FORMATTER", type := (.object "java/util/function/BiFunction"), accessFlags := 25, slot := 2, constantValue := 0 }]
  methods := #[k40m0]
  instanceTypes := #[]
  staticTypes := #[(.object "java/util/function/BiFunction"), (.object "java/util/function/BiFunction"), (.object "java/util/function/BiFunction")]
  resolved := Array.replicate 194 none
  statics := some 5 }

def pool41 : Array CpInfo := pool [(9, u "<init>"), (6, .class_ 18), (1, u "java/lang/Object"), (0, u "()V"), (1, .class_ 23), (1, u "jdk/internal/util/ArraysSupport"), (0, u "LOG2_ARRAY_LONG_INDEX_SCALE"), (0, u "I"), (2, u "U"), (0, u "Ljdk/internal/misc/Unsafe;"), (8, u "BIG_ENDIAN"), (0, u "Z"), (8, u "LOG2_BYTE_BIT_SIZE"), (4, u "LOG2_ARRAY_INT_INDEX_SCALE"), (54, u "JLA"), (0, u "Ljdk/internal/access/JavaLangAccess;"), (11, u "LOG2_ARRAY_BOOLEAN_INDEX_SCALE"), (9, u "LOG2_ARRAY_BYTE_INDEX_SCALE"), (5, u "LOG2_ARRAY_CHAR_INDEX_SCALE"), (5, u "LOG2_ARRAY_SHORT_INDEX_SCALE"), (18, u "LOG2_ARRAY_FLOAT_INDEX_SCALE"), (24, u "LOG2_ARRAY_DOUBLE_INDEX_SCALE"), (89, u "T_BOOLEAN"), (2, u "T_CHAR"), (1, u "T_FLOAT"), (1, u "T_DOUBLE"), (1, u "T_BYTE"), (1, u "T_SHORT"), (1, u "T_INT"), (1, u "T_LONG"), (1, u "SOFT_MAX_ARRAY_LENGTH")] 83

def k41m0 : Method := { name := "<init>", desc := "()V", sig := { parameters := [], returnType := none }, accessFlags := 2, code := none }
/-- jdk/internal/util/ArraysSupport -/
def k41 : Class := { plain "jdk/internal/util/ArraysSupport" (some 0) with
  accessFlags := 33
  interfaces := #[]
  cf := some (fileOf pool41 21 #[] #[{ accessFlags := 2, nameIndex := 9, descriptorIndex := 19, attributes := #[] }] 33 16 #[] #[{ accessFlags := 24, nameIndex := 28, descriptorIndex := 29, attributes := #[] }, { accessFlags := 26, nameIndex := 38, descriptorIndex := 39, attributes := #[] }, { accessFlags := 25, nameIndex := 121, descriptorIndex := 25, attributes := #[] }, { accessFlags := 25, nameIndex := 131, descriptorIndex := 25, attributes := #[] }, { accessFlags := 25, nameIndex := 137, descriptorIndex := 25, attributes := #[] }, { accessFlags := 25, nameIndex := 143, descriptorIndex := 25, attributes := #[] }, { accessFlags := 25, nameIndex := 53, descriptorIndex := 25, attributes := #[] }, { accessFlags := 25, nameIndex := 24, descriptorIndex := 25, attributes := #[] }, { accessFlags := 25, nameIndex := 162, descriptorIndex := 25, attributes := #[] }, { accessFlags := 25, nameIndex := 187, descriptorIndex := 25, attributes := #[] }, { accessFlags := 26, nameIndex := 48, descriptorIndex := 25, attributes := #[] }, { accessFlags := 25, nameIndex := 277, descriptorIndex := 25, attributes := #[] }, { accessFlags := 25, nameIndex := 280, descriptorIndex := 25, attributes := #[] }, { accessFlags := 25, nameIndex := 282, descriptorIndex := 25, attributes := #[] }, { accessFlags := 25, nameIndex := 284, descriptorIndex := 25, attributes := #[] }, { accessFlags := 25, nameIndex := 286, descriptorIndex := 25, attributes := #[] }, { accessFlags := 25, nameIndex := 288, descriptorIndex := 25, attributes := #[] }, { accessFlags := 25, nameIndex := 290, descriptorIndex := 25, attributes := #[] }, { accessFlags := 25, nameIndex := 292, descriptorIndex := 25, attributes := #[] }, { accessFlags := 26, nameIndex := 108, descriptorIndex := 109, attributes := #[] }, { accessFlags := 25, nameIndex := 294, descriptorIndex := 25, attributes := #[] }])
  fields := #[{ name := "U", type := (.object "jdk/internal/misc/Unsafe"), accessFlags := 24, slot := 0, constantValue := 0 }, { name := "BIG_ENDIAN", type := .boolean, accessFlags := 26, slot := 1, constantValue := 0 }, { name := "LOG2_ARRAY_BOOLEAN_INDEX_SCALE", type := .int, accessFlags := 25, slot := 2, constantValue := 0 }, { name := "LOG2_ARRAY_BYTE_INDEX_SCALE", type := .int, accessFlags := 25, slot := 3, constantValue := 0 }, { name := "LOG2_ARRAY_CHAR_INDEX_SCALE", type := .int, accessFlags := 25, slot := 4, constantValue := 0 }, { name := "LOG2_ARRAY_SHORT_INDEX_SCALE", type := .int, accessFlags := 25, slot := 5, constantValue := 0 }, { name := "LOG2_ARRAY_INT_INDEX_SCALE", type := .int, accessFlags := 25, slot := 6, constantValue := 0 }, { name := "LOG2_ARRAY_LONG_INDEX_SCALE", type := .int, accessFlags := 25, slot := 7, constantValue := 0 }, { name := "LOG2_ARRAY_FLOAT_INDEX_SCALE", type := .int, accessFlags := 25, slot := 8, constantValue := 0 }, { name := "LOG2_ARRAY_DOUBLE_INDEX_SCALE", type := .int, accessFlags := 25, slot := 9, constantValue := 0 }, { name := "LOG2_BYTE_BIT_SIZE", type := .int, accessFlags := 26, slot := 10, constantValue := 0 }, { name := "T_BOOLEAN", type := .int, accessFlags := 25, slot := 11, constantValue := 0 }, { name := "T_CHAR", type := .int, accessFlags := 25, slot := 12, constantValue := 0 }, { name := "T_FLOAT", type := .int, accessFlags := 25, slot := 13, constantValue := 0 }, { name := "T_DOUBLE", type := .int, accessFlags := 25, slot := 14, constantValue := 0 }, { name := "T_BYTE", type := .int, accessFlags := 25, slot := 15, constantValue := 0 }, { name := "T_SHORT", type := .int, accessFlags := 25, slot := 16, constantValue := 0 }, { name := "T_INT", type := .int, accessFlags := 25, slot := 17, constantValue := 0 }, { name := "T_LONG", type := .int, accessFlags := 25, slot := 18, constantValue := 0 }, { name := "JLA", type := (.object "jdk/internal/access/JavaLangAccess"), accessFlags := 26, slot := 19, constantValue := 0 }, { name := "SOFT_MAX_ARRAY_LENGTH", type := .int, accessFlags := 25, slot := 20, constantValue := 0 }]
  methods := #[k41m0]
  instanceTypes := #[]
  staticTypes := #[(.object "jdk/internal/misc/Unsafe"), .boolean, .int, .int, .int, .int, .int, .int, .int, .int, .int, .int, .int, .int, .int, .int, .int, .int, .int, (.object "jdk/internal/access/JavaLangAccess"), .int]
  resolved := Array.replicate 378 none
  statics := none }

def pool42 : Array CpInfo := pool [(4, .class_ 6), (1, u "java/lang/Number"), (16, .class_ 25), (1, u "java/math/BigInteger"), (0, u "ZERO"), (0, u "Ljava/math/BigInteger;"), (2, u "mag"), (0, u "[I"), (2, u "signum"), (0, u "I"), (59, u "bitsPerDigit"), (0, u "[J"), (9, u "digitsPerInt"), (12, u "intRadix"), (60, u "SMALL_PRIME_PRODUCT"), (79, u "ONE"), (6, u "TWO"), (43, u "$assertionsDisabled"), (0, u "Z"), (36, u "posConst"), (0, u "[Ljava/math/BigInteger;"), (4, u "negConst"), (116, .class_ 474), (1, u "java/math/BigInteger$RecursiveOp"), (106, u "NEGATIVE_ONE"), (91, u "bnExpModThreshTable"), (72, u "lowestSetBitPlusTwo"), (2, u "bitLengthPlusOne"), (2, u "bitCountPlusOne"), (6, u "LOG_TWO"), (0, u "D"), (2, u "logCache"), (0, u "[D"), (13, u "NUM_ZEROS"), (2, u "ZEROS"), (0, u "Ljava/lang/String;"), (9, u "longRadix"), (5, u "digitsPerLong"), (22, u "powerCache"), (0, u "[[Ljava/math/BigInteger;"), (45, u "firstNonzeroIntNumPlusTwo"), (38, .class_ 909), (1, u "java/math/BigInteger$UnsafeHolder"), (141, u "TEN"), (106, u "serialPersistentFields"), (0, u "[Ljava/io/ObjectStreamField;"), (0, .class_ 1161), (0, u "java/lang/Comparable"), (0, u "LONG_MASK"), (0, u "J"), (1, u "MAX_MAG_LENGTH"), (0, u "PRIME_SEARCH_BIT_LENGTH_LIMIT"), (1, u "KARATSUBA_THRESHOLD"), (1, u "TOOM_COOK_THRESHOLD"), (1, u "KARATSUBA_SQUARE_THRESHOLD"), (1, u "TOOM_COOK_SQUARE_THRESHOLD"), (1, u "BURNIKEL_ZIEGLER_THRESHOLD"), (0, u "BURNIKEL_ZIEGLER_OFFSET"), (1, u "SCHOENHAGE_BASE_CONVERSION_THRESHOLD"), (1, u "MULTIPLY_SQUARE_THRESHOLD"), (0, u "MONTGOMERY_INTRINSIC_THRESHOLD"), (1, u "SMALL_PRIME_THRESHOLD"), (1, u "DEFAULT_PRIME_CERTAINTY"), (1, u "MAX_CONSTANT"), (3, u "serialVersionUID"), (338, .class_ 1532), (0, u "java/math/BigInteger$RecursiveOp$RecursiveSquare"), (0, .class_ 1534), (0, u "java/math/BigInteger$RecursiveOp$RecursiveMultiply")] 7

/-- java/math/BigInteger -/
def k42 : Class := { plain "java/math/BigInteger" (some 11) with
  accessFlags := 33
  interfaces := #[3]
  cf := some (fileOf pool42 23 #[.nestMembers #[907, 472, 1531, 1533]] #[] 33 4 #[1160] #[{ accessFlags := 16, nameIndex := 34, descriptorIndex := 35, attributes := #[] }, { accessFlags := 16, nameIndex := 30, descriptorIndex := 31, attributes := #[] }, { accessFlags := 2, nameIndex := 752, descriptorIndex := 35, attributes := #[] }, { accessFlags := 2, nameIndex := 749, descriptorIndex := 35, attributes := #[] }, { accessFlags := 2, nameIndex := 746, descriptorIndex := 35, attributes := #[] }, { accessFlags := 2, nameIndex := 868, descriptorIndex := 35, attributes := #[] }, { accessFlags := 24, nameIndex := 1162, descriptorIndex := 1163, attributes := #[] }, { accessFlags := 26, nameIndex := 1165, descriptorIndex := 35, attributes := #[] }, { accessFlags := 26, nameIndex := 1166, descriptorIndex := 35, attributes := #[] }, { accessFlags := 26, nameIndex := 1168, descriptorIndex := 35, attributes := #[] }, { accessFlags := 26, nameIndex := 1170, descriptorIndex := 35, attributes := #[] }, { accessFlags := 26, nameIndex := 1172, descriptorIndex := 35, attributes := #[] }, { accessFlags := 26, nameIndex := 1174, descriptorIndex := 35, attributes := #[] }, { accessFlags := 24, nameIndex := 1176, descriptorIndex := 35, attributes := #[] }, { accessFlags := 24, nameIndex := 1177, descriptorIndex := 35, attributes := #[] }, { accessFlags := 26, nameIndex := 1179, descriptorIndex := 35, attributes := #[] }, { accessFlags := 26, nameIndex := 1181, descriptorIndex := 35, attributes := #[] }, { accessFlags := 26, nameIndex := 1182, descriptorIndex := 35, attributes := #[] }, { accessFlags := 10, nameIndex := 95, descriptorIndex := 96, attributes := #[] }, { accessFlags := 26, nameIndex := 1184, descriptorIndex := 35, attributes := #[] }, { accessFlags := 26, nameIndex := 1186, descriptorIndex := 35, attributes := #[] }, { accessFlags := 26, nameIndex := 180, descriptorIndex := 27, attributes := #[] }, { accessFlags := 26, nameIndex := 1188, descriptorIndex := 35, attributes := #[] }, { accessFlags := 26, nameIndex := 349, descriptorIndex := 350, attributes := #[] }, { accessFlags := 26, nameIndex := 355, descriptorIndex := 350, attributes := #[] }, { accessFlags := 74, nameIndex := 821, descriptorIndex := 822, attributes := #[] }, { accessFlags := 26, nameIndex := 763, descriptorIndex := 764, attributes := #[] }, { accessFlags := 26, nameIndex := 759, descriptorIndex := 760, attributes := #[] }, { accessFlags := 25, nameIndex := 26, descriptorIndex := 27, attributes := #[] }, { accessFlags := 25, nameIndex := 260, descriptorIndex := 27, attributes := #[] }, { accessFlags := 25, nameIndex := 267, descriptorIndex := 27, attributes := #[] }, { accessFlags := 26, nameIndex := 581, descriptorIndex := 27, attributes := #[] }, { accessFlags := 25, nameIndex := 1051, descriptorIndex := 27, attributes := #[] }, { accessFlags := 8, nameIndex := 673, descriptorIndex := 31, attributes := #[] }, { accessFlags := 10, nameIndex := 778, descriptorIndex := 35, attributes := #[] }, { accessFlags := 26, nameIndex := 781, descriptorIndex := 782, attributes := #[] }, { accessFlags := 10, nameIndex := 798, descriptorIndex := 31, attributes := #[] }, { accessFlags := 10, nameIndex := 792, descriptorIndex := 350, attributes := #[] }, { accessFlags := 10, nameIndex := 106, descriptorIndex := 31, attributes := #[] }, { accessFlags := 10, nameIndex := 119, descriptorIndex := 31, attributes := #[] }, { accessFlags := 26, nameIndex := 1192, descriptorIndex := 1163, attributes := #[] }, { accessFlags := 26, nameIndex := 1158, descriptorIndex := 1159, attributes := #[] }, { accessFlags := 4120, nameIndex := 311, descriptorIndex := 312, attributes := #[] }])
  fields := #[{ name := "signum", type := .int, accessFlags := 16, slot := 0, constantValue := 0 }, { name := "mag", type := (.array .int), accessFlags := 16, slot := 1, constantValue := 0 }, { name := "bitCountPlusOne", type := .int, accessFlags := 2, slot := 2, constantValue := 0 }, { name := "bitLengthPlusOne", type := .int, accessFlags := 2, slot := 3, constantValue := 0 }, { name := "lowestSetBitPlusTwo", type := .int, accessFlags := 2, slot := 4, constantValue := 0 }, { name := "firstNonzeroIntNumPlusTwo", type := .int, accessFlags := 2, slot := 5, constantValue := 0 }, { name := "LONG_MASK", type := .long, accessFlags := 24, slot := 0, constantValue := 0 }, { name := "MAX_MAG_LENGTH", type := .int, accessFlags := 26, slot := 1, constantValue := 0 }, { name := "PRIME_SEARCH_BIT_LENGTH_LIMIT", type := .int, accessFlags := 26, slot := 2, constantValue := 0 }, { name := "KARATSUBA_THRESHOLD", type := .int, accessFlags := 26, slot := 3, constantValue := 0 }, { name := "TOOM_COOK_THRESHOLD", type := .int, accessFlags := 26, slot := 4, constantValue := 0 }, { name := "KARATSUBA_SQUARE_THRESHOLD", type := .int, accessFlags := 26, slot := 5, constantValue := 0 }, { name := "TOOM_COOK_SQUARE_THRESHOLD", type := .int, accessFlags := 26, slot := 6, constantValue := 0 }, { name := "BURNIKEL_ZIEGLER_THRESHOLD", type := .int, accessFlags := 24, slot := 7, constantValue := 0 }, { name := "BURNIKEL_ZIEGLER_OFFSET", type := .int, accessFlags := 24, slot := 8, constantValue := 0 }, { name := "SCHOENHAGE_BASE_CONVERSION_THRESHOLD", type := .int, accessFlags := 26, slot := 9, constantValue := 0 }, { name := "MULTIPLY_SQUARE_THRESHOLD", type := .int, accessFlags := 26, slot := 10, constantValue := 0 }, { name := "MONTGOMERY_INTRINSIC_THRESHOLD", type := .int, accessFlags := 26, slot := 11, constantValue := 0 }, { name := "bitsPerDigit", type := (.array .long), accessFlags := 10, slot := 12, constantValue := 0 }, { name := "SMALL_PRIME_THRESHOLD", type := .int, accessFlags := 26, slot := 13, constantValue := 0 }, { name := "DEFAULT_PRIME_CERTAINTY", type := .int, accessFlags := 26, slot := 14, constantValue := 0 }, { name := "SMALL_PRIME_PRODUCT", type := (.object "java/math/BigInteger"), accessFlags := 26, slot := 15, constantValue := 0 }, { name := "MAX_CONSTANT", type := .int, accessFlags := 26, slot := 16, constantValue := 0 }, { name := "posConst", type := (.array (.object "java/math/BigInteger")), accessFlags := 26, slot := 17, constantValue := 0 }, { name := "negConst", type := (.array (.object "java/math/BigInteger")), accessFlags := 26, slot := 18, constantValue := 0 }, { name := "powerCache", type := (.array (.array (.object "java/math/BigInteger"))), accessFlags := 74, slot := 19, constantValue := 0 }, { name := "logCache", type := (.array .double), accessFlags := 26, slot := 20, constantValue := 0 }, { name := "LOG_TWO", type := .double, accessFlags := 26, slot := 21, constantValue := 0 }, { name := "ZERO", type := (.object "java/math/BigInteger"), accessFlags := 25, slot := 22, constantValue := 0 }, { name := "ONE", type := (.object "java/math/BigInteger"), accessFlags := 25, slot := 23, constantValue := 0 }, { name := "TWO", type := (.object "java/math/BigInteger"), accessFlags := 25, slot := 24, constantValue := 0 }, { name := "NEGATIVE_ONE", type := (.object "java/math/BigInteger"), accessFlags := 26, slot := 25, constantValue := 0 }, { name := "TEN", type := (.object "java/math/BigInteger"), accessFlags := 25, slot := 26, constantValue := 0 }, { name := "bnExpModThreshTable", type := (.array .int), accessFlags := 8, slot := 27, constantValue := 0 }, { name := "NUM_ZEROS", type := .int, accessFlags := 10, slot := 28, constantValue := 0 }, { name := "ZEROS", type := (.object "java/lang/String"), accessFlags := 26, slot := 29, constantValue := 0 }, { name := "digitsPerLong", type := (.array .int), accessFlags := 10, slot := 30, constantValue := 0 }, { name := "longRadix", type := (.array (.object "java/math/BigInteger")), accessFlags := 10, slot := 31, constantValue := 0 }, { name := "digitsPerInt", type := (.array .int), accessFlags := 10, slot := 32, constantValue := 0 }, { name := "intRadix", type := (.array .int), accessFlags := 10, slot := 33, constantValue := 0 }, { name := "serialVersionUID", type := .long, accessFlags := 26, slot := 34, constantValue := 0 }, { name := "serialPersistentFields", type := (.array (.object "java/io/ObjectStreamField")), accessFlags := 26, slot := 35, constantValue := 0 }, { name := "$assertionsDisabled", type := .boolean, accessFlags := 4120, slot := 36, constantValue := 0 }]
  methods := #[]
  instanceTypes := #[.int, (.array .int), .int, .int, .int, .int]
  staticTypes := #[.long, .int, .int, .int, .int, .int, .int, .int, .int, .int, .int, .int, (.array .long), .int, .int, (.object "java/math/BigInteger"), .int, (.array (.object "java/math/BigInteger")), (.array (.object "java/math/BigInteger")), (.array (.array (.object "java/math/BigInteger"))), (.array .double), .double, (.object "java/math/BigInteger"), (.object "java/math/BigInteger"), (.object "java/math/BigInteger"), (.object "java/math/BigInteger"), (.object "java/math/BigInteger"), (.array .int), .int, (.object "java/lang/String"), (.array .int), (.array (.object "java/math/BigInteger")), (.array .int), (.array .int), .long, (.array (.object "java/io/ObjectStreamField")), .boolean]
  resolved := Array.replicate 1542 none
  statics := some 6 }

def pool43 : Array CpInfo := pool [(1, u "java/lang/Class"), (0, .class_ 1), (0, u "java/lang/Object"), (0, .class_ 3)] 0

/-- java/lang/Class -/
def k43 : Class := { plain "java/lang/Class" (some 0) with
  accessFlags := 49
  interfaces := #[]
  cf := some (fileOf pool43 2 #[] #[] 49 4 #[] #[])
  fields := #[]
  methods := #[]
  instanceTypes := #[]
  staticTypes := #[]
  resolved := Array.replicate 5 none
  statics := none }

/-- the primitive byte -/
def k44 : Class := { plain "byte" none with kind := .primitive 'B', accessFlags := 0x411 }
/-- [B -/
def k45 : Class := { plain "[B" (some 0) with kind := .array 44 .byte, interfaces := #[25, 2], accessFlags := 1041 }

/-- the primitive char -/
def k46 : Class := { plain "char" none with kind := .primitive 'C', accessFlags := 0x411 }
/-- [C -/
def k47 : Class := { plain "[C" (some 0) with kind := .array 46 .char, interfaces := #[25, 2], accessFlags := 1041 }

/-- the primitive int -/
def k48 : Class := { plain "int" none with kind := .primitive 'I', accessFlags := 0x411 }
/-- [I -/
def k49 : Class := { plain "[I" (some 0) with kind := .array 48 .int, interfaces := #[25, 2], accessFlags := 1041 }

/-- [Ljava/lang/Object; -/
def k50 : Class := { plain "[Ljava/lang/Object;" (some 0) with mirror := some 7, kind := .array 0 (.object "java/lang/Object"), interfaces := #[25, 2], accessFlags := 1041 }

def heap : Heap := #[{ cls := 7, slots := #[.long 0, .int 1, .null, .int 0, .null, .int 0, .int 0], vm := .statics 7 },
  { cls := 12, slots := #[.double 0, .int 0, .int 0, .int 0, .int 0, .int 0, .int 0, .long 0, .null, .int 0, .long 0, .null, .null, .long 0, .long 0, .ref 11, .null, .null, .null, .null, .null, .int 0, .int 0, .int 0, .int 0, .int 0, .int 0, .int 0, .int 0, .null, .null, .null, .null, .int 0, .int 0, .null, .long 0, .null, .int 0], vm := .statics 12 },
  { cls := 16, slots := #[.ref 13], vm := .statics 16 },
  { cls := 26, slots := #[.long 0, .int 0, .ref 14, .ref 15], vm := .statics 26 },
  { cls := 28, slots := #[.long 0, .int 0, .null, .ref 16, .ref 12, .null, .null, .null, .int 0, .int 1], vm := .statics 28 },
  { cls := 40, slots := #[.null, .null, .null], vm := .statics 40 },
  { cls := 42, slots := #[.long 0, .int 0, .int 0, .int 0, .int 0, .int 0, .int 0, .int 0, .int 0, .int 0, .int 0, .int 0, .null, .int 0, .int 0, .null, .int 0, .null, .null, .null, .null, .double 0, .ref 10, .null, .null, .null, .null, .null, .int 0, .null, .null, .null, .null, .null, .long 0, .null, .int 0], vm := .statics 42 },
  { cls := 43, slots := #[], vm := .mirror 50 },
  { cls := 50, slots := #[], vm := .none },
  { cls := 49, slots := #[], vm := .none },
  { cls := 42, slots := #[.int 0, .ref 9, .int 0, .int 0, .int 0, .int 0], vm := .none },
  { cls := 12, slots := #[.ref 10, .int 0, .int 0, .null, .long 0], vm := .none },
  { cls := 32, slots := #[.ref 8, .int 0], vm := .none },
  { cls := 16, slots := #[.null], vm := .none },
  { cls := 50, slots := #[], vm := .none },
  { cls := 50, slots := #[], vm := .none },
  { cls := 0, slots := #[], vm := .none }]
def classes : Array Class := #[k0, k1, k2, k3, k4, k5, k6, k7, k8, k9, k10, k11, k12, k13, k14, k15, k16, k17, k18, k19, k20, k21, k22, k23, k24, k25, k26, k27, k28, k29, k30, k31, k32, k33, k34, k35, k36, k37, k38, k39, k40, k41, k42, k43, k44, k45, k46, k47, k48, k49, k50]
def interned : List (Array UInt16 × Addr) := []
def slotsUsed : Nat := 115
def theMethod : MethodId := ⟨1, 1⟩
def args0 : Array Value := #[.int 5, .int 5, .int 5, .int 5, .int 5]
def aboutOver (below : List Frame) : State where
  vm := { classes := classes, interned := interned.toArray }
  heap := heap
  slotsUsed := slotsUsed
  threads := #[{ frames := .invoking theMethod args0 :: below }]
def below0 : List Frame := [.native { method := ⟨0, 0⟩, args := #[] }]
def about1 : State := aboutOver below0
def p0 : Program := .bare "" "" ""
def e0 : Env := launch0.env 0 0 0
theorem w_frames : about1.frames = Frame.invoking theMethod args0 :: below0 := rfl
set_option maxRecDepth 65536 in
theorem w_args : argsFit about1.vm theMethod args0 = true := by decide +kernel
set_option maxRecDepth 65536 in
theorem w_heap : heapFits about1 = true := by decide +kernel
set_option maxRecDepth 65536 in
theorem w_runnable : about1.curStatus? = some .runnable := by decide +kernel
set_option maxRecDepth 65536 in
theorem w_alone : about1.alone = true := by decide +kernel
set_option maxRecDepth 65536 in
theorem w_named : about1.methodNamed? x = some theMethod := by decide +kernel
set_option maxRecDepth 65536 in
theorem w_hears : about1.hears theMethod below0 = true := by decide +kernel
set_option maxRecDepth 65536 in
theorem w_ripe : about1.ripe theMethod args0 below0 = true := by decide +kernel
theorem w_running : about1.status = .running := rfl
set_option maxRecDepth 65536 in
theorem w_room : about1.hasRoom e0.platform room_1 = true :=
  launch0.hasRoom_least _ room_1 (by decide +kernel) (by decide +kernel) (by decide +kernel) (by decide +kernel) (by decide +kernel) (by decide +kernel)
theorem allAtoms_all (ts : List Jvm.Cond) (a : Array Jvm.Value) (st : Jvm.State) : (allAtoms ts).before a st = ts.all (fun c => c.before a st) := by
  induction ts with
  | nil => rfl
  | cons c t ih =>
    show (Jvm.Cond.and c (allAtoms t)).before a st = _
    rw [Jvm.Cond.before_and, ih, List.all_cons]
def words1 : List Jvm.Cond := Jvm.Cond.code x code maxLocals ret :: tables_1
/-- a 'code' word, met by the world's own term for the bytes: nothing is compared byte by byte -/
theorem code_word {y : MethodName} {bytes : ByteArray} {mx : Nat} {rt : Option FieldType} {a : Array Value} {s : State} {m : MethodId} {meth : Method} {c : Code} (h1 : s.methodNamed? y = some m) (h2 : s.vm.method? m = some meth) (h3 : meth.code = some c) (h4 : c.code = bytes)
    (h5 : (c.maxLocals == mx && c.exceptionTable.isEmpty && decide (c.maxStack ≤ mostOperands) && decide (meth.sig.returnType = rt) && !meth.locks && decide (parseMethodDescriptor y.desc = some meth.sig)) = true) : (Jvm.Cond.code y bytes mx rt).before a s = true := by
  simp only [Bool.and_eq_true, beq_iff_eq, Bool.not_eq_true', decide_eq_true_eq] at h5
  obtain ⟨⟨⟨⟨⟨g1, g2⟩, g3⟩, g4⟩, g5⟩, g6⟩ := h5
  simp [Cond.before, Cond.holds, Cond.value, h1, h2, h3, h4, g1, g2, g3, g4, g5, g6]
def isCode : Jvm.Cond → Bool
  | .code _ _ _ _ => true
  | _ => false
theorem all_split {L : List Jvm.Cond} {P : Jvm.Cond → Bool} (h1 : L.all (fun c => isCode c || P c) = true) (h2 : ∀ c ∈ L.filter isCode, P c = true) : L.all P = true := by
  refine List.all_eq_true.mpr fun c hc => ?_
  have h := List.all_eq_true.mp h1 c hc
  rcases Bool.eq_false_or_eq_true (isCode c) with hi | hi
  · exact h2 c (List.mem_filter.mpr ⟨hc, hi⟩)
  · simpa [hi] using h
set_option maxRecDepth 65536 in
theorem w_c0 : (Jvm.Cond.code x code maxLocals ret).before args0 about1 = true := code_word (m := ⟨1, 1⟩) (meth := k1m1) (c := k1c1) (by decide +kernel) rfl rfl rfl (by decide +kernel)
set_option maxRecDepth 65536 in
theorem w_c1 : (Jvm.Cond.code ({ cls := "com/example/cuenta/cuenta/FuelSchemesSchemePinLaw", name := "name", desc := "(I)Ljava/lang/String;" } : Jvm.MethodName) method_3_code (3 : Nat) (Option.some (Jvm.ClassFile.FieldType.object "java/lang/String"))).before args0 about1 = true := code_word (m := ⟨1, 2⟩) (meth := k1m2) (c := k1c2) (by decide +kernel) rfl rfl rfl (by decide +kernel)
set_option maxRecDepth 65536 in
theorem w_c2 : (Jvm.Cond.code ({ cls := "java/lang/String", name := "<init>", desc := "([C)V" } : Jvm.MethodName) jdk_42_method_3_code (2 : Nat) (Option.none : Option Jvm.ClassFile.FieldType)).before args0 about1 = true := code_word (m := ⟨7, 1⟩) (meth := k7m1) (c := k7c1) (by decide +kernel) rfl rfl rfl (by decide +kernel)
set_option maxRecDepth 65536 in
theorem w_c3 : (Jvm.Cond.code ({ cls := "java/lang/String", name := "<init>", desc := "([CIILjava/lang/Void;)V" } : Jvm.MethodName) jdk_42_method_149_code (6 : Nat) (Option.none : Option Jvm.ClassFile.FieldType)).before args0 about1 = true := code_word (m := ⟨7, 3⟩) (meth := k7m3) (c := k7c3) (by decide +kernel) rfl rfl rfl (by decide +kernel)
set_option maxRecDepth 65536 in
theorem w_c4 : (Jvm.Cond.code ({ cls := "java/lang/Object", name := "<init>", desc := "()V" } : Jvm.MethodName) object_method_1_code (1 : Nat) (Option.none : Option Jvm.ClassFile.FieldType)).before args0 about1 = true := code_word (m := ⟨0, 0⟩) (meth := k0m0) (c := k0c0) (by decide +kernel) rfl rfl rfl (by decide +kernel)
set_option maxRecDepth 65536 in
theorem w_c5 : (Jvm.Cond.code ({ cls := "java/lang/StringUTF16", name := "compress", desc := "([CII)[B" } : Jvm.MethodName) jdk_52_method_16_code (6 : Nat) (Option.some (Jvm.ClassFile.FieldType.array Jvm.ClassFile.FieldType.byte))).before args0 about1 = true := code_word (m := ⟨8, 2⟩) (meth := k8m2) (c := k8c2) (by decide +kernel) rfl rfl rfl (by decide +kernel)
set_option maxRecDepth 65536 in
theorem w_c6 : (Jvm.Cond.code ({ cls := "java/lang/StringUTF16", name := "compress", desc := "([CI[BII)I" } : Jvm.MethodName) jdk_52_method_21_code (7 : Nat) (Option.some Jvm.ClassFile.FieldType.int)).before args0 about1 = true := code_word (m := ⟨8, 3⟩) (meth := k8m3) (c := k8c3) (by decide +kernel) rfl rfl rfl (by decide +kernel)
set_option maxRecDepth 65536 in
theorem w_c7 : (Jvm.Cond.code ({ cls := "java/lang/StringUTF16", name := "coderFromArrayLen", desc := "([BI)B" } : Jvm.MethodName) jdk_52_method_15_code (2 : Nat) (Option.some Jvm.ClassFile.FieldType.byte)).before args0 about1 = true := code_word (m := ⟨8, 1⟩) (meth := k8m1) (c := k8c1) (by decide +kernel) rfl rfl rfl (by decide +kernel)
set_option maxRecDepth 65536 in
theorem w_c8 : (Jvm.Cond.code ({ cls := "com/example/cuenta/cuenta/FuelScheme", name := "<init>", desc := "(Ljava/math/BigDecimal;Ljava/math/BigDecimal;Ljava/math/BigDecimal;JLjava/math/BigDecimal;)V" } : Jvm.MethodName) prog_25_method_1_code (7 : Nat) (Option.none : Option Jvm.ClassFile.FieldType)).before args0 about1 = true := code_word (m := ⟨10, 0⟩) (meth := k10m0) (c := k10c0) (by decide +kernel) rfl rfl rfl (by decide +kernel)
set_option maxRecDepth 65536 in
theorem w_c9 : (Jvm.Cond.code ({ cls := "java/lang/Record", name := "<init>", desc := "()V" } : Jvm.MethodName) jdk_30_method_1_code (1 : Nat) (Option.none : Option Jvm.ClassFile.FieldType)).before args0 about1 = true := code_word (m := ⟨9, 0⟩) (meth := k9m0) (c := k9c0) (by decide +kernel) rfl rfl rfl (by decide +kernel)
set_option maxRecDepth 65536 in
theorem w_c10 : (Jvm.Cond.code ({ cls := "com/example/cuenta/cuenta/Checks", name := "notNegative", desc := "(Ljava/math/BigDecimal;Ljava/lang/String;)Ljava/math/BigDecimal;" } : Jvm.MethodName) prog_4_method_2_code (2 : Nat) (Option.some (Jvm.ClassFile.FieldType.object "java/math/BigDecimal"))).before args0 about1 = true := code_word (m := ⟨13, 1⟩) (meth := k13m1) (c := k13c1) (by decide +kernel) rfl rfl rfl (by decide +kernel)
set_option maxRecDepth 65536 in
theorem w_c11 : (Jvm.Cond.code ({ cls := "java/math/BigDecimal", name := "signum", desc := "()I" } : Jvm.MethodName) jdk_17_method_58_code (1 : Nat) (Option.some Jvm.ClassFile.FieldType.int)).before args0 about1 = true := code_word (m := ⟨12, 0⟩) (meth := k12m0) (c := k12c0) (by decide +kernel) rfl rfl rfl (by decide +kernel)
set_option maxRecDepth 65536 in
theorem w_c12 : (Jvm.Cond.code ({ cls := "java/lang/Long", name := "signum", desc := "(J)I" } : Jvm.MethodName) jdk_35_method_57_code (2 : Nat) (Option.some Jvm.ClassFile.FieldType.int)).before args0 about1 = true := code_word (m := ⟨14, 0⟩) (meth := k14m0) (c := k14c0) (by decide +kernel) rfl rfl rfl (by decide +kernel)
set_option maxRecDepth 65536 in
theorem w_c13 : (Jvm.Cond.code ({ cls := "java/util/Optional", name := "empty", desc := "()Ljava/util/Optional;" } : Jvm.MethodName) jdk_32_method_1_code (1 : Nat) (Option.some (Jvm.ClassFile.FieldType.object "java/util/Optional"))).before args0 about1 = true := code_word (m := ⟨16, 0⟩) (meth := k16m0) (c := k16c0) (by decide +kernel) rfl rfl rfl (by decide +kernel)
set_option maxRecDepth 65536 in
theorem w_c14 : (Jvm.Cond.code ({ cls := "com/example/cuenta/cuenta/FuelSchemes$Scheme", name := "<init>", desc := "(Ljava/lang/String;Lcom/example/cuenta/cuenta/FuelScheme;Ljava/util/Optional;)V" } : Jvm.MethodName) prog_27_method_1_code (4 : Nat) (Option.none : Option Jvm.ClassFile.FieldType)).before args0 about1 = true := code_word (m := ⟨15, 0⟩) (meth := k15m0) (c := k15c0) (by decide +kernel) rfl rfl rfl (by decide +kernel)
set_option maxRecDepth 65536 in
theorem w_c15 : (Jvm.Cond.code ({ cls := "java/util/Objects", name := "requireNonNull", desc := "(Ljava/lang/Object;Ljava/lang/String;)Ljava/lang/Object;" } : Jvm.MethodName) jdk_31_method_11_code (2 : Nat) (Option.some (Jvm.ClassFile.FieldType.object "java/lang/Object"))).before args0 about1 = true := code_word (m := ⟨17, 2⟩) (meth := k17m2) (c := k17c2) (by decide +kernel) rfl rfl rfl (by decide +kernel)
set_option maxRecDepth 65536 in
theorem w_c16 : (Jvm.Cond.code ({ cls := "java/util/ArrayList", name := "<init>", desc := "()V" } : Jvm.MethodName) jdk_38_method_2_code (1 : Nat) (Option.none : Option Jvm.ClassFile.FieldType)).before args0 about1 = true := code_word (m := ⟨26, 0⟩) (meth := k26m0) (c := k26c0) (by decide +kernel) rfl rfl rfl (by decide +kernel)
set_option maxRecDepth 65536 in
theorem w_c17 : (Jvm.Cond.code ({ cls := "java/util/AbstractList", name := "<init>", desc := "()V" } : Jvm.MethodName) jdk_39_method_1_code (1 : Nat) (Option.none : Option Jvm.ClassFile.FieldType)).before args0 about1 = true := code_word (m := ⟨23, 0⟩) (meth := k23m0) (c := k23c0) (by decide +kernel) rfl rfl rfl (by decide +kernel)
set_option maxRecDepth 65536 in
theorem w_c18 : (Jvm.Cond.code ({ cls := "java/util/AbstractCollection", name := "<init>", desc := "()V" } : Jvm.MethodName) jdk_22_method_1_code (1 : Nat) (Option.none : Option Jvm.ClassFile.FieldType)).before args0 about1 = true := code_word (m := ⟨20, 0⟩) (meth := k20m0) (c := k20c0) (by decide +kernel) rfl rfl rfl (by decide +kernel)
set_option maxRecDepth 65536 in
theorem w_c19 : (Jvm.Cond.code ({ cls := "com/example/cuenta/cuenta/FuelSchemes", name := "<init>", desc := "(Ljava/util/List;)V" } : Jvm.MethodName) prog_26_method_1_code (2 : Nat) (Option.none : Option Jvm.ClassFile.FieldType)).before args0 about1 = true := code_word (m := ⟨27, 0⟩) (meth := k27m0) (c := k27c0) (by decide +kernel) rfl rfl rfl (by decide +kernel)
set_option maxRecDepth 65536 in
theorem w_c20 : (Jvm.Cond.code ({ cls := "java/util/List", name := "copyOf", desc := "(Ljava/util/Collection;)Ljava/util/List;" } : Jvm.MethodName) jdk_40_method_48_code (1 : Nat) (Option.some (Jvm.ClassFile.FieldType.object "java/util/List"))).before args0 about1 = true := code_word (m := ⟨22, 5⟩) (meth := k22m5) (c := k22c5) (by decide +kernel) rfl rfl rfl (by decide +kernel)
set_option maxRecDepth 65536 in
theorem w_c21 : (Jvm.Cond.code ({ cls := "java/util/ImmutableCollections", name := "listCopy", desc := "(Ljava/util/Collection;)Ljava/util/List;" } : Jvm.MethodName) jdk_56_method_3_code (2 : Nat) (Option.some (Jvm.ClassFile.FieldType.object "java/util/List"))).before args0 about1 = true := code_word (m := ⟨28, 1⟩) (meth := k28m1) (c := k28c1) (by decide +kernel) rfl rfl rfl (by decide +kernel)
set_option maxRecDepth 65536 in
theorem w_c22 : (Jvm.Cond.code ({ cls := "java/util/ArrayList", name := "isEmpty", desc := "()Z" } : Jvm.MethodName) jdk_38_method_9_code (1 : Nat) (Option.some Jvm.ClassFile.FieldType.boolean)).before args0 about1 = true := code_word (m := ⟨26, 3⟩) (meth := k26m3) (c := k26c3) (by decide +kernel) rfl rfl rfl (by decide +kernel)
set_option maxRecDepth 65536 in
theorem w_c23 : (Jvm.Cond.code ({ cls := "java/util/List", name := "of", desc := "()Ljava/util/List;" } : Jvm.MethodName) jdk_40_method_36_code (0 : Nat) (Option.some (Jvm.ClassFile.FieldType.object "java/util/List"))).before args0 about1 = true := code_word (m := ⟨22, 3⟩) (meth := k22m3) (c := k22c3) (by decide +kernel) rfl rfl rfl (by decide +kernel)
set_option maxRecDepth 65536 in
theorem w_c24 : (Jvm.Cond.code ({ cls := "com/example/cuenta/cuenta/FuelSchemes", name := "scheme", desc := "(Ljava/lang/String;)Ljava/util/Optional;" } : Jvm.MethodName) prog_26_method_2_code (4 : Nat) (Option.some (Jvm.ClassFile.FieldType.object "java/util/Optional"))).before args0 about1 = true := code_word (m := ⟨27, 1⟩) (meth := k27m1) (c := k27c1) (by decide +kernel) rfl rfl rfl (by decide +kernel)
set_option maxRecDepth 65536 in
theorem w_c25 : (Jvm.Cond.code ({ cls := "java/util/ImmutableCollections$AbstractImmutableList", name := "iterator", desc := "()Ljava/util/Iterator;" } : Jvm.MethodName) jdk_46_method_10_code (1 : Nat) (Option.some (Jvm.ClassFile.FieldType.object "java/util/Iterator"))).before args0 about1 = true := code_word (m := ⟨30, 1⟩) (meth := k30m1) (c := k30c1) (by decide +kernel) rfl rfl rfl (by decide +kernel)
set_option maxRecDepth 65536 in
theorem w_c26 : (Jvm.Cond.code ({ cls := "java/util/ImmutableCollections$ListN", name := "size", desc := "()I" } : Jvm.MethodName) jdk_45_method_3_code (1 : Nat) (Option.some Jvm.ClassFile.FieldType.int)).before args0 about1 = true := code_word (m := ⟨32, 1⟩) (meth := k32m1) (c := k32c1) (by decide +kernel) rfl rfl rfl (by decide +kernel)
set_option maxRecDepth 65536 in
theorem w_c27 : (Jvm.Cond.code ({ cls := "java/util/ImmutableCollections$ListItr", name := "<init>", desc := "(Ljava/util/List;I)V" } : Jvm.MethodName) jdk_53_method_1_code (3 : Nat) (Option.none : Option Jvm.ClassFile.FieldType)).before args0 about1 = true := code_word (m := ⟨35, 0⟩) (meth := k35m0) (c := k35c0) (by decide +kernel) rfl rfl rfl (by decide +kernel)
set_option maxRecDepth 65536 in
theorem w_c28 : (Jvm.Cond.code ({ cls := "java/util/ImmutableCollections$ListItr", name := "hasNext", desc := "()Z" } : Jvm.MethodName) jdk_53_method_3_code (1 : Nat) (Option.some Jvm.ClassFile.FieldType.boolean)).before args0 about1 = true := code_word (m := ⟨35, 1⟩) (meth := k35m1) (c := k35c1) (by decide +kernel) rfl rfl rfl (by decide +kernel)
set_option maxRecDepth 65536 in
theorem w_c29 : (Jvm.Cond.code ({ cls := "java/util/Optional", name := "isPresent", desc := "()Z" } : Jvm.MethodName) jdk_32_method_6_code (1 : Nat) (Option.some Jvm.ClassFile.FieldType.boolean)).before args0 about1 = true := code_word (m := ⟨16, 4⟩) (meth := k16m4) (c := k16c4) (by decide +kernel) rfl rfl rfl (by decide +kernel)
set_option maxRecDepth 65536 in
theorem w_c30 : (Jvm.Cond.code ({ cls := "java/util/ArrayList", name := "add", desc := "(Ljava/lang/Object;)Z" } : Jvm.MethodName) jdk_38_method_25_code (2 : Nat) (Option.some Jvm.ClassFile.FieldType.boolean)).before args0 about1 = true := code_word (m := ⟨26, 6⟩) (meth := k26m6) (c := k26c6) (by decide +kernel) rfl rfl rfl (by decide +kernel)
set_option maxRecDepth 65536 in
theorem w_c31 : (Jvm.Cond.code ({ cls := "java/util/ArrayList", name := "add", desc := "(Ljava/lang/Object;[Ljava/lang/Object;I)V" } : Jvm.MethodName) jdk_38_method_24_code (4 : Nat) (Option.none : Option Jvm.ClassFile.FieldType)).before args0 about1 = true := code_word (m := ⟨26, 5⟩) (meth := k26m5) (c := k26c5) (by decide +kernel) rfl rfl rfl (by decide +kernel)
set_option maxRecDepth 65536 in
theorem w_c32 : (Jvm.Cond.code ({ cls := "java/util/ArrayList", name := "grow", desc := "()[Ljava/lang/Object;" } : Jvm.MethodName) jdk_38_method_7_code (1 : Nat) (Option.some (Jvm.ClassFile.FieldType.array (Jvm.ClassFile.FieldType.object "java/lang/Object")))).before args0 about1 = true := code_word (m := ⟨26, 2⟩) (meth := k26m2) (c := k26c2) (by decide +kernel) rfl rfl rfl (by decide +kernel)
set_option maxRecDepth 65536 in
theorem w_c33 : (Jvm.Cond.code ({ cls := "java/util/ArrayList", name := "grow", desc := "(I)[Ljava/lang/Object;" } : Jvm.MethodName) jdk_38_method_6_code (4 : Nat) (Option.some (Jvm.ClassFile.FieldType.array (Jvm.ClassFile.FieldType.object "java/lang/Object")))).before args0 about1 = true := code_word (m := ⟨26, 1⟩) (meth := k26m1) (c := k26c1) (by decide +kernel) rfl rfl rfl (by decide +kernel)
set_option maxRecDepth 65536 in
theorem w_c34 : (Jvm.Cond.code ({ cls := "java/lang/Math", name := "max", desc := "(II)I" } : Jvm.MethodName) jdk_29_method_65_code (2 : Nat) (Option.some Jvm.ClassFile.FieldType.int)).before args0 about1 = true := code_word (m := ⟨36, 1⟩) (meth := k36m1) (c := k36c1) (by decide +kernel) rfl rfl rfl (by decide +kernel)
set_option maxRecDepth 65536 in
theorem w_c35 : (Jvm.Cond.code ({ cls := "java/util/ArrayList", name := "toArray", desc := "()[Ljava/lang/Object;" } : Jvm.MethodName) jdk_38_method_16_code (1 : Nat) (Option.some (Jvm.ClassFile.FieldType.array (Jvm.ClassFile.FieldType.object "java/lang/Object")))).before args0 about1 = true := code_word (m := ⟨26, 4⟩) (meth := k26m4) (c := k26c4) (by decide +kernel) rfl rfl rfl (by decide +kernel)
set_option maxRecDepth 65536 in
theorem w_c36 : (Jvm.Cond.code ({ cls := "java/util/Arrays", name := "copyOf", desc := "([Ljava/lang/Object;I)[Ljava/lang/Object;" } : Jvm.MethodName) jdk_65_method_119_code (2 : Nat) (Option.some (Jvm.ClassFile.FieldType.array (Jvm.ClassFile.FieldType.object "java/lang/Object")))).before args0 about1 = true := code_word (m := ⟨37, 1⟩) (meth := k37m1) (c := k37c1) (by decide +kernel) rfl rfl rfl (by decide +kernel)
set_option maxRecDepth 65536 in
theorem w_c37 : (Jvm.Cond.code ({ cls := "java/util/Arrays", name := "copyOf", desc := "([Ljava/lang/Object;ILjava/lang/Class;)[Ljava/lang/Object;" } : Jvm.MethodName) jdk_65_method_120_code (4 : Nat) (Option.some (Jvm.ClassFile.FieldType.array (Jvm.ClassFile.FieldType.object "java/lang/Object")))).before args0 about1 = true := code_word (m := ⟨37, 2⟩) (meth := k37m2) (c := k37c2) (by decide +kernel) rfl rfl rfl (by decide +kernel)
set_option maxRecDepth 65536 in
theorem w_c38 : (Jvm.Cond.code ({ cls := "java/lang/Math", name := "min", desc := "(II)I" } : Jvm.MethodName) jdk_29_method_69_code (2 : Nat) (Option.some Jvm.ClassFile.FieldType.int)).before args0 about1 = true := code_word (m := ⟨36, 2⟩) (meth := k36m2) (c := k36c2) (by decide +kernel) rfl rfl rfl (by decide +kernel)
set_option maxRecDepth 65536 in
theorem w_c39 : (Jvm.Cond.code ({ cls := "java/util/List", name := "of", desc := "([Ljava/lang/Object;)Ljava/util/List;" } : Jvm.MethodName) jdk_40_method_47_code (2 : Nat) (Option.some (Jvm.ClassFile.FieldType.object "java/util/List"))).before args0 about1 = true := code_word (m := ⟨22, 4⟩) (meth := k22m4) (c := k22c4) (by decide +kernel) rfl rfl rfl (by decide +kernel)
set_option maxRecDepth 65536 in
theorem w_c40 : (Jvm.Cond.code ({ cls := "java/util/ImmutableCollections$List12", name := "<init>", desc := "(Ljava/lang/Object;)V" } : Jvm.MethodName) jdk_44_method_1_code (2 : Nat) (Option.none : Option Jvm.ClassFile.FieldType)).before args0 about1 = true := code_word (m := ⟨31, 0⟩) (meth := k31m0) (c := k31c0) (by decide +kernel) rfl rfl rfl (by decide +kernel)
set_option maxRecDepth 65536 in
theorem w_c41 : (Jvm.Cond.code ({ cls := "java/util/ImmutableCollections$AbstractImmutableList", name := "<init>", desc := "()V" } : Jvm.MethodName) jdk_46_method_1_code (1 : Nat) (Option.none : Option Jvm.ClassFile.FieldType)).before args0 about1 = true := code_word (m := ⟨30, 0⟩) (meth := k30m0) (c := k30c0) (by decide +kernel) rfl rfl rfl (by decide +kernel)
set_option maxRecDepth 65536 in
theorem w_c42 : (Jvm.Cond.code ({ cls := "java/util/ImmutableCollections$AbstractImmutableCollection", name := "<init>", desc := "()V" } : Jvm.MethodName) jdk_47_method_1_code (1 : Nat) (Option.none : Option Jvm.ClassFile.FieldType)).before args0 about1 = true := code_word (m := ⟨29, 0⟩) (meth := k29m0) (c := k29c0) (by decide +kernel) rfl rfl rfl (by decide +kernel)
set_option maxRecDepth 65536 in
theorem w_c43 : (Jvm.Cond.code ({ cls := "java/util/Objects", name := "requireNonNull", desc := "(Ljava/lang/Object;)Ljava/lang/Object;" } : Jvm.MethodName) jdk_31_method_10_code (1 : Nat) (Option.some (Jvm.ClassFile.FieldType.object "java/lang/Object"))).before args0 about1 = true := code_word (m := ⟨17, 1⟩) (meth := k17m1) (c := k17c1) (by decide +kernel) rfl rfl rfl (by decide +kernel)
set_option maxRecDepth 65536 in
theorem w_c44 : (Jvm.Cond.code ({ cls := "java/lang/String", name := "equals", desc := "(Ljava/lang/Object;)Z" } : Jvm.MethodName) jdk_42_method_66_code (3 : Nat) (Option.some Jvm.ClassFile.FieldType.boolean)).before args0 about1 = true := code_word (m := ⟨7, 2⟩) (meth := k7m2) (c := k7c2) (by decide +kernel) rfl rfl rfl (by decide +kernel)
set_option maxRecDepth 65536 in
theorem w_c45 : (Jvm.Cond.code ({ cls := "java/lang/StringLatin1", name := "equals", desc := "([B[B)Z" } : Jvm.MethodName) jdk_43_method_13_code (3 : Nat) (Option.some Jvm.ClassFile.FieldType.boolean)).before args0 about1 = true := code_word (m := ⟨39, 1⟩) (meth := k39m1) (c := k39c1) (by decide +kernel) rfl rfl rfl (by decide +kernel)
set_option maxRecDepth 65536 in
theorem w_c46 : (Jvm.Cond.code ({ cls := "java/util/ImmutableCollections$List12", name := "size", desc := "()I" } : Jvm.MethodName) jdk_44_method_3_code (1 : Nat) (Option.some Jvm.ClassFile.FieldType.int)).before args0 about1 = true := code_word (m := ⟨31, 2⟩) (meth := k31m2) (c := k31c2) (by decide +kernel) rfl rfl rfl (by decide +kernel)
set_option maxRecDepth 65536 in
theorem w_c47 : (Jvm.Cond.code ({ cls := "java/util/ImmutableCollections$List12", name := "get", desc := "(I)Ljava/lang/Object;" } : Jvm.MethodName) jdk_44_method_5_code (2 : Nat) (Option.some (Jvm.ClassFile.FieldType.object "java/lang/Object"))).before args0 about1 = true := code_word (m := ⟨31, 3⟩) (meth := k31m3) (c := k31c3) (by decide +kernel) rfl rfl rfl (by decide +kernel)
set_option maxRecDepth 65536 in
theorem w_c48 : (Jvm.Cond.code ({ cls := "com/example/cuenta/cuenta/FuelSchemes$Scheme", name := "name", desc := "()Ljava/lang/String;" } : Jvm.MethodName) prog_27_method_5_code (1 : Nat) (Option.some (Jvm.ClassFile.FieldType.object "java/lang/String"))).before args0 about1 = true := code_word (m := ⟨15, 1⟩) (meth := k15m1) (c := k15c1) (by decide +kernel) rfl rfl rfl (by decide +kernel)
set_option maxRecDepth 65536 in
theorem w_c49 : (Jvm.Cond.code ({ cls := "java/util/ImmutableCollections$List12", name := "<init>", desc := "(Ljava/lang/Object;Ljava/lang/Object;)V" } : Jvm.MethodName) jdk_44_method_2_code (3 : Nat) (Option.none : Option Jvm.ClassFile.FieldType)).before args0 about1 = true := code_word (m := ⟨31, 1⟩) (meth := k31m1) (c := k31c1) (by decide +kernel) rfl rfl rfl (by decide +kernel)
set_option maxRecDepth 65536 in
theorem w_c50 : (Jvm.Cond.code ({ cls := "java/util/Optional", name := "of", desc := "(Ljava/lang/Object;)Ljava/util/Optional;" } : Jvm.MethodName) jdk_32_method_3_code (1 : Nat) (Option.some (Jvm.ClassFile.FieldType.object "java/util/Optional"))).before args0 about1 = true := code_word (m := ⟨16, 2⟩) (meth := k16m2) (c := k16c2) (by decide +kernel) rfl rfl rfl (by decide +kernel)
set_option maxRecDepth 65536 in
theorem w_c51 : (Jvm.Cond.code ({ cls := "java/util/Optional", name := "<init>", desc := "(Ljava/lang/Object;)V" } : Jvm.MethodName) jdk_32_method_2_code (2 : Nat) (Option.none : Option Jvm.ClassFile.FieldType)).before args0 about1 = true := code_word (m := ⟨16, 1⟩) (meth := k16m1) (c := k16c1) (by decide +kernel) rfl rfl rfl (by decide +kernel)
set_option maxRecDepth 65536 in
theorem w_c52 : (Jvm.Cond.code ({ cls := "java/util/Optional", name := "get", desc := "()Ljava/lang/Object;" } : Jvm.MethodName) jdk_32_method_5_code (1 : Nat) (Option.some (Jvm.ClassFile.FieldType.object "java/lang/Object"))).before args0 about1 = true := code_word (m := ⟨16, 3⟩) (meth := k16m3) (c := k16c3) (by decide +kernel) rfl rfl rfl (by decide +kernel)
set_option maxRecDepth 65536 in
theorem w_c53 : (Jvm.Cond.code ({ cls := "java/util/ImmutableCollections", name := "listFromArray", desc := "([Ljava/lang/Object;)Ljava/util/List;" } : Jvm.MethodName) jdk_56_method_4_code (3 : Nat) (Option.some (Jvm.ClassFile.FieldType.object "java/util/List"))).before args0 about1 = true := code_word (m := ⟨28, 2⟩) (meth := k28m2) (c := k28c2) (by decide +kernel) rfl rfl rfl (by decide +kernel)
set_option maxRecDepth 65536 in
theorem w_c54 : (Jvm.Cond.code ({ cls := "java/util/ImmutableCollections$ListN", name := "<init>", desc := "([Ljava/lang/Object;Z)V" } : Jvm.MethodName) jdk_45_method_1_code (3 : Nat) (Option.none : Option Jvm.ClassFile.FieldType)).before args0 about1 = true := code_word (m := ⟨32, 0⟩) (meth := k32m0) (c := k32c0) (by decide +kernel) rfl rfl rfl (by decide +kernel)
set_option maxRecDepth 65536 in
theorem w_c55 : (Jvm.Cond.code ({ cls := "java/util/ImmutableCollections$ListN", name := "get", desc := "(I)Ljava/lang/Object;" } : Jvm.MethodName) jdk_45_method_4_code (2 : Nat) (Option.some (Jvm.ClassFile.FieldType.object "java/lang/Object"))).before args0 about1 = true := code_word (m := ⟨32, 2⟩) (meth := k32m2) (c := k32c2) (by decide +kernel) rfl rfl rfl (by decide +kernel)
def codes1 : List Jvm.Cond := [Jvm.Cond.code x code maxLocals ret, Jvm.Cond.code ({ cls := "com/example/cuenta/cuenta/FuelSchemesSchemePinLaw", name := "name", desc := "(I)Ljava/lang/String;" } : Jvm.MethodName) method_3_code (3 : Nat) (Option.some (Jvm.ClassFile.FieldType.object "java/lang/String")), Jvm.Cond.code ({ cls := "java/lang/String", name := "<init>", desc := "([C)V" } : Jvm.MethodName) jdk_42_method_3_code (2 : Nat) (Option.none : Option Jvm.ClassFile.FieldType), Jvm.Cond.code ({ cls := "java/lang/String", name := "<init>", desc := "([CIILjava/lang/Void;)V" } : Jvm.MethodName) jdk_42_method_149_code (6 : Nat) (Option.none : Option Jvm.ClassFile.FieldType), Jvm.Cond.code ({ cls := "java/lang/Object", name := "<init>", desc := "()V" } : Jvm.MethodName) object_method_1_code (1 : Nat) (Option.none : Option Jvm.ClassFile.FieldType), Jvm.Cond.code ({ cls := "java/lang/StringUTF16", name := "compress", desc := "([CII)[B" } : Jvm.MethodName) jdk_52_method_16_code (6 : Nat) (Option.some (Jvm.ClassFile.FieldType.array Jvm.ClassFile.FieldType.byte)), Jvm.Cond.code ({ cls := "java/lang/StringUTF16", name := "compress", desc := "([CI[BII)I" } : Jvm.MethodName) jdk_52_method_21_code (7 : Nat) (Option.some Jvm.ClassFile.FieldType.int), Jvm.Cond.code ({ cls := "java/lang/StringUTF16", name := "coderFromArrayLen", desc := "([BI)B" } : Jvm.MethodName) jdk_52_method_15_code (2 : Nat) (Option.some Jvm.ClassFile.FieldType.byte), Jvm.Cond.code ({ cls := "com/example/cuenta/cuenta/FuelScheme", name := "<init>", desc := "(Ljava/math/BigDecimal;Ljava/math/BigDecimal;Ljava/math/BigDecimal;JLjava/math/BigDecimal;)V" } : Jvm.MethodName) prog_25_method_1_code (7 : Nat) (Option.none : Option Jvm.ClassFile.FieldType), Jvm.Cond.code ({ cls := "java/lang/Record", name := "<init>", desc := "()V" } : Jvm.MethodName) jdk_30_method_1_code (1 : Nat) (Option.none : Option Jvm.ClassFile.FieldType), Jvm.Cond.code ({ cls := "com/example/cuenta/cuenta/Checks", name := "notNegative", desc := "(Ljava/math/BigDecimal;Ljava/lang/String;)Ljava/math/BigDecimal;" } : Jvm.MethodName) prog_4_method_2_code (2 : Nat) (Option.some (Jvm.ClassFile.FieldType.object "java/math/BigDecimal")), Jvm.Cond.code ({ cls := "java/math/BigDecimal", name := "signum", desc := "()I" } : Jvm.MethodName) jdk_17_method_58_code (1 : Nat) (Option.some Jvm.ClassFile.FieldType.int), Jvm.Cond.code ({ cls := "java/lang/Long", name := "signum", desc := "(J)I" } : Jvm.MethodName) jdk_35_method_57_code (2 : Nat) (Option.some Jvm.ClassFile.FieldType.int), Jvm.Cond.code ({ cls := "java/util/Optional", name := "empty", desc := "()Ljava/util/Optional;" } : Jvm.MethodName) jdk_32_method_1_code (1 : Nat) (Option.some (Jvm.ClassFile.FieldType.object "java/util/Optional")), Jvm.Cond.code ({ cls := "com/example/cuenta/cuenta/FuelSchemes$Scheme", name := "<init>", desc := "(Ljava/lang/String;Lcom/example/cuenta/cuenta/FuelScheme;Ljava/util/Optional;)V" } : Jvm.MethodName) prog_27_method_1_code (4 : Nat) (Option.none : Option Jvm.ClassFile.FieldType), Jvm.Cond.code ({ cls := "java/util/Objects", name := "requireNonNull", desc := "(Ljava/lang/Object;Ljava/lang/String;)Ljava/lang/Object;" } : Jvm.MethodName) jdk_31_method_11_code (2 : Nat) (Option.some (Jvm.ClassFile.FieldType.object "java/lang/Object")), Jvm.Cond.code ({ cls := "java/util/ArrayList", name := "<init>", desc := "()V" } : Jvm.MethodName) jdk_38_method_2_code (1 : Nat) (Option.none : Option Jvm.ClassFile.FieldType), Jvm.Cond.code ({ cls := "java/util/AbstractList", name := "<init>", desc := "()V" } : Jvm.MethodName) jdk_39_method_1_code (1 : Nat) (Option.none : Option Jvm.ClassFile.FieldType), Jvm.Cond.code ({ cls := "java/util/AbstractCollection", name := "<init>", desc := "()V" } : Jvm.MethodName) jdk_22_method_1_code (1 : Nat) (Option.none : Option Jvm.ClassFile.FieldType), Jvm.Cond.code ({ cls := "com/example/cuenta/cuenta/FuelSchemes", name := "<init>", desc := "(Ljava/util/List;)V" } : Jvm.MethodName) prog_26_method_1_code (2 : Nat) (Option.none : Option Jvm.ClassFile.FieldType), Jvm.Cond.code ({ cls := "java/util/List", name := "copyOf", desc := "(Ljava/util/Collection;)Ljava/util/List;" } : Jvm.MethodName) jdk_40_method_48_code (1 : Nat) (Option.some (Jvm.ClassFile.FieldType.object "java/util/List")), Jvm.Cond.code ({ cls := "java/util/ImmutableCollections", name := "listCopy", desc := "(Ljava/util/Collection;)Ljava/util/List;" } : Jvm.MethodName) jdk_56_method_3_code (2 : Nat) (Option.some (Jvm.ClassFile.FieldType.object "java/util/List")), Jvm.Cond.code ({ cls := "java/util/ArrayList", name := "isEmpty", desc := "()Z" } : Jvm.MethodName) jdk_38_method_9_code (1 : Nat) (Option.some Jvm.ClassFile.FieldType.boolean), Jvm.Cond.code ({ cls := "java/util/List", name := "of", desc := "()Ljava/util/List;" } : Jvm.MethodName) jdk_40_method_36_code (0 : Nat) (Option.some (Jvm.ClassFile.FieldType.object "java/util/List")), Jvm.Cond.code ({ cls := "com/example/cuenta/cuenta/FuelSchemes", name := "scheme", desc := "(Ljava/lang/String;)Ljava/util/Optional;" } : Jvm.MethodName) prog_26_method_2_code (4 : Nat) (Option.some (Jvm.ClassFile.FieldType.object "java/util/Optional")), Jvm.Cond.code ({ cls := "java/util/ImmutableCollections$AbstractImmutableList", name := "iterator", desc := "()Ljava/util/Iterator;" } : Jvm.MethodName) jdk_46_method_10_code (1 : Nat) (Option.some (Jvm.ClassFile.FieldType.object "java/util/Iterator")), Jvm.Cond.code ({ cls := "java/util/ImmutableCollections$ListN", name := "size", desc := "()I" } : Jvm.MethodName) jdk_45_method_3_code (1 : Nat) (Option.some Jvm.ClassFile.FieldType.int), Jvm.Cond.code ({ cls := "java/util/ImmutableCollections$ListItr", name := "<init>", desc := "(Ljava/util/List;I)V" } : Jvm.MethodName) jdk_53_method_1_code (3 : Nat) (Option.none : Option Jvm.ClassFile.FieldType), Jvm.Cond.code ({ cls := "java/util/ImmutableCollections$ListItr", name := "hasNext", desc := "()Z" } : Jvm.MethodName) jdk_53_method_3_code (1 : Nat) (Option.some Jvm.ClassFile.FieldType.boolean), Jvm.Cond.code ({ cls := "java/util/Optional", name := "isPresent", desc := "()Z" } : Jvm.MethodName) jdk_32_method_6_code (1 : Nat) (Option.some Jvm.ClassFile.FieldType.boolean), Jvm.Cond.code ({ cls := "java/util/ArrayList", name := "add", desc := "(Ljava/lang/Object;)Z" } : Jvm.MethodName) jdk_38_method_25_code (2 : Nat) (Option.some Jvm.ClassFile.FieldType.boolean), Jvm.Cond.code ({ cls := "java/util/ArrayList", name := "add", desc := "(Ljava/lang/Object;[Ljava/lang/Object;I)V" } : Jvm.MethodName) jdk_38_method_24_code (4 : Nat) (Option.none : Option Jvm.ClassFile.FieldType), Jvm.Cond.code ({ cls := "java/util/ArrayList", name := "grow", desc := "()[Ljava/lang/Object;" } : Jvm.MethodName) jdk_38_method_7_code (1 : Nat) (Option.some (Jvm.ClassFile.FieldType.array (Jvm.ClassFile.FieldType.object "java/lang/Object"))), Jvm.Cond.code ({ cls := "java/util/ArrayList", name := "grow", desc := "(I)[Ljava/lang/Object;" } : Jvm.MethodName) jdk_38_method_6_code (4 : Nat) (Option.some (Jvm.ClassFile.FieldType.array (Jvm.ClassFile.FieldType.object "java/lang/Object"))), Jvm.Cond.code ({ cls := "java/lang/Math", name := "max", desc := "(II)I" } : Jvm.MethodName) jdk_29_method_65_code (2 : Nat) (Option.some Jvm.ClassFile.FieldType.int), Jvm.Cond.code ({ cls := "java/util/ArrayList", name := "toArray", desc := "()[Ljava/lang/Object;" } : Jvm.MethodName) jdk_38_method_16_code (1 : Nat) (Option.some (Jvm.ClassFile.FieldType.array (Jvm.ClassFile.FieldType.object "java/lang/Object"))), Jvm.Cond.code ({ cls := "java/util/Arrays", name := "copyOf", desc := "([Ljava/lang/Object;I)[Ljava/lang/Object;" } : Jvm.MethodName) jdk_65_method_119_code (2 : Nat) (Option.some (Jvm.ClassFile.FieldType.array (Jvm.ClassFile.FieldType.object "java/lang/Object"))), Jvm.Cond.code ({ cls := "java/util/Arrays", name := "copyOf", desc := "([Ljava/lang/Object;ILjava/lang/Class;)[Ljava/lang/Object;" } : Jvm.MethodName) jdk_65_method_120_code (4 : Nat) (Option.some (Jvm.ClassFile.FieldType.array (Jvm.ClassFile.FieldType.object "java/lang/Object"))), Jvm.Cond.code ({ cls := "java/lang/Math", name := "min", desc := "(II)I" } : Jvm.MethodName) jdk_29_method_69_code (2 : Nat) (Option.some Jvm.ClassFile.FieldType.int), Jvm.Cond.code ({ cls := "java/util/List", name := "of", desc := "([Ljava/lang/Object;)Ljava/util/List;" } : Jvm.MethodName) jdk_40_method_47_code (2 : Nat) (Option.some (Jvm.ClassFile.FieldType.object "java/util/List")), Jvm.Cond.code ({ cls := "java/util/ImmutableCollections$List12", name := "<init>", desc := "(Ljava/lang/Object;)V" } : Jvm.MethodName) jdk_44_method_1_code (2 : Nat) (Option.none : Option Jvm.ClassFile.FieldType), Jvm.Cond.code ({ cls := "java/util/ImmutableCollections$AbstractImmutableList", name := "<init>", desc := "()V" } : Jvm.MethodName) jdk_46_method_1_code (1 : Nat) (Option.none : Option Jvm.ClassFile.FieldType), Jvm.Cond.code ({ cls := "java/util/ImmutableCollections$AbstractImmutableCollection", name := "<init>", desc := "()V" } : Jvm.MethodName) jdk_47_method_1_code (1 : Nat) (Option.none : Option Jvm.ClassFile.FieldType), Jvm.Cond.code ({ cls := "java/util/Objects", name := "requireNonNull", desc := "(Ljava/lang/Object;)Ljava/lang/Object;" } : Jvm.MethodName) jdk_31_method_10_code (1 : Nat) (Option.some (Jvm.ClassFile.FieldType.object "java/lang/Object")), Jvm.Cond.code ({ cls := "java/lang/String", name := "equals", desc := "(Ljava/lang/Object;)Z" } : Jvm.MethodName) jdk_42_method_66_code (3 : Nat) (Option.some Jvm.ClassFile.FieldType.boolean), Jvm.Cond.code ({ cls := "java/lang/StringLatin1", name := "equals", desc := "([B[B)Z" } : Jvm.MethodName) jdk_43_method_13_code (3 : Nat) (Option.some Jvm.ClassFile.FieldType.boolean), Jvm.Cond.code ({ cls := "java/util/ImmutableCollections$List12", name := "size", desc := "()I" } : Jvm.MethodName) jdk_44_method_3_code (1 : Nat) (Option.some Jvm.ClassFile.FieldType.int), Jvm.Cond.code ({ cls := "java/util/ImmutableCollections$List12", name := "get", desc := "(I)Ljava/lang/Object;" } : Jvm.MethodName) jdk_44_method_5_code (2 : Nat) (Option.some (Jvm.ClassFile.FieldType.object "java/lang/Object")), Jvm.Cond.code ({ cls := "com/example/cuenta/cuenta/FuelSchemes$Scheme", name := "name", desc := "()Ljava/lang/String;" } : Jvm.MethodName) prog_27_method_5_code (1 : Nat) (Option.some (Jvm.ClassFile.FieldType.object "java/lang/String")), Jvm.Cond.code ({ cls := "java/util/ImmutableCollections$List12", name := "<init>", desc := "(Ljava/lang/Object;Ljava/lang/Object;)V" } : Jvm.MethodName) jdk_44_method_2_code (3 : Nat) (Option.none : Option Jvm.ClassFile.FieldType), Jvm.Cond.code ({ cls := "java/util/Optional", name := "of", desc := "(Ljava/lang/Object;)Ljava/util/Optional;" } : Jvm.MethodName) jdk_32_method_3_code (1 : Nat) (Option.some (Jvm.ClassFile.FieldType.object "java/util/Optional")), Jvm.Cond.code ({ cls := "java/util/Optional", name := "<init>", desc := "(Ljava/lang/Object;)V" } : Jvm.MethodName) jdk_32_method_2_code (2 : Nat) (Option.none : Option Jvm.ClassFile.FieldType), Jvm.Cond.code ({ cls := "java/util/Optional", name := "get", desc := "()Ljava/lang/Object;" } : Jvm.MethodName) jdk_32_method_5_code (1 : Nat) (Option.some (Jvm.ClassFile.FieldType.object "java/lang/Object")), Jvm.Cond.code ({ cls := "java/util/ImmutableCollections", name := "listFromArray", desc := "([Ljava/lang/Object;)Ljava/util/List;" } : Jvm.MethodName) jdk_56_method_4_code (3 : Nat) (Option.some (Jvm.ClassFile.FieldType.object "java/util/List")), Jvm.Cond.code ({ cls := "java/util/ImmutableCollections$ListN", name := "<init>", desc := "([Ljava/lang/Object;Z)V" } : Jvm.MethodName) jdk_45_method_1_code (3 : Nat) (Option.none : Option Jvm.ClassFile.FieldType), Jvm.Cond.code ({ cls := "java/util/ImmutableCollections$ListN", name := "get", desc := "(I)Ljava/lang/Object;" } : Jvm.MethodName) jdk_45_method_4_code (2 : Nat) (Option.some (Jvm.ClassFile.FieldType.object "java/lang/Object"))]
set_option maxRecDepth 65536 in
theorem codes_eq : words1.filter isCode = codes1 := rfl
theorem w_codes : ∀ c ∈ words1.filter isCode, c.before args0 about1 = true := by
  rw [codes_eq]
  intro c hc
  simp only [codes1, List.mem_cons, List.not_mem_nil, or_false] at hc
  rcases hc with rfl | rfl | rfl | rfl | rfl | rfl | rfl | rfl | rfl | rfl | rfl | rfl | rfl | rfl | rfl | rfl | rfl | rfl | rfl | rfl | rfl | rfl | rfl | rfl | rfl | rfl | rfl | rfl | rfl | rfl | rfl | rfl | rfl | rfl | rfl | rfl | rfl | rfl | rfl | rfl | rfl | rfl | rfl | rfl | rfl | rfl | rfl | rfl | rfl | rfl | rfl | rfl | rfl | rfl | rfl | rfl
  · exact w_c0
  · exact w_c1
  · exact w_c2
  · exact w_c3
  · exact w_c4
  · exact w_c5
  · exact w_c6
  · exact w_c7
  · exact w_c8
  · exact w_c9
  · exact w_c10
  · exact w_c11
  · exact w_c12
  · exact w_c13
  · exact w_c14
  · exact w_c15
  · exact w_c16
  · exact w_c17
  · exact w_c18
  · exact w_c19
  · exact w_c20
  · exact w_c21
  · exact w_c22
  · exact w_c23
  · exact w_c24
  · exact w_c25
  · exact w_c26
  · exact w_c27
  · exact w_c28
  · exact w_c29
  · exact w_c30
  · exact w_c31
  · exact w_c32
  · exact w_c33
  · exact w_c34
  · exact w_c35
  · exact w_c36
  · exact w_c37
  · exact w_c38
  · exact w_c39
  · exact w_c40
  · exact w_c41
  · exact w_c42
  · exact w_c43
  · exact w_c44
  · exact w_c45
  · exact w_c46
  · exact w_c47
  · exact w_c48
  · exact w_c49
  · exact w_c50
  · exact w_c51
  · exact w_c52
  · exact w_c53
  · exact w_c54
  · exact w_c55
set_option maxRecDepth 65536 in
theorem w_t1 : (words1.take 24).all (fun c => isCode c || c.before args0 about1) = true := by decide +kernel
set_option maxRecDepth 65536 in
theorem w_t2 : ((words1.drop 24).take 24).all (fun c => isCode c || c.before args0 about1) = true := by decide +kernel
set_option maxRecDepth 65536 in
theorem w_t3 : (((words1.drop 24).drop 24).take 24).all (fun c => isCode c || c.before args0 about1) = true := by decide +kernel
set_option maxRecDepth 65536 in
theorem w_t4 : ((((words1.drop 24).drop 24).drop 24).take 24).all (fun c => isCode c || c.before args0 about1) = true := by decide +kernel
set_option maxRecDepth 65536 in
theorem w_t5 : (((((words1.drop 24).drop 24).drop 24).drop 24).take 24).all (fun c => isCode c || c.before args0 about1) = true := by decide +kernel
set_option maxRecDepth 65536 in
theorem w_t6 : ((((((words1.drop 24).drop 24).drop 24).drop 24).drop 24).take 24).all (fun c => isCode c || c.before args0 about1) = true := by decide +kernel
set_option maxRecDepth 65536 in
theorem w_t7 : (((((((words1.drop 24).drop 24).drop 24).drop 24).drop 24).drop 24).take 24).all (fun c => isCode c || c.before args0 about1) = true := by decide +kernel
set_option maxRecDepth 65536 in
theorem w_t8 : ((((((((words1.drop 24).drop 24).drop 24).drop 24).drop 24).drop 24).drop 24).take 24).all (fun c => isCode c || c.before args0 about1) = true := by decide +kernel
set_option maxRecDepth 65536 in
theorem w_t9 : (((((((((words1.drop 24).drop 24).drop 24).drop 24).drop 24).drop 24).drop 24).drop 24).take 24).all (fun c => isCode c || c.before args0 about1) = true := by decide +kernel
set_option maxRecDepth 65536 in
theorem w_t10 : ((((((((((words1.drop 24).drop 24).drop 24).drop 24).drop 24).drop 24).drop 24).drop 24).drop 24).take 24).all (fun c => isCode c || c.before args0 about1) = true := by decide +kernel
set_option maxRecDepth 65536 in
theorem w_t11 : (((((((((((words1.drop 24).drop 24).drop 24).drop 24).drop 24).drop 24).drop 24).drop 24).drop 24).drop 24).take 24).all (fun c => isCode c || c.before args0 about1) = true := by decide +kernel
set_option maxRecDepth 65536 in
theorem w_t12 : ((((((((((((words1.drop 24).drop 24).drop 24).drop 24).drop 24).drop 24).drop 24).drop 24).drop 24).drop 24).drop 24).take 24).all (fun c => isCode c || c.before args0 about1) = true := by decide +kernel
set_option maxRecDepth 65536 in
theorem w_t13 : (((((((((((((words1.drop 24).drop 24).drop 24).drop 24).drop 24).drop 24).drop 24).drop 24).drop 24).drop 24).drop 24).drop 24).take 24).all (fun c => isCode c || c.before args0 about1) = true := by decide +kernel
set_option maxRecDepth 65536 in
theorem w_t14 : ((((((((((((((words1.drop 24).drop 24).drop 24).drop 24).drop 24).drop 24).drop 24).drop 24).drop 24).drop 24).drop 24).drop 24).drop 24).take 24).all (fun c => isCode c || c.before args0 about1) = true := by decide +kernel
set_option maxRecDepth 65536 in
theorem w_t15 : (((((((((((((((words1.drop 24).drop 24).drop 24).drop 24).drop 24).drop 24).drop 24).drop 24).drop 24).drop 24).drop 24).drop 24).drop 24).drop 24).take 24).all (fun c => isCode c || c.before args0 about1) = true := by decide +kernel
set_option maxRecDepth 65536 in
theorem w_t16 : ((((((((((((((((words1.drop 24).drop 24).drop 24).drop 24).drop 24).drop 24).drop 24).drop 24).drop 24).drop 24).drop 24).drop 24).drop 24).drop 24).drop 24).take 24).all (fun c => isCode c || c.before args0 about1) = true := by decide +kernel
set_option maxRecDepth 65536 in
theorem w_t17 : ((((((((((((((((words1.drop 24).drop 24).drop 24).drop 24).drop 24).drop 24).drop 24).drop 24).drop 24).drop 24).drop 24).drop 24).drop 24).drop 24).drop 24).drop 24).all (fun c => isCode c || c.before args0 about1) = true := by decide +kernel
theorem w_tables : (allAtoms (Jvm.Cond.code x code maxLocals ret :: tables_1)).before args0 about1 = true := by
  rw [allAtoms_all]
  show words1.all (fun c => c.before args0 about1) = true
  refine all_split ?_ w_codes
  rw [← List.take_append_drop 24 words1, List.all_append, w_t1, ← List.take_append_drop 24 (words1.drop 24), List.all_append, w_t2, ← List.take_append_drop 24 ((words1.drop 24).drop 24), List.all_append, w_t3, ← List.take_append_drop 24 (((words1.drop 24).drop 24).drop 24), List.all_append, w_t4, ← List.take_append_drop 24 ((((words1.drop 24).drop 24).drop 24).drop 24), List.all_append, w_t5, ← List.take_append_drop 24 (((((words1.drop 24).drop 24).drop 24).drop 24).drop 24), List.all_append, w_t6, ← List.take_append_drop 24 ((((((words1.drop 24).drop 24).drop 24).drop 24).drop 24).drop 24), List.all_append, w_t7, ← List.take_append_drop 24 (((((((words1.drop 24).drop 24).drop 24).drop 24).drop 24).drop 24).drop 24), List.all_append, w_t8, ← List.take_append_drop 24 ((((((((words1.drop 24).drop 24).drop 24).drop 24).drop 24).drop 24).drop 24).drop 24), List.all_append, w_t9, ← List.take_append_drop 24 (((((((((words1.drop 24).drop 24).drop 24).drop 24).drop 24).drop 24).drop 24).drop 24).drop 24), List.all_append, w_t10, ← List.take_append_drop 24 ((((((((((words1.drop 24).drop 24).drop 24).drop 24).drop 24).drop 24).drop 24).drop 24).drop 24).drop 24), List.all_append, w_t11, ← List.take_append_drop 24 (((((((((((words1.drop 24).drop 24).drop 24).drop 24).drop 24).drop 24).drop 24).drop 24).drop 24).drop 24).drop 24), List.all_append, w_t12, ← List.take_append_drop 24 ((((((((((((words1.drop 24).drop 24).drop 24).drop 24).drop 24).drop 24).drop 24).drop 24).drop 24).drop 24).drop 24).drop 24), List.all_append, w_t13, ← List.take_append_drop 24 (((((((((((((words1.drop 24).drop 24).drop 24).drop 24).drop 24).drop 24).drop 24).drop 24).drop 24).drop 24).drop 24).drop 24).drop 24), List.all_append, w_t14, ← List.take_append_drop 24 ((((((((((((((words1.drop 24).drop 24).drop 24).drop 24).drop 24).drop 24).drop 24).drop 24).drop 24).drop 24).drop 24).drop 24).drop 24).drop 24), List.all_append, w_t15, ← List.take_append_drop 24 (((((((((((((((words1.drop 24).drop 24).drop 24).drop 24).drop 24).drop 24).drop 24).drop 24).drop 24).drop 24).drop 24).drop 24).drop 24).drop 24).drop 24), List.all_append, w_t16, w_t17]
  rfl
set_option maxRecDepth 65536 in
theorem w_rest : rest_1_c.before args0 about1 = true := by decide +kernel
set_option maxRecDepth 65536 in
theorem w_case : (Jvm.Cond.and given_1 narrow_1).before args0 about1 = true := by decide +kernel
set_option maxRecDepth 65536 in
theorem w_consts : constsHeld consts_1 about1 := Jvm.Lit.constsHeldB_iff.mp (by decide +kernel)
theorem w_applies : (headSpec (Jvm.Cond.code x code maxLocals ret :: tables_1) room_1).applies x e0.platform about1 = true :=
  (Spec.applies_iff w_frames).mpr ⟨w_running, w_runnable, w_alone, w_named, w_hears, w_ripe, w_room, w_tables⟩
theorem atStart : AtStart classFile x code maxLocals ret World_1 tables_1 room_1 Calls_1 rest_1 Pre_1 launch0 p0 e0 about1 theMethod args0 below0 :=
  ⟨lists_1, trivial, launch0.admits_env _ _ _, launch0.least_env, fairChoices_fair.cas, fairChoices_fair.clock, w_frames, w_args, w_heap, w_applies, ⟨⟨50, k50, 7, by decide +kernel, rfl, rfl, _, rfl, rfl⟩, ⟨w_consts, trivial⟩⟩, w_rest, w_case⟩
end start1
theorem witness_1 : WitnessClaimed_1 := ⟨start1.p0, start1.e0, start1.about1, start1.theMethod, start1.args0, start1.below0, start1.atStart⟩
end Jvm.Pilot.@@N@@
