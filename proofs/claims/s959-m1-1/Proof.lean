import JvmDerived
import JvmDerived.Pilot.@@N@@Statement
import JvmDerived.Pilot.@@N@@Code
set_option linter.unusedVariables false
set_option linter.unusedSimpArgs false
/- laws to paste: Road.backV, Road.codOf, Road.eqW (cut by pick.py; bodies as the Statement names them) -/
namespace Jvm.Pilot.@@N@@
namespace StrChars
open Jvm Sem ClassFile Op Lib Jvm.Stand Jvm.Free.XT Jvm.Free.ALB Jvm.Free.JM Jvm.Free
open Jvm.Lib.Cold (StaticIs)
/-- a char array whose places are chars -/
def Ch (a : Addr) (A : Cell) (U : State) : Prop := Arr .char a A U ∧ Typed .char A
theorem Ch.mv {a : Addr} {A : Cell} {U U' : State} (h : Ch a A U) (hal : U.vm.Alike U'.vm) (hh : U'.heap = U.heap) : Ch a A U' := ⟨h.1.mv hal hh, h.2⟩
theorem Ch.keep {a : Addr} {A : Cell} {U U' : State} (h : Ch a A U) (hal : U.vm.Alike U'.vm) (hk : U'.heap[a]? = some A) : Ch a A U' := ⟨h.1.keep hal hk, h.2⟩
/-- what place i of a char[]'s cell holds -/
def cv (A : Cell) (i : Nat) : Int32 := match A.slots[i]? with | some (.int x) => x | _ => 0
theorem Ch.get {a : Addr} {A : Cell} {U : State} (h : Ch a A U) {i : Nat} (hi : i < A.slots.size) : A.slots[i]? = some (.int (cv A i)) := by
  have e := Array.getElem?_eq_getElem hi
  have f := h.2 i _ e
  unfold cv; rw [e]
  generalize A.slots[i] = v at f
  cases v <;> simp [fits] at f ⊢
/-- the byte that i2b leaves of a char -/
def lo8 (x : Int32) : Int32 := x.toInt8.toInt32
theorem fits_lo8 (y : Int32) : fits .byte (.int (lo8 y)) = true := by
  have h1 := y.toInt8.le_toInt
  have h2 := y.toInt8.toInt_lt
  simp only [lo8, fits, Bool.and_eq_true, decide_eq_true_eq, Int32.le_iff_toInt_le, Int8.toInt_toInt32, show (-128 : Int32).toInt = -128 from by decide, show (127 : Int32).toInt = 127 from by decide]
  omega
/-- A' is A but that each place j of lo .. hi - 1 holds f j -/
def Laid (A A' : Cell) (lo hi : Nat) (f : Nat → Value) : Prop := A'.cls = A.cls ∧ A'.vm = A.vm ∧ A'.slots.size = A.slots.size ∧ ∀ i, A'.slots[i]? = if lo ≤ i ∧ i < hi then some (f i) else A.slots[i]?
theorem Laid.zero (A : Cell) (lo : Nat) (f : Nat → Value) : Laid A A lo (lo + 0) f := ⟨rfl, rfl, rfl, fun i => by rw [if_neg (by omega)]⟩
theorem Laid.step {A Ak : Cell} {lo k : Nat} {f : Nat → Value} {v : Value} (h : Laid A Ak lo k f) (hlo : lo ≤ k) (hk : k < Ak.slots.size) (hv : v = f k) : Laid A (Ak.setSlot k v) lo (k + 1) f := by
  refine ⟨h.1, h.2.1, by simpa [Cell.setSlot] using h.2.2.1, fun i => ?_⟩
  by_cases e : k = i
  · subst e; rw [Cell.slots_setSlot_self v hk, if_pos (by omega), hv]
  · rw [Cell.slots_setSlot_ne v e, h.2.2.2 i]
    by_cases q : lo ≤ i ∧ i < k
    · rw [if_pos q, if_pos (by omega)]
    · rw [if_neg q, if_neg (by omega)]
def U16 : String := "java/lang/StringUTF16"
namespace Cmp5
def yN : MethodName := ⟨"java/lang/StringUTF16", "compress", "([CI[BII)I"⟩
abbrev yB : ByteArray := jdk_52_method_21_code
theorem d0 : decode yB 0 = .ok (.iconst 0, 1) := by decide +kernel
theorem d1 : decode yB 1 = .ok (.istore 5, 2) := by decide +kernel
theorem d3 : decode yB 3 = .ok (.iload 5, 2) := by decide +kernel
theorem d5 : decode yB 5 = .ok (.iload 4, 2) := by decide +kernel
theorem d7 : decode yB 7 = .ok (.if_icmp (.ge) 37, 3) := by decide +kernel
theorem d10 : decode yB 10 = .ok (.aload_n 0, 1) := by decide +kernel
theorem d11 : decode yB 11 = .ok (.iload_n 1, 1) := by decide +kernel
theorem d12 : decode yB 12 = .ok (.caload, 1) := by decide +kernel
theorem d13 : decode yB 13 = .ok (.istore 6, 2) := by decide +kernel
theorem d15 : decode yB 15 = .ok (.iload 6, 2) := by decide +kernel
theorem d17 : decode yB 17 = .ok (.sipush 255, 3) := by decide +kernel
theorem d20 : decode yB 20 = .ok (.if_icmp (.le) 6, 3) := by decide +kernel
theorem d26 : decode yB 26 = .ok (.aload_n 2, 1) := by decide +kernel
theorem d27 : decode yB 27 = .ok (.iload_n 3, 1) := by decide +kernel
theorem d28 : decode yB 28 = .ok (.iload 6, 2) := by decide +kernel
theorem d30 : decode yB 30 = .ok (.i2b, 1) := by decide +kernel
theorem d31 : decode yB 31 = .ok (.bastore, 1) := by decide +kernel
theorem d32 : decode yB 32 = .ok (.iinc 1 1, 3) := by decide +kernel
theorem d35 : decode yB 35 = .ok (.iinc 3 1, 3) := by decide +kernel
theorem d38 : decode yB 38 = .ok (.iinc 5 1, 3) := by decide +kernel
theorem d41 : decode yB 41 = .ok (.goto (-38), 3) := by decide +kernel
theorem d44 : decode yB 44 = .ok (.iload 4, 2) := by decide +kernel
theorem d46 : decode yB 46 = .ok (.ireturn, 1) := by decide +kernel
def site : List Cond := []
def tab : Cond := tabOf yN yB 7 (some .int) site
def P (b : Addr) (A : Cell) (d : Addr) (B : Cell) (o q len : Nat) (args : Array Value) (s : State) : Prop := args = #[.ref b, .int (Int32.ofNat o), .ref d, .int (Int32.ofNat q), .int (Int32.ofNat len)] ∧ Ch b A s ∧ Arr .byte d B s ∧ b ≠ d ∧ o + len ≤ A.slots.size ∧ q + len ≤ B.slots.size ∧ ∀ i, i < len → ¬ 255 < cv A (o + i)
def E (b : Addr) (A : Cell) (d : Addr) (B : Cell) (o q len : Nat) (r : Option Value) (s u : State) : Prop := r = some (.int (Int32.ofNat len)) ∧ ∃ B', Put d B' s u ∧ Laid B B' q (q + len) (fun j => Value.int (lo8 (cv A (o + (j - q)))))
/-- no char of the range above 255: len; the places written hold each char's low byte -/
theorem law (l : Launch) (b : Addr) (A : Cell) (d : Addr) (B : Cell) (o q len : Nat) : Law l yN 5 5 0 0 yB 7 (some .int) site (P b A d B o q len) (E b A d B o q len) (copyLocs d q len) 0 0 := by
  refine Law.of_walk (plainFor_of_name (by decide +kernel)) (by decide +kernel) (by decide +kernel) (by decide) (fun _ _ h => by rw [h.1]; rfl) (fun _ U U' hal hh h => ⟨h.1, h.2.1.mv hal hh, h.2.2.1.mv hal hh, h.2.2.2⟩) (fun r U U' V V' h1 hal h2 h => ⟨h.1, h.2.elim fun B' q => ⟨B', q.1.mv h1 h2, q.2⟩⟩) ?_
  intro p e s m args below meth c s₁ X0 hexec hbytes hml hret hlk hnm hown hh0 W hP
  obtain ⟨rfl, hA, hB, hne, l1, l2, hp⟩ := hP
  have c1 : Steps p.tables e below (s₁.setTop (entryFrame m #[.ref b, .int (Int32.ofNat o), .ref d, .int (Int32.ofNat q), .int (Int32.ofNat len)] 7)) (s₁.setTop (mkF m 0 #[.val (.ref b), .val (.int (Int32.ofNat o)), .val (.ref d), .val (.int (Int32.ofNat q)), .val (.int (Int32.ofNat len)), .unset, .unset] [])) := entry rfl
  have hA0 := hA.1.mv X0.warmed.alike hh0
  have hB0 := hB.mv X0.warmed.alike hh0
  have a31 := hA.1.2.2.2
  have c2 : Steps p.tables e below (s₁.setTop (entryFrame m #[.ref b, .int (Int32.ofNat o), .ref d, .int (Int32.ofNat q), .int (Int32.ofNat len)] 7)) (s₁.setTop (mkF m 3 #[.val (.ref b), .val (.int (Int32.ofNat o)), .val (.ref d), .val (.int (Int32.ofNat q)), .val (.int (Int32.ofNat len)), .val (.int 0), .unset] [])) := c1.trans (by
    refine iconstV X0.here hexec rfl 0 (hb hbytes d0) (by decide) ?_
    refine XS.istore X0.here hexec rfl (hb hbytes d1) rfl rfl ?_
    exact Steps.refl _)
  have loop : ∀ (r i : Nat), i + r = len → ∀ (z : Slot), (z = .unset ∨ ∃ w, z = .val w ∧ w.category = 1) → ∀ (Tl : State) (Bk : Cell), Stand p l e { frames := 0, locals := 0, cells := 0, slots := 0 } s m #[.ref b, .int (Int32.ofNat o), .ref d, .int (Int32.ofNat q), .int (Int32.ofNat len)] below meth c Tl ([] ++ copyLocs d q i) 0 0 → Put d Bk s₁ Tl → Laid B Bk q (q + i) (fun j => Value.int (lo8 (cv A (o + (j - q))))) →
      Steps p.tables e below (s₁.setTop (entryFrame m #[.ref b, .int (Int32.ofNat o), .ref d, .int (Int32.ofNat q), .int (Int32.ofNat len)] 7)) (Tl.setTop (mkF m 3 #[.val (.ref b), .val (.int (Int32.ofNat (o + i))), .val (.ref d), .val (.int (Int32.ofNat (q + i))), .val (.int (Int32.ofNat len)), .val (.int (Int32.ofNat i)), z] [])) → ∃ (T' : State) (B' : Cell) (z' : Slot), Stand p l e { frames := 0, locals := 0, cells := 0, slots := 0 } s m #[.ref b, .int (Int32.ofNat o), .ref d, .int (Int32.ofNat q), .int (Int32.ofNat len)] below meth c T' ([] ++ copyLocs d q len) 0 0 ∧ Put d B' s₁ T' ∧ Laid B B' q (q + len) (fun j => Value.int (lo8 (cv A (o + (j - q))))) ∧
      Steps p.tables e below (s₁.setTop (entryFrame m #[.ref b, .int (Int32.ofNat o), .ref d, .int (Int32.ofNat q), .int (Int32.ofNat len)] 7)) (T'.setTop (mkF m 3 #[.val (.ref b), .val (.int (Int32.ofNat (o + len))), .val (.ref d), .val (.int (Int32.ofNat (q + len))), .val (.int (Int32.ofNat len)), .val (.int (Int32.ofNat len)), z'] [])) := by
    intro r
    induction r with
    | zero =>
      intro i hi z hz Tl Bk Xl pl fl cl
      have hil : i = len := by omega
      rw [hil] at Xl fl cl
      exact ⟨Tl, Bk, z, Xl, pl, fl, cl⟩
    | succ r ih =>
      intro i hi z hz Tl Bk Xl pl fl cl
      have all := X0.warmed.alike.symm.trans Xl.warmed.alike
      have hAl := hA0.keep all (pl.other hne hA0.1)
      have hBk := hB0.like all pl.1 fl.1 fl.2.1 fl.2.2.1
      have hlt : q + i < Bk.slots.size := by rw [fl.2.2.1]; omega
      have c3 : Steps p.tables e below (s₁.setTop (entryFrame m #[.ref b, .int (Int32.ofNat o), .ref d, .int (Int32.ofNat q), .int (Int32.ofNat len)] 7)) (Tl.setTop (mkF m 12 #[.val (.ref b), .val (.int (Int32.ofNat (o + i))), .val (.ref d), .val (.int (Int32.ofNat (q + i))), .val (.int (Int32.ofNat len)), .val (.int (Int32.ofNat i)), z] [.int (Int32.ofNat (o + i)), .ref b])) := cl.trans (by
        refine XS.iload Xl.here hexec rfl (hb hbytes d3) rfl ?_
        refine XS.iload Xl.here hexec rfl (hb hbytes d5) rfl ?_
        refine XS.icmpNo Xl.here hexec rfl (hb hbytes d7) rfl (ii_ge_f (lt32 (by omega) (by omega))) ?_
        refine XS.aloadN Xl.here hexec rfl (hb hbytes d10) rfl rfl ?_
        refine XS.iloadN Xl.here hexec rfl (hb hbytes d11) rfl ?_
        exact Steps.refl _)
      have c4 : Steps p.tables e below (s₁.setTop (entryFrame m #[.ref b, .int (Int32.ofNat o), .ref d, .int (Int32.ofNat q), .int (Int32.ofNat len)] 7)) (Tl.setTop (mkF m 13 #[.val (.ref b), .val (.int (Int32.ofNat (o + i))), .val (.ref d), .val (.int (Int32.ofNat (q + i))), .val (.int (Int32.ofNat len)), .val (.int (Int32.ofNat i)), z] [.int (cv A (o + i))])) := c3.trans (by
        refine Xl.aget hexec hAl rfl (hA.get (i := o + i) (by omega)) rfl rfl (hb hbytes d12) ?_
        exact Steps.refl _)
      have c5 : Steps p.tables e below (s₁.setTop (entryFrame m #[.ref b, .int (Int32.ofNat o), .ref d, .int (Int32.ofNat q), .int (Int32.ofNat len)] 7)) (Tl.setTop (mkF m 15 #[.val (.ref b), .val (.int (Int32.ofNat (o + i))), .val (.ref d), .val (.int (Int32.ofNat (q + i))), .val (.int (Int32.ofNat len)), .val (.int (Int32.ofNat i)), .val (.int (cv A (o + i)))] [])) := c4.trans (by
        refine XS.istoreS Xl.here hexec rfl (hb hbytes d13) rfl rfl hz ?_
        exact Steps.refl _)
      have c6 : Steps p.tables e below (s₁.setTop (entryFrame m #[.ref b, .int (Int32.ofNat o), .ref d, .int (Int32.ofNat q), .int (Int32.ofNat len)] 7)) (Tl.setTop (mkF m 31 #[.val (.ref b), .val (.int (Int32.ofNat (o + i))), .val (.ref d), .val (.int (Int32.ofNat (q + i))), .val (.int (Int32.ofNat len)), .val (.int (Int32.ofNat i)), .val (.int (cv A (o + i)))] [.int (lo8 (cv A (o + i))), .int (Int32.ofNat (q + i)), .ref d])) := c5.trans (by
        refine XS.iload Xl.here hexec rfl (hb hbytes d15) rfl ?_
        refine sipushV Xl.here hexec rfl 255 (hb hbytes d17) (by decide) ?_
        refine XS.icmpYes Xl.here hexec rfl (pc0 := 20) rfl (hb hbytes d20) rfl (ii_le_t (hp i (by omega))) (by decide) rfl ?_
        refine XS.aloadN Xl.here hexec rfl (hb hbytes d26) rfl rfl ?_
        refine XS.iloadN Xl.here hexec rfl (hb hbytes d27) rfl ?_
        refine XS.iload Xl.here hexec rfl (hb hbytes d28) rfl ?_
        refine i2b Xl.here hexec rfl (hb hbytes d30) rfl ?_
        exact Steps.refl _)
      obtain ⟨T7, X7, p7, st7⟩ := Xl.aput hexec hBk rfl hlt rfl (fits_lo8 (cv A (o + i))) (g := (mkF m 31 #[.val (.ref b), .val (.int (Int32.ofNat (o + i))), .val (.ref d), .val (.int (Int32.ofNat (q + i))), .val (.int (Int32.ofNat len)), .val (.int (Int32.ofNat i)), .val (.int (cv A (o + i)))] [.int (lo8 (cv A (o + i))), .int (Int32.ofNat (q + i)), .ref d])) rfl (rest := []) rfl (hb hbytes d31)
      have c8 : Steps p.tables e below (s₁.setTop (entryFrame m #[.ref b, .int (Int32.ofNat o), .ref d, .int (Int32.ofNat q), .int (Int32.ofNat len)] 7)) (T7.setTop (mkF m 32 #[.val (.ref b), .val (.int (Int32.ofNat (o + i))), .val (.ref d), .val (.int (Int32.ofNat (q + i))), .val (.int (Int32.ofNat len)), .val (.int (Int32.ofNat i)), .val (.int (cv A (o + i)))] [])) := c6.trans (st7 _ (Steps.refl _))
      have c9 : Steps p.tables e below (s₁.setTop (entryFrame m #[.ref b, .int (Int32.ofNat o), .ref d, .int (Int32.ofNat q), .int (Int32.ofNat len)] 7)) (T7.setTop (mkF m 3 #[.val (.ref b), .val (.int (Int32.ofNat (o + i) + 1)), .val (.ref d), .val (.int (Int32.ofNat (q + i) + 1)), .val (.int (Int32.ofNat len)), .val (.int (Int32.ofNat i + 1)), .val (.int (cv A (o + i)))] [])) := c8.trans (by
        refine iincV X7.here hexec rfl 1 (hb hbytes d32) (by decide) rfl rfl ?_
        refine iincV X7.here hexec rfl 1 (hb hbytes d35) (by decide) rfl rfl ?_
        refine iincV X7.here hexec rfl 1 (hb hbytes d38) (by decide) rfl rfl ?_
        refine XS.goto X7.here hexec rfl (pc0 := 41) rfl (hb hbytes d41) (by decide) rfl ?_
        exact Steps.refl _)
      have c10 : Steps p.tables e below (s₁.setTop (entryFrame m #[.ref b, .int (Int32.ofNat o), .ref d, .int (Int32.ofNat q), .int (Int32.ofNat len)] 7)) (T7.setTop (mkF m 3 #[.val (.ref b), .val (.int (Int32.ofNat (o + (i + 1)))), .val (.ref d), .val (.int (Int32.ofNat (q + (i + 1)))), .val (.int (Int32.ofNat len)), .val (.int (Int32.ofNat (i + 1))), .val (.int (cv A (o + i)))] [])) := by
        have := c9
        rw [succ32, succ32, succ32] at this
        exact this
      exact ih (i + 1) (by omega) _ (Or.inr ⟨_, rfl, rfl⟩) T7 _ (by rw [copyLocs_step, ← List.append_assoc]; exact X7) (pl.trans p7) (fl.step (by omega) hlt (by simp)) c10
  obtain ⟨T9, B9, z9, X9, p9, f9, g9⟩ := loop len 0 (by omega) .unset (Or.inl rfl) s₁ B (by simpa [copyLocs] using X0) ⟨hB0.1, fun _ _ => rfl, rfl⟩ (Laid.zero _ _ _) c2
  have c11 : Steps p.tables e below (s₁.setTop (entryFrame m #[.ref b, .int (Int32.ofNat o), .ref d, .int (Int32.ofNat q), .int (Int32.ofNat len)] 7)) (T9.setTop (mkF m 46 #[.val (.ref b), .val (.int (Int32.ofNat (o + len))), .val (.ref d), .val (.int (Int32.ofNat (q + len))), .val (.int (Int32.ofNat len)), .val (.int (Int32.ofNat len)), z9] [.int (Int32.ofNat len)])) := g9.trans (by
    refine XS.iload X9.here hexec rfl (hb hbytes d3) rfl ?_
    refine XS.iload X9.here hexec rfl (hb hbytes d5) rfl ?_
    refine XS.icmpYes X9.here hexec rfl (pc0 := 7) rfl (hb hbytes d7) rfl (ii_ge_t (nlt32 (by omega) (Nat.le_refl _))) (by decide) rfl ?_
    refine XS.iload X9.here hexec rfl (hb hbytes d44) rfl ?_
    exact Steps.refl _)
  exact ⟨T9, some (.int (Int32.ofNat len)), _, _, _, X9, by simp, rfl, rfl, (fun h => by cases h), ⟨rfl, B9, p9.from hh0, f9⟩, fun fs hl => c11.trans (X9.ireturnOut hexec hret rfl (Or.inl rfl) (hb hbytes d46) hl)⟩
end Cmp5
namespace Cmp3
def yN : MethodName := ⟨"java/lang/StringUTF16", "compress", "([CII)[B"⟩
abbrev yB : ByteArray := jdk_52_method_16_code
theorem d0 : decode yB 0 = .ok (.iload_n 2, 1) := by decide +kernel
theorem d1 : decode yB 1 = .ok (.newarray .byte, 2) := by decide +kernel
theorem d3 : decode yB 3 = .ok (.astore_n 3, 1) := by decide +kernel
theorem d4 : decode yB 4 = .ok (.aload_n 0, 1) := by decide +kernel
theorem d5 : decode yB 5 = .ok (.iload_n 1, 1) := by decide +kernel
theorem d6 : decode yB 6 = .ok (.aload_n 3, 1) := by decide +kernel
theorem d7 : decode yB 7 = .ok (.iconst 0, 1) := by decide +kernel
theorem d8 : decode yB 8 = .ok (.iload_n 2, 1) := by decide +kernel
theorem d9 : decode yB 9 = .ok (.invokestatic 115, 3) := by decide +kernel
theorem d12 : decode yB 12 = .ok (.istore 4, 2) := by decide +kernel
theorem d14 : decode yB 14 = .ok (.iload 4, 2) := by decide +kernel
theorem d16 : decode yB 16 = .ok (.iload_n 2, 1) := by decide +kernel
theorem d17 : decode yB 17 = .ok (.if_icmp (.eq) 40, 3) := by decide +kernel
theorem d57 : decode yB 57 = .ok (.aload_n 3, 1) := by decide +kernel
theorem d58 : decode yB 58 = .ok (.areturn, 1) := by decide +kernel
def site : List Cond := [.arrayClass .byte, Cmp5.tab] ++ staticW U16 115 Cmp5.yN
def tab : Cond := tabOf yN yB 6 (some (.array .byte)) site
def P (b : Addr) (A : Cell) (o len : Nat) (args : Array Value) (s : State) : Prop := args = #[.ref b, .int (Int32.ofNat o), .int (Int32.ofNat len)] ∧ Ch b A s ∧ o + len ≤ A.slots.size ∧ len ≤ 536870912 ∧ ∀ i, i < len → ¬ 255 < cv A (o + i)
def E (b : Addr) (A : Cell) (o len : Nat) (r : Option Value) (s u : State) : Prop := NewArr .byte "[B" len (fun j => .int (lo8 (cv A (o + j)))) r s u ∧ u.heap.size = s.heap.size + 1
/-- no char of the range above 255: a new byte[] of their low bytes -/
theorem law (l : Launch) (b : Addr) (A : Cell) (o len : Nat) : Law l yN 3 3 1 18 yB 6 (some (.array .byte)) site (P b A o len) (E b A o len) [] 1 len := by
  refine Law.of_walk (plainFor_of_name (by decide +kernel)) (by decide +kernel) (by decide +kernel) (by decide) (fun _ _ h => by rw [h.1]; rfl) (fun _ U U' hal hh h => ⟨h.1, h.2.1.mv hal hh, h.2.2⟩) (fun r U U' V V' h1 hal h2 h => ⟨NewArr.mv r U U' V V' h1 hal h2 h.1, by rw [h1, h2]; exact h.2⟩) ?_
  intro p e s m args below meth c s₁ X0 hexec hbytes hml hret hlk hnm hown hh0 W hP
  obtain ⟨rfl, hA, l1, l2, hp⟩ := hP
  have a31 := hA.1.2.2.2
  have c1 : Steps p.tables e below (s₁.setTop (entryFrame m #[.ref b, .int (Int32.ofNat o), .int (Int32.ofNat len)] 6)) (s₁.setTop (mkF m 0 #[.val (.ref b), .val (.int (Int32.ofNat o)), .val (.int (Int32.ofNat len)), .unset, .unset, .unset] [])) := entry rfl
  have c2 : Steps p.tables e below (s₁.setTop (entryFrame m #[.ref b, .int (Int32.ofNat o), .int (Int32.ofNat len)] 6)) (s₁.setTop (mkF m 1 #[.val (.ref b), .val (.int (Int32.ofNat o)), .val (.int (Int32.ofNat len)), .unset, .unset, .unset] [.int (Int32.ofNat len)])) := c1.trans (by
    refine XS.iloadN X0.here hexec rfl (hb hbytes d0) rfl ?_
    exact Steps.refl _)
  obtain ⟨T3, B3, X3, ba3, bs3, bv3, bh3, bf3, st3⟩ := X0.anew hexec (atype := .byte) (wk W (.arrayClass .byte)) rfl (by show len * 1 ≤ _; omega) (by omega) (g := (mkF m 1 #[.val (.ref b), .val (.int (Int32.ofNat o)), .val (.int (Int32.ofNat len)), .unset, .unset, .unset] [.int (Int32.ofNat len)])) rfl (hb hbytes d1) (rest := []) rfl (Nat.le_refl _) (by show 0 + len ≤ len; omega)
  rw [hh0] at ba3 st3
  have kp3 : XT.Kept s T3 := (XT.Kept.of_eq hh0).push bh3
  have hA3 := hA.keep X3.warmed.alike (kp3 _ _ hA.1.1)
  have hne : b ≠ s.heap.size := hA.1.ne
  have c4 : Steps p.tables e below (s₁.setTop (entryFrame m #[.ref b, .int (Int32.ofNat o), .int (Int32.ofNat len)] 6)) (T3.setTop (mkF m 3 #[.val (.ref b), .val (.int (Int32.ofNat o)), .val (.int (Int32.ofNat len)), .unset, .unset, .unset] [.ref s.heap.size])) := c2.trans (st3 _ (Steps.refl _))
  have c5 : Steps p.tables e below (s₁.setTop (entryFrame m #[.ref b, .int (Int32.ofNat o), .int (Int32.ofNat len)] 6)) (T3.setTop (mkF m 9 #[.val (.ref b), .val (.int (Int32.ofNat o)), .val (.int (Int32.ofNat len)), .val (.ref s.heap.size), .unset, .unset] [.int (Int32.ofNat len), .int 0, .ref s.heap.size, .int (Int32.ofNat o), .ref b])) := c4.trans (by
    refine XS.astoreN X3.here hexec rfl (hb hbytes d3) rfl rfl rfl ?_
    refine XS.aloadN X3.here hexec rfl (hb hbytes d4) rfl rfl ?_
    refine XS.iloadN X3.here hexec rfl (hb hbytes d5) rfl ?_
    refine XS.aloadN X3.here hexec rfl (hb hbytes d6) rfl rfl ?_
    refine iconstV X3.here hexec rfl 0 (hb hbytes d7) (by decide) ?_
    refine XS.iloadN X3.here hexec rfl (hb hbytes d8) rfl ?_
    exact Steps.refl _)
  obtain ⟨v6, T6, X6, E6, g6⟩ := X3.callS hexec (Cmp5.law l b A s.heap.size B3 o 0 len) hown (wks W (staticW U16 115 Cmp5.yN)) (wk W Cmp5.tab) (W := 0) (Nat.le_of_ble_eq_true rfl) (Nat.le_of_ble_eq_true rfl) (Nat.le_refl _) (by show 0 + len + 0 ≤ len; omega) (g := (mkF m 9 #[.val (.ref b), .val (.int (Int32.ofNat o)), .val (.int (Int32.ofNat len)), .val (.ref s.heap.size), .unset, .unset] [.int (Int32.ofNat len), .int (Int32.ofNat 0), .ref s.heap.size, .int (Int32.ofNat o), .ref b])) rfl (by rw [hml]; rfl) c5 (argsL := [.ref b, .int (Int32.ofNat o), .ref s.heap.size, .int (Int32.ofNat 0), .int (Int32.ofNat len)]) (rest := []) rfl rfl (by show 2 * 0 + 0 ≤ _; decide) (hb hbytes d9) (⟨rfl, hA3, ba3, hne, l1, by rw [bs3]; simp, hp⟩)
  obtain ⟨rfl, B6, p6, f6⟩ := E6
  have c7 : Steps p.tables e below (s₁.setTop (entryFrame m #[.ref b, .int (Int32.ofNat o), .int (Int32.ofNat len)] 6)) (T6.setTop (mkF m 12 #[.val (.ref b), .val (.int (Int32.ofNat o)), .val (.int (Int32.ofNat len)), .val (.ref s.heap.size), .unset, .unset] [.int (Int32.ofNat len)])) := g6
  have c8 : Steps p.tables e below (s₁.setTop (entryFrame m #[.ref b, .int (Int32.ofNat o), .int (Int32.ofNat len)] 6)) (T6.setTop (mkF m 58 #[.val (.ref b), .val (.int (Int32.ofNat o)), .val (.int (Int32.ofNat len)), .val (.ref s.heap.size), .val (.int (Int32.ofNat len)), .unset] [.ref s.heap.size])) := c7.trans (by
    refine XS.istore X6.here hexec rfl (hb hbytes d12) rfl rfl ?_
    refine XS.iload X6.here hexec rfl (hb hbytes d14) rfl ?_
    refine XS.iloadN X6.here hexec rfl (hb hbytes d16) rfl ?_
    refine XS.icmpYes X6.here hexec rfl (pc0 := 17) rfl (hb hbytes d17) rfl (ii_eq_t rfl) (by decide) rfl ?_
    refine XS.aloadN X6.here hexec rfl (hb hbytes d57) rfl rfl ?_
    exact Steps.refl _)
  have X8 := X6.wide (L' := []) (cells' := 1) (slots' := len) (fun x hx hlt => by
    simp only [List.nil_append, copyLocs, List.mem_map, List.mem_range] at hx
    obtain ⟨i, -, rfl⟩ := hx
    exact absurd hlt (Nat.lt_irrefl _)) (Nat.le_refl _) (by omega)
  exact ⟨T6, some (.ref s.heap.size), _, _, _, X8, rfl, rfl, rfl, (fun h => by cases h), ⟨⟨rfl, B6, ba3.like (X3.warmed.alike.symm.trans X6.warmed.alike) p6.1 f6.1 f6.2.1 f6.2.2.1, f6.2.1.trans bv3, by rw [X6.warmed.alike.findClass, f6.1]; exact bf3, by rw [f6.2.2.1, bs3]; simp, fun j hj => by rw [f6.2.2.2 j, if_pos (by omega)]; rfl, kp3.put p6 (Nat.le_refl _)⟩, by rw [p6.2.2, bh3, hh0]; simp⟩, fun fs hl => c8.trans (X8.areturnOut hexec rfl hret rfl (hb hbytes d58) hl)⟩
end Cmp3
namespace CodL
def yN : MethodName := ⟨"java/lang/StringUTF16", "coderFromArrayLen", "([BI)B"⟩
abbrev yB : ByteArray := jdk_52_method_15_code
theorem d0 : decode yB 0 = .ok (.iload_n 1, 1) := by decide +kernel
theorem d1 : decode yB 1 = .ok (.aload_n 0, 1) := by decide +kernel
theorem d2 : decode yB 2 = .ok (.arraylength, 1) := by decide +kernel
theorem d3 : decode yB 3 = .ok (.isub, 1) := by decide +kernel
theorem d4 : decode yB 4 = .ok (.bipush 31, 2) := by decide +kernel
theorem d6 : decode yB 6 = .ok (.iushr, 1) := by decide +kernel
theorem d7 : decode yB 7 = .ok (.i2b, 1) := by decide +kernel
theorem d8 : decode yB 8 = .ok (.ireturn, 1) := by decide +kernel
def site : List Cond := []
def tab : Cond := tabOf yN yB 2 (some .byte) site
def P (d : Addr) (B : Cell) (args : Array Value) (s : State) : Prop := args = #[.ref d, .int (Int32.ofNat B.slots.size)] ∧ Arr .byte d B s
def E (r : Option Value) (s u : State) : Prop := XT.PureE (some (.int 0)) r s u
/-- an array as long as the number of chars: LATIN1 -/
theorem law (l : Launch) (d : Addr) (B : Cell) : Law l yN 2 2 0 0 yB 2 (some .byte) site (P d B) E [] 0 0 := by
  refine Law.of_walk (plainFor_of_name (by decide +kernel)) (by decide +kernel) (by decide +kernel) (by decide) (fun _ _ h => by rw [h.1]; rfl) (fun _ U U' hal hh h => ⟨h.1, h.2.mv hal hh⟩) (fun r U U' V V' h1 hal h2 h => XT.PureE.mv r U U' V V' h1 hal h2 h) ?_
  intro p e s m args below meth c s₁ X0 hexec hbytes hml hret hlk hnm hown hh0 W hP
  obtain ⟨rfl, hB⟩ := hP
  have hB0 := hB.mv X0.warmed.alike hh0
  have c1 : Steps p.tables e below (s₁.setTop (entryFrame m #[.ref d, .int (Int32.ofNat B.slots.size)] 2)) (s₁.setTop (mkF m 0 #[.val (.ref d), .val (.int (Int32.ofNat B.slots.size))] [])) := entry rfl
  have c2 : Steps p.tables e below (s₁.setTop (entryFrame m #[.ref d, .int (Int32.ofNat B.slots.size)] 2)) (s₁.setTop (mkF m 2 #[.val (.ref d), .val (.int (Int32.ofNat B.slots.size))] [.ref d, .int (Int32.ofNat B.slots.size)])) := c1.trans (by
    refine XS.iloadN X0.here hexec rfl (hb hbytes d0) rfl ?_
    refine XS.aloadN X0.here hexec rfl (hb hbytes d1) rfl rfl ?_
    exact Steps.refl _)
  have c3 : Steps p.tables e below (s₁.setTop (entryFrame m #[.ref d, .int (Int32.ofNat B.slots.size)] 2)) (s₁.setTop (mkF m 8 #[.val (.ref d), .val (.int (Int32.ofNat B.slots.size))] [.int (lo8 (ushr (Int32.ofNat B.slots.size - Int32.ofNat B.slots.size) 31))])) := c2.trans (by
    refine X0.alen hexec hB0 rfl rfl (hb hbytes d2) ?_
    refine XS.isub X0.here hexec rfl (hb hbytes d3) rfl ?_
    refine bipushV X0.here hexec rfl 31 (hb hbytes d4) (by decide) ?_
    refine iushr X0.here hexec rfl (hb hbytes d6) rfl ?_
    refine i2b X0.here hexec rfl (hb hbytes d7) rfl ?_
    exact Steps.refl _)
  have e0 : lo8 (ushr (Int32.ofNat B.slots.size - Int32.ofNat B.slots.size) 31) = 0 := by rw [Int32.sub_self]; decide
  rw [e0] at c3
  exact ⟨s₁, some (.int 0), _, _, _, X0, rfl, rfl, rfl, (fun h => by cases h), ⟨rfl, hh0⟩, fun fs hl => c3.trans (X0.ireturnOut hexec hret rfl (Or.inr (Or.inr (Or.inl rfl))) (hb hbytes d8) hl)⟩
end CodL
/-- the String at a is Latin-1 over a new byte[] (the heap's one new cell): the low bytes of the len chars of A from o on; every cell but a is kept -/
def Got (a : Addr) (D : Cell) (fV fC : Field) (A : Cell) (o len : Nat) (r : Option Value) (s u : State) : Prop := r = none ∧ ∃ D' V : Cell, Blank "java/lang/String" a D' u ∧ Same D D' [fV.slot, fC.slot] ∧ D'.slots[fV.slot]? = some (.ref s.heap.size) ∧ D'.slots[fC.slot]? = some (.int 0) ∧ Arr .byte s.heap.size V u ∧ V.vm = .none ∧ u.vm.findClass "[B" = some V.cls ∧ V.slots.size = len ∧ (∀ j, j < len → V.slots[j]? = some (.int (lo8 (cv A (o + j))))) ∧ (∀ (y : Addr) (c : Cell), y ≠ a → s.heap[y]? = some c → u.heap[y]? = some c) ∧ u.heap.size = s.heap.size + 1
theorem Got.mv {a : Addr} {D A : Cell} {fV fC : Field} {o len : Nat} : ∀ r (U U' V V' : State), U'.heap = U.heap → V.vm.Alike V'.vm → V'.heap = V.heap → Got a D fV fC A o len r U V → Got a D fV fC A o len r U' V' :=
  fun r U U' V V' h1 hal h2 ⟨e0, D', X, a1, a2, a3, a4, a5, a6, a7, a8, a9, a10, a11⟩ => ⟨e0, D', X, a1.mv hal h2, a2, by rw [h1]; exact a3, a4, by rw [h1]; exact a5.mv hal h2, a6, by rw [hal.findClass]; exact a7, a8, a9, by rw [h1, h2]; exact a10, by rw [h1, h2]; exact a11⟩
namespace New4
def yN : MethodName := ⟨"java/lang/String", "<init>", "([CIILjava/lang/Void;)V"⟩
abbrev yB : ByteArray := jdk_42_method_149_code
theorem d0 : decode yB 0 = .ok (.aload_n 0, 1) := by decide +kernel
theorem d1 : decode yB 1 = .ok (.invokespecial 1, 3) := by decide +kernel
theorem d4 : decode yB 4 = .ok (.iload_n 3, 1) := by decide +kernel
theorem d5 : decode yB 5 = .ok (.ifCond (.ne) 22, 3) := by decide +kernel
theorem d27 : decode yB 27 = .ok (.getstatic 38, 3) := by decide +kernel
theorem d30 : decode yB 30 = .ok (.ifCond (.eq) 28, 3) := by decide +kernel
theorem d33 : decode yB 33 = .ok (.aload_n 1, 1) := by decide +kernel
theorem d34 : decode yB 34 = .ok (.iload_n 2, 1) := by decide +kernel
theorem d35 : decode yB 35 = .ok (.iload_n 3, 1) := by decide +kernel
theorem d36 : decode yB 36 = .ok (.invokestatic 177, 3) := by decide +kernel
theorem d39 : decode yB 39 = .ok (.astore 5, 2) := by decide +kernel
theorem d41 : decode yB 41 = .ok (.aload_n 0, 1) := by decide +kernel
theorem d42 : decode yB 42 = .ok (.aload 5, 2) := by decide +kernel
theorem d44 : decode yB 44 = .ok (.iload_n 3, 1) := by decide +kernel
theorem d45 : decode yB 45 = .ok (.invokestatic 47, 3) := by decide +kernel
theorem d48 : decode yB 48 = .ok (.putfield 15, 3) := by decide +kernel
theorem d51 : decode yB 51 = .ok (.aload_n 0, 1) := by decide +kernel
theorem d52 : decode yB 52 = .ok (.aload 5, 2) := by decide +kernel
theorem d54 : decode yB 54 = .ok (.putfield 9, 3) := by decide +kernel
theorem d57 : decode yB 57 = .ok (.return_, 1) := by decide +kernel
def site : List Cond := [.fieldLink "java/lang/String" 38 "java/lang/String" "COMPACT_STRINGS" "Z", Cmp3.tab, CodL.tab, .laysFinal "java/lang/String" "java/lang/String" "value" "[B", .fieldLink "java/lang/String" 9 "java/lang/String" "value" "[B", .laysFinal "java/lang/String" "java/lang/String" "coder" "B", .fieldLink "java/lang/String" 15 "java/lang/String" "coder" "B"] ++ objW "java/lang/String" 1 ++ staticW "java/lang/String" 177 Cmp3.yN ++ staticW "java/lang/String" 47 CodL.yN
def tab : Cond := tabOf yN yB 6 none site
def P (a : Addr) (D : Cell) (fV fC : Field) (b : Addr) (A : Cell) (z : Int32) (o len : Nat) (args : Array Value) (s : State) : Prop := args = #[.ref a, .ref b, .int (Int32.ofNat o), .int (Int32.ofNat len), .null] ∧ Blank "java/lang/String" a D s ∧ Found "java/lang/String" "value" "[B" fV s ∧ Found "java/lang/String" "coder" "B" fC s ∧ Ch b A s ∧ StaticIs s "java/lang/String" "COMPACT_STRINGS" "Z" (.int z) ∧ ¬ z = 0 ∧ 0 < len ∧ o + len ≤ A.slots.size ∧ len ≤ 536870912 ∧ ∀ i, i < len → ¬ 255 < cv A (o + i)
def E (a : Addr) (D : Cell) (fV fC : Field) (A : Cell) (o len : Nat) (r : Option Value) (s u : State) : Prop := Got a D fV fC A o len r s u
/-- len > 0, no char of the range above 255: a Latin-1 String of their low bytes -/
theorem law (l : Launch) (a : Addr) (D : Cell) (fV fC : Field) (b : Addr) (A : Cell) (z : Int32) (o len : Nat) : Law l yN 5 4 2 35 yB 6 none site (P a D fV fC b A z o len) (E a D fV fC A o len) [⟨a, fC.slot⟩, ⟨a, fV.slot⟩] 1 len := by
  refine Law.of_walk (plainFor_of_name (by decide +kernel)) (by decide +kernel) (by decide +kernel) (by decide) (fun _ _ h => by rw [h.1]; rfl) (fun _ U U' hal hh h => ⟨h.1, h.2.1.mv hal hh, h.2.2.1.al hal, h.2.2.2.1.al hal, h.2.2.2.2.1.mv hal hh, h.2.2.2.2.2.1.there hal hh, h.2.2.2.2.2.2⟩) (fun r U U' V V' h1 hal h2 h => Got.mv r U U' V V' h1 hal h2 h) ?_
  intro p e s m args below meth c s₁ X0 hexec hbytes hml hret hlk hnm hown hh0 W hP
  obtain ⟨rfl, hB, f1, f2, hA, s1, hz, l0, l1, l2, hp⟩ := hP
  have a31 := hA.1.2.2.2
  have c1 : Steps p.tables e below (s₁.setTop (entryFrame m #[.ref a, .ref b, .int (Int32.ofNat o), .int (Int32.ofNat len), .null] 6)) (s₁.setTop (mkF m 0 #[.val (.ref a), .val (.ref b), .val (.int (Int32.ofNat o)), .val (.int (Int32.ofNat len)), .val .null, .unset] [])) := entry rfl
  have c2 : Steps p.tables e below (s₁.setTop (entryFrame m #[.ref a, .ref b, .int (Int32.ofNat o), .int (Int32.ofNat len), .null] 6)) (s₁.setTop (mkF m 1 #[.val (.ref a), .val (.ref b), .val (.int (Int32.ofNat o)), .val (.int (Int32.ofNat len)), .val .null, .unset] [.ref a])) := c1.trans (by
    refine XS.aloadN X0.here hexec rfl (hb hbytes d0) rfl rfl ?_
    exact Steps.refl _)
  obtain ⟨T3, X3, q3, st3⟩ := X0.oinit hexec hown (wks W (objW "java/lang/String" 1)) (g := (mkF m 1 #[.val (.ref a), .val (.ref b), .val (.int (Int32.ofNat o)), .val (.int (Int32.ofNat len)), .val .null, .unset] [.ref a])) rfl (by rw [hml]; rfl) (rest := []) rfl (hb hbytes d1) (W := 0) (by show 2 * 0 + 0 ≤ _; decide) (Nat.le_of_ble_eq_true rfl) (Nat.le_of_ble_eq_true rfl)
  have hh3 := q3.trans hh0
  have c4 : Steps p.tables e below (s₁.setTop (entryFrame m #[.ref a, .ref b, .int (Int32.ofNat o), .int (Int32.ofNat len), .null] 6)) (T3.setTop (mkF m 27 #[.val (.ref a), .val (.ref b), .val (.int (Int32.ofNat o)), .val (.int (Int32.ofNat len)), .val .null, .unset] [])) := (c2.trans (st3 _ (Steps.refl _))).trans (by
    refine XS.iloadN X3.here hexec rfl (hb hbytes d4) rfl ?_
    refine XS.ifYes X3.here hexec rfl (pc0 := 5) rfl (hb hbytes d5) rfl (i0_ne_t (nz32 (by omega) l0)) (by decide) rfl ?_
    exact Steps.refl _)
  obtain ⟨T5, X5, q5, st5⟩ := X3.sget hexec hown (wk W (.fieldLink "java/lang/String" 38 "java/lang/String" "COMPACT_STRINGS" "Z")) s1 (fun _ _ h => by rw [hh3]; exact h) (g := (mkF m 27 #[.val (.ref a), .val (.ref b), .val (.int (Int32.ofNat o)), .val (.int (Int32.ofNat len)), .val .null, .unset] [])) rfl (hb hbytes d27)
  have hh5 := q5.trans hh3
  have c6 : Steps p.tables e below (s₁.setTop (entryFrame m #[.ref a, .ref b, .int (Int32.ofNat o), .int (Int32.ofNat len), .null] 6)) (T5.setTop (mkF m 30 #[.val (.ref a), .val (.ref b), .val (.int (Int32.ofNat o)), .val (.int (Int32.ofNat len)), .val .null, .unset] [.int z])) := c4.trans (st5 _ (Steps.refl _))
  have c7 : Steps p.tables e below (s₁.setTop (entryFrame m #[.ref a, .ref b, .int (Int32.ofNat o), .int (Int32.ofNat len), .null] 6)) (T5.setTop (mkF m 36 #[.val (.ref a), .val (.ref b), .val (.int (Int32.ofNat o)), .val (.int (Int32.ofNat len)), .val .null, .unset] [.int (Int32.ofNat len), .int (Int32.ofNat o), .ref b])) := c6.trans (by
    refine XS.ifNo X5.here hexec rfl (hb hbytes d30) rfl (i0_eq_f hz) ?_
    refine XS.aloadN X5.here hexec rfl (hb hbytes d33) rfl rfl ?_
    refine XS.iloadN X5.here hexec rfl (hb hbytes d34) rfl ?_
    refine XS.iloadN X5.here hexec rfl (hb hbytes d35) rfl ?_
    exact Steps.refl _)
  obtain ⟨v8, T8, X8, E8, g8⟩ := X5.callS hexec (Cmp3.law l b A o len) hown (wks W (staticW "java/lang/String" 177 Cmp3.yN)) (wk W Cmp3.tab) (W := 0) (Nat.le_of_ble_eq_true rfl) (Nat.le_of_ble_eq_true rfl) (Nat.le_refl _) (by show 0 + len ≤ len; omega) (g := (mkF m 36 #[.val (.ref a), .val (.ref b), .val (.int (Int32.ofNat o)), .val (.int (Int32.ofNat len)), .val .null, .unset] [.int (Int32.ofNat len), .int (Int32.ofNat o), .ref b])) rfl (by rw [hml]; rfl) c7 (argsL := [.ref b, .int (Int32.ofNat o), .int (Int32.ofNat len)]) (rest := []) rfl rfl (by show 2 * 0 + 0 ≤ _; decide) (hb hbytes d36) (⟨rfl, hA.mv X5.warmed.alike hh5, l1, l2, hp⟩)
  obtain ⟨e8, z8⟩ := E8
  obtain ⟨rfl, N, n1, n2, n3, n4, n5, n6⟩ := NewArr.mv _ T5 s _ _ hh5.symm (Vm.Alike.refl _) rfl e8
  rw [hh5] at z8
  have hB1 := hB.keep X8.warmed.alike (n6 _ _ hB.1)
  have hne : s.heap.size ≠ a := (Nat.ne_of_lt (Array.getElem?_eq_some_iff.mp hB.1).1).symm
  have c9 : Steps p.tables e below (s₁.setTop (entryFrame m #[.ref a, .ref b, .int (Int32.ofNat o), .int (Int32.ofNat len), .null] 6)) (T8.setTop (mkF m 39 #[.val (.ref a), .val (.ref b), .val (.int (Int32.ofNat o)), .val (.int (Int32.ofNat len)), .val .null, .unset] [.ref s.heap.size])) := g8
  have c10 : Steps p.tables e below (s₁.setTop (entryFrame m #[.ref a, .ref b, .int (Int32.ofNat o), .int (Int32.ofNat len), .null] 6)) (T8.setTop (mkF m 45 #[.val (.ref a), .val (.ref b), .val (.int (Int32.ofNat o)), .val (.int (Int32.ofNat len)), .val .null, .val (.ref s.heap.size)] [.int (Int32.ofNat N.slots.size), .ref s.heap.size, .ref a])) := by
    have hc : Steps p.tables e below (s₁.setTop (entryFrame m #[.ref a, .ref b, .int (Int32.ofNat o), .int (Int32.ofNat len), .null] 6)) (T8.setTop (mkF m 45 #[.val (.ref a), .val (.ref b), .val (.int (Int32.ofNat o)), .val (.int (Int32.ofNat len)), .val .null, .val (.ref s.heap.size)] [.int (Int32.ofNat len), .ref s.heap.size, .ref a])) := c9.trans (by
      refine XS.astore X8.here hexec rfl (hb hbytes d39) rfl rfl rfl ?_
      refine XS.aloadN X8.here hexec rfl (hb hbytes d41) rfl rfl ?_
      refine XS.aload X8.here hexec rfl (hb hbytes d42) rfl rfl ?_
      refine XS.iloadN X8.here hexec rfl (hb hbytes d44) rfl ?_
      exact Steps.refl _)
    rw [n4]; exact hc
  obtain ⟨v11, T11, X11, E11, g11⟩ := X8.callS hexec (CodL.law l s.heap.size N) hown (wks W (staticW "java/lang/String" 47 CodL.yN)) (wk W CodL.tab) (W := 1) (Nat.le_of_ble_eq_true rfl) (Nat.le_of_ble_eq_true rfl) (Nat.le_refl _) (by show 0 + len + 0 ≤ len; omega) (g := (mkF m 45 #[.val (.ref a), .val (.ref b), .val (.int (Int32.ofNat o)), .val (.int (Int32.ofNat len)), .val .null, .val (.ref s.heap.size)] [.int (Int32.ofNat N.slots.size), .ref s.heap.size, .ref a])) rfl (by rw [hml]; rfl) c10 (argsL := [.ref s.heap.size, .int (Int32.ofNat N.slots.size)]) (rest := [.ref a]) rfl rfl (by show 2 * 0 + (1 + 0) ≤ _; decide) (hb hbytes d45) (⟨rfl, n1⟩)
  obtain ⟨rfl, q11⟩ := E11
  have hB11 := hB1.mv (X8.warmed.alike.symm.trans X11.warmed.alike) q11
  have c12 : Steps p.tables e below (s₁.setTop (entryFrame m #[.ref a, .ref b, .int (Int32.ofNat o), .int (Int32.ofNat len), .null] 6)) (T11.setTop (mkF m 48 #[.val (.ref a), .val (.ref b), .val (.int (Int32.ofNat o)), .val (.int (Int32.ofNat len)), .val .null, .val (.ref s.heap.size)] [.int 0, .ref a])) := g11
  obtain ⟨T13, X13, p13, bl13, sl13, st13⟩ := X11.finit hexec hown (wk W (.fieldLink "java/lang/String" 15 "java/lang/String" "coder" "B")) (Or.inr ⟨_, (wk W (.laysFinal "java/lang/String" "java/lang/String" "coder" "B"))⟩) (Or.inl ⟨rfl, hnm⟩) f2 (Or.inl rfl) hB11 (t := .byte) (by decide +kernel) rfl (g := (mkF m 48 #[.val (.ref a), .val (.ref b), .val (.int (Int32.ofNat o)), .val (.int (Int32.ofNat len)), .val .null, .val (.ref s.heap.size)] [.int 0, .ref a])) rfl (rest := []) rfl (hb hbytes d48)
  have c14 : Steps p.tables e below (s₁.setTop (entryFrame m #[.ref a, .ref b, .int (Int32.ofNat o), .int (Int32.ofNat len), .null] 6)) (T13.setTop (mkF m 54 #[.val (.ref a), .val (.ref b), .val (.int (Int32.ofNat o)), .val (.int (Int32.ofNat len)), .val .null, .val (.ref s.heap.size)] [.ref s.heap.size, .ref a])) := (c12.trans (st13 _ (Steps.refl _))).trans (by
    refine XS.aloadN X13.here hexec rfl (hb hbytes d51) rfl rfl ?_
    refine XS.aload X13.here hexec rfl (hb hbytes d52) rfl rfl ?_
    exact Steps.refl _)
  obtain ⟨T15, X15, p15, bl15, sl15, st15⟩ := X13.finit hexec hown (wk W (.fieldLink "java/lang/String" 9 "java/lang/String" "value" "[B")) (Or.inr ⟨_, (wk W (.laysFinal "java/lang/String" "java/lang/String" "value" "[B"))⟩) (Or.inl ⟨rfl, hnm⟩) f1 (Or.inl rfl) bl13 (t := (.array .byte)) (by decide +kernel) rfl (g := (mkF m 54 #[.val (.ref a), .val (.ref b), .val (.int (Int32.ofNat o)), .val (.int (Int32.ofNat len)), .val .null, .val (.ref s.heap.size)] [.ref s.heap.size, .ref a])) rfl (rest := []) rfl (hb hbytes d54)
  have c16 : Steps p.tables e below (s₁.setTop (entryFrame m #[.ref a, .ref b, .int (Int32.ofNat o), .int (Int32.ofNat len), .null] 6)) (T15.setTop (mkF m 57 #[.val (.ref a), .val (.ref b), .val (.int (Int32.ofNat o)), .val (.int (Int32.ofNat len)), .val .null, .val (.ref s.heap.size)] [])) := c14.trans (st15 _ (Steps.refl _))
  have ap := apart (Or.inr ⟨_, (wk W (.laysFinal "java/lang/String" "java/lang/String" "value" "[B"))⟩) (Or.inr ⟨_, (wk W (.laysFinal "java/lang/String" "java/lang/String" "coder" "B"))⟩) f1 f2 (t₁ := .array .byte) (t₂ := .byte) (by decide +kernel) (by decide +kernel) (by decide)
  have al := X8.warmed.alike.symm.trans X15.warmed.alike
  have n7 : T11.heap[s.heap.size]? = some N := by rw [q11]; exact n1.1
  exact ⟨T15, none, _, _, _, X15, by simp, rfl, by omega, (fun _ => rfl), ⟨rfl, _, N, bl15, ((Same.refl D _).set _ (by simp)).set _ (by simp), sl15, (Cell.slots_setSlot_ne _ ap).trans sl13, n1.keep al (p15.other hne (p13.other hne n7)), n2, by rw [al.findClass]; exact n3, n4, n5, fun y c h1 h2 => p15.other h1 (p13.other h1 (by rw [q11]; exact n6 y c h2)), by rw [p15.2.2, p13.2.2, q11]; exact z8⟩, fun fs hl => c16.trans (X15.returnOut hexec hret (hb hbytes d57) hl)⟩
end New4
namespace New1
def yN : MethodName := ⟨"java/lang/String", "<init>", "([C)V"⟩
abbrev yB : ByteArray := jdk_42_method_3_code
theorem d0 : decode yB 0 = .ok (.aload_n 0, 1) := by decide +kernel
theorem d1 : decode yB 1 = .ok (.aload_n 1, 1) := by decide +kernel
theorem d2 : decode yB 2 = .ok (.iconst 0, 1) := by decide +kernel
theorem d3 : decode yB 3 = .ok (.aload_n 1, 1) := by decide +kernel
theorem d4 : decode yB 4 = .ok (.arraylength, 1) := by decide +kernel
theorem d5 : decode yB 5 = .ok (.aconst_null, 1) := by decide +kernel
theorem d6 : decode yB 6 = .ok (.invokespecial 27, 3) := by decide +kernel
theorem d9 : decode yB 9 = .ok (.return_, 1) := by decide +kernel
def site : List Cond := [New4.tab] ++ initW "java/lang/String" 27 New4.yN
def tab : Cond := tabOf yN yB 2 none site
def P (a : Addr) (D : Cell) (fV fC : Field) (b : Addr) (A : Cell) (z : Int32) (args : Array Value) (s : State) : Prop := args = #[.ref a, .ref b] ∧ Blank "java/lang/String" a D s ∧ Found "java/lang/String" "value" "[B" fV s ∧ Found "java/lang/String" "coder" "B" fC s ∧ Ch b A s ∧ StaticIs s "java/lang/String" "COMPACT_STRINGS" "Z" (.int z) ∧ ¬ z = 0 ∧ 0 < A.slots.size ∧ A.slots.size ≤ 536870912 ∧ ∀ i, i < A.slots.size → ¬ 255 < cv A i
def E (a : Addr) (D : Cell) (fV fC : Field) (A : Cell) (r : Option Value) (s u : State) : Prop := Got a D fV fC A 0 A.slots.size r s u
/-- new String(chars), not empty, no char above 255: a Latin-1 String of their low bytes -/
theorem law (l : Launch) (a : Addr) (D : Cell) (fV fC : Field) (b : Addr) (A : Cell) (z : Int32) : Law l yN 2 1 3 52 yB 2 none site (P a D fV fC b A z) (E a D fV fC A) [⟨a, fC.slot⟩, ⟨a, fV.slot⟩] 1 A.slots.size := by
  refine Law.of_walk (plainFor_of_name (by decide +kernel)) (by decide +kernel) (by decide +kernel) (by decide) (fun _ _ h => by rw [h.1]; rfl) (fun _ U U' hal hh h => ⟨h.1, h.2.1.mv hal hh, h.2.2.1.al hal, h.2.2.2.1.al hal, h.2.2.2.2.1.mv hal hh, h.2.2.2.2.2.1.there hal hh, h.2.2.2.2.2.2⟩) (fun r U U' V V' h1 hal h2 h => Got.mv r U U' V V' h1 hal h2 h) ?_
  intro p e s m args below meth c s₁ X0 hexec hbytes hml hret hlk hnm hown hh0 W hP
  obtain ⟨rfl, hB, f1, f2, hA, s1, hz, l0, l2, hp⟩ := hP
  have c1 : Steps p.tables e below (s₁.setTop (entryFrame m #[.ref a, .ref b] 2)) (s₁.setTop (mkF m 0 #[.val (.ref a), .val (.ref b)] [])) := entry rfl
  have c2 : Steps p.tables e below (s₁.setTop (entryFrame m #[.ref a, .ref b] 2)) (s₁.setTop (mkF m 6 #[.val (.ref a), .val (.ref b)] [.null, .int (Int32.ofNat A.slots.size), .int 0, .ref b, .ref a])) := c1.trans (by
    refine XS.aloadN X0.here hexec rfl (hb hbytes d0) rfl rfl ?_
    refine XS.aloadN X0.here hexec rfl (hb hbytes d1) rfl rfl ?_
    refine iconstV X0.here hexec rfl 0 (hb hbytes d2) (by decide) ?_
    refine XS.aloadN X0.here hexec rfl (hb hbytes d3) rfl rfl ?_
    refine X0.alen hexec (hA.1.mv X0.warmed.alike hh0) rfl rfl (hb hbytes d4) ?_
    refine XS.aconstNull X0.here hexec rfl (hb hbytes d5) ?_
    exact Steps.refl _)
  obtain ⟨v3, T3, X3, E3, g3⟩ := X0.callN hexec (New4.law l a D fV fC b A z 0 A.slots.size) rfl hown (wks W (initW "java/lang/String" 27 New4.yN)) (W New4.tab (by simp only [site, List.mem_cons, List.mem_append, true_or, or_true])) (W := 0) (Nat.le_of_ble_eq_true rfl) (Nat.le_of_ble_eq_true rfl) (Nat.le_refl _) (by show 0 + A.slots.size ≤ A.slots.size; omega) (g := (mkF m 6 #[.val (.ref a), .val (.ref b)] [.null, .int (Int32.ofNat A.slots.size), .int (Int32.ofNat 0), .ref b, .ref a])) rfl (by rw [hml]; rfl) c2 (argsL := [.ref b, .int (Int32.ofNat 0), .int (Int32.ofNat A.slots.size), .null]) (rest := []) rfl rfl (by show 2 * 0 + 0 ≤ _; decide) (hb hbytes d6) (⟨rfl, hB.mv X0.warmed.alike hh0, f1.al X0.warmed.alike, f2.al X0.warmed.alike, hA.mv X0.warmed.alike hh0, s1.there X0.warmed.alike hh0, hz, l0, by omega, l2, fun i hi => by rw [Nat.zero_add]; exact hp i hi⟩)
  have e0 := Got.mv _ s₁ s _ _ hh0.symm (Vm.Alike.refl _) rfl E3
  obtain rfl := e0.1
  have c4 : Steps p.tables e below (s₁.setTop (entryFrame m #[.ref a, .ref b] 2)) (T3.setTop (mkF m 9 #[.val (.ref a), .val (.ref b)] [])) := g3
  exact ⟨T3, none, _, _, _, X3, by simp, rfl, by omega, (fun _ => rfl), e0, fun fs hl => c4.trans (X3.returnOut hexec hret (hb hbytes d9) hl)⟩
theorem pays {l : Launch} {R : Room} {p : Program} {e : Env} {below : List Frame} {s : State} {sargs : Array Value} {len W : Nat} (a : Addr) (D : Cell) (fV fC : Field) (b : Addr) (A : Cell) (z : Int32) (htab : tab.before sargs s = true) (hfr : 4 ≤ R.frames) (hlo : W + 65 ≤ R.locals) :
    Back l R p e below s sargs yN len W (fun A₁ a₁ => A₁.cells + 1 ≤ R.cells ∧ A₁.slots + A.slots.size ≤ R.slots ∧ P a D fV fC b A z a₁ A₁.U) (fun A₁ _ v₁ B₁ => E a D fV fC A v₁ A₁.U B₁.U ∧ B₁.locs = A₁.locs ++ [⟨a, fC.slot⟩, ⟨a, fV.slot⟩] ∧ B₁.cells = A₁.cells + 1 ∧ B₁.slots = A₁.slots + A.slots.size) :=
  (law l a D fV fC b A z).pays htab hfr (by omega)
end New1
/-- the byte, read back as charAt reads it, is the char -/
theorem lo8_mask {x : Int32} (h0 : ¬ x < 0) (h1 : ¬ 255 < x) : lo8 x &&& 255 = x := by
  have t : ∀ k : Fin 256, lo8 (Int32.ofNat k.val) &&& 255 = Int32.ofNat k.val := by decide +kernel
  rw [Int32.lt_iff_toInt_lt] at h0 h1
  have e0 : (0 : Int32).toInt = 0 := rfl
  have e1 : (255 : Int32).toInt = 255 := rfl
  obtain ⟨k, hk⟩ : ∃ k : Nat, x.toInt = k := ⟨x.toInt.toNat, by omega⟩
  have hx : x = Int32.ofNat k := Int32.toInt_inj.mp (by rw [hk, Int32.toInt_ofNat_small (by omega)])
  rw [hx]
  exact t ⟨k, by omega⟩
end StrChars
namespace StrChars.Road
open Jvm Sem ClassFile Op Lib Jvm.Stand Jvm.Free Jvm.Free.XT
open Jvm.Lib.Cold (StaticIs)
abbrev ST : String := "java/lang/String"
/-- every table word that New1's law asks, flat -/
abbrev words : List Jvm.Cond := [.code New1.yN New1.yB 2 none, .initialized ST, .methodLink ST 27 New4.yN, .instanceMethod New4.yN,
  .code New4.yN New4.yB 6 none, .fieldLink ST 38 ST "COMPACT_STRINGS" "Z", .laysFinal ST ST "value" "[B", .fieldLink ST 9 ST "value" "[B", .laysFinal ST ST "coder" "B", .fieldLink ST 15 ST "coder" "B",
  .methodLink ST 1 Lib.objectInit, .instanceMethod Lib.objectInit, .code Lib.objectInit ⟨#[0xb1]⟩ 1 none, .methodLink ST 177 Cmp3.yN, .static Cmp3.yN, .methodLink ST 47 CodL.yN, .static CodL.yN,
  .code Cmp3.yN Cmp3.yB 6 (some (.array .byte)), .initialized U16, .arrayClass .byte, .methodLink U16 115 Cmp5.yN, .static Cmp5.yN, .code Cmp5.yN Cmp5.yB 7 (some .int), .code CodL.yN CodL.yB 2 (some .byte)]
theorem tab_of {a : Array Value} {s : State} (h : ∀ w ∈ words, w.before a s = true) : New1.tab.before a s = true := by
  have h5 : Cmp5.tab.before a s = true := unparts (wk h (.code Cmp5.yN Cmp5.yB 7 (some .int))) (wks h (.initialized Cmp5.yN.cls :: Cmp5.site))
  have hc : CodL.tab.before a s = true := unparts (wk h (.code CodL.yN CodL.yB 2 (some .byte))) (wks h (.initialized CodL.yN.cls :: CodL.site))
  have q5 : ∀ w ∈ Cmp5.tab :: words, w.before a s = true := fun w hw => (List.mem_cons.mp hw).elim (fun e => e ▸ h5) (h w)
  have h3 : Cmp3.tab.before a s = true := unparts (wk q5 (.code Cmp3.yN Cmp3.yB 6 (some (.array .byte)))) (wks q5 (.initialized Cmp3.yN.cls :: Cmp3.site))
  have q3 : ∀ w ∈ Cmp3.tab :: CodL.tab :: words, w.before a s = true := fun w hw => (List.mem_cons.mp hw).elim (fun e => e ▸ h3) fun hw => (List.mem_cons.mp hw).elim (fun e => e ▸ hc) (h w)
  have h4 : New4.tab.before a s = true := unparts (wk q3 (.code New4.yN New4.yB 6 none)) (wks q3 (.initialized New4.yN.cls :: New4.site))
  have q4 : ∀ w ∈ New4.tab :: words, w.before a s = true := fun w hw => (List.mem_cons.mp hw).elim (fun e => e ▸ h4) (h w)
  exact unparts (wk q4 (.code New1.yN New1.yB 2 none)) (wks q4 (.initialized New1.yN.cls :: New1.site))
/-- the words ride from the start Z to the walk's own state -/
theorem moved {Z s : State} {a0 args : Array Value} (hZ : Z.Warmed39 s.vm) (hw : ∀ d ∈ words, d.before a0 Z = true) : ∀ d ∈ words, d.before args s = true := fun d hd => by
  have q := hw d hd
  have t : ∀ d ∈ words, d = .arrayClass .byte ∨ (d.onTables && d.keepsFace) = true := by decide +kernel
  rcases t d hd with rfl | t
  · exact RoadKit.mvA hZ q
  · exact RoadKit.mv hZ q t
/-- WHAT COMES BACK, over the tables of the start Z: h the heap at the call, h' behind it -/
def Q (Z : State) (x : Addr) (A : Cell) (h : Heap) (v : Option Value) (h' : Heap) (L : List Loc) : Prop := v = none ∧ (∀ y ∈ L, y.base = x) ∧ RoadKit.Keep h h' [x] ∧ h'.size = h.size + 1 ∧ RoadKit.Exa Z h' x ST ∧ RoadKit.Fld Z h' x ST "value" "[B" (.ref h.size) ∧ RoadKit.Fld Z h' x ST "coder" "B" (.int 0) ∧
  (∃ V : Cell, RoadKit.Arr Z h' h.size V .byte ∧ V.vm = .none ∧ Z.vm.findClass "[B" = some V.cls ∧ V.slots.size = A.slots.size ∧ ∀ j, j < A.slots.size → V.slots[j]? = some (.int (lo8 (cv A j)))) ∧
  ∀ (O n d : String) (w : Value), RoadKit.Fld Z h x O n d w → RoadKit.slotOf Z O n d ≠ RoadKit.slotOf Z ST "value" "[B" → RoadKit.slotOf Z O n d ≠ RoadKit.slotOf Z ST "coder" "B" → RoadKit.Fld Z h' x O n d w
/-- **new String(chars) AT A CALL, IN THE ROAD'S FORM**: for specialBack behind newO: x the fresh String, b the char[] with the cell A -/
theorem back {p : Program} {l : Launch} {e : Env} {R : Room} {s : State} {args : Array Value} {below : List Frame} {len W : Nat} {Z : State} {a0 : Array Value} {h : Heap} (hZ : Z.Warmed39 s.vm) (hw : ∀ d ∈ words, d.before a0 Z = true) {kI : Nat} (wi : (Jvm.Cond.instantiable ST kI).before a0 Z = true)
    {x b : Addr} {A : Cell} {z : Int32} {v0 c0 : Value} (E : RoadKit.Exa Z h x ST) (V : RoadKit.Fld Z h x ST "value" "[B" v0) (C : RoadKit.Fld Z h x ST "coder" "B" c0) (K : RoadKit.Arr Z h b A .char) (hty : Typed .char A) (S : RoadKit.Sta Z h ST "COMPACT_STRINGS" "Z" (.int z)) (hz : ¬ z = 0)
    (l0 : 0 < A.slots.size) (l2 : A.slots.size ≤ 536870912) (hp : ∀ i, i < A.slots.size → ¬ 255 < cv A i) (hfr : 4 ≤ R.frames) (hlo : W + 65 ≤ R.locals) :
    Back l R p e below s args New1.yN len W (fun P a => a = #[.ref x, .ref b] ∧ P.U.heap = h ∧ P.cells + 1 ≤ R.cells ∧ P.slots + A.slots.size ≤ R.slots)
      (fun P _ v B => ∃ L, Q Z x A h v B.U.heap L ∧ B.locs = P.locs ++ L ∧ B.cells = P.cells + 1 ∧ B.slots = P.slots + A.slots.size) := by
  intro m meth c P g ig mk a X hg hsize hdg hW hn hp'
  obtain ⟨rfl, rfl, r1, r2⟩ := hp'
  have al : Z.vm.Alike P.U.vm := hZ.alike.trans X.warmed.alike
  obtain ⟨D, cfV, kV, iV, fV, hD, gV, stV, knV, obV, asV, slV⟩ := id V
  obtain ⟨D', cfC, kC, iC, fC, hD', gC, stC, -, -, asC, slC⟩ := id C
  cases hD.symm.trans hD'
  obtain ⟨D2, kD, e1, e2, e3, e4, e5⟩ := id E
  cases hD.symm.trans e1
  obtain ⟨c2, k2, i1, i2, i3, -⟩ := Cond.instantiable_spec wi
  cases e2.symm.trans i1
  cases e3.symm.trans i2
  obtain ⟨kU, u1, u2⟩ := al.2.2 _ _ e3
  have hB : Blank ST x D P.U := ⟨hD, ⟨knV, fun q hq => by rw [hq] at obV; cases obV⟩, by rw [al.findClass]; exact e2, kU, u1, by rw [u2]; exact i3, by rw [u2]; exact e5 i3⟩
  have F1 : Found ST "value" "[B" fV P.U := ⟨SBG.found_only al ⟨cfV, kV, iV, gV⟩, stV⟩
  have F2 : Found ST "coder" "B" fC P.U := ⟨SBG.found_only al ⟨cfC, kC, iC, gC⟩, stC⟩
  have hA : Ch b A P.U := ⟨⟨K.1, State.isArrayOf_alike al K.2.1, K.2.2, by omega⟩, hty⟩
  have hS : StaticIs P.U ST "COMPACT_STRINGS" "Z" (.int z) := by
    obtain ⟨cfS, iS, kS, fS, st, cS, t1, t2, t3, t4, t5, t6, t7⟩ := S
    exact StaticIs.there (s := { Z with heap := P.U.heap }) ⟨cfS, iS, kS, fS, st, cS, t1, t2, t3, t4, t5, (fun q => by rw [q] at t6; cases t6), t7⟩ al rfl
  obtain ⟨v, B, X', ⟨⟨hv, E', V', q1, q2, q3, q4, q5, q6, q7, q8, q9, q10, q11⟩, hl, hc, hs⟩, st⟩ := New1.pays x D fV fC b A z (tab_of (moved hZ hw)) hfr hlo m meth c P g ig mk _ X hg hsize hdg hW hn ⟨r1, r2, rfl, hB, F1, F2, hA, hS, hz, l0, l2, hp⟩
  have al' : Z.vm.Alike B.U.vm := hZ.alike.trans X'.warmed.alike
  have hsz : E'.slots.size = D.slots.size := by
    obtain ⟨-, -, -, kB, w1, w2, w3⟩ := q1
    obtain ⟨kB', y1, y2⟩ := al'.2.2 _ _ e3
    rw [q2.2.1] at w1
    cases w1.symm.trans y1
    rw [w3, e5 i3, y2]
  refine ⟨v, B, X', ⟨_, ⟨hv, ?_, ⟨by omega, fun y cy hy hn' => q10 y cy (by simpa using hn') hy, fun y cy hy => ?_⟩, q11, ⟨E', _, q1.1, by rw [q2.2.1]; exact e2, by rw [q2.2.1]; exact e3, by rw [q2.1]; exact obV, fun _ => by rw [hsz]; exact e5 i3⟩,
    ⟨E', cfV, kV, iV, fV, q1.1, gV, stV, by rw [q2.1]; exact knV, by rw [q2.1]; exact obV, by rw [q2.2.1]; exact asV, q3⟩, ⟨E', cfC, kC, iC, fC, q1.1, gC, stC, by rw [q2.1]; exact knV, by rw [q2.1]; exact obV, by rw [q2.2.1]; exact asC, q4⟩,
    ⟨V', ⟨q5.1, State.isArrayOf_alike al'.symm q5.2.1, q5.2.2.1⟩, q6, by rw [← al'.findClass]; exact q7, q8, fun j hj => by have := q9 j hj; rwa [Nat.zero_add] at this⟩, fun O n d w F n1 n2 => ?_⟩, hl, hc, hs⟩, st⟩
  · intro y hy
    simp only [List.mem_cons, List.not_mem_nil, or_false] at hy
    rcases hy with rfl | rfl <;> rfl
  · by_cases q : y = x
    · subst q
      cases hD.symm.trans hy
      exact ⟨E', q1.1, q2.2.1, q2.1, hsz⟩
    · exact ⟨cy, q10 y cy q hy, rfl, rfl, rfl⟩
  · obtain ⟨D3, cf, k, i, f, g1, g2, g3, g4, g5, g6, g7⟩ := F
    cases hD.symm.trans g1
    simp only [RoadKit.slotOf, g2, gV, gC, Option.map_some, Option.getD_some] at n1 n2
    exact ⟨E', cf, k, i, f, q1.1, g2, g3, by rw [q2.1]; exact g4, by rw [q2.1]; exact g5, by rw [q2.2.1]; exact g6, by rw [q2.2.2 f.slot (by simp [n1, n2])]; exact g7⟩
end StrChars.Road
namespace StrChars.Road
open Jvm Sem ClassFile Op Lib Jvm.Stand Jvm.Free Jvm.Free.XT
/-- WHAT COMES BACK, the byte[] as a list of values -/
def QA (Z : State) (x : Addr) (zn : Int32) (cs : List Int32) (h : Heap) (v : Option Value) (h' : Heap) (L : List Loc) : Prop := v = none ∧ (∀ y ∈ L, y.base = x) ∧ RoadKit.Keep h h' [x] ∧ h'.size = h.size + 1 ∧ RoadKit.Exa Z h' x ST ∧ RoadKit.Fld Z h' x ST "value" "[B" (.ref h.size) ∧ RoadKit.Fld Z h' x ST "coder" "B" (.int 0) ∧
  (∃ kb, Z.vm.findClass "[B" = some kb ∧ RoadKit.Arv Z h' h.size kb .byte zn (cs.map fun c => .int (lo8 c)) (.int 0)) ∧
  ∀ (O n d : String) (w : Value), RoadKit.Fld Z h x O n d w → RoadKit.slotOf Z O n d ≠ RoadKit.slotOf Z ST "value" "[B" → RoadKit.slotOf Z O n d ≠ RoadKit.slotOf Z ST "coder" "B" → RoadKit.Fld Z h' x O n d w
/-- **new String(chars) AT A CALL, THE ARRAYS AS LISTS**: the char[] at b holds cs, not empty, no char above 255 -/
theorem backArv {p : Program} {l : Launch} {e : Env} {R : Room} {s : State} {args : Array Value} {below : List Frame} {len W : Nat} {Z : State} {a0 : Array Value} {h : Heap} (hZ : Z.Warmed39 s.vm) (hw : ∀ d ∈ words, d.before a0 Z = true) {kI : Nat} (wi : (Jvm.Cond.instantiable ST kI).before a0 Z = true)
    {x b : Addr} {k : ClassId} {zn z : Int32} {cs : List Int32} {dv v0 c0 : Value} (E : RoadKit.Exa Z h x ST) (V : RoadKit.Fld Z h x ST "value" "[B" v0) (C : RoadKit.Fld Z h x ST "coder" "B" c0) (K : RoadKit.Arv Z h b k .char zn (cs.map Value.int) dv) (S : RoadKit.Sta Z h ST "COMPACT_STRINGS" "Z" (.int z)) (hz : ¬ z = 0)
    (hlen : zn.toNatClampNeg = cs.length) (h0 : 0 < cs.length) (hbig : cs.length ≤ 536870912) (hall : ∀ c ∈ cs, ¬ 255 < c) (hfr : 4 ≤ R.frames) (hlo : W + 65 ≤ R.locals) :
    Back l R p e below s args New1.yN len W (fun P a => a = #[.ref x, .ref b] ∧ P.U.heap = h ∧ P.cells + 1 ≤ R.cells ∧ P.slots + cs.length ≤ R.slots)
      (fun P _ v B => ∃ L, QA Z x zn cs h v B.U.heap L ∧ B.locs = P.locs ++ L ∧ B.cells = P.cells + 1 ∧ B.slots = P.slots + cs.length) := by
  obtain ⟨A, K1, K2, K3, K4, K5, K6⟩ := K
  have e : A.slots.size = cs.length := K3.trans hlen
  have hat : ∀ (i : Nat) (hi : i < cs.length), A.slots[i]? = some (.int cs[i]) := fun i hi => by rw [K5 i (by omega)]; simp [List.getD_eq_getElem?_getD, hi]
  have hcv : ∀ (i : Nat) (hi : i < cs.length), cv A i = cs[i] := fun i hi => by unfold cv; rw [hat i hi]
  have hty : Typed .char A := fun i v hv => by
    have hi : i < A.slots.size := (Array.getElem?_eq_some_iff.mp hv).1
    have q := K5 i hi
    rw [hv] at q
    rw [Option.some.inj q]
    exact K6 i hi
  refine Back.mono (back hZ hw wi E V C K1 hty S hz (by omega) (by omega) (fun i hi => by rw [hcv i (by omega)]; exact hall _ (List.getElem_mem _)) hfr hlo) (fun P a hp => ⟨hp.1, hp.2.1, hp.2.2.1, by rw [e]; exact hp.2.2.2⟩) (fun P a v B hp hq => ?_)
  obtain ⟨L, ⟨q1, q2, q3, q4, q5, q6, q7, ⟨V', v1, v2, v3, v4, v5⟩, q9⟩, hl, hc, hs⟩ := hq
  refine ⟨L, ⟨q1, q2, q3, q4, q5, q6, q7, ⟨V'.cls, v3, V', v1, rfl, by rw [v4, e, hlen], K4, fun i hi => ?_, fun i hi => ?_⟩, q9⟩, hl, hc, by rw [hs, e]⟩
  · have hi' : i < cs.length := by omega
    rw [v5 i (by omega), hcv i hi']; simp [List.getD_eq_getElem?_getD, hi']
  · have hi' : i < cs.length := by omega
    simp only [List.getD_eq_getElem?_getD, List.getElem?_map, List.getElem?_eq_getElem hi', Option.map_some, Option.getD_some]
    exact fits_lo8 _
end StrChars.Road
namespace StrChars.Road
open Jvm Sem ClassFile Op Lib Jvm.Stand Jvm.Free Jvm.Free.XT
/-- WHAT COMES BACK, in the writer's own shape -/
def QV (Z : State) (x : Addr) (N : Int32) (bs : List Int32) (h : Heap) (n0 : Nat) (v : Option Value) (h' : Heap) (L : List Loc) : Prop := v = none ∧ RoadKit.Fr n0 L ∧ RoadKit.Keep h h' [x] ∧ RoadKit.Exa Z h' x ST ∧ RoadKit.Fld Z h' x ST "coder" "B" (.int 0) ∧
  ∃ (t : Addr) (kb : ClassId), n0 ≤ t ∧ h.size ≤ t ∧ ¬ t = x ∧ RoadKit.Fld Z h' x ST "value" "[B" (.ref t) ∧ RoadKit.Arv Z h' t kb .byte N (bs.map Value.int) (.int 0)
/-- **new String(chars) AT A CALL, FOR THE WRITER**: a char[] of n known ints, each 0 to 255 -/
theorem backV {p : Program} {l : Launch} {e : Env} {R : Room} {s : State} {args : Array Value} {below : List Frame} {len W : Nat} {Z : State} {a0 : Array Value} {h : Heap} (hZ : Z.Warmed39 s.vm) (hw : ∀ d ∈ words, d.before a0 Z = true) {kI : Nat} (wi : (Jvm.Cond.instantiable ST kI).before a0 Z = true)
    {x b : Addr} {kC : ClassId} {cs bs : List Int32} {d v0 c0 : Value} {z N : Int32} {n n0 : Nat} (hx0 : n0 ≤ x) (hh0 : n0 ≤ h.size) (E : RoadKit.Exa Z h x ST) (V : RoadKit.Fld Z h x ST "value" "[B" v0) (C : RoadKit.Fld Z h x ST "coder" "B" c0) (K : RoadKit.Arv Z h b kC .char N (cs.map Value.int) d) (S : RoadKit.Sta Z h ST "COMPACT_STRINGS" "Z" (.int z)) (hz : ¬ z = 0)
    (hn : cs.length = n) (hN : N = Int32.ofNat n) (l0 : 0 < n) (l2 : n ≤ 4000) (hp : ∀ c ∈ cs, ¬ c < 0 ∧ ¬ (255 : Int32) < c) (hb : bs = cs.map (fun c => c.toInt8.toInt32)) (hfr : 4 ≤ R.frames) (hlo : W + 65 ≤ R.locals) :
    Back l R p e below s args (⟨"java/lang/String", "<init>", "([C)V"⟩ : MethodName) len W (fun P a => a = #[.ref x, .ref b] ∧ P.U.heap = h ∧ P.cells + 1 ≤ R.cells ∧ P.slots + n ≤ R.slots)
      (fun P _ v B => ∃ L, QV Z x N bs h n0 v B.U.heap L ∧ B.locs = P.locs ++ L ∧ B.cells = P.cells + 1 ∧ B.slots = P.slots + n) := by
  subst hn hN hb
  refine Back.mono (backArv hZ hw wi E V C K S hz (n32 (by omega)) l0 (by omega) (fun c hc => (hp c hc).2) hfr hlo) (fun P a hp => hp) (fun P a v B hp hq => ?_)
  obtain ⟨L, ⟨q1, q2, q3, q4, q5, q6, q7, ⟨kb, v1, v2⟩, q9⟩, hl, hc, hs⟩ := hq
  exact ⟨L, ⟨q1, fun y hy => by rw [q2 y hy]; exact hx0, q3, q5, q7, h.size, kb, hh0, Nat.le_refl _, Nat.ne_of_gt E.lt, q6, by rw [List.map_map]; exact v2⟩, hl, hc, hs⟩
end StrChars.Road
namespace StrChars
open Jvm Sem ClassFile Op Lib Jvm.Stand Jvm.Free.XT Jvm.Free.ALB Jvm.Free.JM Jvm.Free
open Jvm.Lib.Cold (StaticIs)
def hi8 (x : Int32) : Int32 := lo8 (x >>> ((8 : Int32) &&& 31))
/-- what StringUTF16.getChar makes of two bytes -/
def pairCh (u v : Int32) : Int32 := (((u &&& 255) <<< ((0 : Int32) &&& 31)) ||| ((v &&& 255) <<< ((8 : Int32) &&& 31))).toUInt32.toUInt16.toUInt32.toInt32
theorem lo8_and (x : Int32) : (lo8 x &&& 255).toBitVec.toNat = x.toBitVec.toNat % 256 := by
  have h : (lo8 x).toBitVec = (x.toBitVec.signExtend 8).signExtend 32 := by rw [lo8, Int8.toBitVec_toInt32, Int32.toBitVec_toInt8]
  rw [Int32.toBitVec_and, BitVec.toNat_and, h]
  have e : ((x.toBitVec.signExtend 8).signExtend 32).toNat % 256 = x.toBitVec.toNat % 256 := by
    rw [BitVec.toNat_signExtend]
    have hlt := x.toBitVec.isLt
    simp only [BitVec.toNat_setWidth, BitVec.toNat_signExtend]
    split <;> split <;> omega
  rw [← e]
  exact Nat.and_two_pow_sub_one_eq_mod _ 8
theorem pair_says {c : Int32} (h0 : ¬ c < 0) (h1 : ¬ 65535 < c) : pairCh (lo8 c) (hi8 c) = c := by
  rw [Int32.lt_iff_toInt_lt] at h0 h1
  have e0 : (0 : Int32).toInt = 0 := rfl
  have e1 : (65535 : Int32).toInt = 65535 := rfl
  have hc : c.toInt = c.toBitVec.toNat := by
    have := c.toBitVec.isLt
    have e : c.toInt = c.toBitVec.toInt := rfl
    rw [e] at h0 h1
    rw [e]
    rw [BitVec.toInt_eq_toNat_cond] at h0 h1 ⊢
    split at h0 <;> split <;> omega
  have hn : c.toBitVec.toNat < 65536 := by omega
  have a1 := lo8_and c
  have a2 : (hi8 c &&& 255).toBitVec.toNat = c.toBitVec.toNat / 256 := by
    rw [hi8, lo8_and]
    have e : ((8 : Int32) &&& 31) = 8 := by decide
    rw [e, Int32.toBitVec_shiftRight]
    have e2 : ((8 : Int32).toBitVec.smod 32) = 8#32 := by decide
    rw [e2, BitVec.sshiftRight_eq', BitVec.toNat_sshiftRight_of_msb_false (by rw [BitVec.msb_eq_false_iff_two_mul_lt]; omega)]
    show c.toBitVec.toNat >>> 8 % 256 = _
    rw [Nat.shiftRight_eq_div_pow]
    omega
  unfold pairCh
  apply Int32.toBitVec_inj.mp
  apply BitVec.eq_of_toNat_eq
  have f0 : ((0 : Int32) &&& 31) = 0 := by decide
  have f8 : ((8 : Int32) &&& 31) = 8 := by decide
  rw [f0, f8]
  have g : (((lo8 c &&& 255) <<< (0 : Int32)) ||| ((hi8 c &&& 255) <<< (8 : Int32))).toBitVec.toNat = c.toBitVec.toNat := by
    rw [Int32.toBitVec_or, Int32.toBitVec_shiftLeft, Int32.toBitVec_shiftLeft]
    have s0 : ((0 : Int32).toBitVec.smod 32) = 0#32 := by decide
    have s8 : ((8 : Int32).toBitVec.smod 32) = 8#32 := by decide
    rw [s0, s8, BitVec.toNat_or]
    simp only [BitVec.shiftLeft_eq', BitVec.toNat_shiftLeft, a1, a2]
    show (c.toBitVec.toNat % 256) <<< 0 % 2 ^ 32 ||| (c.toBitVec.toNat / 256) <<< 8 % 2 ^ 32 = _
    rw [Nat.shiftLeft_zero, Nat.mod_eq_of_lt (show c.toBitVec.toNat % 256 < 2 ^ 32 by omega), Nat.mod_eq_of_lt (show (c.toBitVec.toNat / 256) <<< 8 < 2 ^ 32 by rw [Nat.shiftLeft_eq]; omega), Nat.or_comm, ← Nat.shiftLeft_add_eq_or_of_lt (by omega), Nat.shiftLeft_eq]
    omega
  show BitVec.toNat (((((lo8 c &&& 255) <<< (0 : Int32)) ||| ((hi8 c &&& 255) <<< (8 : Int32))).toBitVec.setWidth 16).setWidth 32) = _
  rw [BitVec.toNat_setWidth, BitVec.toNat_setWidth, g]
  omega
end StrChars
namespace StrChars
open Jvm Sem ClassFile Op Lib Jvm.Stand Jvm.Free.XT Jvm.Free.ALB Jvm.Free.JM Jvm.Free
open Jvm.Lib.Cold (StaticIs)
/-- the array's cell V codes the n chars f 0 .. f (n - 1) by the coder cd, as the JDK does: coder 1 just where some char is above 255 -/
def Cod (cd : Int32) (n : Nat) (f : Nat → Int32) (V : Cell) : Prop := (cd = 0 ∧ V.slots.size = n ∧ ∀ j, j < n → V.slots[j]? = some (.int (lo8 (f j))) ∧ ¬ 255 < f j) ∨ (cd = 1 ∧ V.slots.size = 2 * n ∧ (∀ j, j < n → V.slots[2 * j]? = some (.int (lo8 (f j))) ∧ V.slots[2 * j + 1]? = some (.int (hi8 (f j)))) ∧ ∃ j, j < n ∧ 255 < f j)
/-- **x is a String of the n chars f 0 .. f (n - 1)**, Latin-1 or UTF-16; its array at t has the cell V -/
def Txt (x t : Addr) (V : Cell) (cd : Int32) (n : Nat) (f : Nat → Int32) (U : State) : Prop := Exact "java/lang/String" x U ∧ Has x "java/lang/String" "value" "[B" (.ref t) U ∧ Has x "java/lang/String" "coder" "B" (.int cd) U ∧ XT.Arr .byte t V U ∧ Cod cd n f V ∧ ∀ j, j < n → ¬ f j < 0 ∧ ¬ 65535 < f j
theorem Txt.mv {x t : Addr} {V : Cell} {cd : Int32} {n : Nat} {f : Nat → Int32} {U U' : State} (h : Txt x t V cd n f U) (hal : U.vm.Alike U'.vm) (hh : U'.heap = U.heap) : Txt x t V cd n f U' := ⟨h.1.mv hal hh, h.2.1.mv hal hh, h.2.2.1.mv hal hh, h.2.2.2.1.mv hal hh, h.2.2.2.2⟩
end StrChars
namespace StrChars.Road
open Jvm Sem ClassFile Op Lib Jvm.Stand Jvm.Free Jvm.Free.XT
open Jvm.Lib.Cold (StaticIs)
theorem consq {a : Array Value} {s : State} {c : Jvm.Cond} {L : List Jvm.Cond} (h0 : c.before a s = true) (h : ∀ w ∈ L, w.before a s = true) : ∀ w ∈ c :: L, w.before a s = true := fun w hw => (List.mem_cons.mp hw).elim (fun e => e ▸ h0) (h w)
/-- the bytes of the chars cs, low before high -/
def wideBytes : List Int32 → List Value
  | [] => []
  | c :: cs => .int (lo8 c) :: .int (hi8 c) :: wideBytes cs
theorem wide_lo (d : Value) : ∀ (cs : List Int32) (j : Nat), j < cs.length → (wideBytes cs).getD (2 * j) d = .int (lo8 (cs.getD j 0))
  | [], j, h => absurd h (Nat.not_lt_zero j)
  | c :: cs, 0, _ => rfl
  | c :: cs, j + 1, h => by
    have q := wide_lo d cs j (by simpa using h)
    rw [show 2 * (j + 1) = 2 * j + 1 + 1 from by omega]
    simpa [wideBytes] using q
theorem wide_hi (d : Value) : ∀ (cs : List Int32) (j : Nat), j < cs.length → (wideBytes cs).getD (2 * j + 1) d = .int (hi8 (cs.getD j 0))
  | [], j, h => absurd h (Nat.not_lt_zero j)
  | c :: cs, 0, _ => rfl
  | c :: cs, j + 1, h => by
    have q := wide_hi d cs j (by simpa using h)
    rw [show 2 * (j + 1) + 1 = 2 * j + 1 + 1 + 1 from by omega]
    simpa [wideBytes] using q
theorem low_at (d : Value) (cs : List Int32) (j : Nat) (h : j < cs.length) : (cs.map fun c => Value.int (lo8 c)).getD j d = .int (lo8 (cs.getD j 0)) := by
  simp [List.getD_eq_getElem?_getD, h]
/-- an array of N2 bytes vs codes the chars cs by the coder cd -/
def CodA (cs : List Int32) (cd N2 : Int32) (vs : List Value) : Prop := (cd = 0 ∧ N2 = Int32.ofNat cs.length ∧ vs = (cs.map fun c => Value.int (lo8 c)) ∧ ∀ c ∈ cs, ¬ 255 < c) ∨ (cd = 1 ∧ N2 = Int32.ofNat (2 * cs.length) ∧ vs = wideBytes cs ∧ ∃ c ∈ cs, 255 < c)
theorem CodA.cod {cs : List Int32} {cd N2 : Int32} {vs : List Value} {V : Cell} (h : CodA cs cd N2 vs) (hn : 2 * cs.length < 2 ^ 31) (hs : V.slots.size = N2.toNatClampNeg) (hv : RoadKit.Has V vs (.int 0)) : Cod cd cs.length (fun j => cs.getD j 0) V := by
  rcases h with ⟨rfl, rfl, rfl, h⟩ | ⟨rfl, rfl, rfl, c, hc, hw⟩
  · rw [n32 (by omega)] at hs
    exact Or.inl ⟨rfl, hs, fun j hj => ⟨by rw [hv j (by omega), low_at _ _ _ hj], by
      have e : cs.getD j 0 = cs[j] := by simp [List.getD_eq_getElem?_getD, hj]
      show ¬ 255 < cs.getD j 0
      rw [e]; exact h _ (List.getElem_mem _)⟩⟩
  · rw [n32 (by omega)] at hs
    obtain ⟨j, hj, rfl⟩ := List.getElem_of_mem hc
    exact Or.inr ⟨rfl, hs, fun j hj => ⟨by rw [hv _ (by omega), wide_lo _ _ _ hj], by rw [hv _ (by omega), wide_hi _ _ _ hj]⟩, j, hj, by
      have e : cs.getD j 0 = cs[j] := by simp [List.getD_eq_getElem?_getD, hj]
      show 255 < cs.getD j 0
      rw [e]; exact hw⟩
/-- an object of exactly java/lang/String, its two fields found: as the laws ask it -/
theorem strObj {Z U : State} {a0 : Array Value} {kI : Nat} (wi : (Jvm.Cond.instantiable ST kI).before a0 Z = true) (al : Z.vm.Alike U.vm) {x : Addr} {v0 c0 : Value} (E : RoadKit.Exa Z U.heap x ST) (V : RoadKit.Fld Z U.heap x ST "value" "[B" v0) (C : RoadKit.Fld Z U.heap x ST "coder" "B" c0) :
    ∃ (D : Cell) (fV fC : Field), Blank ST x D U ∧ Found ST "value" "[B" fV U ∧ Found ST "coder" "B" fC U ∧ D.slots[fV.slot]? = some v0 ∧ D.slots[fC.slot]? = some c0 ∧ RoadKit.slotOf Z ST "value" "[B" = fV.slot ∧ RoadKit.slotOf Z ST "coder" "B" = fC.slot := by
  obtain ⟨D, cfV, kV, iV, fV, hD, gV, stV, knV, obV, asV, slV⟩ := V
  obtain ⟨D', cfC, kC, iC, fC, hD', gC, stC, -, -, asC, slC⟩ := C
  cases hD.symm.trans hD'
  obtain ⟨D2, kD, e1, e2, e3, e4, e5⟩ := E
  cases hD.symm.trans e1
  obtain ⟨c2, k2, i1, i2, i3, -⟩ := Cond.instantiable_spec wi
  cases e2.symm.trans i1
  cases e3.symm.trans i2
  obtain ⟨kU, u1, u2⟩ := al.2.2 _ _ e3
  exact ⟨D, fV, fC, ⟨hD, ⟨knV, fun q hq => by rw [hq] at obV; cases obV⟩, by rw [al.findClass]; exact e2, kU, u1, by rw [u2]; exact i3, by rw [u2]; exact e5 i3⟩, ⟨SBG.found_only al ⟨cfV, kV, iV, gV⟩, stV⟩, ⟨SBG.found_only al ⟨cfC, kC, iC, gC⟩, stC⟩, slV, slC, by simp [RoadKit.slotOf, gV], by simp [RoadKit.slotOf, gC]⟩
theorem sta_is {Z U : State} (al : Z.vm.Alike U.vm) {C n d : String} {v : Value} (S : RoadKit.Sta Z U.heap C n d v) : StaticIs U C n d v := by
  obtain ⟨cfS, iS, kS, fS, st, cS, t1, t2, t3, t4, t5, t6, t7⟩ := S
  exact StaticIs.there (s := { Z with heap := U.heap }) ⟨cfS, iS, kS, fS, st, cS, t1, t2, t3, t4, t5, (fun q => by rw [q] at t6; cases t6), t7⟩ al rfl
end StrChars.Road
namespace StrChars
open Jvm Sem ClassFile Op Lib Jvm.Stand Jvm.Free.XT Jvm.Free.ALB Jvm.Free.JM Jvm.Free
open Jvm.Lib.Cold (StaticIs)
/-- what place i of a byte[]'s cell holds -/
def yv (A : Cell) (i : Nat) : Int32 := match A.slots[i]? with | some (.int x) => x | _ => 0
theorem yv_get {a : Addr} {A : Cell} {U : State} (h : XT.Arr .byte a A U) (ht : Typed .byte A) {i : Nat} (hi : i < A.slots.size) : A.slots[i]? = some (.int (yv A i)) := by
  have e := Array.getElem?_eq_getElem hi
  have f := ht i _ e
  unfold yv; rw [e]
  generalize A.slots[i] = v at f
  cases v <;> simp [fits] at f ⊢
/-- the two arrays are equal, place for place -/
def EqC (A B : Cell) : Prop := A.slots.size = B.slots.size ∧ ∀ i, i < A.slots.size → yv A i = yv B i
/-- a boolean that says whether p -/
def Says01 (q : Prop) (r : Option Value) (s u : State) : Prop := ∃ v : Int32, r = some (.int v) ∧ u.heap = s.heap ∧ ((v = 1 ∧ q) ∨ (v = 0 ∧ ¬ q))
theorem Says01.mv {q : Prop} : ∀ r (U U' V V' : State), U'.heap = U.heap → V.vm.Alike V'.vm → V'.heap = V.heap → Says01 q r U V → Says01 q r U' V' :=
  fun r U U' V V' h1 _ h2 ⟨v, a, b, c⟩ => ⟨v, a, by rw [h1, h2]; exact b, c⟩
namespace LEq
def yN : MethodName := ⟨"java/lang/StringLatin1", "equals", "([B[B)Z"⟩
abbrev yB : ByteArray := jdk_43_method_13_code
theorem d0 : decode yB 0 = .ok (.aload_n 0, 1) := by decide +kernel
theorem d1 : decode yB 1 = .ok (.arraylength, 1) := by decide +kernel
theorem d2 : decode yB 2 = .ok (.aload_n 1, 1) := by decide +kernel
theorem d3 : decode yB 3 = .ok (.arraylength, 1) := by decide +kernel
theorem d4 : decode yB 4 = .ok (.if_icmp (.ne) 30, 3) := by decide +kernel
theorem d7 : decode yB 7 = .ok (.iconst 0, 1) := by decide +kernel
theorem d8 : decode yB 8 = .ok (.istore_n 2, 1) := by decide +kernel
theorem d9 : decode yB 9 = .ok (.iload_n 2, 1) := by decide +kernel
theorem d10 : decode yB 10 = .ok (.aload_n 0, 1) := by decide +kernel
theorem d11 : decode yB 11 = .ok (.arraylength, 1) := by decide +kernel
theorem d12 : decode yB 12 = .ok (.if_icmp (.ge) 20, 3) := by decide +kernel
theorem d15 : decode yB 15 = .ok (.aload_n 0, 1) := by decide +kernel
theorem d16 : decode yB 16 = .ok (.iload_n 2, 1) := by decide +kernel
theorem d17 : decode yB 17 = .ok (.baload, 1) := by decide +kernel
theorem d18 : decode yB 18 = .ok (.aload_n 1, 1) := by decide +kernel
theorem d19 : decode yB 19 = .ok (.iload_n 2, 1) := by decide +kernel
theorem d20 : decode yB 20 = .ok (.baload, 1) := by decide +kernel
theorem d21 : decode yB 21 = .ok (.if_icmp (.eq) 5, 3) := by decide +kernel
theorem d24 : decode yB 24 = .ok (.iconst 0, 1) := by decide +kernel
theorem d25 : decode yB 25 = .ok (.ireturn, 1) := by decide +kernel
theorem d26 : decode yB 26 = .ok (.iinc 2 1, 3) := by decide +kernel
theorem d29 : decode yB 29 = .ok (.goto (-20), 3) := by decide +kernel
theorem d32 : decode yB 32 = .ok (.iconst 1, 1) := by decide +kernel
theorem d33 : decode yB 33 = .ok (.ireturn, 1) := by decide +kernel
theorem d34 : decode yB 34 = .ok (.iconst 0, 1) := by decide +kernel
theorem d35 : decode yB 35 = .ok (.ireturn, 1) := by decide +kernel
def site : List Cond := []
def tab : Cond := tabOf yN yB 3 (some .boolean) site
def P (a : Addr) (A : Cell) (b : Addr) (B : Cell) (args : Array Value) (s : State) : Prop := args = #[.ref a, .ref b] ∧ XT.Arr .byte a A s ∧ Typed .byte A ∧ XT.Arr .byte b B s ∧ Typed .byte B
/-- whether two byte[] are equal, place for place -/
theorem law (l : Launch) (a : Addr) (A : Cell) (b : Addr) (B : Cell) : Law l yN 2 2 0 0 yB 3 (some .boolean) site (P a A b B) (Says01 (EqC A B)) [] 0 0 := by
  refine Law.of_walk (plainFor_of_name (by decide +kernel)) (by decide +kernel) (by decide +kernel) (by decide) (fun _ _ h => by rw [h.1]; rfl) (fun _ U U' hal hh h => ⟨h.1, h.2.1.mv hal hh, h.2.2.1, h.2.2.2.1.mv hal hh, h.2.2.2.2⟩) (fun r U U' V V' h1 hal h2 h => Says01.mv r U U' V V' h1 hal h2 h) ?_
  intro p e s m args below meth c s₁ X0 hexec hbytes hml hret hlk hnm hown hh0 W hP
  obtain ⟨rfl, hA, tA, hB, tB⟩ := hP
  have a31 := hA.2.2.2
  have b31 := hB.2.2.2
  have hA0 := hA.mv X0.warmed.alike hh0
  have hB0 := hB.mv X0.warmed.alike hh0
  have c1 : Steps p.tables e below (s₁.setTop (entryFrame m #[.ref a, .ref b] 3)) (s₁.setTop (mkF m 0 #[.val (.ref a), .val (.ref b), .unset] [])) := entry rfl
  have c2 : Steps p.tables e below (s₁.setTop (entryFrame m #[.ref a, .ref b] 3)) (s₁.setTop (mkF m 4 #[.val (.ref a), .val (.ref b), .unset] [.int (Int32.ofNat B.slots.size), .int (Int32.ofNat A.slots.size)])) := c1.trans (by
    refine XS.aloadN X0.here hexec rfl (hb hbytes d0) rfl rfl ?_
    refine X0.alen hexec hA0 rfl rfl (hb hbytes d1) ?_
    refine XS.aloadN X0.here hexec rfl (hb hbytes d2) rfl rfl ?_
    refine X0.alen hexec hB0 rfl rfl (hb hbytes d3) ?_
    exact Steps.refl _)
  by_cases hs : A.slots.size = B.slots.size
  · have c3 : Steps p.tables e below (s₁.setTop (entryFrame m #[.ref a, .ref b] 3)) (s₁.setTop (mkF m 9 #[.val (.ref a), .val (.ref b), .val (.int 0)] [])) := c2.trans (by
      refine XS.icmpNo X0.here hexec rfl (hb hbytes d4) rfl (ii_ne_f (by rw [hs])) ?_
      refine iconstV X0.here hexec rfl 0 (hb hbytes d7) (by decide) ?_
      refine XS.istoreN X0.here hexec rfl (hb hbytes d8) rfl rfl ?_
      exact Steps.refl _)
    have loop : ∀ (r i : Nat), i + r = A.slots.size → (∀ j, j < i → yv A j = yv B j) → Steps p.tables e below (s₁.setTop (entryFrame m #[.ref a, .ref b] 3)) (s₁.setTop (mkF m 9 #[.val (.ref a), .val (.ref b), .val (.int (Int32.ofNat i))] [])) → ∃ (pc : Nat) (Ls : Array Slot) (v : Int32), (pc = 25 ∨ pc = 33) ∧ ((v = 1 ∧ EqC A B) ∨ (v = 0 ∧ ¬ EqC A B)) ∧ Steps p.tables e below (s₁.setTop (entryFrame m #[.ref a, .ref b] 3)) (s₁.setTop (mkF m pc Ls [.int v])) := by
      intro r
      induction r with
      | zero =>
        intro i hi he cl
        exact ⟨33, _, 1, Or.inr rfl, Or.inl ⟨rfl, hs, fun j hj => he j (by omega)⟩, cl.trans (by
          refine XS.iloadN X0.here hexec rfl (hb hbytes d9) rfl ?_
          refine XS.aloadN X0.here hexec rfl (hb hbytes d10) rfl rfl ?_
          refine X0.alen hexec hA0 rfl rfl (hb hbytes d11) ?_
          refine XS.icmpYes X0.here hexec rfl (pc0 := 12) rfl (hb hbytes d12) rfl (ii_ge_t (nlt32 (by omega) (by omega))) (by decide) rfl ?_
          refine iconstV X0.here hexec rfl 1 (hb hbytes d32) (by decide) ?_
          exact Steps.refl _)⟩
      | succ r ih =>
        intro i hi he cl
        have c4 : Steps p.tables e below (s₁.setTop (entryFrame m #[.ref a, .ref b] 3)) (s₁.setTop (mkF m 21 #[.val (.ref a), .val (.ref b), .val (.int (Int32.ofNat i))] [.int (yv B i), .int (yv A i)])) := cl.trans (by
          refine XS.iloadN X0.here hexec rfl (hb hbytes d9) rfl ?_
          refine XS.aloadN X0.here hexec rfl (hb hbytes d10) rfl rfl ?_
          refine X0.alen hexec hA0 rfl rfl (hb hbytes d11) ?_
          refine XS.icmpNo X0.here hexec rfl (hb hbytes d12) rfl (ii_ge_f (lt32 (by omega) (by omega))) ?_
          refine XS.aloadN X0.here hexec rfl (hb hbytes d15) rfl rfl ?_
          refine XS.iloadN X0.here hexec rfl (hb hbytes d16) rfl ?_
          refine X0.aget hexec hA0 rfl (yv_get hA tA (i := i) (by omega)) rfl rfl (hb hbytes d17) ?_
          refine XS.aloadN X0.here hexec rfl (hb hbytes d18) rfl rfl ?_
          refine XS.iloadN X0.here hexec rfl (hb hbytes d19) rfl ?_
          refine X0.aget hexec hB0 rfl (yv_get hB tB (i := i) (by omega)) rfl rfl (hb hbytes d20) ?_
          exact Steps.refl _)
        by_cases hv : yv A i = yv B i
        · have c5 : Steps p.tables e below (s₁.setTop (entryFrame m #[.ref a, .ref b] 3)) (s₁.setTop (mkF m 9 #[.val (.ref a), .val (.ref b), .val (.int (Int32.ofNat i + 1))] [])) := c4.trans (by
            refine XS.icmpYes X0.here hexec rfl (pc0 := 21) rfl (hb hbytes d21) rfl (ii_eq_t hv) (by decide) rfl ?_
            refine iincV X0.here hexec rfl 1 (hb hbytes d26) (by decide) rfl rfl ?_
            refine XS.goto X0.here hexec rfl (pc0 := 29) rfl (hb hbytes d29) (by decide) rfl ?_
            exact Steps.refl _)
          rw [succ32] at c5
          exact ih (i + 1) (by omega) (fun j hj => by
            by_cases e : j = i
            · rw [e]; exact hv
            · exact he j (by omega)) c5
        · exact ⟨25, _, 0, Or.inl rfl, Or.inr ⟨rfl, fun q => hv (q.2 i (by omega))⟩, c4.trans (by
            refine XS.icmpNo X0.here hexec rfl (hb hbytes d21) rfl (ii_eq_f hv) ?_
            refine iconstV X0.here hexec rfl 0 (hb hbytes d24) (by decide) ?_
            exact Steps.refl _)⟩
    obtain ⟨pc, Ls, v, hpc, hv, cz⟩ := loop A.slots.size 0 (by omega) (fun j hj => absurd hj (Nat.not_lt_zero j)) c3
    have nv : narrow .boolean (.int v) = .int v := by rcases hv with ⟨rfl, -⟩ | ⟨rfl, -⟩ <;> rfl
    rcases hpc with rfl | rfl
    · exact ⟨s₁, some (.int v), _, _, _, X0, rfl, rfl, rfl, (fun h => by cases h), ⟨v, rfl, hh0, hv⟩, fun fs hl => cz.trans (X0.ireturnOut hexec hret nv (Or.inr (Or.inl rfl)) (hb hbytes d25) hl)⟩
    · exact ⟨s₁, some (.int v), _, _, _, X0, rfl, rfl, rfl, (fun h => by cases h), ⟨v, rfl, hh0, hv⟩, fun fs hl => cz.trans (X0.ireturnOut hexec hret nv (Or.inr (Or.inl rfl)) (hb hbytes d33) hl)⟩
  · have c3 : Steps p.tables e below (s₁.setTop (entryFrame m #[.ref a, .ref b] 3)) (s₁.setTop (mkF m 35 #[.val (.ref a), .val (.ref b), .unset] [.int 0])) := c2.trans (by
      refine XS.icmpYes X0.here hexec rfl (pc0 := 4) rfl (hb hbytes d4) rfl (ii_ne_t (ne32 a31 b31 hs)) (by decide) rfl ?_
      refine iconstV X0.here hexec rfl 0 (hb hbytes d34) (by decide) ?_
      exact Steps.refl _)
    exact ⟨s₁, some (.int 0), _, _, _, X0, rfl, rfl, rfl, (fun h => by cases h), ⟨0, rfl, hh0, Or.inr ⟨rfl, fun q => hs q.1⟩⟩, fun fs hl => c3.trans (X0.ireturnOut hexec hret rfl (Or.inr (Or.inl rfl)) (hb hbytes d35) hl)⟩
end LEq
theorem Cod.ty {cd : Int32} {n : Nat} {f : Nat → Int32} {V : Cell} (h : Cod cd n f V) : Typed .byte V := fun i v hv => by
  have hi : i < V.slots.size := (Array.getElem?_eq_some_iff.mp hv).1
  rcases h with ⟨-, k1, k2⟩ | ⟨-, k1, k2, -⟩
  · rw [(k2 i (by omega)).1] at hv; cases hv; exact fits_lo8 _
  · rcases Nat.mod_two_eq_zero_or_one i with e | e
    · obtain ⟨j, rfl⟩ : ∃ j, i = 2 * j := ⟨i / 2, by omega⟩
      rw [(k2 j (by omega)).1] at hv; cases hv; exact fits_lo8 _
    · obtain ⟨j, rfl⟩ : ∃ j, i = 2 * j + 1 := ⟨i / 2, by omega⟩
      rw [(k2 j (by omega)).2] at hv; cases hv; exact fits_lo8 _
/-- the same text -/
def SameT (n : Nat) (f : Nat → Int32) (k : Nat) (g : Nat → Int32) : Prop := n = k ∧ ∀ j, j < n → f j = g j
theorem lo8_inj {x y : Int32} (h0 : ¬ x < 0) (h1 : ¬ 255 < x) (k0 : ¬ y < 0) (k1 : ¬ 255 < y) (h : lo8 x = lo8 y) : x = y := by
  rw [← lo8_mask h0 h1, ← lo8_mask k0 k1, h]
/-- arrays coded by one coder are equal just where the texts are -/
theorem Cod.eqv {cd : Int32} {n k : Nat} {f g : Nat → Int32} {V V' : Cell} (h : Cod cd n f V) (h' : Cod cd k g V') (hf : ∀ j, j < n → ¬ f j < 0 ∧ ¬ 65535 < f j) (hg : ∀ j, j < k → ¬ g j < 0 ∧ ¬ 65535 < g j) : EqC V V' ↔ SameT n f k g := by
  have yvv : ∀ {W : Cell} {i : Nat} {x : Int32}, W.slots[i]? = some (.int x) → yv W i = x := fun q => by unfold yv; rw [q]
  rcases h with ⟨rfl, k1, k2⟩ | ⟨rfl, k1, k2, -⟩
  · rcases h' with ⟨-, m1, m2⟩ | ⟨e, -⟩
    · constructor
      · rintro ⟨e1, e2⟩
        refine ⟨by omega, fun j hj => ?_⟩
        have q := e2 j (by omega)
        rw [yvv (k2 j hj).1, yvv (m2 j (by omega)).1] at q
        exact lo8_inj (hf j hj).1 (k2 j hj).2 (hg j (by omega)).1 (m2 j (by omega)).2 q
      · rintro ⟨rfl, e2⟩
        refine ⟨by omega, fun j hj => ?_⟩
        rw [yvv (k2 j (by omega)).1, yvv (m2 j (by omega)).1, e2 j (by omega)]
    · exact absurd e (by decide)
  · rcases h' with ⟨e, -⟩ | ⟨-, m1, m2, -⟩
    · exact absurd e (by decide)
    · constructor
      · rintro ⟨e1, e2⟩
        refine ⟨by omega, fun j hj => ?_⟩
        have q1 := e2 (2 * j) (by omega)
        have q2 := e2 (2 * j + 1) (by omega)
        rw [yvv (k2 j hj).1, yvv (m2 j (by omega)).1] at q1
        rw [yvv (k2 j hj).2, yvv (m2 j (by omega)).2] at q2
        rw [← pair_says (hf j hj).1 (hf j hj).2, ← pair_says (hg j (by omega)).1 (hg j (by omega)).2, q1, q2]
      · rintro ⟨rfl, e2⟩
        refine ⟨by omega, fun i hi => ?_⟩
        rcases Nat.mod_two_eq_zero_or_one i with e | e
        · obtain ⟨j, rfl⟩ : ∃ j, i = 2 * j := ⟨i / 2, by omega⟩
          rw [yvv (k2 j (by omega)).1, yvv (m2 j (by omega)).1, e2 j (by omega)]
        · obtain ⟨j, rfl⟩ : ∃ j, i = 2 * j + 1 := ⟨i / 2, by omega⟩
          rw [yvv (k2 j (by omega)).2, yvv (m2 j (by omega)).2, e2 j (by omega)]
/-- two codings differ: so do the texts -/
theorem Cod.dif {cd cd' : Int32} {n k : Nat} {f g : Nat → Int32} {V V' : Cell} (h : Cod cd n f V) (h' : Cod cd' k g V') (hne : ¬ cd = cd') : ¬ SameT n f k g := by
  rintro ⟨rfl, e⟩
  rcases h with ⟨rfl, -, k2⟩ | ⟨rfl, -, -, j, hj, hw⟩
  · rcases h' with ⟨rfl, -⟩ | ⟨-, -, -, j, hj, hw⟩
    · exact hne rfl
    · exact (k2 j hj).2 (by rw [e j hj]; exact hw)
  · rcases h' with ⟨-, -, m2⟩ | ⟨rfl, -⟩
    · exact (m2 j hj).2 (by rw [← e j hj]; exact hw)
    · exact hne rfl
/-- an object of exactly C is an instance of C -/
theorem cinst {p : Program} {l : Launch} {e : Env} {R : Room} {s : State} {m : MethodId} {args : Array Value} {below : List Frame} {meth : Method} {c : Code} {T : State} {locs : List Loc} {cells slots : Nat} (X : Stand p l e R s m args below meth c T locs cells slots) (hexec : p.tables.exec = Jvm.exec) {own C : String} {index : Nat} (hown : s.vm.findClass own = some m.cls) (hlink : (Cond.classLink own index C).before args s = true) {a : Addr} (hE : Exact C a T)
    {g : JFrame} (hg : g.method = m) {rest : List Value} (hstack : g.stack = .ref a :: rest) (hdg : decode c.code g.pc = .ok (.instanceof index, 3)) :
    ∃ T', Stand p l e R s m args below meth c T' locs cells slots ∧ T'.heap = T.heap ∧ ∀ target, Steps p.tables e below (T'.setTop { g with pc := g.pc + 3, stack := .int 1 :: rest }) target → Steps p.tables e below (T.setTop g) target := by
  obtain ⟨cB, h1, D, h2, h3, h4⟩ := hE
  have h1' : s.vm.findClass C = some cB := by rw [← X.warmed.alike.findClass]; exact h1
  obtain ⟨vm', X', st⟩ := X.instanceofYes hexec hown hlink h2 h4 h1' (by rw [h3]; exact Jvm.Free.SB.assignable_self _ _) hg hstack hdg
  exact ⟨_, X', rfl, st⟩
theorem cself {p : Program} {l : Launch} {e : Env} {R : Room} {s : State} {m : MethodId} {args : Array Value} {below : List Frame} {meth : Method} {c : Code} {T : State} {locs : List Loc} {cells slots : Nat} (X : Stand p l e R s m args below meth c T locs cells slots) (hexec : p.tables.exec = Jvm.exec) {own C : String} {index : Nat} (hown : s.vm.findClass own = some m.cls) (hlink : (Cond.classLink own index C).before args s = true) {a : Addr} (hE : Exact C a T)
    {g : JFrame} (hg : g.method = m) {rest : List Value} (hstack : g.stack = .ref a :: rest) (hdg : decode c.code g.pc = .ok (.checkcast index, 3)) :
    ∃ T', Stand p l e R s m args below meth c T' locs cells slots ∧ T'.heap = T.heap ∧ ∀ target, Steps p.tables e below (T'.setTop { g with pc := g.pc + 3, stack := .ref a :: rest }) target → Steps p.tables e below (T.setTop g) target := by
  obtain ⟨cB, h1, D, h2, h3, h4⟩ := hE
  have h1' : s.vm.findClass C = some cB := by rw [← X.warmed.alike.findClass]; exact h1
  obtain ⟨vm', X', st⟩ := X.checkcastYes hexec hown hlink h2 h4 h1' (by rw [h3]; exact Jvm.Free.SB.assignable_self _ _) hg hstack hdg
  exact ⟨_, X', rfl, fun t h => st t (by rw [← hstack] at h; exact h)⟩
namespace SEq
def yN : MethodName := ⟨"java/lang/String", "equals", "(Ljava/lang/Object;)Z"⟩
abbrev yB : ByteArray := jdk_42_method_66_code
theorem d0 : decode yB 0 = .ok (.aload_n 0, 1) := by decide +kernel
theorem d1 : decode yB 1 = .ok (.aload_n 1, 1) := by decide +kernel
theorem d2 : decode yB 2 = .ok (.if_acmp (.ne) 5, 3) := by decide +kernel
theorem d5 : decode yB 5 = .ok (.iconst 1, 1) := by decide +kernel
theorem d6 : decode yB 6 = .ok (.ireturn, 1) := by decide +kernel
theorem d7 : decode yB 7 = .ok (.aload_n 1, 1) := by decide +kernel
theorem d8 : decode yB 8 = .ok (.instanceof 10, 3) := by decide +kernel
theorem d11 : decode yB 11 = .ok (.ifCond (.eq) 43, 3) := by decide +kernel
theorem d14 : decode yB 14 = .ok (.aload_n 1, 1) := by decide +kernel
theorem d15 : decode yB 15 = .ok (.checkcast 10, 3) := by decide +kernel
theorem d18 : decode yB 18 = .ok (.astore_n 2, 1) := by decide +kernel
theorem d19 : decode yB 19 = .ok (.getstatic 38, 3) := by decide +kernel
theorem d22 : decode yB 22 = .ok (.ifCond (.eq) 14, 3) := by decide +kernel
theorem d25 : decode yB 25 = .ok (.aload_n 0, 1) := by decide +kernel
theorem d26 : decode yB 26 = .ok (.getfield 15, 3) := by decide +kernel
theorem d29 : decode yB 29 = .ok (.aload_n 2, 1) := by decide +kernel
theorem d30 : decode yB 30 = .ok (.getfield 15, 3) := by decide +kernel
theorem d33 : decode yB 33 = .ok (.if_icmp (.ne) 21, 3) := by decide +kernel
theorem d36 : decode yB 36 = .ok (.aload_n 0, 1) := by decide +kernel
theorem d37 : decode yB 37 = .ok (.getfield 9, 3) := by decide +kernel
theorem d40 : decode yB 40 = .ok (.aload_n 2, 1) := by decide +kernel
theorem d41 : decode yB 41 = .ok (.getfield 9, 3) := by decide +kernel
theorem d44 : decode yB 44 = .ok (.invokestatic 541, 3) := by decide +kernel
theorem d47 : decode yB 47 = .ok (.ifCond (.eq) 7, 3) := by decide +kernel
theorem d50 : decode yB 50 = .ok (.iconst 1, 1) := by decide +kernel
theorem d51 : decode yB 51 = .ok (.goto 4, 3) := by decide +kernel
theorem d54 : decode yB 54 = .ok (.iconst 0, 1) := by decide +kernel
theorem d55 : decode yB 55 = .ok (.ireturn, 1) := by decide +kernel
def site : List Cond := [.classLink "java/lang/String" 10 "java/lang/String", .fieldLink "java/lang/String" 38 "java/lang/String" "COMPACT_STRINGS" "Z", .fieldLink "java/lang/String" 15 "java/lang/String" "coder" "B", .fieldLink "java/lang/String" 9 "java/lang/String" "value" "[B", LEq.tab] ++ staticW "java/lang/String" 541 LEq.yN
def tab : Cond := tabOf yN yB 3 (some .boolean) site
def P (x t : Addr) (V : Cell) (cd : Int32) (n : Nat) (f : Nat → Int32) (y t' : Addr) (V' : Cell) (cd' : Int32) (k : Nat) (g : Nat → Int32) (z : Int32) (args : Array Value) (s : State) : Prop := args = #[.ref x, .ref y] ∧ Txt x t V cd n f s ∧ Txt y t' V' cd' k g s ∧ StaticIs s "java/lang/String" "COMPACT_STRINGS" "Z" (.int z) ∧ ¬ z = 0
/-- equals(Object) of two Strings: whether the texts are the same -/
theorem law (l : Launch) (x t : Addr) (V : Cell) (cd : Int32) (n : Nat) (f : Nat → Int32) (y t' : Addr) (V' : Cell) (cd' : Int32) (k : Nat) (g : Nat → Int32) (z : Int32) : Law l yN 2 1 1 14 yB 3 (some .boolean) site (P x t V cd n f y t' V' cd' k g z) (Says01 (SameT n f k g)) [] 0 0 := by
  refine Law.of_walk (plainFor_of_name (by decide +kernel)) (by decide +kernel) (by decide +kernel) (by decide) (fun _ _ h => by rw [h.1]; rfl) (fun _ U U' hal hh h => ⟨h.1, h.2.1.mv hal hh, h.2.2.1.mv hal hh, h.2.2.2.1.there hal hh, h.2.2.2.2⟩) (fun r U U' V V' h1 hal h2 h => Says01.mv r U U' V V' h1 hal h2 h) ?_
  intro p e s m args below meth c s₁ X0 hexec hbytes hml hret hlk hnm hown hh0 W hP
  obtain ⟨rfl, hx, hy, s1, hz⟩ := hP
  have c1 : Steps p.tables e below (s₁.setTop (entryFrame m #[.ref x, .ref y] 3)) (s₁.setTop (mkF m 2 #[.val (.ref x), .val (.ref y), .unset] [.ref y, .ref x])) := Steps.trans (entry rfl) (by
    show Steps p.tables e below (s₁.setTop (mkF m 0 #[.val (.ref x), .val (.ref y), .unset] [])) _
    refine XS.aloadN X0.here hexec rfl (hb hbytes d0) rfl rfl ?_
    refine XS.aloadN X0.here hexec rfl (hb hbytes d1) rfl rfl ?_
    exact Steps.refl _)
  by_cases hxy : x = y
  · have c2 : Steps p.tables e below (s₁.setTop (entryFrame m #[.ref x, .ref y] 3)) (s₁.setTop (mkF m 6 #[.val (.ref x), .val (.ref y), .unset] [.int 1])) := c1.trans (by
      refine acmpNo X0.here hexec rfl (hb hbytes d2) rfl rfl rfl (by simp [acmp, hxy]) ?_
      refine iconstV X0.here hexec rfl 1 (hb hbytes d5) (by decide) ?_
      exact Steps.refl _)
    subst hxy
    have ec : cd = cd' := by
      obtain ⟨D, fd, a1, a2, a3⟩ := hx.2.2.1
      obtain ⟨D', fd', b1, b2, b3⟩ := hy.2.2.1
      cases a1.symm.trans b1
      obtain ⟨q1, q2, q3, q4⟩ := a2.1
      obtain ⟨r1, r2, r3, r4⟩ := b2.1
      cases q4.symm.trans r4
      cases a3.symm.trans b3; rfl
    have et : t = t' := by
      obtain ⟨D, fd, a1, a2, a3⟩ := hx.2.1
      obtain ⟨D', fd', b1, b2, b3⟩ := hy.2.1
      cases a1.symm.trans b1
      obtain ⟨q1, q2, q3, q4⟩ := a2.1
      obtain ⟨r1, r2, r3, r4⟩ := b2.1
      cases q4.symm.trans r4
      cases a3.symm.trans b3; rfl
    subst ec et
    have ev : V = V' := by cases hx.2.2.2.1.1.symm.trans hy.2.2.2.1.1; rfl
    subst ev
    have hs : SameT n f k g := (Cod.eqv hx.2.2.2.2.1 hy.2.2.2.2.1 hx.2.2.2.2.2 hy.2.2.2.2.2).mp ⟨rfl, fun _ _ => rfl⟩
    exact ⟨s₁, some (.int 1), _, _, _, X0, rfl, rfl, rfl, (fun h => by cases h), ⟨1, rfl, hh0, Or.inl ⟨rfl, hs⟩⟩, fun fs hl => c2.trans (X0.ireturnOut hexec hret rfl (Or.inr (Or.inl rfl)) (hb hbytes d6) hl)⟩
  · have c2 : Steps p.tables e below (s₁.setTop (entryFrame m #[.ref x, .ref y] 3)) (s₁.setTop (mkF m 8 #[.val (.ref x), .val (.ref y), .unset] [.ref y])) := c1.trans (by
      refine acmpYes X0.here hexec rfl (pc0 := 2) rfl (hb hbytes d2) rfl rfl rfl (by simp [acmp, hxy]) (by decide) rfl ?_
      refine XS.aloadN X0.here hexec rfl (hb hbytes d7) rfl rfl ?_
      exact Steps.refl _)
    obtain ⟨T3, X3, q3, st3⟩ := cinst X0 hexec hown (wk W (.classLink "java/lang/String" 10 "java/lang/String")) (hy.mv X0.warmed.alike hh0).1 (g := (mkF m 8 #[.val (.ref x), .val (.ref y), .unset] [.ref y])) rfl (rest := []) rfl (hb hbytes d8)
    have hh3 := q3.trans hh0
    have c4 : Steps p.tables e below (s₁.setTop (entryFrame m #[.ref x, .ref y] 3)) (T3.setTop (mkF m 15 #[.val (.ref x), .val (.ref y), .unset] [.ref y])) := (c2.trans (st3 _ (Steps.refl _))).trans (by
      refine XS.ifNo X3.here hexec rfl (hb hbytes d11) rfl (i0_eq_f (by decide)) ?_
      refine XS.aloadN X3.here hexec rfl (hb hbytes d14) rfl rfl ?_
      exact Steps.refl _)
    obtain ⟨T5, X5, q5, st5⟩ := cself X3 hexec hown (wk W (.classLink "java/lang/String" 10 "java/lang/String")) (hy.mv X3.warmed.alike hh3).1 (g := (mkF m 15 #[.val (.ref x), .val (.ref y), .unset] [.ref y])) rfl (rest := []) rfl (hb hbytes d15)
    have hh5 := q5.trans hh3
    have c6 : Steps p.tables e below (s₁.setTop (entryFrame m #[.ref x, .ref y] 3)) (T5.setTop (mkF m 19 #[.val (.ref x), .val (.ref y), .val (.ref y)] [])) := (c4.trans (st5 _ (Steps.refl _))).trans (by
      refine XS.astoreN X5.here hexec rfl (hb hbytes d18) rfl rfl rfl ?_
      exact Steps.refl _)
    obtain ⟨T7, X7, q7, st7⟩ := X5.sget hexec hown (wk W (.fieldLink "java/lang/String" 38 "java/lang/String" "COMPACT_STRINGS" "Z")) s1 (fun _ _ h => by rw [hh5]; exact h) (g := (mkF m 19 #[.val (.ref x), .val (.ref y), .val (.ref y)] [])) rfl (hb hbytes d19)
    have hh7 := q7.trans hh5
    have c8 : Steps p.tables e below (s₁.setTop (entryFrame m #[.ref x, .ref y] 3)) (T7.setTop (mkF m 26 #[.val (.ref x), .val (.ref y), .val (.ref y)] [.ref x])) := (c6.trans (st7 _ (Steps.refl _))).trans (by
      refine XS.ifNo X7.here hexec rfl (hb hbytes d22) rfl (i0_eq_f hz) ?_
      refine XS.aloadN X7.here hexec rfl (hb hbytes d25) rfl rfl ?_
      exact Steps.refl _)
    obtain ⟨T9, X9, q9, st9⟩ := X7.hget hexec hown (wk W (.fieldLink "java/lang/String" 15 "java/lang/String" "coder" "B")) (hx.mv X7.warmed.alike hh7).2.2.1 (g := (mkF m 26 #[.val (.ref x), .val (.ref y), .val (.ref y)] [.ref x])) rfl (rest := []) rfl (hb hbytes d26)
    have hh9 := q9.trans hh7
    have c10 : Steps p.tables e below (s₁.setTop (entryFrame m #[.ref x, .ref y] 3)) (T9.setTop (mkF m 30 #[.val (.ref x), .val (.ref y), .val (.ref y)] [.ref y, .int cd])) := (c8.trans (st9 _ (Steps.refl _))).trans (by
      refine XS.aloadN X9.here hexec rfl (hb hbytes d29) rfl rfl ?_
      exact Steps.refl _)
    obtain ⟨T11, X11, q11, st11⟩ := X9.hget hexec hown (wk W (.fieldLink "java/lang/String" 15 "java/lang/String" "coder" "B")) (hy.mv X9.warmed.alike hh9).2.2.1 (g := (mkF m 30 #[.val (.ref x), .val (.ref y), .val (.ref y)] [.ref y, .int cd])) rfl (rest := [.int cd]) rfl (hb hbytes d30)
    have hh11 := q11.trans hh9
    have c12 : Steps p.tables e below (s₁.setTop (entryFrame m #[.ref x, .ref y] 3)) (T11.setTop (mkF m 33 #[.val (.ref x), .val (.ref y), .val (.ref y)] [.int cd', .int cd])) := c10.trans (st11 _ (Steps.refl _))
    by_cases hcd : cd = cd'
    · subst hcd
      have c13 : Steps p.tables e below (s₁.setTop (entryFrame m #[.ref x, .ref y] 3)) (T11.setTop (mkF m 37 #[.val (.ref x), .val (.ref y), .val (.ref y)] [.ref x])) := c12.trans (by
        refine XS.icmpNo X11.here hexec rfl (hb hbytes d33) rfl (ii_ne_f rfl) ?_
        refine XS.aloadN X11.here hexec rfl (hb hbytes d36) rfl rfl ?_
        exact Steps.refl _)
      obtain ⟨T14, X14, q14, st14⟩ := X11.hget hexec hown (wk W (.fieldLink "java/lang/String" 9 "java/lang/String" "value" "[B")) (hx.mv X11.warmed.alike hh11).2.1 (g := (mkF m 37 #[.val (.ref x), .val (.ref y), .val (.ref y)] [.ref x])) rfl (rest := []) rfl (hb hbytes d37)
      have hh14 := q14.trans hh11
      have c15 : Steps p.tables e below (s₁.setTop (entryFrame m #[.ref x, .ref y] 3)) (T14.setTop (mkF m 41 #[.val (.ref x), .val (.ref y), .val (.ref y)] [.ref y, .ref t])) := (c13.trans (st14 _ (Steps.refl _))).trans (by
        refine XS.aloadN X14.here hexec rfl (hb hbytes d40) rfl rfl ?_
        exact Steps.refl _)
      obtain ⟨T16, X16, q16, st16⟩ := X14.hget hexec hown (wk W (.fieldLink "java/lang/String" 9 "java/lang/String" "value" "[B")) (hy.mv X14.warmed.alike hh14).2.1 (g := (mkF m 41 #[.val (.ref x), .val (.ref y), .val (.ref y)] [.ref y, .ref t])) rfl (rest := [.ref t]) rfl (hb hbytes d41)
      have hh16 := q16.trans hh14
      have c17 : Steps p.tables e below (s₁.setTop (entryFrame m #[.ref x, .ref y] 3)) (T16.setTop (mkF m 44 #[.val (.ref x), .val (.ref y), .val (.ref y)] [.ref t', .ref t])) := c15.trans (st16 _ (Steps.refl _))
      obtain ⟨v18, T18, X18, E18, g18⟩ := X16.callS hexec (LEq.law l t V t' V') hown (wks W (staticW "java/lang/String" 541 LEq.yN)) (wk W LEq.tab) (W := 0) (Nat.le_of_ble_eq_true rfl) (Nat.le_of_ble_eq_true rfl) (Nat.le_refl _) (Nat.le_refl _) (g := (mkF m 44 #[.val (.ref x), .val (.ref y), .val (.ref y)] [.ref t', .ref t])) rfl (by rw [hml]; rfl) c17 (argsL := [.ref t, .ref t']) (rest := []) rfl rfl (by show 2 * 0 + 0 ≤ _; decide) (hb hbytes d44) (⟨rfl, hx.2.2.2.1.mv X16.warmed.alike hh16, hx.2.2.2.2.1.ty, hy.2.2.2.1.mv X16.warmed.alike hh16, hy.2.2.2.2.1.ty⟩)
      obtain ⟨v, rfl, q18, hv⟩ := E18
      have iff := Cod.eqv hx.2.2.2.2.1 hy.2.2.2.2.1 hx.2.2.2.2.2 hy.2.2.2.2.2
      rcases hv with ⟨rfl, he⟩ | ⟨rfl, he⟩
      · have c19 : Steps p.tables e below (s₁.setTop (entryFrame m #[.ref x, .ref y] 3)) (T18.setTop (mkF m 55 #[.val (.ref x), .val (.ref y), .val (.ref y)] [.int 1])) := Steps.trans g18 (by
          refine XS.ifNo X18.here hexec rfl (hb hbytes d47) rfl (i0_eq_f (by decide)) ?_
          refine iconstV X18.here hexec rfl 1 (hb hbytes d50) (by decide) ?_
          refine XS.goto X18.here hexec rfl (pc0 := 51) rfl (hb hbytes d51) (by decide) rfl ?_
          exact Steps.refl _)
        exact ⟨T18, some (.int 1), _, _, _, X18, rfl, rfl, rfl, (fun h => by cases h), ⟨1, rfl, q18.trans hh16, Or.inl ⟨rfl, iff.mp he⟩⟩, fun fs hl => c19.trans (X18.ireturnOut hexec hret rfl (Or.inr (Or.inl rfl)) (hb hbytes d55) hl)⟩
      · have c19 : Steps p.tables e below (s₁.setTop (entryFrame m #[.ref x, .ref y] 3)) (T18.setTop (mkF m 55 #[.val (.ref x), .val (.ref y), .val (.ref y)] [.int 0])) := Steps.trans g18 (by
          refine XS.ifYes X18.here hexec rfl (pc0 := 47) rfl (hb hbytes d47) rfl (i0_eq_t rfl) (by decide) rfl ?_
          refine iconstV X18.here hexec rfl 0 (hb hbytes d54) (by decide) ?_
          exact Steps.refl _)
        exact ⟨T18, some (.int 0), _, _, _, X18, rfl, rfl, rfl, (fun h => by cases h), ⟨0, rfl, q18.trans hh16, Or.inr ⟨rfl, fun q => he (iff.mpr q)⟩⟩, fun fs hl => c19.trans (X18.ireturnOut hexec hret rfl (Or.inr (Or.inl rfl)) (hb hbytes d55) hl)⟩
    · have c13 : Steps p.tables e below (s₁.setTop (entryFrame m #[.ref x, .ref y] 3)) (T11.setTop (mkF m 55 #[.val (.ref x), .val (.ref y), .val (.ref y)] [.int 0])) := c12.trans (by
        refine XS.icmpYes X11.here hexec rfl (pc0 := 33) rfl (hb hbytes d33) rfl (ii_ne_t hcd) (by decide) rfl ?_
        refine iconstV X11.here hexec rfl 0 (hb hbytes d54) (by decide) ?_
        exact Steps.refl _)
      exact ⟨T11, some (.int 0), _, _, _, X11, rfl, rfl, rfl, (fun h => by cases h), ⟨0, rfl, hh11, Or.inr ⟨rfl, Cod.dif hx.2.2.2.2.1 hy.2.2.2.2.1 hcd⟩⟩, fun fs hl => c13.trans (X11.ireturnOut hexec hret rfl (Or.inr (Or.inl rfl)) (hb hbytes d55) hl)⟩
theorem pays {l : Launch} {R : Room} {p : Program} {e : Env} {below : List Frame} {s : State} {sargs : Array Value} {len W : Nat} (x t : Addr) (V : Cell) (cd : Int32) (n : Nat) (f : Nat → Int32) (y t' : Addr) (V' : Cell) (cd' : Int32) (k : Nat) (g : Nat → Int32) (z : Int32) (htab : tab.before sargs s = true) (hfr : 2 ≤ R.frames) (hlo : W + 28 ≤ R.locals) :
    Back l R p e below s sargs yN len W (fun A₁ a₁ => A₁.cells + 0 ≤ R.cells ∧ A₁.slots + 0 ≤ R.slots ∧ P x t V cd n f y t' V' cd' k g z a₁ A₁.U) (fun A₁ _ v₁ B₁ => Says01 (SameT n f k g) v₁ A₁.U B₁.U ∧ B₁.locs = A₁.locs ++ [] ∧ B₁.cells = A₁.cells + 0 ∧ B₁.slots = A₁.slots + 0) :=
  (law l x t V cd n f y t' V' cd' k g z).pays htab hfr (by omega)
end SEq
end StrChars
namespace StrChars.Road
open Jvm Sem ClassFile Op Lib Jvm.Stand Jvm.Free Jvm.Free.XT
open Jvm.Lib.Cold (StaticIs)
/-- the words of String.equals(Object) -/
abbrev wordsEq : List Jvm.Cond := [.code SEq.yN SEq.yB 3 (some .boolean), .initialized ST, .classLink ST 10 ST, .fieldLink ST 38 ST "COMPACT_STRINGS" "Z", .fieldLink ST 15 ST "coder" "B", .fieldLink ST 9 ST "value" "[B", .methodLink ST 541 LEq.yN, .static LEq.yN, .code LEq.yN LEq.yB 3 (some .boolean), .initialized "java/lang/StringLatin1"]
theorem tabEq_of {a : Array Value} {s : State} (h : ∀ w ∈ wordsEq, w.before a s = true) : SEq.tab.before a s = true := by
  have hl : LEq.tab.before a s = true := unparts (wk h (.code LEq.yN LEq.yB 3 (some .boolean))) (wks h (.initialized LEq.yN.cls :: LEq.site))
  have q := consq hl h
  exact unparts (wk q (.code SEq.yN SEq.yB 3 (some .boolean))) (wks q (.initialized SEq.yN.cls :: SEq.site))
theorem movedEq {Z s : State} {a0 args : Array Value} (hZ : Z.Warmed39 s.vm) (hw : ∀ d ∈ wordsEq, d.before a0 Z = true) : ∀ d ∈ wordsEq, d.before args s = true := fun d hd => by
  have t : ∀ d ∈ wordsEq, (d.onTables && d.keepsFace) = true := by decide +kernel
  exact RoadKit.mv hZ (hw d hd) (t d hd)
/-- the road's facts of a String, as the laws ask it -/
theorem txt_of {Z U : State} {a0 : Array Value} {kI : Nat} (wi : (Jvm.Cond.instantiable ST kI).before a0 Z = true) (al : Z.vm.Alike U.vm) {x t : Addr} {kb : ClassId} {cs : List Int32} {cd N2 : Int32} {vs : List Value} (E : RoadKit.Exa Z U.heap x ST) (V : RoadKit.Fld Z U.heap x ST "value" "[B" (.ref t)) (C : RoadKit.Fld Z U.heap x ST "coder" "B" (.int cd)) (K : RoadKit.Arv Z U.heap t kb .byte N2 vs (.int 0)) (hc : CodA cs cd N2 vs) (hb : ∀ c ∈ cs, ¬ c < 0 ∧ ¬ (65535 : Int32) < c) (l2 : cs.length ≤ 4000) :
    ∃ A, Txt x t A cd cs.length (fun j => cs.getD j 0) U := by
  obtain ⟨A, K1, K2, K3, K4, K5, K6⟩ := K
  have hcod := hc.cod (by omega) K3 K5
  obtain ⟨D, fV, fC, hB, F1, F2, g1, g2, -, -⟩ := strObj wi al E V C
  exact ⟨A, ⟨_, hB.2.2.1, D, hB.1, rfl, by cases q : D.vm <;> first | rfl | exact absurd q (hB.2.1.2 _)⟩, Has.of hB F1 g1, Has.of hB F2 g2, ⟨K1.1, State.isArrayOf_alike al K1.2.1, K1.2.2, by rcases hcod with ⟨-, q, -⟩ | ⟨-, q, -⟩ <;> omega⟩, hcod, fun j hj => by
    have e : cs.getD j 0 = cs[j] := by simp [List.getD_eq_getElem?_getD, hj]
    show ¬ cs.getD j 0 < 0 ∧ ¬ 65535 < cs.getD j 0
    rw [e]; exact hb _ (List.getElem_mem _)⟩
theorem same_list (cs ds : List Int32) : SameT cs.length (fun j => cs.getD j 0) ds.length (fun j => ds.getD j 0) ↔ cs = ds := by
  constructor
  · rintro ⟨e, q⟩
    refine List.ext_getElem e fun j h1 h2 => ?_
    have := q j h1
    simpa [List.getD_eq_getElem?_getD, h1, h2] using this
  · rintro rfl
    exact ⟨rfl, fun _ _ => rfl⟩
/-- **equals(Object) OF TWO SUCH STRINGS**: 1 just where the chars are the same -/
theorem eqW {p : Program} {l : Launch} {e : Env} {R : Room} {s : State} {args : Array Value} {below : List Frame} {len W : Nat} {Z : State} {a0 : Array Value} {h : Heap} (hZ : Z.Warmed39 s.vm) (hw : ∀ d ∈ wordsEq, d.before a0 Z = true) {kI : Nat} (wi : (Jvm.Cond.instantiable ST kI).before a0 Z = true)
    {x t : Addr} {kb : ClassId} {cs : List Int32} {cd N2 : Int32} {vs : List Value} (E : RoadKit.Exa Z h x ST) (V : RoadKit.Fld Z h x ST "value" "[B" (.ref t)) (C : RoadKit.Fld Z h x ST "coder" "B" (.int cd)) (K : RoadKit.Arv Z h t kb .byte N2 vs (.int 0)) (hc : CodA cs cd N2 vs) (hb : ∀ c ∈ cs, ¬ c < 0 ∧ ¬ (65535 : Int32) < c) (l2 : cs.length ≤ 4000)
    {y t' : Addr} {kb' : ClassId} {ds : List Int32} {cd' N2' : Int32} {vs' : List Value} (E' : RoadKit.Exa Z h y ST) (V' : RoadKit.Fld Z h y ST "value" "[B" (.ref t')) (C' : RoadKit.Fld Z h y ST "coder" "B" (.int cd')) (K' : RoadKit.Arv Z h t' kb' .byte N2' vs' (.int 0)) (hc' : CodA ds cd' N2' vs') (hb' : ∀ c ∈ ds, ¬ c < 0 ∧ ¬ (65535 : Int32) < c) (l2' : ds.length ≤ 4000)
    {z : Int32} (S : RoadKit.Sta Z h ST "COMPACT_STRINGS" "Z" (.int z)) (hz : ¬ z = 0) (hfr : 2 ≤ R.frames) (hlo : W + 28 ≤ R.locals) :
    Back l R p e below s args (⟨"java/lang/String", "equals", "(Ljava/lang/Object;)Z"⟩ : MethodName) len W (fun P a => a = #[.ref x, .ref y] ∧ P.U.heap = h ∧ P.cells + 0 ≤ R.cells ∧ P.slots + 0 ≤ R.slots)
      (fun P _ v B => ∃ L, (((v = some (.int 1) ∧ cs = ds) ∨ (v = some (.int 0) ∧ ¬ cs = ds)) ∧ L = [] ∧ B.U.heap = h) ∧ B.locs = P.locs ++ L ∧ B.cells = P.cells + 0 ∧ B.slots = P.slots + 0) := by
  intro m meth c P g ig mk a X hg hsize hdg hW hn hp'
  obtain ⟨rfl, rfl, r1, r2⟩ := hp'
  have al : Z.vm.Alike P.U.vm := hZ.alike.trans X.warmed.alike
  obtain ⟨A, hx⟩ := txt_of wi al E V C K hc hb l2
  obtain ⟨A', hy⟩ := txt_of wi al E' V' C' K' hc' hb' l2'
  obtain ⟨v, B, X', ⟨⟨w, hv, hh, hq⟩, hl, hk, hs⟩, st⟩ := SEq.pays x t A cd cs.length (fun j => cs.getD j 0) y t' A' cd' ds.length (fun j => ds.getD j 0) z (tabEq_of (movedEq hZ hw)) hfr hlo m meth c P g ig mk _ X hg hsize hdg hW hn ⟨r1, r2, rfl, hx, hy, sta_is al S, hz⟩
  refine ⟨v, B, X', ⟨[], ⟨?_, rfl, hh⟩, hl, hk, hs⟩, st⟩
  rcases hq with ⟨rfl, q⟩ | ⟨rfl, q⟩
  · exact Or.inl ⟨hv, (same_list cs ds).mp q⟩
  · exact Or.inr ⟨hv, fun e => q ((same_list cs ds).mpr e)⟩
end StrChars.Road
namespace StrChars.Road
open Jvm Sem ClassFile Op Lib Jvm.Stand Jvm.Free Jvm.Free.XT
open Jvm.Lib.Cold (StaticIs)
/-- what backV says of its String, as the contracts of this text ask it: cs's low bytes, coder 0 -/
theorem codOf {cs : List Int32} {n : Nat} (hn : cs.length = n) (hb : ∀ c ∈ cs, ¬ 255 < c) : CodA cs 0 (Int32.ofNat n) ((cs.map lo8).map Value.int) := Or.inl ⟨rfl, by rw [hn], by simp [List.map_map, Function.comp_def], hb⟩
end StrChars.Road
end Jvm.Pilot.@@N@@
namespace Jvm.Pilot.@@N@@
open Jvm Jvm.ClassFile Sem Op Lib Jvm.Free Jvm.Stand Jvm.LawKit Jvm.RoadKit Bundle Jvm.Pilot.@@N@@.Jvm.D
section Kit
variable {p : Program} {l : Launch} {e : Env} {R : Room} {s : State} {m : MethodId} {args : Array Value} {below : List Frame} {meth : Method} {c : Code} {Z : State} {a0 : Array Value} {EL : List (String × Nat)} {own : String} {sf : List Addr} {T : State} {h h' h0 : Heap} {k n k' n' rc rs pc : Nat} {Ls : Array Slot} {stk rest : List Value} {Q : Option Value → Heap → Prop}
/-- where a walk stands: the library's Stand over the start with the tables at hand, and what rides along -/
def Wk (p : Program) (l : Launch) (e : Env) (R : Room) (s : State) (m : MethodId) (args : Array Value) (below : List Frame) (meth : Method) (c : Code) (Z : State) (a0 : Array Value) (EL : List (String × Nat)) (own : String) (sf : List Addr) (T : State) (h : Heap) (k n : Nat) : Prop :=
  p.tables.exec = Jvm.exec ∧ meth.locks = false ∧ EW Z a0 EL ∧ Ext Z.heap s.heap ∧ ∃ (vm0 : Vm) (k0 : Nat) (L : List Loc), Stand p l e R (s.setVm vm0) m args below meth c T L k n ∧ T.heap = h ∧ s.Since vm0 k0 ∧ k0 ≤ h.size ∧ Z.Warmed39 vm0 ∧ vm0.findClass own = some m.cls ∧ CHr Z EL s.vm s.heap vm0 h ∧ (∀ x ∈ sf, x < h.size ∧ Safe Z EL vm0 h x) ∧ Fr Z.heap.size L
/-- from the state st the invocation ends, with Q of its value and heap -/
def Go (p : Program) (e : Env) (below : List Frame) (s : State) (Z : State) (EL : List (String × Nat)) (rc rs : Nat) (Q : Option Value → Heap → Prop) (st : State) : Prop :=
  ∃ t o, Steps p.tables e below st t ∧ t.status = .running ∧ Ended t below o ∧ ∃ v L, o = .returned v ∧ (Q v t.heap ∧ Fr Z.heap.size L) ∧ CHr Z EL s.vm s.heap t.vm t.heap ∧ ReturnedEndW s o t L rc rs
/-- a method's contract: at these arguments and this heap it ends, with Q of its value and heap -/
def Con (l : Launch) (Z : State) (EL : List (String × Nat)) (sf : List Addr) (y : MethodName) (bytes : ByteArray) (maxL : Nat) (ret : Option FieldType) (ws : List Cond) (rm : Room) (as' : Array Value) (h : Heap) (Q : Option Value → Heap → Prop) : Prop :=
  MetFree l y (head1 (Cond.code y bytes maxL ret :: ws) rm) (fun a U => a = as' ∧ Z.Warmed39 U.vm ∧ U.heap = h ∧ CHv Z EL U.vm h ∧ ∀ x ∈ sf, Safe Z EL U.vm h x) (fun _ _ _ _ _ => True) (fun _ U o U' => ∃ v L, o = .returned v ∧ (Q v U'.heap ∧ Fr Z.heap.size L) ∧ CHr Z EL U.vm U.heap U'.vm U'.heap ∧ ReturnedEndW U o U' L rm.cells rm.slots)
theorem Go.by {st st' : State} (q : ∀ t, Steps p.tables e below st' t → Steps p.tables e below st t) (f : Go p e below s Z EL rc rs Q st') : Go p e below s Z EL rc rs Q st := by
  obtain ⟨t, o, h1, r⟩ := f; exact ⟨t, o, q t h1, r⟩
theorem Go.of {st st' : State} (q : Steps p.tables e below st st') (f : Go p e below s Z EL rc rs Q st') : Go p e below s Z EL rc rs Q st := f.by fun t r => q.trans r
theorem Wk.hx (W : Wk p l e R s m args below meth c Z a0 EL own sf T h k n) : p.tables.exec = Jvm.exec := W.1
theorem Wk.here (W : Wk p l e R s m args below meth c Z a0 EL own sf T h k n) : At T m c below := by obtain ⟨-, -, -, -, vm0, k0, L, X, -⟩ := W; exact X.here
theorem Wk.old (W : Wk p l e R s m args below meth c Z a0 EL own sf T h k n) : Ext Z.heap h := by
  obtain ⟨-, -, -, hE, vm0, k0, L, X, rfl, -, -, -, -, -, -, N⟩ := W
  refine ⟨Nat.le_trans hE.1 X.same.2.1, fun b cl hb => ?_⟩
  obtain ⟨c', h1, h2, -, h4⟩ := X.same.2.2.2.2.2 b cl (hE.2 b cl hb)
  have hlt := (Array.getElem?_eq_some_iff.mp hb).1
  have hsl : c'.slots = cl.slots := Array.ext_getElem? fun i => h4 i fun hm => absurd (N _ hm) (Nat.not_le.mpr hlt)
  have hcc : c' = cl := by rw [h2, hsl]
  rw [← hcc]; exact h1
theorem Wk.mono (W : Wk p l e R s m args below meth c Z a0 EL own sf T h k n) (hk : k ≤ k') (hn : n ≤ n') : Wk p l e R s m args below meth c Z a0 EL own sf T h k' n' := by
  obtain ⟨w1, w2, w3, w4, vm0, k0, L, X, r⟩ := W; exact ⟨w1, w2, w3, w4, vm0, k0, L, X.mono hk hn, r⟩
theorem Wk.less {sf' : List Addr} (W : Wk p l e R s m args below meth c Z a0 EL own sf T h k n) (q : ∀ x ∈ sf', x ∈ sf) : Wk p l e R s m args below meth c Z a0 EL own sf' T h k n := by
  obtain ⟨w1, w2, w3, w4, vm0, k0, L, X, r1, r2, r3, r4, r5, r6, r7, r8⟩ := W; exact ⟨w1, w2, w3, w4, vm0, k0, L, X, r1, r2, r3, r4, r5, r6, fun x hx => r7 x (q x hx), r8⟩
/-- what is safe by its class -/
theorem Wk.safeE {C : String} {x : Addr} (W : Wk p l e R s m args below meth c Z a0 EL own sf T h k n) (E : Exa Z h x C) (h1 : C ≠ "java/lang/String") (h2 : C ≠ "[B") : Wk p l e R s m args below meth c Z a0 EL own (x :: sf) T h k n := by
  obtain ⟨w1, w2, w3, w4, vm0, k0, L, X, r1, r2, r3, r4, r5, r6, r7, r8⟩ := W
  exact ⟨w1, w2, w3, w4, vm0, k0, L, X, r1, r2, r3, r4, r5, r6, fun y hy => by
    rcases List.mem_cons.mp hy with rfl | hy
    · exact ⟨E.lt, Safe.exa r4.alike E h1 h2⟩
    · exact r7 y hy, r8⟩
/-- a contract by its body's walk -/
theorem Con.mk {y : MethodName} {bytes : ByteArray} {maxL : Nat} {ret : Option FieldType} {ws : List Cond} {rm : Room} {as' : Array Value} (hp : plainFor y = true) (hEL : EW Z a0 EL) (hE : Ext Z.heap h) (hsf : ∀ x ∈ sf, x < h.size)
    (body : ∀ (p : Program) (e : Env) (s : State) (m : MethodId) (below : List Frame) (meth : Method) (c : Code) (T : State), c.code = bytes → c.maxLocals = maxL → meth.sig.returnType = ret → meth.name = y.name → Wk p l e rm s m as' below meth c Z a0 EL y.cls sf T h 0 0 → Go p e below s Z EL rm.cells rm.slots Q (T.setTop (entryFrame m as' maxL))) :
    Con l Z EL sf y bytes maxL ret ws rm as' h Q := by
  refine MetFree.of_bodySF hp hisR ?_
  intro p e s m args below meth c s₁ Bd hml0 hP hK
  obtain ⟨rfl, hZ, hh, hC, hS⟩ := hP
  have X0 : Stand p l e rm s m args below meth c s₁ [] 0 0 := Stand.of_body Bd
  have e0 : s₁.heap = h := by rw [← hh, Bd.state]; rfl
  subst hh
  obtain ⟨t, o, h1, h2, h3, h4⟩ := body p e s m below meth c s₁ Bd.bytes hml0 Bd.returns (name_of_methodNamed Bd.named Bd.method).1
    ⟨Bd.exec, Bd.notSynchronized, hEL, hE, s.vm, 0, [], X0, e0, (State.WarmedH.refl s).since 0, Nat.zero_le _, hZ, findClass_of_methodNamed Bd.named, CHr.refl hC, fun x hx => ⟨hsf x hx, hS x hx⟩, Fr.nil _⟩
  exact ⟨t, o, h1, h2, h3, h4⟩
/-! returns -/
theorem Wk.ret {st : State} {v : Option Value} (W : Wk p l e R s m args below meth c Z a0 EL own sf T h k n) (hk : k ≤ rc) (hn : n ≤ rs) (hv : meth.sig.returnType = none → v = none) (q : Q v h)
    (go : ∀ {L : List Loc} {vm0 : Vm}, Stand p l e R (s.setVm vm0) m args below meth c T L k n → ∀ fs : List Frame, (∀ (f : JFrame) (acts : List Action), f.method = m → f.locked = none → f.entered = [] → (doReturn e (T.setTop f) acts v).1 = T.setFrames fs) → Steps p.tables e below st (T.setFrames fs)) : Go p e below s Z EL rc rs Q st := by
  obtain ⟨w1, w2, w3, w4, vm0, k0, L, X, rfl, r2, r3, r4, r5, r6, r7, r8⟩ := W
  obtain ⟨fs, hr, hrun, hended, hW⟩ := (X.mono hk hn).leaveW r2 r3 hv w2
  have hc : CHr Z EL s.vm s.heap T.vm T.heap := r6.trans (CHv.at X r4 w3 r6.1)
  exact ⟨_, _, go X fs hr, hrun, hended, v, L, rfl, ⟨q, r8⟩, hc, hW⟩
theorem Wk.retV (W : Wk p l e R s m args below meth c Z a0 EL own sf T h k n) (hk : k ≤ rc) (hn : n ≤ rs) (hret : meth.sig.returnType = none) (hd : decode c.code pc = .ok (.return_, 1)) (q : Q none h) : Go p e below s Z EL rc rs Q (T.setTop (mkF m pc Ls [])) :=
  W.ret hk hn (fun _ => rfl) q fun X fs hr => X.returnOut W.hx hret hd hr
theorem Wk.retN {t : FieldType} {z z' : Int32} (W : Wk p l e R s m args below meth c Z a0 EL own sf T h k n) (hk : k ≤ rc) (hn : n ≤ rs) (hret : meth.sig.returnType = some t) (ht : t = .boolean ∨ t = .byte ∨ t = .char ∨ t = .short) (hd : decode c.code pc = .ok (.ireturn, 1)) (hz : nar t z = z') (q : Q (some (.int z')) h) : Go p e below s Z EL rc rs Q (T.setTop (mkF m pc Ls (.int z :: rest))) := by
  subst hz
  exact W.ret hk hn (fun h => by rw [hret] at h; cases h) q fun X fs hr => Jvm.RoadKit.retN X W.hx hret ht hd hr
theorem Wk.retI {z : Int32} (W : Wk p l e R s m args below meth c Z a0 EL own sf T h k n) (hk : k ≤ rc) (hn : n ≤ rs) (hret : meth.sig.returnType = some .int) (hd : decode c.code pc = .ok (.ireturn, 1)) (q : Q (some (.int z)) h) : Go p e below s Z EL rc rs Q (T.setTop (mkF m pc Ls (.int z :: rest))) :=
  W.ret hk hn (fun h => by rw [hret] at h; cases h) q fun X fs hr => retOut X W.hx hret rfl (Or.inl ⟨rfl, by simp, z, rfl⟩) hd hr
theorem Wk.retA {t : FieldType} {w : Value} (W : Wk p l e R s m args below meth c Z a0 EL own sf T h k n) (hk : k ≤ rc) (hn : n ≤ rs) (hret : meth.sig.returnType = some t) (ht : t.isReference = true) (hw : w.isRef = true) (hd : decode c.code pc = .ok (.areturn, 1)) (q : Q (some w) h) : Go p e below s Z EL rc rs Q (T.setTop (mkF m pc Ls (w :: rest))) :=
  W.ret hk hn (fun h => by rw [hret] at h; cases h) q fun X fs hr => retOut X W.hx hret (by rcases ref_cases hw with rfl | ⟨z, rfl⟩ <;> cases t <;> first | rfl | cases ht) (Or.inr (Or.inr (Or.inr (Or.inr ⟨rfl, ht, hw⟩)))) hd hr
/-! fields -/
theorem Wk.getf {R0 O nm d host : String} {index : Nat} {a : Addr} {v : Value} (W : Wk p l e R s m args below meth c Z a0 EL own sf T h k n) (w : (Cond.fieldLink own index R0 nm d).before a0 Z = true ∨ (Cond.fieldLinkNest own index R0 nm d host).before a0 Z = true) (via : Via Z R0 O nm d) (F : Fld Z h a O nm d v) (hd : decode c.code pc = .ok (.getfield index, 3))
    (go : ∀ T', Wk p l e R s m args below meth c Z a0 EL own sf T' h k n → Go p e below s Z EL rc rs Q (T'.setTop (mkF m (pc + 3) Ls (v :: rest)))) : Go p e below s Z EL rc rs Q (T.setTop (mkF m pc Ls (.ref a :: rest))) := by
  obtain ⟨w1, w2, w3, w4, vm0, k0, L, X, r1, r2, r3, r4, r5, r⟩ := W
  obtain ⟨T', X', e', st⟩ := getF X w1 r4 r5 w via r1 F (g := mkF m pc Ls (.ref a :: rest)) rfl rfl hd
  exact Go.by st (go T' ⟨w1, w2, w3, w4, vm0, k0, L, X', e', r2, r3, r4, r5, r⟩)
theorem Wk.gets {R0 O nm d host : String} {index : Nat} {v : Value} (W : Wk p l e R s m args below meth c Z a0 EL own sf T h k n) (w : (Cond.fieldLink own index R0 nm d).before a0 Z = true ∨ (Cond.fieldLinkNest own index R0 nm d host).before a0 Z = true) (via : Via Z R0 O nm d) (F : Sta Z h O nm d v) (hd : decode c.code pc = .ok (.getstatic index, 3))
    (go : ∀ T', Wk p l e R s m args below meth c Z a0 EL own sf T' h k n → Go p e below s Z EL rc rs Q (T'.setTop (mkF m (pc + 3) Ls (v :: stk)))) : Go p e below s Z EL rc rs Q (T.setTop (mkF m pc Ls stk)) := by
  obtain ⟨w1, w2, w3, w4, vm0, k0, L, X, r1, r2, r3, r4, r5, r⟩ := W
  obtain ⟨T', X', e', st⟩ := getS2 X w1 r4 r5 w via r1 F (g := mkF m pc Ls stk) rfl hd
  exact Go.by st (go T' ⟨w1, w2, w3, w4, vm0, k0, L, X', e', r2, r3, r4, r5, r⟩)
theorem Wk.wrote {a : Addr} {sl : Nat} {v : Value} {T' : State} {L : List Loc} {vm0 : Vm} (hxm : p.tables.exec = Jvm.exec) (hl : meth.locks = false) (hEW : EW Z a0 EL) (hE : Ext Z.heap s.heap) {k0 : Nat} (X' : Stand p l e R (s.setVm vm0) m args below meth c T' (L ++ [⟨a, sl⟩]) k n) (e' : T'.heap = h') (W' : Wr h h' a sl v) (r2 : s.Since vm0 k0) (r3 : k0 ≤ h.size) (r4 : Z.Warmed39 vm0) (r5 : vm0.findClass own = some m.cls) (r6 : CHr Z EL s.vm s.heap vm0 h) (r7 : ∀ x ∈ sf, x < h.size ∧ Safe Z EL vm0 h x) (r8 : Fr Z.heap.size L) (ha : Z.heap.size ≤ a) (hs : a ∈ sf) :
    Wk p l e R s m args below meth c Z a0 EL own sf T' h' k n := by
  have hsz : h'.size = h.size := W'.size
  exact ⟨hxm, hl, hEW, hE, vm0, k0, _, X', e', r2, by rw [hsz]; exact r3, r4, r5, r6.trans (CHr.wr W' (r7 a hs).2 r6.1), fun x hx => ⟨by rw [hsz]; exact (r7 x hx).1, Safe.wr W' (r7 a hs).2 r6.1 (r7 x hx).2⟩, Fr.snoc X' r8 ha⟩
theorem Wk.putf {R0 O nm d host C : String} {index kk : Nat} {ty : FieldType} {a : Addr} {v old : Value} (W : Wk p l e R s m args below meth c Z a0 EL own sf T h k n) (w : (Cond.fieldLink own index R0 nm d).before a0 Z = true ∨ (Cond.fieldLinkNest own index R0 nm d host).before a0 Z = true) (via : Via Z R0 O nm d) (F : Fld Z h a O nm d old) (E : Exa Z h a C) (Lw : (Cond.lays C O nm d).before a0 Z = true ∨ ((Cond.laysFinal C O nm d).before a0 Z = true ∧ own = O ∧ meth.name = "<init>")) (wi : (Cond.instantiable C kk).before a0 Z = true)
    (hty : parseFieldDescriptor d = some ty) (hn : narrow ty v = v) (hf : fits ty v = true) (ha : Z.heap.size ≤ a) (hs : a ∈ sf) (hd : decode c.code pc = .ok (.putfield index, 3))
    (go : ∀ T' h', Wk p l e R s m args below meth c Z a0 EL own sf T' h' k n → Wr h h' a (RoadKit.slotOf Z O nm d) v → Go p e below s Z EL rc rs Q (T'.setTop (mkF m (pc + 3) Ls rest))) : Go p e below s Z EL rc rs Q (T.setTop (mkF m pc Ls (v :: .ref a :: rest))) := by
  obtain ⟨w1, w2, w3, w4, vm0, k0, L, X, r1, r2, r3, r4, r5, r6, r7, r8⟩ := W
  obtain ⟨T', h', X', e', W', st⟩ := putF X w1 r4 r5 w via r1 F E Lw wi hty hn hf (g := mkF m pc Ls (v :: .ref a :: rest)) rfl rfl hd
  exact Go.by st (go T' h' (Wk.wrote w1 w2 w3 w4 X' e' W' r2 r3 r4 r5 r6 r7 r8 ha hs) W')
theorem Wk.putfn {R0 O nm d C : String} {index kk : Nat} {ty : FieldType} {a : Addr} {v v' old : Value} (W : Wk p l e R s m args below meth c Z a0 EL own sf T h k n) (w : (Cond.fieldLink own index R0 nm d).before a0 Z = true) (via : Via Z R0 O nm d) (F : Fld Z h a O nm d old) (E : Exa Z h a C) (Lw : (Cond.lays C O nm d).before a0 Z = true ∨ ((Cond.laysFinal C O nm d).before a0 Z = true ∧ own = O ∧ meth.name = "<init>")) (wi : (Cond.instantiable C kk).before a0 Z = true)
    (hty : parseFieldDescriptor d = some ty) (hn : narrow ty v = v') (hf : fits ty v' = true) (ha : Z.heap.size ≤ a) (hs : a ∈ sf) (hd : decode c.code pc = .ok (.putfield index, 3))
    (go : ∀ T' h', Wk p l e R s m args below meth c Z a0 EL own sf T' h' k n → Wr h h' a (RoadKit.slotOf Z O nm d) v' → Go p e below s Z EL rc rs Q (T'.setTop (mkF m (pc + 3) Ls rest))) : Go p e below s Z EL rc rs Q (T.setTop (mkF m pc Ls (v :: .ref a :: rest))) := by
  obtain ⟨w1, w2, w3, w4, vm0, k0, L, X, r1, r2, r3, r4, r5, r6, r7, r8⟩ := W
  obtain ⟨T', h', X', e', W', st⟩ := putFN X w1 r4 r5 w via r1 F E Lw wi hty hn hf (g := mkF m pc Ls (v :: .ref a :: rest)) rfl rfl hd
  exact Go.by st (go T' h' (Wk.wrote w1 w2 w3 w4 X' e' W' r2 r3 r4 r5 r6 r7 r8 ha hs) W')
/-! making -/
theorem Wk.grew {x : Addr} {T' : State} {L : List Loc} {vm0 : Vm} {k0 : Nat} (hxm : p.tables.exec = Jvm.exec) (hl : meth.locks = false) (hEW : EW Z a0 EL) (hE : Ext Z.heap s.heap) (X' : Stand p l e R (s.setVm vm0) m args below meth c T' L k' n') (e' : T'.heap = h') (E : Ext h h') (hx : x < h'.size) (hn : h.size ≤ x) (r2 : s.Since vm0 k0) (r3 : k0 ≤ h.size) (r4 : Z.Warmed39 vm0) (r5 : vm0.findClass own = some m.cls) (r6 : CHr Z EL s.vm s.heap vm0 h) (r7 : ∀ x ∈ sf, x < h.size ∧ Safe Z EL vm0 h x) (r8 : Fr Z.heap.size L) :
    Wk p l e R s m args below meth c Z a0 EL own (x :: sf) T' h' k' n' :=
  ⟨hxm, hl, hEW, hE, vm0, k0, L, X', e', r2, Nat.le_trans r3 E.1, r4, r5, r6.trans (CHr.ext E r6.1), fun y hy => by
    rcases List.mem_cons.mp hy with rfl | hy
    · exact ⟨hx, Safe.ext E r6.1 (Safe.new hn)⟩
    · exact ⟨Nat.lt_of_lt_of_le (r7 y hy).1 E.1, Safe.ext E r6.1 (r7 y hy).2⟩, r8⟩
theorem Wk.new {C : String} {index N : Nat} (W : Wk p l e R s m args below meth c Z a0 EL own sf T h k n) (w : (Cond.classLink own index C).before a0 Z = true) (wi : (Cond.instantiable C N).before a0 Z = true) (wz : (Cond.initialized C).before a0 Z = true) (hd : decode c.code pc = .ok (.new index, 3)) (ek : k + 1 = k') (en : n + N = n') (hk : k' ≤ R.cells) (hn : n' ≤ R.slots)
    (go : ∀ T' h' x, Wk p l e R s m args below meth c Z a0 EL own (x :: sf) T' h' k' n' → Ext h h' → h.size = x → Z.heap.size ≤ x → Exa Z h' x C → (∀ {O nm d : String} {ty : FieldType}, Laid Z a0 C O nm d → parseFieldDescriptor d = some ty → Fld Z h' x O nm d (defaultValue ty)) → Go p e below s Z EL rc rs Q (T'.setTop (mkF m (pc + 3) Ls (.ref x :: stk)))) : Go p e below s Z EL rc rs Q (T.setTop (mkF m pc Ls stk)) := by
  have hO := W.old
  obtain ⟨w1, w2, w3, w4, vm0, k0, L, X, r1, r2, r3, r4, r5, r6, r7, r8⟩ := W
  subst ek en
  obtain ⟨T', h', X', e', E, A, D, -, st⟩ := newO X w1 r4 r5 w wi wz r1 (g := mkF m pc Ls stk) rfl hd hk hn
  exact Go.by st (go T' h' _ (Wk.grew w1 w2 w3 w4 X' e' E A.lt (Nat.le_refl _) r2 r3 r4 r5 r6 r7 r8) E rfl hO.1 A D)
theorem Wk.newp {aty : ArrayType} {z : Int32} {cap : Nat} {ad : String} (W : Wk p l e R s m args below meth c Z a0 EL own sf T h k n) (w : (Cond.arrayClass (newarray.typeOf aty)).before a0 Z = true) (hd : decode c.code pc = .ok (.newarray aty, 2)) (hz : ¬ z < 0) (hcap : z.toNatClampNeg ≤ cap) (hb : cap * 8 ≤ 536870912) (ek : k + 1 = k') (en : n + cap = n') (hk : k' ≤ R.cells) (hn : n' ≤ R.slots) (had : "[" ++ (newarray.typeOf aty).toString = ad)
    (go : ∀ T' h' x kA, Wk p l e R s m args below meth c Z a0 EL own (x :: sf) T' h' k' n' → Ext h h' → h.size = x → Z.heap.size ≤ x → Exa Z h' x ad → Arv Z h' x kA (newarray.typeOf aty) z [] (defaultValue (newarray.typeOf aty)) → Go p e below s Z EL rc rs Q (T'.setTop (mkF m (pc + 2) Ls (.ref x :: rest)))) : Go p e below s Z EL rc rs Q (T.setTop (mkF m pc Ls (.int z :: rest))) := by
  have hO := W.old
  obtain ⟨w1, w2, w3, w4, vm0, k0, L, X, r1, r2, r3, r4, r5, r6, r7, r8⟩ := W
  subst ek en
  obtain ⟨T', h', cA, X', e', E, A, D, st⟩ := newPE X w1 r4 w r1 (g := mkF m pc Ls (.int z :: rest)) rfl hd rfl hz hcap hb hk hn had
  exact Go.by st (go T' h' _ cA (Wk.grew w1 w2 w3 w4 X' e' E D.lt (Nat.le_refl _) r2 r3 r4 r5 r6 r7 r8) E rfl hO.1 D (Arv.new A hz))
theorem Wk.newr {C : String} {index : Nat} {z : Int32} {cap : Nat} {ad : String} (W : Wk p l e R s m args below meth c Z a0 EL own sf T h k n) (wl : (Cond.classLink own index C).before a0 Z = true) (w : (Cond.arrayOver (.object C)).before a0 Z = true) (hd : decode c.code pc = .ok (.anewarray index, 3)) (hz : ¬ z < 0) (hcap : z.toNatClampNeg ≤ cap) (hb : cap * 8 ≤ 536870912) (ek : k + 1 = k') (en : n + cap = n') (hk : k' ≤ R.cells) (hn : n' ≤ R.slots) (had : "[" ++ (FieldType.object C).toString = ad)
    (go : ∀ T' h' x kA, Wk p l e R s m args below meth c Z a0 EL own (x :: sf) T' h' k' n' → Ext h h' → h.size = x → Z.heap.size ≤ x → Exa Z h' x ad → Arv Z h' x kA (.object C) z [] .null → Ovr Z kA C → Go p e below s Z EL rc rs Q (T'.setTop (mkF m (pc + 3) Ls (.ref x :: rest)))) : Go p e below s Z EL rc rs Q (T.setTop (mkF m pc Ls (.int z :: rest))) := by
  have hO := W.old
  obtain ⟨w1, w2, w3, w4, vm0, k0, L, X, r1, r2, r3, r4, r5, r6, r7, r8⟩ := W
  subst ek en
  obtain ⟨T', h', cA, X', e', E, A, D, O, st⟩ := newRE X w1 r4 r5 wl w r1 (g := mkF m pc Ls (.int z :: rest)) rfl hd rfl hz hcap hb hk hn had
  exact Go.by st (go T' h' _ cA (Wk.grew w1 w2 w3 w4 X' e' E D.lt (Nat.le_refl _) r2 r3 r4 r5 r6 r7 r8) E rfl hO.1 D (Arv.new A hz) O)
theorem Wk.initO {index Wt : Nat} {a : Addr} (W : Wk p l e R s m args below meth c Z a0 EL own sf T h k n) (w1 : (Cond.methodLink own index Lib.objectInit).before a0 Z = true) (w2 : (Cond.instanceMethod Lib.objectInit).before a0 Z = true) (w3 : (Cond.code Lib.objectInit ⟨#[0xb1]⟩ 1 none).before a0 Z = true) (hsz : Ls.size = c.maxLocals) (hd : decode c.code pc = .ok (.invokespecial index, 3)) (hf : 1 ≤ R.frames) (hW : (rest.map fun v => v.category).sum ≤ Wt) (hl : Wt + 12 ≤ R.locals)
    (go : ∀ T', Wk p l e R s m args below meth c Z a0 EL own sf T' h k n → Go p e below s Z EL rc rs Q (T'.setTop (mkF m (pc + 3) Ls rest))) : Go p e below s Z EL rc rs Q (T.setTop (mkF m pc Ls (.ref a :: rest))) := by
  obtain ⟨u1, u2, u3, u4, vm0, k0, L, X, r1, r2, r3, r4, r5, r⟩ := W
  obtain ⟨T', X', e', st⟩ := Jvm.RoadKit.initO X u1 r4 r5 w1 w2 w3 r1 (g := mkF m pc Ls (.ref a :: rest)) rfl hsz rfl hd hf (W := Wt) (by show 2 * 0 + _ ≤ _; omega) hl
  exact Go.by st (go T' ⟨u1, u2, u3, u4, vm0, k0, L, X', e', r2, r3, r4, r5, r⟩)
/-! calls -/
theorem backK {y : MethodName} {bytes : ByteArray} {maxL : Nat} {ret : Option FieldType} {rm : Room} {len Wt : Nat} {as' : Array Value} {vm0 : Vm} {sf' : List Addr} {Qc : Option Value → Heap → Prop}
    (hM : Con l Z EL sf' y bytes maxL ret [] rm as' h Qc) (hZ : Z.Warmed39 vm0) (wc : (Cond.code y bytes maxL ret).before a0 Z = true) (wz : (Cond.initialized y.cls).before a0 Z = true) (hf : rm.frames + 1 ≤ R.frames) (hl : Wt + (maxL + 11) + rm.locals ≤ R.locals) (hEL : EW Z a0 EL) (H : CHv Z EL vm0 h) (hsf : ∀ x ∈ sf', x < h.size ∧ Safe Z EL vm0 h x) :
    BackS l R p e below (s.setVm vm0) args y len Wt (fun A a => a = as' ∧ A.U.heap = h ∧ A.cells + rm.cells ≤ R.cells ∧ A.slots + rm.slots ≤ R.slots)
      (fun A _ v B => ∃ L, (Qc v B.U.heap ∧ Fr Z.heap.size L) ∧ B.locs = A.locs ++ L ∧ B.cells = A.cells + rm.cells ∧ B.slots = A.slots + rm.slots ∧ CHr Z EL vm0 h B.U.vm B.U.heap) :=
  BackS.of_freeW (bytes := bytes) (maxL := maxL) (ret := ret) (E := fun _ first o t L k n => k = rm.cells ∧ n = rm.slots ∧ (∃ v, o = .returned v ∧ (Qc v t.heap ∧ Fr Z.heap.size L)) ∧ CHr Z EL first.vm first.heap t.vm t.heap) hM hf hl
    (fun m meth c A a Y hp => have hU : Z.Warmed39 A.U.vm := wtrans (s := s.setVm vm0) hZ Y.warmed
      ⟨by show (Cond.and _ .tt).before a A.U = true; rw [Cond.before_and, mv hU wc]; rfl, mv hU wc, mv hU wz, hp.2.2.1, hp.2.2.2⟩)
    (fun m meth c A a g mk Y hp => ⟨hp.1, wtrans (s := s.setVm vm0) hZ Y.warmed, hp.2.1, (CHv.at Y hZ hEL H).1, fun x hx => (CHv.at Y hZ hEL H).safe (hsf x hx).1 (hsf x hx).2⟩) (fun _ _ _ _ _ _ _ _ _ => trivial)
    (fun _ _ _ _ ⟨v, L, h1, h2, h3, h4⟩ => ⟨L, _, _, h4, rfl, rfl, ⟨v, h1, h2⟩, h3⟩)
    (fun m meth c A a g mk v t L k n Y hp _ _ ⟨e1, e2, ⟨v', e3, e4⟩, e5⟩ => by
      cases e3; subst e1 e2
      refine ⟨L, e4, rfl, rfl, rfl, (CHv.at Y hZ hEL H).trans ?_⟩
      rw [← hp.2.1]; exact e5)
theorem Wk.came {B : Pt} {v : Option Value} {rm : Room} {vm0 : Vm} {k0 : Nat} {L Lc : List Loc} {Qc : Option Value → Heap → Prop} (hxm : p.tables.exec = Jvm.exec) (hl : meth.locks = false) (hEW : EW Z a0 EL) (hE : Ext Z.heap s.heap) (X' : Stand p l e R ((s.setVm vm0).setVm B.U.vm) m args below meth c B.U B.locs B.cells B.slots) (hS : (s.setVm vm0).Since B.U.vm B.U.heap.size) (hg : h.size ≤ B.U.heap.size)
    (q : (Qc v B.U.heap ∧ Fr Z.heap.size Lc) ∧ B.locs = L ++ Lc ∧ B.cells = k + rm.cells ∧ B.slots = n + rm.slots ∧ CHr Z EL vm0 h B.U.vm B.U.heap) (r2 : s.Since vm0 k0) (r3 : k0 ≤ h.size) (r4 : Z.Warmed39 vm0) (r5 : vm0.findClass own = some m.cls) (r6 : CHr Z EL s.vm s.heap vm0 h) (r7 : ∀ x ∈ sf, x < h.size ∧ Safe Z EL vm0 h x) (r8 : Fr Z.heap.size L) (ek : k + rm.cells = k') (en : n + rm.slots = n') :
    Wk p l e R s m args below meth c Z a0 EL own sf B.U B.U.heap k' n' := by
  obtain ⟨⟨q1, q2⟩, q3, q4, q5, q6⟩ := q
  rw [q3, q4, q5, ek, en] at X'
  obtain ⟨Y1, Y2, Y3, Y4⟩ := rebS r2 r3 X' hS hg r4 r5
  exact ⟨hxm, hl, hEW, hE, _, _, _, Y1, rfl, Y2, Nat.le_refl _, Y3, Y4, r6.trans q6, fun x hx => ⟨Nat.lt_of_lt_of_le (r7 x hx).1 hg, q6.safe (r7 x hx).1 (r7 x hx).2⟩, r8.app q2⟩
theorem Wk.callS {y : MethodName} {index Wt maxL : Nat} {bytes : ByteArray} {ret : Option FieldType} {rm : Room} {as' : Array Value} {sf' : List Addr} {argsL : List Value} {Qc : Option Value → Heap → Prop} (W : Wk p l e R s m args below meth c Z a0 EL own sf T h k n) (w1 : (Cond.methodLink own index y).before a0 Z = true) (w2 : (Cond.static y).before a0 Z = true) (w3 : (Cond.initialized y.cls).before a0 Z = true) (w4 : (Cond.code y bytes maxL ret).before a0 Z = true) (hy : y.cls ≠ "java/lang/invoke/MethodHandle" ∧ y.cls ≠ "java/lang/invoke/VarHandle")
    (hM : Con l Z EL sf' y bytes maxL ret [] rm as' h Qc) (hsf : ∀ x ∈ sf', x ∈ sf) (hf : rm.frames + 1 ≤ R.frames) (hl : Wt + (maxL + 11) + rm.locals ≤ R.locals) (ek : k + rm.cells = k') (en : n + rm.slots = n') (hk : k' ≤ R.cells) (hn : n' ≤ R.slots) (hsz : Ls.size = c.maxLocals) (hlen : ∀ sig, parseMethodDescriptor y.desc = some sig → argsL.length = sig.parameters.length) (hst : stk = argsL.reverse ++ rest) (has : argsL.toArray = as') (hW : (rest.map fun v => v.category).sum ≤ Wt) (hd : decode c.code pc = .ok (.invokestatic index, 3))
    (go : ∀ v T' h', Wk p l e R s m args below meth c Z a0 EL own sf T' h' k' n' → Qc v h' → Go p e below s Z EL rc rs Q (T'.setTop (mkF m (pc + 3) Ls (v.toList ++ rest)))) : Go p e below s Z EL rc rs Q (T.setTop (mkF m pc Ls stk)) := by
  obtain ⟨u1, u2, u3, u4, vm0, k0, L, X, rfl, r2, r3, r4, r5, r6, r7, r8⟩ := W
  obtain ⟨v, vm₁, B, -, X', hS, hg, ⟨Lc, q⟩, st⟩ := callSS X u1 (y := y) r5 (mvT (s := s.setVm vm0) r4 w1) (mvT (s := s.setVm vm0) r4 w2) (mvT (s := s.setVm vm0) r4 w3) (mvT (s := s.setVm vm0) r4 w4) hy (backK (Wt := Wt) hM r4 w4 w3 hf hl u3 r6.1 fun x hx => r7 x (hsf x hx)) (g := mkF m pc Ls stk) rfl hsz (argsL := argsL) (rest := rest) hlen hst (by show 2 * 0 + _ ≤ _; omega) hd (fun _ _ => ⟨has, rfl, by rw [ek]; exact hk, by rw [en]; exact hn⟩)
  exact Go.of st (go v B.U B.U.heap (Wk.came u1 u2 u3 u4 X' hS hg q r2 r3 r4 r5 r6 r7 r8 ek en) q.1.1)
theorem Wk.callI {y : MethodName} {index Wt maxL : Nat} {bytes : ByteArray} {rm : Room} {as' : Array Value} {sf' : List Addr} {a : Addr} {argsL : List Value} {Qc : Option Value → Heap → Prop} (W : Wk p l e R s m args below meth c Z a0 EL own sf T h k n) (hy1 : y.name = "<init>") (w1 : (Cond.methodLink own index y).before a0 Z = true) (w2 : (Cond.instanceMethod y).before a0 Z = true) (w3 : (Cond.initialized y.cls).before a0 Z = true) (w4 : (Cond.code y bytes maxL none).before a0 Z = true) (hy : y.cls ≠ "java/lang/invoke/MethodHandle" ∧ y.cls ≠ "java/lang/invoke/VarHandle")
    (hM : Con l Z EL sf' y bytes maxL none [] rm as' h Qc) (hsf : ∀ x ∈ sf', x ∈ sf) (hf : rm.frames + 1 ≤ R.frames) (hl : Wt + (maxL + 11) + rm.locals ≤ R.locals) (ek : k + rm.cells = k') (en : n + rm.slots = n') (hk : k' ≤ R.cells) (hn : n' ≤ R.slots) (hsz : Ls.size = c.maxLocals) (hlen : ∀ sig, parseMethodDescriptor y.desc = some sig → argsL.length = sig.parameters.length) (hst : stk = argsL.reverse ++ .ref a :: rest) (has : (.ref a :: argsL).toArray = as') (hW : (rest.map fun v => v.category).sum ≤ Wt) (hd : decode c.code pc = .ok (.invokespecial index, 3))
    (go : ∀ v T' h', Wk p l e R s m args below meth c Z a0 EL own sf T' h' k' n' → Qc v h' → Go p e below s Z EL rc rs Q (T'.setTop (mkF m (pc + 3) Ls (v.toList ++ rest)))) : Go p e below s Z EL rc rs Q (T.setTop (mkF m pc Ls stk)) := by
  obtain ⟨u1, u2, u3, u4, vm0, k0, L, X, rfl, r2, r3, r4, r5, r6, r7, r8⟩ := W
  obtain ⟨v, vm₁, B, -, X', hS, hg, ⟨Lc, q⟩, st⟩ := X.specialBackS u1 (y := y) hy1 r5 (mvT (s := s.setVm vm0) r4 w1) (mvT (s := s.setVm vm0) r4 w2) (mvT (s := s.setVm vm0) r4 w4) hy (backK (Wt := Wt) hM r4 w4 w3 hf hl u3 r6.1 fun x hx => r7 x (hsf x hx)) (g := mkF m pc Ls stk) rfl hsz (Steps.refl _) (a := a) (argsL := argsL) (rest := rest) hlen hst (by show 2 * 0 + _ ≤ _; omega) hd (fun _ _ => ⟨has, rfl, by rw [ek]; exact hk, by rw [en]; exact hn⟩)
  exact Go.of st (go v B.U B.U.heap (Wk.came u1 u2 u3 u4 X' hS hg q r2 r3 r4 r5 r6 r7 r8 ek en) q.1.1)
theorem Wk.callV {y z : MethodName} {index Wt maxL : Nat} {C : String} {bytes : ByteArray} {ret : Option FieldType} {rm : Room} {as' : Array Value} {sf' : List Addr} {a : Addr} {argsL : List Value} {Qc : Option Value → Heap → Prop} (W : Wk p l e R s m args below meth c Z a0 EL own sf T h k n) (w1 : (Cond.methodLink own index y).before a0 Z = true) (w2 : (Cond.declares y).before a0 Z = true) (hnf : ∀ vm : Vm, Z.Warmed39 vm → NotFace (s.setVm vm) y) (w3 : (Cond.selects C y z).before a0 Z = true) (w5 : (Cond.instanceMethod z).before a0 Z = true) (w6 : (Cond.initialized z.cls).before a0 Z = true) (w4 : (Cond.code z bytes maxL ret).before a0 Z = true) (hy : y.cls ≠ "java/lang/invoke/MethodHandle" ∧ y.cls ≠ "java/lang/invoke/VarHandle") (E : Exa Z h a C)
    (hM : Con l Z EL sf' z bytes maxL ret [] rm as' h Qc) (hsf : ∀ x ∈ sf', x ∈ sf) (hf : rm.frames + 1 ≤ R.frames) (hl : Wt + (maxL + 11) + rm.locals ≤ R.locals) (ek : k + rm.cells = k') (en : n + rm.slots = n') (hk : k' ≤ R.cells) (hn : n' ≤ R.slots) (hsz : Ls.size = c.maxLocals) (hlen : ∀ sig, parseMethodDescriptor y.desc = some sig → argsL.length = sig.parameters.length) (hst : stk = argsL.reverse ++ .ref a :: rest) (has : (.ref a :: argsL).toArray = as') (hW : (rest.map fun v => v.category).sum ≤ Wt) (hd : decode c.code pc = .ok (.invokevirtual index, 3))
    (go : ∀ v T' h', Wk p l e R s m args below meth c Z a0 EL own sf T' h' k' n' → Qc v h' → Go p e below s Z EL rc rs Q (T'.setTop (mkF m (pc + 3) Ls (v.toList ++ rest)))) : Go p e below s Z EL rc rs Q (T.setTop (mkF m pc Ls stk)) := by
  obtain ⟨u1, u2, u3, u4, vm0, k0, L, X, rfl, r2, r3, r4, r5, r6, r7, r8⟩ := W
  obtain ⟨cq, kq, qa, qb, qc⟩ := isOf (s := s.setVm vm0) (T := T) r4 rfl E
  obtain ⟨v, vm₁, B, -, X', hS, hg, ⟨Lc, q⟩, st⟩ := X.virtualBackS u1 (y := y) (z := z) r5 (mvT (s := s.setVm vm0) r4 w1) (mvT (s := s.setVm vm0) r4 w2) (hnf vm0 r4) (mvT (s := s.setVm vm0) r4 w3) (mvT (s := s.setVm vm0) r4 w5) hy (backK (Wt := Wt) hM r4 w4 w6 hf hl u3 r6.1 fun x hx => r7 x (hsf x hx)) qa qc (g := mkF m pc Ls stk) rfl hsz (Steps.refl _) (argsL := argsL) (rest := rest) hlen hst (by show 2 * 0 + _ ≤ _; omega) hd (fun _ _ => ⟨has, rfl, by rw [ek]; exact hk, by rw [en]; exact hn⟩)
  exact Go.of st (go v B.U B.U.heap (Wk.came u1 u2 u3 u4 X' hS hg q r2 r3 r4 r5 r6 r7 r8 ek en) q.1.1)
theorem nf_sel {y z : MethodName} {C : String} (hyz : y = z) (w3 : (Cond.selects C y z).before a0 Z = true) : ∀ vm : Vm, Z.Warmed39 vm → NotFace (s.setVm vm) y := fun vm hv => by
  subst hyz; exact notFace_of_selects (args := #[]) (mvT (s := s.setVm vm) hv w3)
theorem cat1 {v : Value} (h : v.isRef = true) : v.category = 1 := by cases v <;> simp [Value.isRef, Value.category] at h ⊢
theorem fits_ref_of {ty : FieldType} {v : Value} (h : v.isRef = true) (ht : ty.isReference = true := by rfl) : fits ty v = true := by cases ty <;> first | (cases ht; done) | (cases v <;> simp [fits, Value.isRef] at h ⊢)
theorem narrow_ref_of {ty : FieldType} {v : Value} (h : v.isRef = true) : narrow ty v = v := by cases v <;> first | (simp [Value.isRef] at h; done) | (cases ty <;> rfl)
theorem iremW {tb : Tables} [Ours tb] {target : State} {g : JFrame} (hh : At T m c below) (hx : tb.exec = Jvm.exec) (hg : g.method = m) {x y : Int32} (hd : decode c.code g.pc = .ok (.irem, 1)) (hs : g.stack = .int y :: .int x :: rest) (hy : y ≠ 0) (hr : Steps tb e below (T.setTop { g with pc := g.pc + 1, stack := .int (x % y) :: rest }) target) : Steps tb e below (T.setTop g) target := by
  have q : x - x / y * y = x % y := irem_eq_mod x y
  exact XS.irem hh hx hg hd hs hy (by rw [q]; exact hr)
theorem acmpW {g : JFrame} {target : State} (W : Wk p l e R s m args below meth c Z a0 EL own sf T h k n) (hg : g.method = m) {cd : ACond} {x y : Value} (h1 : x.isRef = true) (h2 : y.isRef = true) {o : Int} {pc0 pc' : Nat} {same : Bool} (hpc : g.pc = pc0) (hd : decode c.code g.pc = .ok (.if_acmp cd o, 3)) (hs : g.stack = y :: x :: rest) (hq : decide (x = y) = same) (ho : 0 ≤ (pc0 : Int) + o) (hp : pc' = if acV cd same = true then ((pc0 : Int) + o).toNat else pc0 + 3)
    (hr : Steps p.tables e below (T.setTop { g with pc := pc', stack := rest }) target) : Steps p.tables e below (T.setTop g) target := by
  obtain ⟨w1, w2, w3, w4, vm0, k0, L, X, r⟩ := W
  exact Jvm.RoadKit.acmp X w1 hg h1 h2 hpc hd hs hq ho hp hr
theorem Wk.retJ {z : Int64} (W : Wk p l e R s m args below meth c Z a0 EL own sf T h k n) (hk : k ≤ rc) (hn : n ≤ rs) (hret : meth.sig.returnType = some .long) (hd : decode c.code pc = .ok (.lreturn, 1)) (q : Q (some (.long z)) h) : Go p e below s Z EL rc rs Q (T.setTop (mkF m pc Ls (.long z :: rest))) :=
  W.ret hk hn (fun h => by rw [hret] at h; cases h) q fun X fs hr => retOut X W.hx hret rfl (Or.inr (Or.inl ⟨rfl, rfl, z, rfl⟩)) hd hr
theorem Wk.callSp {y : MethodName} {index Wt maxL : Nat} {bytes : ByteArray} {ret : Option FieldType} {rm : Room} {as' : Array Value} {sf' : List Addr} {argsL : List Value} {r : Option Value} (W : Wk p l e R s m args below meth c Z a0 EL own sf T h k n) (w1 : (Cond.methodLink own index y).before a0 Z = true) (w2 : (Cond.static y).before a0 Z = true) (w3 : (Cond.initialized y.cls).before a0 Z = true) (w4 : (Cond.code y bytes maxL ret).before a0 Z = true) (hy : y.cls ≠ "java/lang/invoke/MethodHandle" ∧ y.cls ≠ "java/lang/invoke/VarHandle")
    (hM : Con l Z EL sf' y bytes maxL ret [] rm as' h (fun v h' => v = r ∧ h' = h)) (hsf : ∀ x ∈ sf', x ∈ sf) (hf : rm.frames + 1 ≤ R.frames) (hl : Wt + (maxL + 11) + rm.locals ≤ R.locals) (ek : k + rm.cells = k') (en : n + rm.slots = n') (hk : k' ≤ R.cells) (hn : n' ≤ R.slots) (hsz : Ls.size = c.maxLocals) (hlen : ∀ sig, parseMethodDescriptor y.desc = some sig → argsL.length = sig.parameters.length) (hst : stk = argsL.reverse ++ rest) (has : argsL.toArray = as') (hW : (rest.map fun v => v.category).sum ≤ Wt) (hd : decode c.code pc = .ok (.invokestatic index, 3))
    (go : ∀ T', Wk p l e R s m args below meth c Z a0 EL own sf T' h k' n' → Go p e below s Z EL rc rs Q (T'.setTop (mkF m (pc + 3) Ls (r.toList ++ rest)))) : Go p e below s Z EL rc rs Q (T.setTop (mkF m pc Ls stk)) :=
  W.callS w1 w2 w3 w4 hy hM hsf hf hl ek en hk hn hsz hlen hst has hW hd fun v T' h' W' ⟨q1, q2⟩ => by subst q1 q2; exact go T' W'
theorem Wk.callIp {y : MethodName} {index Wt maxL : Nat} {bytes : ByteArray} {rm : Room} {as' : Array Value} {sf' : List Addr} {a : Addr} {argsL : List Value} {r : Option Value} (W : Wk p l e R s m args below meth c Z a0 EL own sf T h k n) (hy1 : y.name = "<init>") (w1 : (Cond.methodLink own index y).before a0 Z = true) (w2 : (Cond.instanceMethod y).before a0 Z = true) (w3 : (Cond.initialized y.cls).before a0 Z = true) (w4 : (Cond.code y bytes maxL none).before a0 Z = true) (hy : y.cls ≠ "java/lang/invoke/MethodHandle" ∧ y.cls ≠ "java/lang/invoke/VarHandle")
    (hM : Con l Z EL sf' y bytes maxL none [] rm as' h (fun v h' => v = r ∧ h' = h)) (hsf : ∀ x ∈ sf', x ∈ sf) (hf : rm.frames + 1 ≤ R.frames) (hl : Wt + (maxL + 11) + rm.locals ≤ R.locals) (ek : k + rm.cells = k') (en : n + rm.slots = n') (hk : k' ≤ R.cells) (hn : n' ≤ R.slots) (hsz : Ls.size = c.maxLocals) (hlen : ∀ sig, parseMethodDescriptor y.desc = some sig → argsL.length = sig.parameters.length) (hst : stk = argsL.reverse ++ .ref a :: rest) (has : (.ref a :: argsL).toArray = as') (hW : (rest.map fun v => v.category).sum ≤ Wt) (hd : decode c.code pc = .ok (.invokespecial index, 3))
    (go : ∀ T', Wk p l e R s m args below meth c Z a0 EL own sf T' h k' n' → Go p e below s Z EL rc rs Q (T'.setTop (mkF m (pc + 3) Ls (r.toList ++ rest)))) : Go p e below s Z EL rc rs Q (T.setTop (mkF m pc Ls stk)) :=
  W.callI hy1 w1 w2 w3 w4 hy hM hsf hf hl ek en hk hn hsz hlen hst has hW hd fun v T' h' W' ⟨q1, q2⟩ => by subst q1 q2; exact go T' W'
theorem Wk.callVp {y z : MethodName} {index Wt maxL : Nat} {C : String} {bytes : ByteArray} {ret : Option FieldType} {rm : Room} {as' : Array Value} {sf' : List Addr} {a : Addr} {argsL : List Value} {r : Option Value} (W : Wk p l e R s m args below meth c Z a0 EL own sf T h k n) (w1 : (Cond.methodLink own index y).before a0 Z = true) (w2 : (Cond.declares y).before a0 Z = true) (hnf : ∀ vm : Vm, Z.Warmed39 vm → NotFace (s.setVm vm) y) (w3 : (Cond.selects C y z).before a0 Z = true) (w5 : (Cond.instanceMethod z).before a0 Z = true) (w6 : (Cond.initialized z.cls).before a0 Z = true) (w4 : (Cond.code z bytes maxL ret).before a0 Z = true) (hy : y.cls ≠ "java/lang/invoke/MethodHandle" ∧ y.cls ≠ "java/lang/invoke/VarHandle") (E : Exa Z h a C)
    (hM : Con l Z EL sf' z bytes maxL ret [] rm as' h (fun v h' => v = r ∧ h' = h)) (hsf : ∀ x ∈ sf', x ∈ sf) (hf : rm.frames + 1 ≤ R.frames) (hl : Wt + (maxL + 11) + rm.locals ≤ R.locals) (ek : k + rm.cells = k') (en : n + rm.slots = n') (hk : k' ≤ R.cells) (hn : n' ≤ R.slots) (hsz : Ls.size = c.maxLocals) (hlen : ∀ sig, parseMethodDescriptor y.desc = some sig → argsL.length = sig.parameters.length) (hst : stk = argsL.reverse ++ .ref a :: rest) (has : (.ref a :: argsL).toArray = as') (hW : (rest.map fun v => v.category).sum ≤ Wt) (hd : decode c.code pc = .ok (.invokevirtual index, 3))
    (go : ∀ T', Wk p l e R s m args below meth c Z a0 EL own sf T' h k' n' → Go p e below s Z EL rc rs Q (T'.setTop (mkF m (pc + 3) Ls (r.toList ++ rest)))) : Go p e below s Z EL rc rs Q (T.setTop (mkF m pc Ls stk)) :=
  W.callV w1 w2 hnf w3 w5 w6 w4 hy E hM hsf hf hl ek en hk hn hsz hlen hst has hW hd fun v T' h' W' ⟨q1, q2⟩ => by subst q1 q2; exact go T' W'
theorem Wk.callP {y : MethodName} {index Wt maxL : Nat} {C : String} {bytes : ByteArray} {ret : Option FieldType} {rm : Room} {as' : Array Value} {sf' : List Addr} {a : Addr} {argsL : List Value} {Qc : Option Value → Heap → Prop} (W : Wk p l e R s m args below meth c Z a0 EL own sf T h k n) (w1 : (Cond.methodLink own index y).before a0 Z = true) (w2 : (Cond.instanceMethod y).before a0 Z = true) (w3 : (Cond.selects y.cls y y).before a0 Z = true) (w5 : (Cond.privateMethod y).before a0 Z = true) (w6 : (Cond.initialized y.cls).before a0 Z = true) (w4 : (Cond.code y bytes maxL ret).before a0 Z = true) (hy : y.cls ≠ "java/lang/invoke/MethodHandle" ∧ y.cls ≠ "java/lang/invoke/VarHandle") (E : Exa Z h a C)
    (hM : Con l Z EL sf' y bytes maxL ret [] rm as' h Qc) (hsf : ∀ x ∈ sf', x ∈ sf) (hf : rm.frames + 1 ≤ R.frames) (hl : Wt + (maxL + 11) + rm.locals ≤ R.locals) (ek : k + rm.cells = k') (en : n + rm.slots = n') (hk : k' ≤ R.cells) (hn : n' ≤ R.slots) (hsz : Ls.size = c.maxLocals) (hlen : ∀ sig, parseMethodDescriptor y.desc = some sig → argsL.length = sig.parameters.length) (hst : stk = argsL.reverse ++ .ref a :: rest) (has : (.ref a :: argsL).toArray = as') (hW : (rest.map fun v => v.category).sum ≤ Wt) (hd : decode c.code pc = .ok (.invokevirtual index, 3))
    (go : ∀ v T' h', Wk p l e R s m args below meth c Z a0 EL own sf T' h' k' n' → Qc v h' → Go p e below s Z EL rc rs Q (T'.setTop (mkF m (pc + 3) Ls (v.toList ++ rest)))) : Go p e below s Z EL rc rs Q (T.setTop (mkF m pc Ls stk)) := by
  obtain ⟨u1, u2, u3, u4, vm0, k0, L, X, rfl, r2, r3, r4, r5, r6, r7, r8⟩ := W
  obtain ⟨cq, q1, q2⟩ := E.cell
  obtain ⟨v, vm₁, B, -, X', hS, hg, ⟨Lc, q⟩, st⟩ := X.privateBackS u1 (y := y) r5 (mvT (s := s.setVm vm0) r4 w1) (mvT (s := s.setVm vm0) r4 w2) (mvT (s := s.setVm vm0) r4 w3) (Cond.privateMethod_at (mvP (s := s.setVm vm0) r4 w5 (args := #[]))) (mvT (s := s.setVm vm0) r4 w4) hy (backK (Wt := Wt) hM r4 w4 w6 hf hl u3 r6.1 fun x hx => r7 x (hsf x hx)) (g := mkF m pc Ls stk) rfl hsz (Steps.refl _) (a := a) q1 q2 (argsL := argsL) (rest := rest) hlen hst (by show 2 * 0 + _ ≤ _; omega) hd (fun _ _ => ⟨has, rfl, by rw [ek]; exact hk, by rw [en]; exact hn⟩)
  exact Go.of st (go v B.U B.U.heap (Wk.came u1 u2 u3 u4 X' hS hg q r2 r3 r4 r5 r6 r7 r8 ek en) q.1.1)
theorem Wk.ldcI {index : Nat} {v : Int32} (W : Wk p l e R s m args below meth c Z a0 EL own sf T h k n) (w : (Cond.constant own index v).before a0 Z = true) (hd : decode c.code pc = .ok (.ldc index, 2)) (go : Go p e below s Z EL rc rs Q (T.setTop (mkF m (pc + 2) Ls (.int v :: stk)))) : Go p e below s Z EL rc rs Q (T.setTop (mkF m pc Ls stk)) := by
  obtain ⟨w1, w2, w3, w4, vm0, k0, L, X, r1, r2, r3, r4, r5, r⟩ := W
  exact Go.by (X.ldcInt w1 r5 (mvT (s := s.setVm vm0) r4 w) (g := mkF m pc Ls stk) rfl hd) go
theorem Wk.ldcJ {index : Nat} {v : Int64} (W : Wk p l e R s m args below meth c Z a0 EL own sf T h k n) (w : (Cond.constantLong own index v).before a0 Z = true) (hd : decode c.code pc = .ok (.ldc2_w index, 3)) (go : Go p e below s Z EL rc rs Q (T.setTop (mkF m (pc + 3) Ls (.long v :: stk)))) : Go p e below s Z EL rc rs Q (T.setTop (mkF m pc Ls stk)) := by
  obtain ⟨w1, w2, w3, w4, vm0, k0, L, X, r1, r2, r3, r4, r5, r⟩ := W
  exact Go.by (X.ldc2Long w1 r5 (mvT (s := s.setVm vm0) r4 w) (g := mkF m pc Ls stk) rfl hd) go
theorem Wk.cloneA {index Wt cap : Nat} {ad : String} {a : Addr} {kA : ClassId} {ty : FieldType} {z : Int32} {vs : List Value} {dv : Value} (W : Wk p l e R s m args below meth c Z a0 EL own sf T h k n) (w1 : (Cond.methodLink own index ⟨ad, "clone", "()Ljava/lang/Object;"⟩).before a0 Z = true) (w2 : (Cond.sameMethod ad "java/lang/Object" "clone" "()Ljava/lang/Object;").before a0 Z = true) (w3 : (Cond.native ⟨"java/lang/Object", "clone", "()Ljava/lang/Object;"⟩).before a0 Z = true)
    (w4 : (Cond.instanceMethod ⟨"java/lang/Object", "clone", "()Ljava/lang/Object;"⟩).before a0 Z = true) (w5 : (Cond.selects ad ⟨ad, "clone", "()Ljava/lang/Object;"⟩ ⟨"java/lang/Object", "clone", "()Ljava/lang/Object;"⟩).before a0 Z = true) (w6 : (Cond.castable ad "java/lang/Cloneable").before a0 Z = true) (F : Arv Z h a kA ty z vs dv) (E : Exa Z h a ad) (hsz : Ls.size = c.maxLocals) (hd : decode c.code pc = .ok (.invokevirtual index, 3))
    (hf : 1 ≤ R.frames) (hW : (rest.map fun v => v.category).sum ≤ Wt) (hl : Wt + 14 ≤ R.locals) (hcap : z.toNatClampNeg ≤ cap) (ek : k + 1 = k') (en : n + cap = n') (hk : k' ≤ R.cells) (hn : n' ≤ R.slots)
    (go : ∀ T' h' x, Wk p l e R s m args below meth c Z a0 EL own (x :: sf) T' h' k' n' → Ext h h' → h.size = x → Z.heap.size ≤ x → Arv Z h' x kA ty z vs dv → Exa Z h' x ad → Go p e below s Z EL rc rs Q (T'.setTop (mkF m (pc + 3) Ls (.ref x :: rest)))) : Go p e below s Z EL rc rs Q (T.setTop (mkF m pc Ls (.ref a :: rest))) := by
  have hO := W.old
  obtain ⟨u1, u2, u3, u4, vm0, k0, L, X, r1, r2, r3, r4, r5, r6, r7, r8⟩ := W
  subst ek en
  obtain ⟨T', h', X', e', E', A, D, st⟩ := cloneH X u1 r4 r5 w1 w2 w3 w4 w5 w6 r1 F.arh E (g := mkF m pc Ls (.ref a :: rest)) rfl hsz rfl hd hf (W := Wt) (by show 2 * 0 + _ ≤ _; omega) hl hcap hk hn
  exact Go.by st (go T' h' _ (Wk.grew u1 u2 u3 u4 X' e' E' D.lt (Nat.le_refl _) r2 r3 r4 r5 r6 r7 r8) E' rfl hO.1 A D)
/-- the terms elem t i, elem t (i + 1), .. hold vs -/
def HasE (args : Array Value) (Z : State) (t : Term) : Nat → List Value → Prop
  | _, [] => True
  | i, v :: vs => (Term.elem t (.int (Int32.ofNat i))).eval args Z none [] Z = some v ∧ HasE args Z t (i + 1) vs
theorem clampN {i : Nat} (h : i < 2 ^ 31) : (Int32.ofNat i).toNatClampNeg = i := by
  have := Int32.toInt_ofNat_small h
  rw [Int32.toNatClampNeg, this]; simp
theorem HasE.has {t : Term} {a : Addr} {cl : Cell} (ev : t.eval args Z none [] Z = some (.ref a)) (hc : Z.heap[a]? = some cl) : ∀ (vs : List Value) (i : Nat), i + vs.length < 2 ^ 31 → HasE args Z t i vs → HasL cl i vs
  | [], i, _, _ => trivial
  | v :: vs, i, hi, H => by
    have hl : (v :: vs).length = vs.length + 1 := rfl
    refine ⟨?_, HasE.has ev hc vs (i + 1) (by omega) H.2⟩
    have q := (elem_in H.1 ev (Term.int_eval _) hc).2
    rwa [clampN (by omega)] at q
theorem arv_of {t : Term} {a : Addr} {ty : FieldType} {z : Int32} {vs : List Value} {dv : Value} (hf : Fit Z) (ev : t.eval args Z none [] Z = some (.ref a)) (hA : (Cond.arrayOf t ty).value args Z none Z [] = some true) (hl : (Term.length t).eval args Z none [] Z = some (.int z)) (hz : ¬ z < 0) (hn : z.toNatClampNeg = vs.length) (hb : vs.length < 2 ^ 31) (H : HasE args Z t 0 vs) : ∃ k, Arv Z Z.heap a k ty z vs dv := by
  obtain ⟨cl, A⟩ := Arr.start ev hA
  have h1 := A.fin (Vm.Alike.refl _)
  have h31 := Jvm.Free.SBG.length_lt ev h1 hl
  have e1 := len_f ev h1 h31
  have e2 : cl.slots.size.toInt32 = z := by simpa using Option.some.inj (e1.symm.trans hl)
  exact ⟨cl.cls, Arv.start hf A h31 e2 hz hn (HasE.has ev A.1 vs 0 (by omega) H)⟩
theorem Wk.callSr {y : MethodName} {index Wt maxL : Nat} {bytes : ByteArray} {ret : Option FieldType} {rm : Room} {as' : Array Value} {sf' : List Addr} {argsL : List Value} {P : Option Value → Prop} (W : Wk p l e R s m args below meth c Z a0 EL own sf T h k n) (w1 : (Cond.methodLink own index y).before a0 Z = true) (w2 : (Cond.static y).before a0 Z = true) (w3 : (Cond.initialized y.cls).before a0 Z = true) (w4 : (Cond.code y bytes maxL ret).before a0 Z = true) (hy : y.cls ≠ "java/lang/invoke/MethodHandle" ∧ y.cls ≠ "java/lang/invoke/VarHandle")
    (hM : Con l Z EL sf' y bytes maxL ret [] rm as' h (fun v h' => P v ∧ h' = h)) (hsf : ∀ x ∈ sf', x ∈ sf) (hf : rm.frames + 1 ≤ R.frames) (hl : Wt + (maxL + 11) + rm.locals ≤ R.locals) (ek : k + rm.cells = k') (en : n + rm.slots = n') (hk : k' ≤ R.cells) (hn : n' ≤ R.slots) (hsz : Ls.size = c.maxLocals) (hlen : ∀ sig, parseMethodDescriptor y.desc = some sig → argsL.length = sig.parameters.length) (hst : stk = argsL.reverse ++ rest) (has : argsL.toArray = as') (hW : (rest.map fun v => v.category).sum ≤ Wt) (hd : decode c.code pc = .ok (.invokestatic index, 3))
    (go : ∀ v T', Wk p l e R s m args below meth c Z a0 EL own sf T' h k' n' → P v → Go p e below s Z EL rc rs Q (T'.setTop (mkF m (pc + 3) Ls (v.toList ++ rest)))) : Go p e below s Z EL rc rs Q (T.setTop (mkF m pc Ls stk)) :=
  W.callS w1 w2 w3 w4 hy hM hsf hf hl ek en hk hn hsz hlen hst has hW hd fun v T' h' W' ⟨q1, q2⟩ => by subst q2; exact go v T' W' q1
end Kit
section KitStr
variable {p : Program} {l : Launch} {e : Env} {R : Room} {s : State} {m : MethodId} {args : Array Value} {below : List Frame} {meth : Method} {c : Code} {Z : State} {a0 : Array Value} {EL : List (String × Nat)} {own : String} {sf : List Addr} {T : State} {h h' h0 : Heap} {k n k' n' rc rs pc : Nat} {Ls : Array Slot} {stk rest : List Value} {Q : Option Value → Heap → Prop} {a x : Addr} {cs ds : List Int32}
/-- the object at a is a String that spells cs -/
def Str (Z : State) (h : Heap) (a : Addr) (cs : List Int32) : Prop := ∃ (t : Addr) (kb : ClassId) (cd N2 : Int32) (vs : List Value), Exa Z h a "java/lang/String" ∧ Fld Z h a "java/lang/String" "value" "[B" (.ref t) ∧ Fld Z h a "java/lang/String" "coder" "B" (.int cd) ∧ Arv Z h t kb .byte N2 vs (.int 0) ∧ StrChars.Road.CodA cs cd N2 vs ∧ (∀ c ∈ cs, ¬ c < 0 ∧ ¬ (65535 : Int32) < c)
theorem Str.ext (S : Str Z h a cs) (E : Ext h h') : Str Z h' a cs := by
  obtain ⟨t, kb, cd, N2, vs, s1, s2, s3, s4, s5, s6⟩ := S; exact ⟨t, kb, cd, N2, vs, s1.ext E, s2.ext E, s3.ext E, s4.ext E, s5, s6⟩
theorem Str.exa (S : Str Z h a cs) : Exa Z h a "java/lang/String" := by obtain ⟨t, kb, cd, N2, vs, s1, -⟩ := S; exact s1
theorem Str.lt (S : Str Z h a cs) : a < h.size := S.exa.lt
theorem Str.keep {C : String} {N : Nat} (S : Str Z h a cs) (K : Keep h h' [x]) (E : Exa Z h x C) (wi : (Cond.instantiable C N).before a0 Z = true) (ne : a ≠ x) : Str Z h' a cs := by
  obtain ⟨t, kb, cd, N2, vs, s1, s2, s3, s4, s5, s6⟩ := S
  exact ⟨t, kb, cd, N2, vs, s1.keep K, s2.keep K (ninS ne nin0), s3.keep K (ninS ne nin0), s4.keep K (ninS (Ne.symm (E.neArv s4 wi)) nin0), s5, s6⟩
theorem Str.wr {C : String} {N sl : Nat} {v : Value} (S : Str Z h a cs) (W : Wr h h' x sl v) (E : Exa Z h x C) (wi : (Cond.instantiable C N).before a0 Z = true) (ne : a ≠ x) : Str Z h' a cs := S.keep (Keep.of_wr W) E wi ne
theorem Ext.trans' {h h1 h2 : Heap} (A : Ext h h1) (B : Ext h1 h2) : Ext h h2 := ⟨Nat.le_trans A.1 B.1, fun a c q => B.2 a c (A.2 a c q)⟩
theorem Ext.refl' (h : Heap) : Ext h h := ⟨Nat.le_refl _, fun _ _ q => q⟩
theorem Ext.keep' {h h1 h2 : Heap} {ws : List Addr} (A : Ext h h1) (K : Keep h1 h2 ws) (q : ∀ x ∈ ws, h.size ≤ x) : Ext h h2 := ⟨Nat.le_trans A.1 K.1, fun a c r => K.2.1 a c (A.2 a c r) fun z => absurd (Array.getElem?_eq_some_iff.mp r).1 (Nat.not_lt.mpr (q a z))⟩
theorem Ext.wr' {h h1 h2 : Heap} {x : Addr} {sl : Nat} {v : Value} (A : Ext h h1) (W : Wr h1 h2 x sl v) (q : h.size ≤ x) : Ext h h2 := Ext.keep' A (Keep.of_wr W) (allS q all0)
theorem Wk.kept {ws : List Addr} {T' : State} {L : List Loc} {vm0 : Vm} {k0 : Nat} (hxm : p.tables.exec = Jvm.exec) (hl : meth.locks = false) (hEW : EW Z a0 EL) (hE : Ext Z.heap s.heap) (X' : Stand p l e R (s.setVm vm0) m args below meth c T' L k' n') (e' : T'.heap = h') (K : Keep h h' ws) (hws : ∀ x ∈ ws, x ∈ sf) (r2 : s.Since vm0 k0) (r3 : k0 ≤ h.size) (r4 : Z.Warmed39 vm0) (r5 : vm0.findClass own = some m.cls) (r6 : CHr Z EL s.vm s.heap vm0 h) (r7 : ∀ x ∈ sf, x < h.size ∧ Safe Z EL vm0 h x) (r8 : Fr Z.heap.size L) :
    Wk p l e R s m args below meth c Z a0 EL own sf T' h' k' n' :=
  ⟨hxm, hl, hEW, hE, vm0, k0, L, X', e', r2, Nat.le_trans r3 K.1, r4, r5, r6.trans (CHr.keep K (fun x hx => (r7 x (hws x hx)).2) r6.1), fun y hy => ⟨Nat.lt_of_lt_of_le (r7 y hy).1 K.1, Safe.keep K (fun x hx => (r7 x (hws x hx)).2) r6.1 (r7 y hy).2⟩, r8⟩
theorem pdCs : parseMethodDescriptor "([C)V" = some ⟨[(.array .char)], none⟩ := by decide +kernel
/-- new String(chars): 1 to 4000 chars, each below 256 -/
theorem Wk.strV {index Wt q : Nat} {b : Addr} {kC : ClassId} {dv v0 c0 : Value} {z N : Int32} (W : Wk p l e R s m args below meth c Z a0 EL own sf T h k n) (hws : ∀ d ∈ StrChars.Road.words, d.before a0 Z = true) (wi : (Cond.instantiable "java/lang/String" 4).before a0 Z = true) (w1 : (Cond.methodLink own index ⟨"java/lang/String", "<init>", "([C)V"⟩).before a0 Z = true) (w2 : (Cond.instanceMethod ⟨"java/lang/String", "<init>", "([C)V"⟩).before a0 Z = true)
    (E : Exa Z h x "java/lang/String") (V : Fld Z h x "java/lang/String" "value" "[B" v0) (C : Fld Z h x "java/lang/String" "coder" "B" c0) (K : Arv Z h b kC .char N (cs.map Value.int) dv) (S : Sta Z h "java/lang/String" "COMPACT_STRINGS" "Z" (.int z)) (hz : ¬ z = 0) (hq : cs.length = q) (hN : N = Int32.ofNat q) (l0 : 0 < q) (l2 : q ≤ 4000) (hp : ∀ c ∈ cs, ¬ c < 0 ∧ ¬ (255 : Int32) < c) (hx : Z.heap.size ≤ x) (hs : x ∈ sf)
    (hf : 4 ≤ R.frames) (hl : Wt + 65 ≤ R.locals) (ek : k + 1 = k') (en : n + q = n') (hk : k' ≤ R.cells) (hn : n' ≤ R.slots) (hsz : Ls.size = c.maxLocals) (hW : (rest.map fun v => v.category).sum ≤ Wt) (hd : decode c.code pc = .ok (.invokespecial index, 3))
    (go : ∀ T' h', Wk p l e R s m args below meth c Z a0 EL own sf T' h' k' n' → Keep h h' [x] → Str Z h' x cs → Go p e below s Z EL rc rs Q (T'.setTop (mkF m (pc + 3) Ls rest))) : Go p e below s Z EL rc rs Q (T.setTop (mkF m pc Ls (.ref b :: .ref x :: rest))) := by
  have hO := W.old
  obtain ⟨u1, u2, u3, u4, vm0, k0, L, X, rfl, r2, r3, r4, r5, r6, r7, r8⟩ := W
  obtain ⟨v, vm₁, ⟨T', L', k1, n1⟩, -, X', ⟨Lc, hQ, l', y', z'⟩, st⟩ := X.specialBack u1 (y := (⟨"java/lang/String", "<init>", "([C)V"⟩ : MethodName)) rfl r5 (mvT (s := s.setVm vm0) r4 w1) (mvT (s := s.setVm vm0) r4 w2) (mvT (s := s.setVm vm0) r4 (hws _ (List.mem_cons_self ..))) (by decide)
    (StrChars.Road.backV (W := Wt) (s := s.setVm vm0) r4 hws wi (bs := cs.map (fun c => c.toInt8.toInt32)) hx hO.1 E V C K S hz hq hN l0 l2 hp rfl hf hl) (g := mkF m pc Ls (.ref b :: .ref x :: rest)) rfl hsz (Steps.refl _) (a := x) (argsL := [.ref b]) (rest := rest) (lenOf pdCs rfl) rfl (by show 2 * 0 + _ ≤ _; omega) hd (fun _ _ => ⟨rfl, rfl, by rw [ek]; exact hk, by rw [en]; exact hn⟩)
  dsimp only [Pt.U, Pt.locs, Pt.cells, Pt.slots] at X' l' y' z' st hQ
  subst l' y' z'
  obtain ⟨rfl, N', K', g1, g2, t, kb, -, -, -, g3, g4⟩ := hQ
  rw [ek, en] at X'
  subst hq hN
  exact Go.of st (go T' T'.heap (Wk.kept u1 u2 u3 u4 X' rfl K' (allS hs all0) r2 r3 r4 r5 r6 r7 (r8.app N')) K' ⟨t, kb, 0, _, _, g1, g3, g2, g4, StrChars.Road.codOf rfl (fun c hc => (hp c hc).2), fun c hc => ⟨(hp c hc).1, fun q => (hp c hc).2 (by rw [Int32.lt_iff_toInt_lt] at q ⊢; have e1 : (65535 : Int32).toInt = 65535 := rfl; have e2 : (255 : Int32).toInt = 255 := rfl; omega)⟩⟩)
/-! literals -/
/-- ldc of a String literal, whose text isn't asked -/
theorem Wk.ldcO {index q : Nat} {text : String} (W : Wk p l e R s m args below meth c Z a0 EL own sf T h k n) (w : (Cond.stringLink own index text).before a0 Z = true) (wS : ∀ a ∈ Bundle.stringAtoms, a.before a0 Z = true) (hd : decode c.code pc = .ok (.ldc index, 2)) (hq : 4 * text.toList.length ≤ q) (hbig : q ≤ 536870912) (ek : k + 2 = k') (en : n + (q + 4) = n') (hk : k' ≤ R.cells) (hn : n' ≤ R.slots)
    (go : ∀ T' h' a, Wk p l e R s m args below meth c Z a0 EL own sf T' h' k' n' → Ext h h' → Go p e below s Z EL rc rs Q (T'.setTop (mkF m (pc + 2) Ls (.ref a :: stk)))) : Go p e below s Z EL rc rs Q (T.setTop (mkF m pc Ls stk)) := by
  obtain ⟨u1, u2, u3, u4, vm0, k0, L, X, r1, r2, r3, r4, r5, r6, r7, r8⟩ := W
  subst ek en
  obtain ⟨a, T', h', k1, X', e', E, hS, hk1, hW, hf, hC, -, st⟩ := ldcOH X u1 r4 r5 w wS r1 r2 r3 u3 r6.1 (g := mkF m pc Ls stk) rfl hd hq hbig hk hn
  exact Go.by st (go T' h' a ⟨u1, u2, u3, u4, T'.vm, k1, L, X', e', hS, hk1, hW, hf, r6.trans hC, fun x hx => ⟨Nat.lt_of_lt_of_le (r7 x hx).1 E.1, hC.safe (r7 x hx).1 (r7 x hx).2⟩, r8⟩ E)
/-- ldc of a String literal, read -/
theorem Wk.ldcC {index q : Nat} {text : String} (W : Wk p l e R s m args below meth c Z a0 EL own sf T h k n) (w : (Cond.stringLink own index text).before a0 Z = true) (wS : ∀ a ∈ Bundle.stringAtoms, a.before a0 Z = true) (hmem : (own, index) ∈ EL) (ht : (∀ c ∈ text.toList, c.toNat < 256) ∧ text.toList.map (fun c => Value.int (Jvm.Lit.byteI c.toNat.toUInt16)) = cs.map (fun c => Value.int (StrChars.lo8 c))) (hz : ¬ (Int32.ofNat cs.length) < 0) (hl : (Int32.ofNat cs.length).toNatClampNeg = cs.length) (hb : ∀ c ∈ cs, ¬ c < 0 ∧ ¬ (255 : Int32) < c ∧ ¬ (65535 : Int32) < c)
    (hd : decode c.code pc = .ok (.ldc index, 2)) (hq : 4 * text.toList.length ≤ q) (hbig : q ≤ 536870912) (ek : k + 2 = k') (en : n + (q + 4) = n') (hk : k' ≤ R.cells) (hn : n' ≤ R.slots)
    (go : ∀ T' h' a, Wk p l e R s m args below meth c Z a0 EL own sf T' h' k' n' → Ext h h' → Str Z h' a cs → (∀ x ∈ sf, x ≠ a) → Go p e below s Z EL rc rs Q (T'.setTop (mkF m (pc + 2) Ls (.ref a :: stk)))) : Go p e below s Z EL rc rs Q (T.setTop (mkF m pc Ls stk)) := by
  obtain ⟨u1, u2, u3, u4, vm0, k0, L, X, r1, r2, r3, r4, r5, r6, r7, r8⟩ := W
  subst ek en
  obtain ⟨a, T', h', k1, b, kb, X', e', E, hS, hk1, hW, hf, g1, g2, g3, g4, -, -, hC, -, hne, st⟩ := ldcCH X u1 r4 r5 w wS r1 r2 r3 u3 hmem r6.1 ht hz (by rw [hl, List.length_map]) (g := mkF m pc Ls stk) rfl hd hq hbig hk hn
  exact Go.by st (go T' h' a ⟨u1, u2, u3, u4, T'.vm, k1, L, X', e', hS, hk1, hW, hf, r6.trans hC, fun x hx => ⟨Nat.lt_of_lt_of_le (r7 x hx).1 E.1, hC.safe (r7 x hx).1 (r7 x hx).2⟩, r8⟩ E ⟨b, kb, 0, _, _, g1, g3, g2, g4, Or.inl ⟨rfl, rfl, rfl, fun c hc => (hb c hc).2.1⟩, fun c hc => ⟨(hb c hc).1, (hb c hc).2.2⟩⟩ fun x hx => (hne x (hC.safe (r7 x hx).1 (r7 x hx).2)).1)
/-! casts -/
theorem Wk.castY {index : Nat} {K : String} (W : Wk p l e R s m args below meth c Z a0 EL own sf T h k n) (w : (Cond.classLink own index K).before a0 Z = true) (F : Ins Z h a K true) (hd : decode c.code pc = .ok (.checkcast index, 3))
    (go : ∀ T', Wk p l e R s m args below meth c Z a0 EL own sf T' h k n → Go p e below s Z EL rc rs Q (T'.setTop (mkF m (pc + 3) Ls (.ref a :: rest)))) : Go p e below s Z EL rc rs Q (T.setTop (mkF m pc Ls (.ref a :: rest))) := by
  obtain ⟨w1, w2, w3, w4, vm0, k0, L, X, r1, r2, r3, r4, r5, r⟩ := W
  obtain ⟨T', X', e', st⟩ := Jvm.RoadKit.castY X w1 r4 r5 w r1 F (g := mkF m pc Ls (.ref a :: rest)) rfl rfl hd
  exact Go.by st (go T' ⟨w1, w2, w3, w4, vm0, k0, L, X', e', r2, r3, r4, r5, r⟩)
theorem Wk.instY {index : Nat} {K : String} (W : Wk p l e R s m args below meth c Z a0 EL own sf T h k n) (w : (Cond.classLink own index K).before a0 Z = true) (F : Ins Z h a K true) (hd : decode c.code pc = .ok (.instanceof index, 3))
    (go : ∀ T', Wk p l e R s m args below meth c Z a0 EL own sf T' h k n → Go p e below s Z EL rc rs Q (T'.setTop (mkF m (pc + 3) Ls (.int 1 :: rest)))) : Go p e below s Z EL rc rs Q (T.setTop (mkF m pc Ls (.ref a :: rest))) := by
  obtain ⟨w1, w2, w3, w4, vm0, k0, L, X, r1, r2, r3, r4, r5, r⟩ := W
  obtain ⟨T', X', e', st⟩ := Jvm.RoadKit.instY X w1 r4 r5 w r1 F (g := mkF m pc Ls (.ref a :: rest)) rfl rfl hd
  exact Go.by st (go T' ⟨w1, w2, w3, w4, vm0, k0, L, X', e', r2, r3, r4, r5, r⟩)
theorem Wk.instNo {index : Nat} {K C : String} (W : Wk p l e R s m args below meth c Z a0 EL own sf T h k n) (w : (Cond.classLink own index K).before a0 Z = true) (E : Exa Z h a C) (F : ∃ c t, Z.vm.findClass C = some c ∧ Z.vm.findClass K = some t ∧ Z.vm.assignable c t = false) (hd : decode c.code pc = .ok (.instanceof index, 3))
    (go : ∀ T', Wk p l e R s m args below meth c Z a0 EL own sf T' h k n → Go p e below s Z EL rc rs Q (T'.setTop (mkF m (pc + 3) Ls (.int 0 :: rest)))) : Go p e below s Z EL rc rs Q (T.setTop (mkF m pc Ls (.ref a :: rest))) := by
  obtain ⟨w1, w2, w3, w4, vm0, k0, L, X, r1, r2, r3, r4, r5, r⟩ := W
  obtain ⟨T', X', e', st⟩ := Jvm.RoadKit.instNo X w1 r4 r5 w r1 E F (g := mkF m pc Ls (.ref a :: rest)) rfl rfl hd
  exact Go.by st (go T' ⟨w1, w2, w3, w4, vm0, k0, L, X', e', r2, r3, r4, r5, r⟩)
theorem Wk.instNull {index : Nat} (W : Wk p l e R s m args below meth c Z a0 EL own sf T h k n) (hd : decode c.code pc = .ok (.instanceof index, 3)) (go : Go p e below s Z EL rc rs Q (T.setTop (mkF m (pc + 3) Ls (.int 0 :: rest)))) : Go p e below s Z EL rc rs Q (T.setTop (mkF m pc Ls (.null :: rest))) := by
  obtain ⟨w1, w2, w3, w4, vm0, k0, L, X, r⟩ := W
  exact Go.by (X.instanceofNull w1 (g := mkF m pc Ls (.null :: rest)) rfl rfl hd) go
theorem Wk.castNull {index : Nat} (W : Wk p l e R s m args below meth c Z a0 EL own sf T h k n) (hd : decode c.code pc = .ok (.checkcast index, 3)) (go : Go p e below s Z EL rc rs Q (T.setTop (mkF m (pc + 3) Ls (.null :: rest)))) : Go p e below s Z EL rc rs Q (T.setTop (mkF m pc Ls (.null :: rest))) := by
  obtain ⟨w1, w2, w3, w4, vm0, k0, L, X, r⟩ := W
  exact Go.by (X.checkcastNull w1 (g := mkF m pc Ls (.null :: rest)) rfl rfl hd) go
/-! arrays -/
theorem Wk.alen {kA : ClassId} {ty : FieldType} {z : Int32} {vs : List Value} {dv : Value} (W : Wk p l e R s m args below meth c Z a0 EL own sf T h k n) (A : Arv Z h a kA ty z vs dv) (hd : decode c.code pc = .ok (.arraylength, 1)) (go : Go p e below s Z EL rc rs Q (T.setTop (mkF m (pc + 1) Ls (.int z :: rest)))) : Go p e below s Z EL rc rs Q (T.setTop (mkF m pc Ls (.ref a :: rest))) := by
  obtain ⟨w1, w2, w3, w4, vm0, k0, L, X, rfl, r2, r3, r4, r⟩ := W
  obtain ⟨cl, A1, -, S, N, -, -⟩ := A
  refine Go.by (X.arraylength w1 A1.1 (State.isArrayOf_alike (T := s.setVm vm0) r4.alike A1.2.1) (g := mkF m pc Ls (.ref a :: rest)) rfl rfl hd) ?_
  rw [len_of S N]; exact go
theorem inA {kA : ClassId} {ty : FieldType} {z j : Int32} {vs : List Value} {dv v : Value} (A : Arv Z h a kA ty z vs dv) (hj : ¬ j < 0 ∧ j < z) (hv : vs.getD j.toNatClampNeg dv = v) : ∃ cl : Cell, RoadKit.Arr Z h a cl ty ∧ ¬ (j < 0 ∨ cl.slots.size ≤ j.toNatClampNeg) ∧ cl.slots[j.toNatClampNeg]? = some v ∧ fits ty v = true := by
  obtain ⟨cl, A1, -, S, N, H, G⟩ := A
  have hi := inb_of S hj
  exact ⟨cl, A1, hi, H.at hi hv, hv ▸ G _ (Nat.lt_of_not_le fun y => hi (Or.inr y))⟩
theorem Wk.cald {kA : ClassId} {z j : Int32} {vs : List Value} {dv v : Value} (W : Wk p l e R s m args below meth c Z a0 EL own sf T h k n) (A : Arv Z h a kA .char z vs dv) (hj : ¬ j < 0 ∧ j < z) (hv : vs.getD j.toNatClampNeg dv = v) (hd : decode c.code pc = .ok (.caload, 1)) (go : Go p e below s Z EL rc rs Q (T.setTop (mkF m (pc + 1) Ls (v :: rest)))) : Go p e below s Z EL rc rs Q (T.setTop (mkF m pc Ls (.int j :: .ref a :: rest))) := by
  obtain ⟨w1, w2, w3, w4, vm0, k0, L, X, rfl, r2, r3, r4, r⟩ := W
  obtain ⟨cl, A1, hi, hat, -⟩ := inA A hj hv
  exact Go.by (X.caload w1 (j := j) (v := v) A1.1 (State.isArrayOf_alike (T := s.setVm vm0) r4.alike A1.2.1) A1.2.2 hi hat (g := mkF m pc Ls (.int j :: .ref a :: rest)) rfl rfl hd) go
theorem Wk.bald {kA : ClassId} {z j : Int32} {vs : List Value} {dv v : Value} (W : Wk p l e R s m args below meth c Z a0 EL own sf T h k n) (A : Arv Z h a kA .byte z vs dv) (hj : ¬ j < 0 ∧ j < z) (hv : vs.getD j.toNatClampNeg dv = v) (hd : decode c.code pc = .ok (.baload, 1)) (go : Go p e below s Z EL rc rs Q (T.setTop (mkF m (pc + 1) Ls (v :: rest)))) : Go p e below s Z EL rc rs Q (T.setTop (mkF m pc Ls (.int j :: .ref a :: rest))) := by
  obtain ⟨w1, w2, w3, w4, vm0, k0, L, X, rfl, r2, r3, r4, r⟩ := W
  obtain ⟨cl, A1, hi, hat, -⟩ := inA A hj hv
  exact Go.by (X.baloadBytes w1 (j := j) (v := v) A1.1 (State.isArrayOf_alike (T := s.setVm vm0) r4.alike A1.2.1) A1.2.2 hi hat (g := mkF m pc Ls (.int j :: .ref a :: rest)) rfl rfl hd) go
theorem Wk.aald {kA : ClassId} {ty : FieldType} {z j : Int32} {vs : List Value} {dv v : Value} (W : Wk p l e R s m args below meth c Z a0 EL own sf T h k n) (A : Arv Z h a kA ty z vs dv) (hty : ty.isReference = true) (hj : ¬ j < 0 ∧ j < z) (hv : vs.getD j.toNatClampNeg dv = v) (hd : decode c.code pc = .ok (.aaload, 1)) (go : Go p e below s Z EL rc rs Q (T.setTop (mkF m (pc + 1) Ls (v :: rest)))) : Go p e below s Z EL rc rs Q (T.setTop (mkF m pc Ls (.int j :: .ref a :: rest))) := by
  obtain ⟨w1, w2, w3, w4, vm0, k0, L, X, rfl, r2, r3, r4, r⟩ := W
  obtain ⟨cl, A1, hi, hat, -⟩ := inA A hj hv
  exact Go.by (X.aaload w1 (j := j) (v := v) A1.1 (State.isArrayOf_alike (T := s.setVm vm0) r4.alike A1.2.1) hty A1.2.2 hi hat (g := mkF m pc Ls (.int j :: .ref a :: rest)) rfl rfl hd) go
theorem Wk.cast_ {kA : ClassId} {z j v v' : Int32} {vs : List Value} {dv : Value} {i : Nat} (W : Wk p l e R s m args below meth c Z a0 EL own sf T h k n) (A : Arv Z h a kA .char z vs dv) (hj : ¬ j < 0 ∧ j < z) (hi : j.toNatClampNeg = i) (hlt : i < vs.length) (hv : nar .char v = v') (ha : Z.heap.size ≤ a) (hs : a ∈ sf) (hd : decode c.code pc = .ok (.castore, 1))
    (go : ∀ T' h', Wk p l e R s m args below meth c Z a0 EL own sf T' h' k n → Wr h h' a j.toNatClampNeg (.int v') → Arv Z h' a kA .char z (vs.set i (.int v')) dv → Go p e below s Z EL rc rs Q (T'.setTop (mkF m (pc + 1) Ls rest))) : Go p e below s Z EL rc rs Q (T.setTop (mkF m pc Ls (.int v :: .int j :: .ref a :: rest))) := by
  subst hv
  obtain ⟨w1, w2, w3, w4, vm0, k0, L, X, r1, r2, r3, r4, r5, r6, r7, r8⟩ := W
  obtain ⟨cl, A1, A2, S, N, H, G⟩ := A
  obtain ⟨T', h', X', e', W', st⟩ := stC X w1 r4 r1 A1 (j := j) (inb_of S hj) (g := mkF m pc Ls (.int v :: .int j :: .ref a :: rest)) rfl rfl hd
  exact Go.by st (go T' h' (Wk.wrote w1 w2 w3 w4 X' e' W' r2 r3 r4 r5 r6 r7 r8 ha hs) W' (Arv.set A1 A2 S N H G (fits_nar_char _) W' i hi hlt))
theorem Wk.bast {kA : ClassId} {z j v v' : Int32} {vs : List Value} {dv : Value} {i : Nat} (W : Wk p l e R s m args below meth c Z a0 EL own sf T h k n) (A : Arv Z h a kA .byte z vs dv) (hj : ¬ j < 0 ∧ j < z) (hi : j.toNatClampNeg = i) (hlt : i < vs.length) (hv : nar .byte v = v') (ha : Z.heap.size ≤ a) (hs : a ∈ sf) (hd : decode c.code pc = .ok (.bastore, 1))
    (go : ∀ T' h', Wk p l e R s m args below meth c Z a0 EL own sf T' h' k n → Wr h h' a j.toNatClampNeg (.int v') → Arv Z h' a kA .byte z (vs.set i (.int v')) dv → Go p e below s Z EL rc rs Q (T'.setTop (mkF m (pc + 1) Ls rest))) : Go p e below s Z EL rc rs Q (T.setTop (mkF m pc Ls (.int v :: .int j :: .ref a :: rest))) := by
  subst hv
  obtain ⟨w1, w2, w3, w4, vm0, k0, L, X, r1, r2, r3, r4, r5, r6, r7, r8⟩ := W
  obtain ⟨cl, A1, A2, S, N, H, G⟩ := A
  obtain ⟨T', h', X', e', W', st⟩ := stB X w1 r4 r1 A1 (j := j) (inb_of S hj) (g := mkF m pc Ls (.int v :: .int j :: .ref a :: rest)) rfl rfl hd
  exact Go.by st (go T' h' (Wk.wrote w1 w2 w3 w4 X' e' W' r2 r3 r4 r5 r6 r7 r8 ha hs) W' (Arv.set A1 A2 S N H G (fits_nar_byte _) W' i hi hlt))
theorem Wk.aast {kA : ClassId} {ty : FieldType} {z j : Int32} {v : Value} {vs : List Value} {dv : Value} {i : Nat} (W : Wk p l e R s m args below meth c Z a0 EL own sf T h k n) (A : Arv Z h a kA ty z vs dv) (hty : ty.isReference = true) (hj : ¬ j < 0 ∧ j < z) (hi : j.toNatClampNeg = i) (hlt : i < vs.length) (F : Sto Z h a v) (hv : fits ty v = true) (ha : Z.heap.size ≤ a) (hs : a ∈ sf) (hd : decode c.code pc = .ok (.aastore, 1))
    (go : ∀ T' h', Wk p l e R s m args below meth c Z a0 EL own sf T' h' k n → Wr h h' a j.toNatClampNeg v → Arv Z h' a kA ty z (vs.set i v) dv → Go p e below s Z EL rc rs Q (T'.setTop (mkF m (pc + 1) Ls rest))) : Go p e below s Z EL rc rs Q (T.setTop (mkF m pc Ls (v :: .int j :: .ref a :: rest))) := by
  obtain ⟨w1, w2, w3, w4, vm0, k0, L, X, r1, r2, r3, r4, r5, r6, r7, r8⟩ := W
  obtain ⟨cl, A1, A2, S, N, H, G⟩ := A
  obtain ⟨T', h', X', e', W', st⟩ := stR X w1 r4 r1 A1 (j := j) (inb_of S hj) hty F (g := mkF m pc Ls (v :: .int j :: .ref a :: rest)) rfl rfl hd
  exact Go.by st (go T' h' (Wk.wrote w1 w2 w3 w4 X' e' W' r2 r3 r4 r5 r6 r7 r8 ha hs) W' (Arv.set A1 A2 S N H G hv W' i hi hlt))
/-- a String at the start, by the sheet's words -/
theorem str_of {t : Term} (hf : Fit Z) (hx : (Cond.exactly t "java/lang/String").value args Z none Z [] = some true) (hcd : (Cond.eq (.field t "java/lang/String" "coder" "B") (.int 0)).value args Z none Z [] = some true) (hA : (Cond.arrayOf (.field t "java/lang/String" "value" "[B") .byte).value args Z none Z [] = some true) (hl : (Cond.eq (.length (.field t "java/lang/String" "value" "[B")) (.int (Int32.ofNat cs.length))).value args Z none Z [] = some true) (hn : cs.length < 2 ^ 31) (H : HasE args Z (.field t "java/lang/String" "value" "[B") 0 (cs.map fun c => Value.int (StrChars.lo8 c))) (hb : ∀ c ∈ cs, ¬ c < 0 ∧ ¬ (255 : Int32) < c ∧ ¬ (65535 : Int32) < c) : ∃ a, t.eval args Z none [] Z = some (.ref a) ∧ Str Z Z.heap a cs := by
  obtain ⟨a, ea⟩ := exa_v hx
  obtain ⟨b, eb⟩ := arr_v hA
  have ec := Cond.eq_int (Cond.before_iff.mpr hcd) rfl
  have el := Cond.eq_int (Cond.before_iff.mpr hl) rfl
  obtain ⟨kb, K⟩ := arv_of (dv := .int 0) hf eb hA el (by
    intro q
    rw [Int32.lt_iff_toInt_lt, Int32.toInt_ofNat_small hn] at q
    have e0 : (0 : Int32).toInt = 0 := rfl
    omega) (by rw [clampN hn, List.length_map]) (by rw [List.length_map]; exact hn) H
  exact ⟨a, ea, b, kb, 0, _, _, Exa.start ea hx, Fld.start (by rw [← fld_at ea]; exact eb), Fld.start (by rw [← fld_at ea]; exact ec), K, Or.inl ⟨rfl, rfl, rfl, fun c hc => (hb c hc).2.1⟩, fun c hc => ⟨(hb c hc).1, (hb c hc).2.2⟩⟩
end KitStr
section KitStrEq
variable {p : Program} {l : Launch} {e : Env} {R : Room} {s : State} {m : MethodId} {args : Array Value} {below : List Frame} {meth : Method} {c : Code} {Z : State} {a0 : Array Value} {EL : List (String × Nat)} {own : String} {sf : List Addr} {T : State} {h h' h0 : Heap} {k n k' n' rc rs pc : Nat} {Ls : Array Slot} {stk rest : List Value} {Q : Option Value → Heap → Prop} {a x y : Addr} {cs ds : List Int32}
theorem pdEq : parseMethodDescriptor "(Ljava/lang/Object;)Z" = some ⟨[(.object "java/lang/Object")], some .boolean⟩ := by decide +kernel
/-- s.equals(t) of two Strings -/
theorem Wk.strEq {index Wt : Nat} {z : Int32} (W : Wk p l e R s m args below meth c Z a0 EL own sf T h k n) (hws : ∀ d ∈ StrChars.Road.wordsEq, d.before a0 Z = true) (wi : (Cond.instantiable "java/lang/String" 4).before a0 Z = true) (w1 : (Cond.methodLink own index ⟨"java/lang/String", "equals", "(Ljava/lang/Object;)Z"⟩).before a0 Z = true) (w2 : (Cond.declares ⟨"java/lang/String", "equals", "(Ljava/lang/Object;)Z"⟩).before a0 Z = true) (w3 : (Cond.selects "java/lang/String" ⟨"java/lang/String", "equals", "(Ljava/lang/Object;)Z"⟩ ⟨"java/lang/String", "equals", "(Ljava/lang/Object;)Z"⟩).before a0 Z = true) (w4 : (Cond.instanceMethod ⟨"java/lang/String", "equals", "(Ljava/lang/Object;)Z"⟩).before a0 Z = true)
    (S1 : Str Z h x cs) (S2 : Str Z h y ds) (l1 : cs.length ≤ 4000) (l2 : ds.length ≤ 4000) (S : Sta Z h "java/lang/String" "COMPACT_STRINGS" "Z" (.int z)) (hz : ¬ z = 0) (hf : 2 ≤ R.frames) (hl : Wt + 28 ≤ R.locals) (hsz : Ls.size = c.maxLocals) (hW : (rest.map fun v => v.category).sum ≤ Wt) (hk : k ≤ R.cells) (hn : n ≤ R.slots) (hd : decode c.code pc = .ok (.invokevirtual index, 3))
    (go : ∀ T' r, Wk p l e R s m args below meth c Z a0 EL own sf T' h k n → r = (if cs = ds then (1 : Int32) else 0) → Go p e below s Z EL rc rs Q (T'.setTop (mkF m (pc + 3) Ls (.int r :: rest)))) : Go p e below s Z EL rc rs Q (T.setTop (mkF m pc Ls (.ref y :: .ref x :: rest))) := by
  obtain ⟨u1, u2, u3, u4, vm0, k0, L, X, rfl, r2, r3, r4, r5, r6, r7, r8⟩ := W
  obtain ⟨t, kb, cd, N2, vs, s1, s2, s3, s4, s5, s6⟩ := S1
  obtain ⟨t', kb', cd', N2', vs', e1, e2, e3, e4, e5, e6⟩ := S2
  obtain ⟨cq, kq, qa, qb, qc⟩ := isOf (s := s.setVm vm0) (T := T) r4 rfl s1
  obtain ⟨v, vm₁, ⟨T', L', k1, n1⟩, -, X', ⟨Lc, hQ, l', y', z'⟩, st⟩ := X.virtualBack u1 (y := (⟨"java/lang/String", "equals", "(Ljava/lang/Object;)Z"⟩ : MethodName)) (z := (⟨"java/lang/String", "equals", "(Ljava/lang/Object;)Z"⟩ : MethodName)) r5 (mvT (s := s.setVm vm0) r4 w1) (mvT (s := s.setVm vm0) r4 w2) (notFace_of_selects (args := #[]) (mvT (s := s.setVm vm0) r4 w3)) (mvT (s := s.setVm vm0) r4 w3) (mvT (s := s.setVm vm0) r4 w4) (by decide)
    (StrChars.Road.eqW (W := Wt) (s := s.setVm vm0) r4 hws wi s1 s2 s3 s4 s5 s6 l1 e1 e2 e3 e4 e5 e6 l2 S hz hf hl) qa qc (g := mkF m pc Ls (.ref y :: .ref x :: rest)) rfl hsz (Steps.refl _) (argsL := [.ref y]) (rest := rest) (lenOf pdEq rfl) rfl (by show 2 * 0 + _ ≤ _; omega) hd (fun _ _ => ⟨rfl, rfl, hk, hn⟩)
  dsimp only [Pt.U, Pt.locs, Pt.cells, Pt.slots] at X' l' y' z' st hQ
  subst l' y' z'
  obtain ⟨hv, rfl, e'⟩ := hQ
  rw [List.append_nil] at X'
  have K : Wk p l e R s m args below meth c Z a0 EL own sf T' T.heap _ _ := ⟨u1, u2, u3, u4, vm0, k0, L, X', e', r2, r3, r4, r5, r6, r7, r8⟩
  rcases hv with ⟨rfl, q⟩ | ⟨rfl, q⟩
  · exact Go.of st (go T' 1 K (by rw [if_pos q]))
  · exact Go.of st (go T' 0 K (by rw [if_neg q]))
end KitStrEq
theorem nar_i2c (x : Int32) : nar .char x.toUInt32.toUInt16.toUInt32.toInt32 = x.toUInt32.toUInt16.toUInt32.toInt32 := by
  have h1 := c_i2c x
  have h2 := c_i2c x.toUInt32.toUInt16.toUInt32.toInt32
  apply Int32.toInt_inj.mp
  show (x.toUInt32.toUInt16.toUInt32.toInt32.toUInt32.toUInt16.toUInt32.toInt32).toInt = _
  omega
theorem i2c_id {x : Int32} (h : ¬ x < 0 ∧ ¬ (65535 : Int32) < x) : x.toUInt32.toUInt16.toUInt32.toInt32 = x := by
  have h1 := c_i2c x
  apply Int32.toInt_inj.mp
  rw [Int32.lt_iff_toInt_lt, Int32.lt_iff_toInt_lt] at h
  have e : (65535 : Int32).toInt = 65535 := rfl
  have e0 : (0 : Int32).toInt = 0 := rfl
  omega
theorem nar_id {x : Int32} (h : ¬ x < 0 ∧ ¬ (65535 : Int32) < x) : nar .char x = x := i2c_id h
theorem up16 {x : Int32} (h : ¬ x < 0 ∧ ¬ (255 : Int32) < x) : ¬ x < 0 ∧ ¬ (65535 : Int32) < x := ⟨h.1, fun q => h.2 (by rw [Int32.lt_iff_toInt_lt] at q ⊢; have e1 : (65535 : Int32).toInt = 65535 := rfl; have e2 : (255 : Int32).toInt = 255 := rfl; omega)⟩
theorem i2c_rng (x : Int32) : ¬ x.toUInt32.toUInt16.toUInt32.toInt32 < 0 ∧ ¬ (65535 : Int32) < x.toUInt32.toUInt16.toUInt32.toInt32 := by
  have h1 := c_i2c x
  rw [Int32.lt_iff_toInt_lt, Int32.lt_iff_toInt_lt]
  have e : (65535 : Int32).toInt = 65535 := rfl
  have e0 : (0 : Int32).toInt = 0 := rfl
  omega
theorem and255 (x : Int32) : ¬ (x &&& (255 : Int32)) < 0 ∧ ¬ (255 : Int32) < (x &&& (255 : Int32)) := by
  have h := c_and x 255 (by decide)
  have e : (255 : Int32).toInt = 255 := rfl
  rw [Int32.lt_iff_toInt_lt, Int32.lt_iff_toInt_lt, e]
  have e0 : (0 : Int32).toInt = 0 := rfl
  omega
theorem k_mask (x : Int32) : ¬ (x &&& (255 : Int32)).toUInt32.toUInt16.toUInt32.toInt32 < 0 ∧ ¬ (255 : Int32) < (x &&& (255 : Int32)).toUInt32.toUInt16.toUInt32.toInt32 := by
  rw [i2c_mask]; exact and255 x
theorem k_nar (x : Int32) : nar .char (x &&& (255 : Int32)).toUInt32.toUInt16.toUInt32.toInt32 = (x &&& (255 : Int32)).toUInt32.toUInt16.toUInt32.toInt32 := nar_i2c _
theorem and3 (x : Int32) : x &&& (3 : Int32) = 0 ∨ x &&& (3 : Int32) = 1 ∨ x &&& (3 : Int32) = 2 ∨ x &&& (3 : Int32) = 3 := by
  have h := c_and x 3 (by decide)
  have e : (3 : Int32).toInt = 3 := rfl
  rcases (by omega : (x &&& (3 : Int32)).toInt = 0 ∨ (x &&& (3 : Int32)).toInt = 1 ∨ (x &&& (3 : Int32)).toInt = 2 ∨ (x &&& (3 : Int32)).toInt = 3) with q | q | q | q
  · exact Or.inl (Int32.toInt_inj.mp q)
  · exact Or.inr (Or.inl (Int32.toInt_inj.mp q))
  · exact Or.inr (Or.inr (Or.inl (Int32.toInt_inj.mp q)))
  · exact Or.inr (Or.inr (Or.inr (Int32.toInt_inj.mp q)))
theorem maskL255 (x : Int64) : ¬ (x &&& (255 : Int64)).toInt32.toUInt32.toUInt16.toUInt32.toInt32 < 0 ∧ ¬ (255 : Int32) < (x &&& (255 : Int64)).toInt32.toUInt32.toUInt16.toUInt32.toInt32 := by
  have h := c_maskL x 255 8 (by decide) (by decide)
  have h2 := c_l2i (x &&& (255 : Int64))
  have h3 := c_i2c (x &&& (255 : Int64)).toInt32
  have h4 := rng32 (x &&& (255 : Int64)).toInt32
  rw [Int32.lt_iff_toInt_lt, Int32.lt_iff_toInt_lt]
  have e : (255 : Int32).toInt = 255 := rfl
  have e0 : (0 : Int32).toInt = 0 := rfl
  have e8 : ((2 ^ 8 : Nat) : Int) = 256 := rfl
  omega
theorem k_sa {Z : State} {a0 : Array Value} (hw : ∀ d ∈ tables_1, d.before a0 Z = true) : ∀ a ∈ Bundle.stringAtoms, a.before a0 Z = true := fun d hd => hw d ((by decide +kernel : ∀ d ∈ Bundle.stringAtoms, d ∈ tables_1) d hd)
theorem k_words {Z : State} {a0 : Array Value} (hw : ∀ d ∈ tables_1, d.before a0 Z = true) : ∀ d ∈ StrChars.Road.words, d.before a0 Z = true := fun d hd => hw d ((by decide +kernel : ∀ d ∈ StrChars.Road.words, d ∈ tables_1) d hd)
theorem k_eq {Z : State} {a0 : Array Value} (hw : ∀ d ∈ tables_1, d.before a0 Z = true) : ∀ d ∈ StrChars.Road.wordsEq, d.before a0 Z = true := fun d hd => hw d ((by decide +kernel : ∀ d ∈ StrChars.Road.wordsEq, d ∈ tables_1) d hd)
theorem sta_exa {args : Array Value} {Z : State} {C n d K : String} (hx : (Cond.exactly (.static C n d) K).value args Z none Z [] = some true) (hi : (Cond.initializedFor C n d).before args Z = true ∨ ((Cond.initialized C).before args Z = true ∧ (Cond.laysStatic C n d).before args Z = true)) : ∃ a, Sta Z Z.heap C n d (.ref a) ∧ Exa Z Z.heap a K ∧ (Term.static C n d).eval args Z none [] Z = some (.ref a) := by
  obtain ⟨a, c', cell, k, e1, -⟩ := Cond.exactly_spec (Cond.before_iff.mpr hx)
  exact ⟨a, Sta.start e1 hi, Exa.start e1 hx, e1⟩
theorem lo8_lo8 (z : Int32) : z.toInt8.toInt32.toInt8.toInt32 = z.toInt8.toInt32 := by simp
theorem wd0 {Z : State} {a0 : Array Value} (hw : ∀ d ∈ tables_1, d.before a0 Z = true) : (Jvm.Cond.fieldLink "com/example/proof_to_token/prooftotoken/config/SociabilityNamedPinLaw" (13 : Nat) "com/example/proof_to_token/prooftotoken/config/Sociability" "ALL_ORGANIZATIONS" "Lcom/example/proof_to_token/prooftotoken/config/Sociability;").before a0 Z = true := hw _ (List.mem_of_getElem? (i := 0) rfl)
theorem wd1 {Z : State} {a0 : Array Value} (hw : ∀ d ∈ tables_1, d.before a0 Z = true) : (Jvm.Cond.initialized "com/example/proof_to_token/prooftotoken/config/Sociability").before a0 Z = true := hw _ (List.mem_of_getElem? (i := 1) rfl)
theorem wd2 {Z : State} {a0 : Array Value} (hw : ∀ d ∈ tables_1, d.before a0 Z = true) : (Jvm.Cond.laysStatic "com/example/proof_to_token/prooftotoken/config/Sociability" "ALL_ORGANIZATIONS" "Lcom/example/proof_to_token/prooftotoken/config/Sociability;").before a0 Z = true := hw _ (List.mem_of_getElem? (i := 2) rfl)
theorem wd3 {Z : State} {a0 : Array Value} (hw : ∀ d ∈ tables_1, d.before a0 Z = true) : (Jvm.Cond.methodLink "com/example/proof_to_token/prooftotoken/config/SociabilityNamedPinLaw" (22 : Nat) ({ cls := "com/example/proof_to_token/prooftotoken/config/SociabilityNamedPinLaw", name := "allOrgs", desc := "()[C" } : Jvm.MethodName)).before a0 Z = true := hw _ (List.mem_of_getElem? (i := 3) rfl)
theorem wd4 {Z : State} {a0 : Array Value} (hw : ∀ d ∈ tables_1, d.before a0 Z = true) : (Jvm.Cond.static ({ cls := "com/example/proof_to_token/prooftotoken/config/SociabilityNamedPinLaw", name := "allOrgs", desc := "()[C" } : Jvm.MethodName)).before a0 Z = true := hw _ (List.mem_of_getElem? (i := 4) rfl)
theorem wd5 {Z : State} {a0 : Array Value} (hw : ∀ d ∈ tables_1, d.before a0 Z = true) : (Jvm.Cond.initialized "com/example/proof_to_token/prooftotoken/config/SociabilityNamedPinLaw").before a0 Z = true := hw _ (List.mem_of_getElem? (i := 5) rfl)
theorem wd6 {Z : State} {a0 : Array Value} (hw : ∀ d ∈ tables_1, d.before a0 Z = true) : (Jvm.Cond.code ({ cls := "com/example/proof_to_token/prooftotoken/config/SociabilityNamedPinLaw", name := "allOrgs", desc := "()[C" } : Jvm.MethodName) method_2_code (0 : Nat) (Option.some (Jvm.ClassFile.FieldType.array Jvm.ClassFile.FieldType.char))).before a0 Z = true := hw _ (List.mem_of_getElem? (i := 6) rfl)
theorem wd7 {Z : State} {a0 : Array Value} (hw : ∀ d ∈ tables_1, d.before a0 Z = true) : (Jvm.Cond.arrayClass Jvm.ClassFile.FieldType.char).before a0 Z = true := hw _ (List.mem_of_getElem? (i := 7) rfl)
theorem wd8 {Z : State} {a0 : Array Value} (hw : ∀ d ∈ tables_1, d.before a0 Z = true) : (Jvm.Cond.classLink "com/example/proof_to_token/prooftotoken/config/SociabilityNamedPinLaw" (39 : Nat) "java/lang/String").before a0 Z = true := hw _ (List.mem_of_getElem? (i := 8) rfl)
theorem wd9 {Z : State} {a0 : Array Value} (hw : ∀ d ∈ tables_1, d.before a0 Z = true) : (Jvm.Cond.instantiable "java/lang/String" (4 : Nat)).before a0 Z = true := hw _ (List.mem_of_getElem? (i := 9) rfl)
theorem wd10 {Z : State} {a0 : Array Value} (hw : ∀ d ∈ tables_1, d.before a0 Z = true) : (Jvm.Cond.initialized "java/lang/String").before a0 Z = true := hw _ (List.mem_of_getElem? (i := 10) rfl)
theorem wd11 {Z : State} {a0 : Array Value} (hw : ∀ d ∈ tables_1, d.before a0 Z = true) : (Jvm.Cond.methodLink "com/example/proof_to_token/prooftotoken/config/SociabilityNamedPinLaw" (41 : Nat) ({ cls := "java/lang/String", name := "<init>", desc := "([C)V" } : Jvm.MethodName)).before a0 Z = true := hw _ (List.mem_of_getElem? (i := 11) rfl)
theorem wd12 {Z : State} {a0 : Array Value} (hw : ∀ d ∈ tables_1, d.before a0 Z = true) : (Jvm.Cond.instanceMethod ({ cls := "java/lang/String", name := "<init>", desc := "([C)V" } : Jvm.MethodName)).before a0 Z = true := hw _ (List.mem_of_getElem? (i := 12) rfl)
theorem wd13 {Z : State} {a0 : Array Value} (hw : ∀ d ∈ tables_1, d.before a0 Z = true) : (Jvm.Cond.code ({ cls := "java/lang/String", name := "<init>", desc := "([C)V" } : Jvm.MethodName) jdk_42_method_3_code (2 : Nat) (Option.none : Option Jvm.ClassFile.FieldType)).before a0 Z = true := hw _ (List.mem_of_getElem? (i := 13) rfl)
theorem wd14 {Z : State} {a0 : Array Value} (hw : ∀ d ∈ tables_1, d.before a0 Z = true) : (Jvm.Cond.methodLink "java/lang/String" (27 : Nat) ({ cls := "java/lang/String", name := "<init>", desc := "([CIILjava/lang/Void;)V" } : Jvm.MethodName)).before a0 Z = true := hw _ (List.mem_of_getElem? (i := 14) rfl)
theorem wd15 {Z : State} {a0 : Array Value} (hw : ∀ d ∈ tables_1, d.before a0 Z = true) : (Jvm.Cond.instanceMethod ({ cls := "java/lang/String", name := "<init>", desc := "([CIILjava/lang/Void;)V" } : Jvm.MethodName)).before a0 Z = true := hw _ (List.mem_of_getElem? (i := 15) rfl)
theorem wd17 {Z : State} {a0 : Array Value} (hw : ∀ d ∈ tables_1, d.before a0 Z = true) : (Jvm.Cond.code ({ cls := "java/lang/String", name := "<init>", desc := "([CIILjava/lang/Void;)V" } : Jvm.MethodName) jdk_42_method_149_code (6 : Nat) (Option.none : Option Jvm.ClassFile.FieldType)).before a0 Z = true := hw _ (List.mem_of_getElem? (i := 17) rfl)
theorem wd18 {Z : State} {a0 : Array Value} (hw : ∀ d ∈ tables_1, d.before a0 Z = true) : (Jvm.Cond.methodLink "java/lang/String" (1 : Nat) ({ cls := "java/lang/Object", name := "<init>", desc := "()V" } : Jvm.MethodName)).before a0 Z = true := hw _ (List.mem_of_getElem? (i := 18) rfl)
theorem wd19 {Z : State} {a0 : Array Value} (hw : ∀ d ∈ tables_1, d.before a0 Z = true) : (Jvm.Cond.instanceMethod ({ cls := "java/lang/Object", name := "<init>", desc := "()V" } : Jvm.MethodName)).before a0 Z = true := hw _ (List.mem_of_getElem? (i := 19) rfl)
theorem wd20 {Z : State} {a0 : Array Value} (hw : ∀ d ∈ tables_1, d.before a0 Z = true) : (Jvm.Cond.code ({ cls := "java/lang/Object", name := "<init>", desc := "()V" } : Jvm.MethodName) object_method_1_code (1 : Nat) (Option.none : Option Jvm.ClassFile.FieldType)).before a0 Z = true := hw _ (List.mem_of_getElem? (i := 20) rfl)
theorem wd26 {Z : State} {a0 : Array Value} (hw : ∀ d ∈ tables_1, d.before a0 Z = true) : (Jvm.Cond.arrayClass Jvm.ClassFile.FieldType.byte).before a0 Z = true := hw _ (List.mem_of_getElem? (i := 26) rfl)
theorem wd33 {Z : State} {a0 : Array Value} (hw : ∀ d ∈ tables_1, d.before a0 Z = true) : (Jvm.Cond.fieldLink "java/lang/String" (15 : Nat) "java/lang/String" "coder" "B").before a0 Z = true := hw _ (List.mem_of_getElem? (i := 33) rfl)
theorem wd34 {Z : State} {a0 : Array Value} (hw : ∀ d ∈ tables_1, d.before a0 Z = true) : (Jvm.Cond.laysFinal "java/lang/String" "java/lang/String" "coder" "B").before a0 Z = true := hw _ (List.mem_of_getElem? (i := 34) rfl)
theorem wd35 {Z : State} {a0 : Array Value} (hw : ∀ d ∈ tables_1, d.before a0 Z = true) : (Jvm.Cond.fieldLink "java/lang/String" (9 : Nat) "java/lang/String" "value" "[B").before a0 Z = true := hw _ (List.mem_of_getElem? (i := 35) rfl)
theorem wd36 {Z : State} {a0 : Array Value} (hw : ∀ d ∈ tables_1, d.before a0 Z = true) : (Jvm.Cond.laysFinal "java/lang/String" "java/lang/String" "value" "[B").before a0 Z = true := hw _ (List.mem_of_getElem? (i := 36) rfl)
theorem wd37 {Z : State} {a0 : Array Value} (hw : ∀ d ∈ tables_1, d.before a0 Z = true) : (Jvm.Cond.methodLink "com/example/proof_to_token/prooftotoken/config/SociabilityNamedPinLaw" (44 : Nat) ({ cls := "com/example/proof_to_token/prooftotoken/config/Sociability", name := "named", desc := "(Ljava/lang/String;)Ljava/util/Optional;" } : Jvm.MethodName)).before a0 Z = true := hw _ (List.mem_of_getElem? (i := 37) rfl)
theorem wd38 {Z : State} {a0 : Array Value} (hw : ∀ d ∈ tables_1, d.before a0 Z = true) : (Jvm.Cond.static ({ cls := "com/example/proof_to_token/prooftotoken/config/Sociability", name := "named", desc := "(Ljava/lang/String;)Ljava/util/Optional;" } : Jvm.MethodName)).before a0 Z = true := hw _ (List.mem_of_getElem? (i := 38) rfl)
theorem wd39 {Z : State} {a0 : Array Value} (hw : ∀ d ∈ tables_1, d.before a0 Z = true) : (Jvm.Cond.code ({ cls := "com/example/proof_to_token/prooftotoken/config/Sociability", name := "named", desc := "(Ljava/lang/String;)Ljava/util/Optional;" } : Jvm.MethodName) prog_7_method_6_code (6 : Nat) (Option.some (Jvm.ClassFile.FieldType.object "java/util/Optional"))).before a0 Z = true := hw _ (List.mem_of_getElem? (i := 39) rfl)
theorem wd40 {Z : State} {a0 : Array Value} (hw : ∀ d ∈ tables_1, d.before a0 Z = true) : (Jvm.Cond.methodLink "com/example/proof_to_token/prooftotoken/config/Sociability" (37 : Nat) ({ cls := "com/example/proof_to_token/prooftotoken/config/Sociability", name := "values", desc := "()[Lcom/example/proof_to_token/prooftotoken/config/Sociability;" } : Jvm.MethodName)).before a0 Z = true := hw _ (List.mem_of_getElem? (i := 40) rfl)
theorem wd41 {Z : State} {a0 : Array Value} (hw : ∀ d ∈ tables_1, d.before a0 Z = true) : (Jvm.Cond.static ({ cls := "com/example/proof_to_token/prooftotoken/config/Sociability", name := "values", desc := "()[Lcom/example/proof_to_token/prooftotoken/config/Sociability;" } : Jvm.MethodName)).before a0 Z = true := hw _ (List.mem_of_getElem? (i := 41) rfl)
theorem wd42 {Z : State} {a0 : Array Value} (hw : ∀ d ∈ tables_1, d.before a0 Z = true) : (Jvm.Cond.code ({ cls := "com/example/proof_to_token/prooftotoken/config/Sociability", name := "values", desc := "()[Lcom/example/proof_to_token/prooftotoken/config/Sociability;" } : Jvm.MethodName) prog_7_method_1_code (0 : Nat) (Option.some (Jvm.ClassFile.FieldType.array (Jvm.ClassFile.FieldType.object "com/example/proof_to_token/prooftotoken/config/Sociability")))).before a0 Z = true := hw _ (List.mem_of_getElem? (i := 42) rfl)
theorem wd43 {Z : State} {a0 : Array Value} (hw : ∀ d ∈ tables_1, d.before a0 Z = true) : (Jvm.Cond.fieldLink "com/example/proof_to_token/prooftotoken/config/Sociability" (10 : Nat) "com/example/proof_to_token/prooftotoken/config/Sociability" "$VALUES" "[Lcom/example/proof_to_token/prooftotoken/config/Sociability;").before a0 Z = true := hw _ (List.mem_of_getElem? (i := 43) rfl)
theorem wd44 {Z : State} {a0 : Array Value} (hw : ∀ d ∈ tables_1, d.before a0 Z = true) : (Jvm.Cond.laysStatic "com/example/proof_to_token/prooftotoken/config/Sociability" "$VALUES" "[Lcom/example/proof_to_token/prooftotoken/config/Sociability;").before a0 Z = true := hw _ (List.mem_of_getElem? (i := 44) rfl)
theorem wd45 {Z : State} {a0 : Array Value} (hw : ∀ d ∈ tables_1, d.before a0 Z = true) : (Jvm.Cond.methodLink "com/example/proof_to_token/prooftotoken/config/Sociability" (14 : Nat) ({ cls := "[Lcom/example/proof_to_token/prooftotoken/config/Sociability;", name := "clone", desc := "()Ljava/lang/Object;" } : Jvm.MethodName)).before a0 Z = true := hw _ (List.mem_of_getElem? (i := 45) rfl)
theorem wd46 {Z : State} {a0 : Array Value} (hw : ∀ d ∈ tables_1, d.before a0 Z = true) : (Jvm.Cond.sameMethod "[Lcom/example/proof_to_token/prooftotoken/config/Sociability;" "java/lang/Object" "clone" "()Ljava/lang/Object;").before a0 Z = true := hw _ (List.mem_of_getElem? (i := 46) rfl)
theorem wd48 {Z : State} {a0 : Array Value} (hw : ∀ d ∈ tables_1, d.before a0 Z = true) : (Jvm.Cond.instanceMethod ({ cls := "java/lang/Object", name := "clone", desc := "()Ljava/lang/Object;" } : Jvm.MethodName)).before a0 Z = true := hw _ (List.mem_of_getElem? (i := 48) rfl)
theorem wd49 {Z : State} {a0 : Array Value} (hw : ∀ d ∈ tables_1, d.before a0 Z = true) : (Jvm.Cond.selects "[Lcom/example/proof_to_token/prooftotoken/config/Sociability;" ({ cls := "[Lcom/example/proof_to_token/prooftotoken/config/Sociability;", name := "clone", desc := "()Ljava/lang/Object;" } : Jvm.MethodName) ({ cls := "java/lang/Object", name := "clone", desc := "()Ljava/lang/Object;" } : Jvm.MethodName)).before a0 Z = true := hw _ (List.mem_of_getElem? (i := 49) rfl)
theorem wd50 {Z : State} {a0 : Array Value} (hw : ∀ d ∈ tables_1, d.before a0 Z = true) : (Jvm.Cond.native ({ cls := "java/lang/Object", name := "clone", desc := "()Ljava/lang/Object;" } : Jvm.MethodName)).before a0 Z = true := hw _ (List.mem_of_getElem? (i := 50) rfl)
theorem wd51 {Z : State} {a0 : Array Value} (hw : ∀ d ∈ tables_1, d.before a0 Z = true) : (Jvm.Cond.castable "[Lcom/example/proof_to_token/prooftotoken/config/Sociability;" "java/lang/Cloneable").before a0 Z = true := hw _ (List.mem_of_getElem? (i := 51) rfl)
theorem wd52 {Z : State} {a0 : Array Value} (hw : ∀ d ∈ tables_1, d.before a0 Z = true) : (Jvm.Cond.laysStatic "com/example/proof_to_token/prooftotoken/config/Sociability" "COUNTERAGENTS_ONLY" "Lcom/example/proof_to_token/prooftotoken/config/Sociability;").before a0 Z = true := hw _ (List.mem_of_getElem? (i := 52) rfl)
theorem wd54 {Z : State} {a0 : Array Value} (hw : ∀ d ∈ tables_1, d.before a0 Z = true) : (Jvm.Cond.classLink "com/example/proof_to_token/prooftotoken/config/Sociability" (15 : Nat) "[Lcom/example/proof_to_token/prooftotoken/config/Sociability;").before a0 Z = true := hw _ (List.mem_of_getElem? (i := 54) rfl)
theorem wd56 {Z : State} {a0 : Array Value} (hw : ∀ d ∈ tables_1, d.before a0 Z = true) : (Jvm.Cond.fieldLink "com/example/proof_to_token/prooftotoken/config/Sociability" (29 : Nat) "com/example/proof_to_token/prooftotoken/config/Sociability" "publishedName" "Ljava/lang/String;").before a0 Z = true := hw _ (List.mem_of_getElem? (i := 56) rfl)
theorem wd58 {Z : State} {a0 : Array Value} (hw : ∀ d ∈ tables_1, d.before a0 Z = true) : (Jvm.Cond.methodLink "com/example/proof_to_token/prooftotoken/config/Sociability" (41 : Nat) ({ cls := "java/lang/String", name := "equals", desc := "(Ljava/lang/Object;)Z" } : Jvm.MethodName)).before a0 Z = true := hw _ (List.mem_of_getElem? (i := 58) rfl)
theorem wd59 {Z : State} {a0 : Array Value} (hw : ∀ d ∈ tables_1, d.before a0 Z = true) : (Jvm.Cond.declares ({ cls := "java/lang/String", name := "equals", desc := "(Ljava/lang/Object;)Z" } : Jvm.MethodName)).before a0 Z = true := hw _ (List.mem_of_getElem? (i := 59) rfl)
theorem wd60 {Z : State} {a0 : Array Value} (hw : ∀ d ∈ tables_1, d.before a0 Z = true) : (Jvm.Cond.instanceMethod ({ cls := "java/lang/String", name := "equals", desc := "(Ljava/lang/Object;)Z" } : Jvm.MethodName)).before a0 Z = true := hw _ (List.mem_of_getElem? (i := 60) rfl)
theorem wd61 {Z : State} {a0 : Array Value} (hw : ∀ d ∈ tables_1, d.before a0 Z = true) : (Jvm.Cond.selects "java/lang/String" ({ cls := "java/lang/String", name := "equals", desc := "(Ljava/lang/Object;)Z" } : Jvm.MethodName) ({ cls := "java/lang/String", name := "equals", desc := "(Ljava/lang/Object;)Z" } : Jvm.MethodName)).before a0 Z = true := hw _ (List.mem_of_getElem? (i := 61) rfl)
theorem wd68 {Z : State} {a0 : Array Value} (hw : ∀ d ∈ tables_1, d.before a0 Z = true) : (Jvm.Cond.methodLink "com/example/proof_to_token/prooftotoken/config/Sociability" (47 : Nat) ({ cls := "java/util/Optional", name := "ofNullable", desc := "(Ljava/lang/Object;)Ljava/util/Optional;" } : Jvm.MethodName)).before a0 Z = true := hw _ (List.mem_of_getElem? (i := 68) rfl)
theorem wd69 {Z : State} {a0 : Array Value} (hw : ∀ d ∈ tables_1, d.before a0 Z = true) : (Jvm.Cond.static ({ cls := "java/util/Optional", name := "ofNullable", desc := "(Ljava/lang/Object;)Ljava/util/Optional;" } : Jvm.MethodName)).before a0 Z = true := hw _ (List.mem_of_getElem? (i := 69) rfl)
theorem wd70 {Z : State} {a0 : Array Value} (hw : ∀ d ∈ tables_1, d.before a0 Z = true) : (Jvm.Cond.initialized "java/util/Optional").before a0 Z = true := hw _ (List.mem_of_getElem? (i := 70) rfl)
theorem wd71 {Z : State} {a0 : Array Value} (hw : ∀ d ∈ tables_1, d.before a0 Z = true) : (Jvm.Cond.code ({ cls := "java/util/Optional", name := "ofNullable", desc := "(Ljava/lang/Object;)Ljava/util/Optional;" } : Jvm.MethodName) jdk_32_method_4_code (1 : Nat) (Option.some (Jvm.ClassFile.FieldType.object "java/util/Optional"))).before a0 Z = true := hw _ (List.mem_of_getElem? (i := 71) rfl)
theorem wd72 {Z : State} {a0 : Array Value} (hw : ∀ d ∈ tables_1, d.before a0 Z = true) : (Jvm.Cond.classLink "java/util/Optional" (2 : Nat) "java/util/Optional").before a0 Z = true := hw _ (List.mem_of_getElem? (i := 72) rfl)
theorem wd73 {Z : State} {a0 : Array Value} (hw : ∀ d ∈ tables_1, d.before a0 Z = true) : (Jvm.Cond.instantiable "java/util/Optional" (1 : Nat)).before a0 Z = true := hw _ (List.mem_of_getElem? (i := 73) rfl)
theorem wd74 {Z : State} {a0 : Array Value} (hw : ∀ d ∈ tables_1, d.before a0 Z = true) : (Jvm.Cond.methodLink "java/util/Optional" (23 : Nat) ({ cls := "java/util/Optional", name := "<init>", desc := "(Ljava/lang/Object;)V" } : Jvm.MethodName)).before a0 Z = true := hw _ (List.mem_of_getElem? (i := 74) rfl)
theorem wd75 {Z : State} {a0 : Array Value} (hw : ∀ d ∈ tables_1, d.before a0 Z = true) : (Jvm.Cond.instanceMethod ({ cls := "java/util/Optional", name := "<init>", desc := "(Ljava/lang/Object;)V" } : Jvm.MethodName)).before a0 Z = true := hw _ (List.mem_of_getElem? (i := 75) rfl)
theorem wd77 {Z : State} {a0 : Array Value} (hw : ∀ d ∈ tables_1, d.before a0 Z = true) : (Jvm.Cond.code ({ cls := "java/util/Optional", name := "<init>", desc := "(Ljava/lang/Object;)V" } : Jvm.MethodName) jdk_32_method_2_code (2 : Nat) (Option.none : Option Jvm.ClassFile.FieldType)).before a0 Z = true := hw _ (List.mem_of_getElem? (i := 77) rfl)
theorem wd78 {Z : State} {a0 : Array Value} (hw : ∀ d ∈ tables_1, d.before a0 Z = true) : (Jvm.Cond.methodLink "java/util/Optional" (7 : Nat) ({ cls := "java/lang/Object", name := "<init>", desc := "()V" } : Jvm.MethodName)).before a0 Z = true := hw _ (List.mem_of_getElem? (i := 78) rfl)
theorem wd79 {Z : State} {a0 : Array Value} (hw : ∀ d ∈ tables_1, d.before a0 Z = true) : (Jvm.Cond.fieldLink "java/util/Optional" (13 : Nat) "java/util/Optional" "value" "Ljava/lang/Object;").before a0 Z = true := hw _ (List.mem_of_getElem? (i := 79) rfl)
theorem wd80 {Z : State} {a0 : Array Value} (hw : ∀ d ∈ tables_1, d.before a0 Z = true) : (Jvm.Cond.laysFinal "java/util/Optional" "java/util/Optional" "value" "Ljava/lang/Object;").before a0 Z = true := hw _ (List.mem_of_getElem? (i := 80) rfl)
theorem wd81 {Z : State} {a0 : Array Value} (hw : ∀ d ∈ tables_1, d.before a0 Z = true) : (Jvm.Cond.methodLink "com/example/proof_to_token/prooftotoken/config/SociabilityNamedPinLaw" (48 : Nat) ({ cls := "java/util/Optional", name := "orElse", desc := "(Ljava/lang/Object;)Ljava/lang/Object;" } : Jvm.MethodName)).before a0 Z = true := hw _ (List.mem_of_getElem? (i := 81) rfl)
theorem wd82 {Z : State} {a0 : Array Value} (hw : ∀ d ∈ tables_1, d.before a0 Z = true) : (Jvm.Cond.declares ({ cls := "java/util/Optional", name := "orElse", desc := "(Ljava/lang/Object;)Ljava/lang/Object;" } : Jvm.MethodName)).before a0 Z = true := hw _ (List.mem_of_getElem? (i := 82) rfl)
theorem wd83 {Z : State} {a0 : Array Value} (hw : ∀ d ∈ tables_1, d.before a0 Z = true) : (Jvm.Cond.instanceMethod ({ cls := "java/util/Optional", name := "orElse", desc := "(Ljava/lang/Object;)Ljava/lang/Object;" } : Jvm.MethodName)).before a0 Z = true := hw _ (List.mem_of_getElem? (i := 83) rfl)
theorem wd84 {Z : State} {a0 : Array Value} (hw : ∀ d ∈ tables_1, d.before a0 Z = true) : (Jvm.Cond.selects "java/util/Optional" ({ cls := "java/util/Optional", name := "orElse", desc := "(Ljava/lang/Object;)Ljava/lang/Object;" } : Jvm.MethodName) ({ cls := "java/util/Optional", name := "orElse", desc := "(Ljava/lang/Object;)Ljava/lang/Object;" } : Jvm.MethodName)).before a0 Z = true := hw _ (List.mem_of_getElem? (i := 84) rfl)
theorem wd85 {Z : State} {a0 : Array Value} (hw : ∀ d ∈ tables_1, d.before a0 Z = true) : (Jvm.Cond.code ({ cls := "java/util/Optional", name := "orElse", desc := "(Ljava/lang/Object;)Ljava/lang/Object;" } : Jvm.MethodName) jdk_32_method_15_code (2 : Nat) (Option.some (Jvm.ClassFile.FieldType.object "java/lang/Object"))).before a0 Z = true := hw _ (List.mem_of_getElem? (i := 85) rfl)
theorem wd86 {Z : State} {a0 : Array Value} (hw : ∀ d ∈ tables_1, d.before a0 Z = true) : (Jvm.Cond.fieldLink "com/example/proof_to_token/prooftotoken/config/SociabilityNamedPinLaw" (7 : Nat) "com/example/proof_to_token/prooftotoken/config/Sociability" "COUNTERAGENTS_ONLY" "Lcom/example/proof_to_token/prooftotoken/config/Sociability;").before a0 Z = true := hw _ (List.mem_of_getElem? (i := 86) rfl)
theorem wd87 {Z : State} {a0 : Array Value} (hw : ∀ d ∈ tables_1, d.before a0 Z = true) : (Jvm.Cond.methodLink "com/example/proof_to_token/prooftotoken/config/SociabilityNamedPinLaw" (16 : Nat) ({ cls := "com/example/proof_to_token/prooftotoken/config/SociabilityNamedPinLaw", name := "cntOnly", desc := "()[C" } : Jvm.MethodName)).before a0 Z = true := hw _ (List.mem_of_getElem? (i := 87) rfl)
theorem wd88 {Z : State} {a0 : Array Value} (hw : ∀ d ∈ tables_1, d.before a0 Z = true) : (Jvm.Cond.static ({ cls := "com/example/proof_to_token/prooftotoken/config/SociabilityNamedPinLaw", name := "cntOnly", desc := "()[C" } : Jvm.MethodName)).before a0 Z = true := hw _ (List.mem_of_getElem? (i := 88) rfl)
theorem wd89 {Z : State} {a0 : Array Value} (hw : ∀ d ∈ tables_1, d.before a0 Z = true) : (Jvm.Cond.code ({ cls := "com/example/proof_to_token/prooftotoken/config/SociabilityNamedPinLaw", name := "cntOnly", desc := "()[C" } : Jvm.MethodName) method_3_code (0 : Nat) (Option.some (Jvm.ClassFile.FieldType.array Jvm.ClassFile.FieldType.char))).before a0 Z = true := hw _ (List.mem_of_getElem? (i := 89) rfl)
theorem wd90 {Z : State} {a0 : Array Value} (hw : ∀ d ∈ tables_1, d.before a0 Z = true) : (Jvm.Cond.methodLink "com/example/proof_to_token/prooftotoken/config/SociabilityNamedPinLaw" (33 : Nat) ({ cls := "com/example/proof_to_token/prooftotoken/config/SociabilityNamedPinLaw", name := "cntOnlyShort", desc := "()[C" } : Jvm.MethodName)).before a0 Z = true := hw _ (List.mem_of_getElem? (i := 90) rfl)
theorem wd91 {Z : State} {a0 : Array Value} (hw : ∀ d ∈ tables_1, d.before a0 Z = true) : (Jvm.Cond.static ({ cls := "com/example/proof_to_token/prooftotoken/config/SociabilityNamedPinLaw", name := "cntOnlyShort", desc := "()[C" } : Jvm.MethodName)).before a0 Z = true := hw _ (List.mem_of_getElem? (i := 91) rfl)
theorem wd92 {Z : State} {a0 : Array Value} (hw : ∀ d ∈ tables_1, d.before a0 Z = true) : (Jvm.Cond.code ({ cls := "com/example/proof_to_token/prooftotoken/config/SociabilityNamedPinLaw", name := "cntOnlyShort", desc := "()[C" } : Jvm.MethodName) method_7_code (0 : Nat) (Option.some (Jvm.ClassFile.FieldType.array Jvm.ClassFile.FieldType.char))).before a0 Z = true := hw _ (List.mem_of_getElem? (i := 92) rfl)
theorem wd93 {Z : State} {a0 : Array Value} (hw : ∀ d ∈ tables_1, d.before a0 Z = true) : (Jvm.Cond.fieldLink "java/util/Optional" (1 : Nat) "java/util/Optional" "EMPTY" "Ljava/util/Optional;").before a0 Z = true := hw _ (List.mem_of_getElem? (i := 93) rfl)
theorem wd94 {Z : State} {a0 : Array Value} (hw : ∀ d ∈ tables_1, d.before a0 Z = true) : (Jvm.Cond.methodLink "com/example/proof_to_token/prooftotoken/config/SociabilityNamedPinLaw" (30 : Nat) ({ cls := "com/example/proof_to_token/prooftotoken/config/SociabilityNamedPinLaw", name := "allOrgsPlus", desc := "(C)[C" } : Jvm.MethodName)).before a0 Z = true := hw _ (List.mem_of_getElem? (i := 94) rfl)
theorem wd95 {Z : State} {a0 : Array Value} (hw : ∀ d ∈ tables_1, d.before a0 Z = true) : (Jvm.Cond.static ({ cls := "com/example/proof_to_token/prooftotoken/config/SociabilityNamedPinLaw", name := "allOrgsPlus", desc := "(C)[C" } : Jvm.MethodName)).before a0 Z = true := hw _ (List.mem_of_getElem? (i := 95) rfl)
theorem wd96 {Z : State} {a0 : Array Value} (hw : ∀ d ∈ tables_1, d.before a0 Z = true) : (Jvm.Cond.code ({ cls := "com/example/proof_to_token/prooftotoken/config/SociabilityNamedPinLaw", name := "allOrgsPlus", desc := "(C)[C" } : Jvm.MethodName) method_4_code (1 : Nat) (Option.some (Jvm.ClassFile.FieldType.array Jvm.ClassFile.FieldType.char))).before a0 Z = true := hw _ (List.mem_of_getElem? (i := 96) rfl)
theorem wd97 {Z : State} {a0 : Array Value} (hw : ∀ d ∈ tables_1, d.before a0 Z = true) : (Jvm.Cond.constant "com/example/proof_to_token/prooftotoken/config/SociabilityNamedPinLaw" (25 : Nat) (2147483647 : Int32)).before a0 Z = true := hw _ (List.mem_of_getElem? (i := 97) rfl)
theorem wd98 {Z : State} {a0 : Array Value} (hw : ∀ d ∈ tables_1, d.before a0 Z = true) : (Jvm.Cond.stringLink "java/lang/String" (7 : Nat) "").before a0 Z = true := hw _ (List.mem_of_getElem? (i := 98) rfl)
theorem wd101 {Z : State} {a0 : Array Value} (hw : ∀ d ∈ tables_1, d.before a0 Z = true) : (Jvm.Cond.methodLink "com/example/proof_to_token/prooftotoken/config/SociabilityNamedPinLaw" (26 : Nat) ({ cls := "com/example/proof_to_token/prooftotoken/config/SociabilityNamedPinLaw", name := "cntOnlyPlus", desc := "(C)[C" } : Jvm.MethodName)).before a0 Z = true := hw _ (List.mem_of_getElem? (i := 101) rfl)
theorem wd102 {Z : State} {a0 : Array Value} (hw : ∀ d ∈ tables_1, d.before a0 Z = true) : (Jvm.Cond.static ({ cls := "com/example/proof_to_token/prooftotoken/config/SociabilityNamedPinLaw", name := "cntOnlyPlus", desc := "(C)[C" } : Jvm.MethodName)).before a0 Z = true := hw _ (List.mem_of_getElem? (i := 102) rfl)
theorem wd103 {Z : State} {a0 : Array Value} (hw : ∀ d ∈ tables_1, d.before a0 Z = true) : (Jvm.Cond.code ({ cls := "com/example/proof_to_token/prooftotoken/config/SociabilityNamedPinLaw", name := "cntOnlyPlus", desc := "(C)[C" } : Jvm.MethodName) method_5_code (1 : Nat) (Option.some (Jvm.ClassFile.FieldType.array Jvm.ClassFile.FieldType.char))).before a0 Z = true := hw _ (List.mem_of_getElem? (i := 103) rfl)
theorem wd104 {Z : State} {a0 : Array Value} (hw : ∀ d ∈ tables_1, d.before a0 Z = true) : (Jvm.Cond.methodLink "com/example/proof_to_token/prooftotoken/config/SociabilityNamedPinLaw" (36 : Nat) ({ cls := "com/example/proof_to_token/prooftotoken/config/SociabilityNamedPinLaw", name := "allOrgsShort", desc := "()[C" } : Jvm.MethodName)).before a0 Z = true := hw _ (List.mem_of_getElem? (i := 104) rfl)
theorem wd105 {Z : State} {a0 : Array Value} (hw : ∀ d ∈ tables_1, d.before a0 Z = true) : (Jvm.Cond.static ({ cls := "com/example/proof_to_token/prooftotoken/config/SociabilityNamedPinLaw", name := "allOrgsShort", desc := "()[C" } : Jvm.MethodName)).before a0 Z = true := hw _ (List.mem_of_getElem? (i := 105) rfl)
theorem wd106 {Z : State} {a0 : Array Value} (hw : ∀ d ∈ tables_1, d.before a0 Z = true) : (Jvm.Cond.code ({ cls := "com/example/proof_to_token/prooftotoken/config/SociabilityNamedPinLaw", name := "allOrgsShort", desc := "()[C" } : Jvm.MethodName) method_6_code (0 : Nat) (Option.some (Jvm.ClassFile.FieldType.array Jvm.ClassFile.FieldType.char))).before a0 Z = true := hw _ (List.mem_of_getElem? (i := 106) rfl)
theorem dc_jdk_42_method_149_code_0 : decode jdk_42_method_149_code 0 = .ok (.aload_n 0, 1) := by decide +kernel
theorem dc_jdk_42_method_149_code_1 : decode jdk_42_method_149_code 1 = .ok (.invokespecial 1, 3) := by decide +kernel
theorem dc_jdk_42_method_149_code_4 : decode jdk_42_method_149_code 4 = .ok (.iload_n 3, 1) := by decide +kernel
theorem dc_jdk_42_method_149_code_5 : decode jdk_42_method_149_code 5 = .ok (.ifCond .ne 22, 3) := by decide +kernel
theorem dc_jdk_42_method_149_code_8 : decode jdk_42_method_149_code 8 = .ok (.aload_n 0, 1) := by decide +kernel
theorem dc_jdk_42_method_149_code_9 : decode jdk_42_method_149_code 9 = .ok (.ldc 7, 2) := by decide +kernel
theorem dc_jdk_42_method_149_code_11 : decode jdk_42_method_149_code 11 = .ok (.getfield 9, 3) := by decide +kernel
theorem dc_jdk_42_method_149_code_14 : decode jdk_42_method_149_code 14 = .ok (.putfield 9, 3) := by decide +kernel
theorem dc_jdk_42_method_149_code_17 : decode jdk_42_method_149_code 17 = .ok (.aload_n 0, 1) := by decide +kernel
theorem dc_jdk_42_method_149_code_18 : decode jdk_42_method_149_code 18 = .ok (.ldc 7, 2) := by decide +kernel
theorem dc_jdk_42_method_149_code_20 : decode jdk_42_method_149_code 20 = .ok (.getfield 15, 3) := by decide +kernel
theorem dc_jdk_42_method_149_code_23 : decode jdk_42_method_149_code 23 = .ok (.putfield 15, 3) := by decide +kernel
theorem dc_jdk_42_method_149_code_26 : decode jdk_42_method_149_code 26 = .ok (.return_, 1) := by decide +kernel
theorem dc_jdk_42_method_3_code_0 : decode jdk_42_method_3_code 0 = .ok (.aload_n 0, 1) := by decide +kernel
theorem dc_jdk_42_method_3_code_1 : decode jdk_42_method_3_code 1 = .ok (.aload_n 1, 1) := by decide +kernel
theorem dc_jdk_42_method_3_code_2 : decode jdk_42_method_3_code 2 = .ok (.iconst 0, 1) := by decide +kernel
theorem dc_jdk_42_method_3_code_3 : decode jdk_42_method_3_code 3 = .ok (.aload_n 1, 1) := by decide +kernel
theorem dc_jdk_42_method_3_code_4 : decode jdk_42_method_3_code 4 = .ok (.arraylength, 1) := by decide +kernel
theorem dc_jdk_42_method_3_code_5 : decode jdk_42_method_3_code 5 = .ok (.aconst_null, 1) := by decide +kernel
theorem dc_jdk_42_method_3_code_6 : decode jdk_42_method_3_code 6 = .ok (.invokespecial 27, 3) := by decide +kernel
theorem dc_jdk_42_method_3_code_9 : decode jdk_42_method_3_code 9 = .ok (.return_, 1) := by decide +kernel
theorem dc_method_2_code_0 : decode method_2_code 0 = .ok (.bipush 16, 2) := by decide +kernel
theorem dc_method_2_code_2 : decode method_2_code 2 = .ok (.newarray .char, 2) := by decide +kernel
theorem dc_method_2_code_4 : decode method_2_code 4 = .ok (.dup, 1) := by decide +kernel
theorem dc_method_2_code_5 : decode method_2_code 5 = .ok (.iconst 0, 1) := by decide +kernel
theorem dc_method_2_code_6 : decode method_2_code 6 = .ok (.bipush 65, 2) := by decide +kernel
theorem dc_method_2_code_8 : decode method_2_code 8 = .ok (.castore, 1) := by decide +kernel
theorem dc_method_2_code_9 : decode method_2_code 9 = .ok (.dup, 1) := by decide +kernel
theorem dc_method_2_code_10 : decode method_2_code 10 = .ok (.iconst 1, 1) := by decide +kernel
theorem dc_method_2_code_11 : decode method_2_code 11 = .ok (.bipush 108, 2) := by decide +kernel
theorem dc_method_2_code_13 : decode method_2_code 13 = .ok (.castore, 1) := by decide +kernel
theorem dc_method_2_code_14 : decode method_2_code 14 = .ok (.dup, 1) := by decide +kernel
theorem dc_method_2_code_15 : decode method_2_code 15 = .ok (.iconst 2, 1) := by decide +kernel
theorem dc_method_2_code_16 : decode method_2_code 16 = .ok (.bipush 108, 2) := by decide +kernel
theorem dc_method_2_code_18 : decode method_2_code 18 = .ok (.castore, 1) := by decide +kernel
theorem dc_method_2_code_19 : decode method_2_code 19 = .ok (.dup, 1) := by decide +kernel
theorem dc_method_2_code_20 : decode method_2_code 20 = .ok (.iconst 3, 1) := by decide +kernel
theorem dc_method_2_code_21 : decode method_2_code 21 = .ok (.bipush 79, 2) := by decide +kernel
theorem dc_method_2_code_23 : decode method_2_code 23 = .ok (.castore, 1) := by decide +kernel
theorem dc_method_2_code_24 : decode method_2_code 24 = .ok (.dup, 1) := by decide +kernel
theorem dc_method_2_code_25 : decode method_2_code 25 = .ok (.iconst 4, 1) := by decide +kernel
theorem dc_method_2_code_26 : decode method_2_code 26 = .ok (.bipush 114, 2) := by decide +kernel
theorem dc_method_2_code_28 : decode method_2_code 28 = .ok (.castore, 1) := by decide +kernel
theorem dc_method_2_code_29 : decode method_2_code 29 = .ok (.dup, 1) := by decide +kernel
theorem dc_method_2_code_30 : decode method_2_code 30 = .ok (.iconst 5, 1) := by decide +kernel
theorem dc_method_2_code_31 : decode method_2_code 31 = .ok (.bipush 103, 2) := by decide +kernel
theorem dc_method_2_code_33 : decode method_2_code 33 = .ok (.castore, 1) := by decide +kernel
theorem dc_method_2_code_34 : decode method_2_code 34 = .ok (.dup, 1) := by decide +kernel
theorem dc_method_2_code_35 : decode method_2_code 35 = .ok (.bipush 6, 2) := by decide +kernel
theorem dc_method_2_code_37 : decode method_2_code 37 = .ok (.bipush 97, 2) := by decide +kernel
theorem dc_method_2_code_39 : decode method_2_code 39 = .ok (.castore, 1) := by decide +kernel
theorem dc_method_2_code_40 : decode method_2_code 40 = .ok (.dup, 1) := by decide +kernel
theorem dc_method_2_code_41 : decode method_2_code 41 = .ok (.bipush 7, 2) := by decide +kernel
theorem dc_method_2_code_43 : decode method_2_code 43 = .ok (.bipush 110, 2) := by decide +kernel
theorem dc_method_2_code_45 : decode method_2_code 45 = .ok (.castore, 1) := by decide +kernel
theorem dc_method_2_code_46 : decode method_2_code 46 = .ok (.dup, 1) := by decide +kernel
theorem dc_method_2_code_47 : decode method_2_code 47 = .ok (.bipush 8, 2) := by decide +kernel
theorem dc_method_2_code_49 : decode method_2_code 49 = .ok (.bipush 105, 2) := by decide +kernel
theorem dc_method_2_code_51 : decode method_2_code 51 = .ok (.castore, 1) := by decide +kernel
theorem dc_method_2_code_52 : decode method_2_code 52 = .ok (.dup, 1) := by decide +kernel
theorem dc_method_2_code_53 : decode method_2_code 53 = .ok (.bipush 9, 2) := by decide +kernel
theorem dc_method_2_code_55 : decode method_2_code 55 = .ok (.bipush 122, 2) := by decide +kernel
theorem dc_method_2_code_57 : decode method_2_code 57 = .ok (.castore, 1) := by decide +kernel
theorem dc_method_2_code_58 : decode method_2_code 58 = .ok (.dup, 1) := by decide +kernel
theorem dc_method_2_code_59 : decode method_2_code 59 = .ok (.bipush 10, 2) := by decide +kernel
theorem dc_method_2_code_61 : decode method_2_code 61 = .ok (.bipush 97, 2) := by decide +kernel
theorem dc_method_2_code_63 : decode method_2_code 63 = .ok (.castore, 1) := by decide +kernel
theorem dc_method_2_code_64 : decode method_2_code 64 = .ok (.dup, 1) := by decide +kernel
theorem dc_method_2_code_65 : decode method_2_code 65 = .ok (.bipush 11, 2) := by decide +kernel
theorem dc_method_2_code_67 : decode method_2_code 67 = .ok (.bipush 116, 2) := by decide +kernel
theorem dc_method_2_code_69 : decode method_2_code 69 = .ok (.castore, 1) := by decide +kernel
theorem dc_method_2_code_70 : decode method_2_code 70 = .ok (.dup, 1) := by decide +kernel
theorem dc_method_2_code_71 : decode method_2_code 71 = .ok (.bipush 12, 2) := by decide +kernel
theorem dc_method_2_code_73 : decode method_2_code 73 = .ok (.bipush 105, 2) := by decide +kernel
theorem dc_method_2_code_75 : decode method_2_code 75 = .ok (.castore, 1) := by decide +kernel
theorem dc_method_2_code_76 : decode method_2_code 76 = .ok (.dup, 1) := by decide +kernel
theorem dc_method_2_code_77 : decode method_2_code 77 = .ok (.bipush 13, 2) := by decide +kernel
theorem dc_method_2_code_79 : decode method_2_code 79 = .ok (.bipush 111, 2) := by decide +kernel
theorem dc_method_2_code_81 : decode method_2_code 81 = .ok (.castore, 1) := by decide +kernel
theorem dc_method_2_code_82 : decode method_2_code 82 = .ok (.dup, 1) := by decide +kernel
theorem dc_method_2_code_83 : decode method_2_code 83 = .ok (.bipush 14, 2) := by decide +kernel
theorem dc_method_2_code_85 : decode method_2_code 85 = .ok (.bipush 110, 2) := by decide +kernel
theorem dc_method_2_code_87 : decode method_2_code 87 = .ok (.castore, 1) := by decide +kernel
theorem dc_method_2_code_88 : decode method_2_code 88 = .ok (.dup, 1) := by decide +kernel
theorem dc_method_2_code_89 : decode method_2_code 89 = .ok (.bipush 15, 2) := by decide +kernel
theorem dc_method_2_code_91 : decode method_2_code 91 = .ok (.bipush 115, 2) := by decide +kernel
theorem dc_method_2_code_93 : decode method_2_code 93 = .ok (.castore, 1) := by decide +kernel
theorem dc_method_2_code_94 : decode method_2_code 94 = .ok (.areturn, 1) := by decide +kernel
theorem dc_method_3_code_0 : decode method_3_code 0 = .ok (.bipush 17, 2) := by decide +kernel
theorem dc_method_3_code_2 : decode method_3_code 2 = .ok (.newarray .char, 2) := by decide +kernel
theorem dc_method_3_code_4 : decode method_3_code 4 = .ok (.dup, 1) := by decide +kernel
theorem dc_method_3_code_5 : decode method_3_code 5 = .ok (.iconst 0, 1) := by decide +kernel
theorem dc_method_3_code_6 : decode method_3_code 6 = .ok (.bipush 67, 2) := by decide +kernel
theorem dc_method_3_code_8 : decode method_3_code 8 = .ok (.castore, 1) := by decide +kernel
theorem dc_method_3_code_9 : decode method_3_code 9 = .ok (.dup, 1) := by decide +kernel
theorem dc_method_3_code_10 : decode method_3_code 10 = .ok (.iconst 1, 1) := by decide +kernel
theorem dc_method_3_code_11 : decode method_3_code 11 = .ok (.bipush 111, 2) := by decide +kernel
theorem dc_method_3_code_13 : decode method_3_code 13 = .ok (.castore, 1) := by decide +kernel
theorem dc_method_3_code_14 : decode method_3_code 14 = .ok (.dup, 1) := by decide +kernel
theorem dc_method_3_code_15 : decode method_3_code 15 = .ok (.iconst 2, 1) := by decide +kernel
theorem dc_method_3_code_16 : decode method_3_code 16 = .ok (.bipush 117, 2) := by decide +kernel
theorem dc_method_3_code_18 : decode method_3_code 18 = .ok (.castore, 1) := by decide +kernel
theorem dc_method_3_code_19 : decode method_3_code 19 = .ok (.dup, 1) := by decide +kernel
theorem dc_method_3_code_20 : decode method_3_code 20 = .ok (.iconst 3, 1) := by decide +kernel
theorem dc_method_3_code_21 : decode method_3_code 21 = .ok (.bipush 110, 2) := by decide +kernel
theorem dc_method_3_code_23 : decode method_3_code 23 = .ok (.castore, 1) := by decide +kernel
theorem dc_method_3_code_24 : decode method_3_code 24 = .ok (.dup, 1) := by decide +kernel
theorem dc_method_3_code_25 : decode method_3_code 25 = .ok (.iconst 4, 1) := by decide +kernel
theorem dc_method_3_code_26 : decode method_3_code 26 = .ok (.bipush 116, 2) := by decide +kernel
theorem dc_method_3_code_28 : decode method_3_code 28 = .ok (.castore, 1) := by decide +kernel
theorem dc_method_3_code_29 : decode method_3_code 29 = .ok (.dup, 1) := by decide +kernel
theorem dc_method_3_code_30 : decode method_3_code 30 = .ok (.iconst 5, 1) := by decide +kernel
theorem dc_method_3_code_31 : decode method_3_code 31 = .ok (.bipush 101, 2) := by decide +kernel
theorem dc_method_3_code_33 : decode method_3_code 33 = .ok (.castore, 1) := by decide +kernel
theorem dc_method_3_code_34 : decode method_3_code 34 = .ok (.dup, 1) := by decide +kernel
theorem dc_method_3_code_35 : decode method_3_code 35 = .ok (.bipush 6, 2) := by decide +kernel
theorem dc_method_3_code_37 : decode method_3_code 37 = .ok (.bipush 114, 2) := by decide +kernel
theorem dc_method_3_code_39 : decode method_3_code 39 = .ok (.castore, 1) := by decide +kernel
theorem dc_method_3_code_40 : decode method_3_code 40 = .ok (.dup, 1) := by decide +kernel
theorem dc_method_3_code_41 : decode method_3_code 41 = .ok (.bipush 7, 2) := by decide +kernel
theorem dc_method_3_code_43 : decode method_3_code 43 = .ok (.bipush 97, 2) := by decide +kernel
theorem dc_method_3_code_45 : decode method_3_code 45 = .ok (.castore, 1) := by decide +kernel
theorem dc_method_3_code_46 : decode method_3_code 46 = .ok (.dup, 1) := by decide +kernel
theorem dc_method_3_code_47 : decode method_3_code 47 = .ok (.bipush 8, 2) := by decide +kernel
theorem dc_method_3_code_49 : decode method_3_code 49 = .ok (.bipush 103, 2) := by decide +kernel
theorem dc_method_3_code_51 : decode method_3_code 51 = .ok (.castore, 1) := by decide +kernel
theorem dc_method_3_code_52 : decode method_3_code 52 = .ok (.dup, 1) := by decide +kernel
theorem dc_method_3_code_53 : decode method_3_code 53 = .ok (.bipush 9, 2) := by decide +kernel
theorem dc_method_3_code_55 : decode method_3_code 55 = .ok (.bipush 101, 2) := by decide +kernel
theorem dc_method_3_code_57 : decode method_3_code 57 = .ok (.castore, 1) := by decide +kernel
theorem dc_method_3_code_58 : decode method_3_code 58 = .ok (.dup, 1) := by decide +kernel
theorem dc_method_3_code_59 : decode method_3_code 59 = .ok (.bipush 10, 2) := by decide +kernel
theorem dc_method_3_code_61 : decode method_3_code 61 = .ok (.bipush 110, 2) := by decide +kernel
theorem dc_method_3_code_63 : decode method_3_code 63 = .ok (.castore, 1) := by decide +kernel
theorem dc_method_3_code_64 : decode method_3_code 64 = .ok (.dup, 1) := by decide +kernel
theorem dc_method_3_code_65 : decode method_3_code 65 = .ok (.bipush 11, 2) := by decide +kernel
theorem dc_method_3_code_67 : decode method_3_code 67 = .ok (.bipush 116, 2) := by decide +kernel
theorem dc_method_3_code_69 : decode method_3_code 69 = .ok (.castore, 1) := by decide +kernel
theorem dc_method_3_code_70 : decode method_3_code 70 = .ok (.dup, 1) := by decide +kernel
theorem dc_method_3_code_71 : decode method_3_code 71 = .ok (.bipush 12, 2) := by decide +kernel
theorem dc_method_3_code_73 : decode method_3_code 73 = .ok (.bipush 115, 2) := by decide +kernel
theorem dc_method_3_code_75 : decode method_3_code 75 = .ok (.castore, 1) := by decide +kernel
theorem dc_method_3_code_76 : decode method_3_code 76 = .ok (.dup, 1) := by decide +kernel
theorem dc_method_3_code_77 : decode method_3_code 77 = .ok (.bipush 13, 2) := by decide +kernel
theorem dc_method_3_code_79 : decode method_3_code 79 = .ok (.bipush 79, 2) := by decide +kernel
theorem dc_method_3_code_81 : decode method_3_code 81 = .ok (.castore, 1) := by decide +kernel
theorem dc_method_3_code_82 : decode method_3_code 82 = .ok (.dup, 1) := by decide +kernel
theorem dc_method_3_code_83 : decode method_3_code 83 = .ok (.bipush 14, 2) := by decide +kernel
theorem dc_method_3_code_85 : decode method_3_code 85 = .ok (.bipush 110, 2) := by decide +kernel
theorem dc_method_3_code_87 : decode method_3_code 87 = .ok (.castore, 1) := by decide +kernel
theorem dc_method_3_code_88 : decode method_3_code 88 = .ok (.dup, 1) := by decide +kernel
theorem dc_method_3_code_89 : decode method_3_code 89 = .ok (.bipush 15, 2) := by decide +kernel
theorem dc_method_3_code_91 : decode method_3_code 91 = .ok (.bipush 108, 2) := by decide +kernel
theorem dc_method_3_code_93 : decode method_3_code 93 = .ok (.castore, 1) := by decide +kernel
theorem dc_method_3_code_94 : decode method_3_code 94 = .ok (.dup, 1) := by decide +kernel
theorem dc_method_3_code_95 : decode method_3_code 95 = .ok (.bipush 16, 2) := by decide +kernel
theorem dc_method_3_code_97 : decode method_3_code 97 = .ok (.bipush 121, 2) := by decide +kernel
theorem dc_method_3_code_99 : decode method_3_code 99 = .ok (.castore, 1) := by decide +kernel
theorem dc_method_3_code_100 : decode method_3_code 100 = .ok (.areturn, 1) := by decide +kernel
theorem dc_method_4_code_0 : decode method_4_code 0 = .ok (.bipush 17, 2) := by decide +kernel
theorem dc_method_4_code_2 : decode method_4_code 2 = .ok (.newarray .char, 2) := by decide +kernel
theorem dc_method_4_code_4 : decode method_4_code 4 = .ok (.dup, 1) := by decide +kernel
theorem dc_method_4_code_5 : decode method_4_code 5 = .ok (.iconst 0, 1) := by decide +kernel
theorem dc_method_4_code_6 : decode method_4_code 6 = .ok (.bipush 65, 2) := by decide +kernel
theorem dc_method_4_code_8 : decode method_4_code 8 = .ok (.castore, 1) := by decide +kernel
theorem dc_method_4_code_9 : decode method_4_code 9 = .ok (.dup, 1) := by decide +kernel
theorem dc_method_4_code_10 : decode method_4_code 10 = .ok (.iconst 1, 1) := by decide +kernel
theorem dc_method_4_code_11 : decode method_4_code 11 = .ok (.bipush 108, 2) := by decide +kernel
theorem dc_method_4_code_13 : decode method_4_code 13 = .ok (.castore, 1) := by decide +kernel
theorem dc_method_4_code_14 : decode method_4_code 14 = .ok (.dup, 1) := by decide +kernel
theorem dc_method_4_code_15 : decode method_4_code 15 = .ok (.iconst 2, 1) := by decide +kernel
theorem dc_method_4_code_16 : decode method_4_code 16 = .ok (.bipush 108, 2) := by decide +kernel
theorem dc_method_4_code_18 : decode method_4_code 18 = .ok (.castore, 1) := by decide +kernel
theorem dc_method_4_code_19 : decode method_4_code 19 = .ok (.dup, 1) := by decide +kernel
theorem dc_method_4_code_20 : decode method_4_code 20 = .ok (.iconst 3, 1) := by decide +kernel
theorem dc_method_4_code_21 : decode method_4_code 21 = .ok (.bipush 79, 2) := by decide +kernel
theorem dc_method_4_code_23 : decode method_4_code 23 = .ok (.castore, 1) := by decide +kernel
theorem dc_method_4_code_24 : decode method_4_code 24 = .ok (.dup, 1) := by decide +kernel
theorem dc_method_4_code_25 : decode method_4_code 25 = .ok (.iconst 4, 1) := by decide +kernel
theorem dc_method_4_code_26 : decode method_4_code 26 = .ok (.bipush 114, 2) := by decide +kernel
theorem dc_method_4_code_28 : decode method_4_code 28 = .ok (.castore, 1) := by decide +kernel
theorem dc_method_4_code_29 : decode method_4_code 29 = .ok (.dup, 1) := by decide +kernel
theorem dc_method_4_code_30 : decode method_4_code 30 = .ok (.iconst 5, 1) := by decide +kernel
theorem dc_method_4_code_31 : decode method_4_code 31 = .ok (.bipush 103, 2) := by decide +kernel
theorem dc_method_4_code_33 : decode method_4_code 33 = .ok (.castore, 1) := by decide +kernel
theorem dc_method_4_code_34 : decode method_4_code 34 = .ok (.dup, 1) := by decide +kernel
theorem dc_method_4_code_35 : decode method_4_code 35 = .ok (.bipush 6, 2) := by decide +kernel
theorem dc_method_4_code_37 : decode method_4_code 37 = .ok (.bipush 97, 2) := by decide +kernel
theorem dc_method_4_code_39 : decode method_4_code 39 = .ok (.castore, 1) := by decide +kernel
theorem dc_method_4_code_40 : decode method_4_code 40 = .ok (.dup, 1) := by decide +kernel
theorem dc_method_4_code_41 : decode method_4_code 41 = .ok (.bipush 7, 2) := by decide +kernel
theorem dc_method_4_code_43 : decode method_4_code 43 = .ok (.bipush 110, 2) := by decide +kernel
theorem dc_method_4_code_45 : decode method_4_code 45 = .ok (.castore, 1) := by decide +kernel
theorem dc_method_4_code_46 : decode method_4_code 46 = .ok (.dup, 1) := by decide +kernel
theorem dc_method_4_code_47 : decode method_4_code 47 = .ok (.bipush 8, 2) := by decide +kernel
theorem dc_method_4_code_49 : decode method_4_code 49 = .ok (.bipush 105, 2) := by decide +kernel
theorem dc_method_4_code_51 : decode method_4_code 51 = .ok (.castore, 1) := by decide +kernel
theorem dc_method_4_code_52 : decode method_4_code 52 = .ok (.dup, 1) := by decide +kernel
theorem dc_method_4_code_53 : decode method_4_code 53 = .ok (.bipush 9, 2) := by decide +kernel
theorem dc_method_4_code_55 : decode method_4_code 55 = .ok (.bipush 122, 2) := by decide +kernel
theorem dc_method_4_code_57 : decode method_4_code 57 = .ok (.castore, 1) := by decide +kernel
theorem dc_method_4_code_58 : decode method_4_code 58 = .ok (.dup, 1) := by decide +kernel
theorem dc_method_4_code_59 : decode method_4_code 59 = .ok (.bipush 10, 2) := by decide +kernel
theorem dc_method_4_code_61 : decode method_4_code 61 = .ok (.bipush 97, 2) := by decide +kernel
theorem dc_method_4_code_63 : decode method_4_code 63 = .ok (.castore, 1) := by decide +kernel
theorem dc_method_4_code_64 : decode method_4_code 64 = .ok (.dup, 1) := by decide +kernel
theorem dc_method_4_code_65 : decode method_4_code 65 = .ok (.bipush 11, 2) := by decide +kernel
theorem dc_method_4_code_67 : decode method_4_code 67 = .ok (.bipush 116, 2) := by decide +kernel
theorem dc_method_4_code_69 : decode method_4_code 69 = .ok (.castore, 1) := by decide +kernel
theorem dc_method_4_code_70 : decode method_4_code 70 = .ok (.dup, 1) := by decide +kernel
theorem dc_method_4_code_71 : decode method_4_code 71 = .ok (.bipush 12, 2) := by decide +kernel
theorem dc_method_4_code_73 : decode method_4_code 73 = .ok (.bipush 105, 2) := by decide +kernel
theorem dc_method_4_code_75 : decode method_4_code 75 = .ok (.castore, 1) := by decide +kernel
theorem dc_method_4_code_76 : decode method_4_code 76 = .ok (.dup, 1) := by decide +kernel
theorem dc_method_4_code_77 : decode method_4_code 77 = .ok (.bipush 13, 2) := by decide +kernel
theorem dc_method_4_code_79 : decode method_4_code 79 = .ok (.bipush 111, 2) := by decide +kernel
theorem dc_method_4_code_81 : decode method_4_code 81 = .ok (.castore, 1) := by decide +kernel
theorem dc_method_4_code_82 : decode method_4_code 82 = .ok (.dup, 1) := by decide +kernel
theorem dc_method_4_code_83 : decode method_4_code 83 = .ok (.bipush 14, 2) := by decide +kernel
theorem dc_method_4_code_85 : decode method_4_code 85 = .ok (.bipush 110, 2) := by decide +kernel
theorem dc_method_4_code_87 : decode method_4_code 87 = .ok (.castore, 1) := by decide +kernel
theorem dc_method_4_code_88 : decode method_4_code 88 = .ok (.dup, 1) := by decide +kernel
theorem dc_method_4_code_89 : decode method_4_code 89 = .ok (.bipush 15, 2) := by decide +kernel
theorem dc_method_4_code_91 : decode method_4_code 91 = .ok (.bipush 115, 2) := by decide +kernel
theorem dc_method_4_code_93 : decode method_4_code 93 = .ok (.castore, 1) := by decide +kernel
theorem dc_method_4_code_94 : decode method_4_code 94 = .ok (.dup, 1) := by decide +kernel
theorem dc_method_4_code_95 : decode method_4_code 95 = .ok (.bipush 16, 2) := by decide +kernel
theorem dc_method_4_code_97 : decode method_4_code 97 = .ok (.iload_n 0, 1) := by decide +kernel
theorem dc_method_4_code_98 : decode method_4_code 98 = .ok (.castore, 1) := by decide +kernel
theorem dc_method_4_code_99 : decode method_4_code 99 = .ok (.areturn, 1) := by decide +kernel
theorem dc_method_5_code_0 : decode method_5_code 0 = .ok (.bipush 18, 2) := by decide +kernel
theorem dc_method_5_code_2 : decode method_5_code 2 = .ok (.newarray .char, 2) := by decide +kernel
theorem dc_method_5_code_4 : decode method_5_code 4 = .ok (.dup, 1) := by decide +kernel
theorem dc_method_5_code_5 : decode method_5_code 5 = .ok (.iconst 0, 1) := by decide +kernel
theorem dc_method_5_code_6 : decode method_5_code 6 = .ok (.bipush 67, 2) := by decide +kernel
theorem dc_method_5_code_8 : decode method_5_code 8 = .ok (.castore, 1) := by decide +kernel
theorem dc_method_5_code_9 : decode method_5_code 9 = .ok (.dup, 1) := by decide +kernel
theorem dc_method_5_code_10 : decode method_5_code 10 = .ok (.iconst 1, 1) := by decide +kernel
theorem dc_method_5_code_11 : decode method_5_code 11 = .ok (.bipush 111, 2) := by decide +kernel
theorem dc_method_5_code_13 : decode method_5_code 13 = .ok (.castore, 1) := by decide +kernel
theorem dc_method_5_code_14 : decode method_5_code 14 = .ok (.dup, 1) := by decide +kernel
theorem dc_method_5_code_15 : decode method_5_code 15 = .ok (.iconst 2, 1) := by decide +kernel
theorem dc_method_5_code_16 : decode method_5_code 16 = .ok (.bipush 117, 2) := by decide +kernel
theorem dc_method_5_code_18 : decode method_5_code 18 = .ok (.castore, 1) := by decide +kernel
theorem dc_method_5_code_19 : decode method_5_code 19 = .ok (.dup, 1) := by decide +kernel
theorem dc_method_5_code_20 : decode method_5_code 20 = .ok (.iconst 3, 1) := by decide +kernel
theorem dc_method_5_code_21 : decode method_5_code 21 = .ok (.bipush 110, 2) := by decide +kernel
theorem dc_method_5_code_23 : decode method_5_code 23 = .ok (.castore, 1) := by decide +kernel
theorem dc_method_5_code_24 : decode method_5_code 24 = .ok (.dup, 1) := by decide +kernel
theorem dc_method_5_code_25 : decode method_5_code 25 = .ok (.iconst 4, 1) := by decide +kernel
theorem dc_method_5_code_26 : decode method_5_code 26 = .ok (.bipush 116, 2) := by decide +kernel
theorem dc_method_5_code_28 : decode method_5_code 28 = .ok (.castore, 1) := by decide +kernel
theorem dc_method_5_code_29 : decode method_5_code 29 = .ok (.dup, 1) := by decide +kernel
theorem dc_method_5_code_30 : decode method_5_code 30 = .ok (.iconst 5, 1) := by decide +kernel
theorem dc_method_5_code_31 : decode method_5_code 31 = .ok (.bipush 101, 2) := by decide +kernel
theorem dc_method_5_code_33 : decode method_5_code 33 = .ok (.castore, 1) := by decide +kernel
theorem dc_method_5_code_34 : decode method_5_code 34 = .ok (.dup, 1) := by decide +kernel
theorem dc_method_5_code_35 : decode method_5_code 35 = .ok (.bipush 6, 2) := by decide +kernel
theorem dc_method_5_code_37 : decode method_5_code 37 = .ok (.bipush 114, 2) := by decide +kernel
theorem dc_method_5_code_39 : decode method_5_code 39 = .ok (.castore, 1) := by decide +kernel
theorem dc_method_5_code_40 : decode method_5_code 40 = .ok (.dup, 1) := by decide +kernel
theorem dc_method_5_code_41 : decode method_5_code 41 = .ok (.bipush 7, 2) := by decide +kernel
theorem dc_method_5_code_43 : decode method_5_code 43 = .ok (.bipush 97, 2) := by decide +kernel
theorem dc_method_5_code_45 : decode method_5_code 45 = .ok (.castore, 1) := by decide +kernel
theorem dc_method_5_code_46 : decode method_5_code 46 = .ok (.dup, 1) := by decide +kernel
theorem dc_method_5_code_47 : decode method_5_code 47 = .ok (.bipush 8, 2) := by decide +kernel
theorem dc_method_5_code_49 : decode method_5_code 49 = .ok (.bipush 103, 2) := by decide +kernel
theorem dc_method_5_code_51 : decode method_5_code 51 = .ok (.castore, 1) := by decide +kernel
theorem dc_method_5_code_52 : decode method_5_code 52 = .ok (.dup, 1) := by decide +kernel
theorem dc_method_5_code_53 : decode method_5_code 53 = .ok (.bipush 9, 2) := by decide +kernel
theorem dc_method_5_code_55 : decode method_5_code 55 = .ok (.bipush 101, 2) := by decide +kernel
theorem dc_method_5_code_57 : decode method_5_code 57 = .ok (.castore, 1) := by decide +kernel
theorem dc_method_5_code_58 : decode method_5_code 58 = .ok (.dup, 1) := by decide +kernel
theorem dc_method_5_code_59 : decode method_5_code 59 = .ok (.bipush 10, 2) := by decide +kernel
theorem dc_method_5_code_61 : decode method_5_code 61 = .ok (.bipush 110, 2) := by decide +kernel
theorem dc_method_5_code_63 : decode method_5_code 63 = .ok (.castore, 1) := by decide +kernel
theorem dc_method_5_code_64 : decode method_5_code 64 = .ok (.dup, 1) := by decide +kernel
theorem dc_method_5_code_65 : decode method_5_code 65 = .ok (.bipush 11, 2) := by decide +kernel
theorem dc_method_5_code_67 : decode method_5_code 67 = .ok (.bipush 116, 2) := by decide +kernel
theorem dc_method_5_code_69 : decode method_5_code 69 = .ok (.castore, 1) := by decide +kernel
theorem dc_method_5_code_70 : decode method_5_code 70 = .ok (.dup, 1) := by decide +kernel
theorem dc_method_5_code_71 : decode method_5_code 71 = .ok (.bipush 12, 2) := by decide +kernel
theorem dc_method_5_code_73 : decode method_5_code 73 = .ok (.bipush 115, 2) := by decide +kernel
theorem dc_method_5_code_75 : decode method_5_code 75 = .ok (.castore, 1) := by decide +kernel
theorem dc_method_5_code_76 : decode method_5_code 76 = .ok (.dup, 1) := by decide +kernel
theorem dc_method_5_code_77 : decode method_5_code 77 = .ok (.bipush 13, 2) := by decide +kernel
theorem dc_method_5_code_79 : decode method_5_code 79 = .ok (.bipush 79, 2) := by decide +kernel
theorem dc_method_5_code_81 : decode method_5_code 81 = .ok (.castore, 1) := by decide +kernel
theorem dc_method_5_code_82 : decode method_5_code 82 = .ok (.dup, 1) := by decide +kernel
theorem dc_method_5_code_83 : decode method_5_code 83 = .ok (.bipush 14, 2) := by decide +kernel
theorem dc_method_5_code_85 : decode method_5_code 85 = .ok (.bipush 110, 2) := by decide +kernel
theorem dc_method_5_code_87 : decode method_5_code 87 = .ok (.castore, 1) := by decide +kernel
theorem dc_method_5_code_88 : decode method_5_code 88 = .ok (.dup, 1) := by decide +kernel
theorem dc_method_5_code_89 : decode method_5_code 89 = .ok (.bipush 15, 2) := by decide +kernel
theorem dc_method_5_code_91 : decode method_5_code 91 = .ok (.bipush 108, 2) := by decide +kernel
theorem dc_method_5_code_93 : decode method_5_code 93 = .ok (.castore, 1) := by decide +kernel
theorem dc_method_5_code_94 : decode method_5_code 94 = .ok (.dup, 1) := by decide +kernel
theorem dc_method_5_code_95 : decode method_5_code 95 = .ok (.bipush 16, 2) := by decide +kernel
theorem dc_method_5_code_97 : decode method_5_code 97 = .ok (.bipush 121, 2) := by decide +kernel
theorem dc_method_5_code_99 : decode method_5_code 99 = .ok (.castore, 1) := by decide +kernel
theorem dc_method_5_code_100 : decode method_5_code 100 = .ok (.dup, 1) := by decide +kernel
theorem dc_method_5_code_101 : decode method_5_code 101 = .ok (.bipush 17, 2) := by decide +kernel
theorem dc_method_5_code_103 : decode method_5_code 103 = .ok (.iload_n 0, 1) := by decide +kernel
theorem dc_method_5_code_104 : decode method_5_code 104 = .ok (.castore, 1) := by decide +kernel
theorem dc_method_5_code_105 : decode method_5_code 105 = .ok (.areturn, 1) := by decide +kernel
theorem dc_method_6_code_0 : decode method_6_code 0 = .ok (.bipush 15, 2) := by decide +kernel
theorem dc_method_6_code_2 : decode method_6_code 2 = .ok (.newarray .char, 2) := by decide +kernel
theorem dc_method_6_code_4 : decode method_6_code 4 = .ok (.dup, 1) := by decide +kernel
theorem dc_method_6_code_5 : decode method_6_code 5 = .ok (.iconst 0, 1) := by decide +kernel
theorem dc_method_6_code_6 : decode method_6_code 6 = .ok (.bipush 65, 2) := by decide +kernel
theorem dc_method_6_code_8 : decode method_6_code 8 = .ok (.castore, 1) := by decide +kernel
theorem dc_method_6_code_9 : decode method_6_code 9 = .ok (.dup, 1) := by decide +kernel
theorem dc_method_6_code_10 : decode method_6_code 10 = .ok (.iconst 1, 1) := by decide +kernel
theorem dc_method_6_code_11 : decode method_6_code 11 = .ok (.bipush 108, 2) := by decide +kernel
theorem dc_method_6_code_13 : decode method_6_code 13 = .ok (.castore, 1) := by decide +kernel
theorem dc_method_6_code_14 : decode method_6_code 14 = .ok (.dup, 1) := by decide +kernel
theorem dc_method_6_code_15 : decode method_6_code 15 = .ok (.iconst 2, 1) := by decide +kernel
theorem dc_method_6_code_16 : decode method_6_code 16 = .ok (.bipush 108, 2) := by decide +kernel
theorem dc_method_6_code_18 : decode method_6_code 18 = .ok (.castore, 1) := by decide +kernel
theorem dc_method_6_code_19 : decode method_6_code 19 = .ok (.dup, 1) := by decide +kernel
theorem dc_method_6_code_20 : decode method_6_code 20 = .ok (.iconst 3, 1) := by decide +kernel
theorem dc_method_6_code_21 : decode method_6_code 21 = .ok (.bipush 79, 2) := by decide +kernel
theorem dc_method_6_code_23 : decode method_6_code 23 = .ok (.castore, 1) := by decide +kernel
theorem dc_method_6_code_24 : decode method_6_code 24 = .ok (.dup, 1) := by decide +kernel
theorem dc_method_6_code_25 : decode method_6_code 25 = .ok (.iconst 4, 1) := by decide +kernel
theorem dc_method_6_code_26 : decode method_6_code 26 = .ok (.bipush 114, 2) := by decide +kernel
theorem dc_method_6_code_28 : decode method_6_code 28 = .ok (.castore, 1) := by decide +kernel
theorem dc_method_6_code_29 : decode method_6_code 29 = .ok (.dup, 1) := by decide +kernel
theorem dc_method_6_code_30 : decode method_6_code 30 = .ok (.iconst 5, 1) := by decide +kernel
theorem dc_method_6_code_31 : decode method_6_code 31 = .ok (.bipush 103, 2) := by decide +kernel
theorem dc_method_6_code_33 : decode method_6_code 33 = .ok (.castore, 1) := by decide +kernel
theorem dc_method_6_code_34 : decode method_6_code 34 = .ok (.dup, 1) := by decide +kernel
theorem dc_method_6_code_35 : decode method_6_code 35 = .ok (.bipush 6, 2) := by decide +kernel
theorem dc_method_6_code_37 : decode method_6_code 37 = .ok (.bipush 97, 2) := by decide +kernel
theorem dc_method_6_code_39 : decode method_6_code 39 = .ok (.castore, 1) := by decide +kernel
theorem dc_method_6_code_40 : decode method_6_code 40 = .ok (.dup, 1) := by decide +kernel
theorem dc_method_6_code_41 : decode method_6_code 41 = .ok (.bipush 7, 2) := by decide +kernel
theorem dc_method_6_code_43 : decode method_6_code 43 = .ok (.bipush 110, 2) := by decide +kernel
theorem dc_method_6_code_45 : decode method_6_code 45 = .ok (.castore, 1) := by decide +kernel
theorem dc_method_6_code_46 : decode method_6_code 46 = .ok (.dup, 1) := by decide +kernel
theorem dc_method_6_code_47 : decode method_6_code 47 = .ok (.bipush 8, 2) := by decide +kernel
theorem dc_method_6_code_49 : decode method_6_code 49 = .ok (.bipush 105, 2) := by decide +kernel
theorem dc_method_6_code_51 : decode method_6_code 51 = .ok (.castore, 1) := by decide +kernel
theorem dc_method_6_code_52 : decode method_6_code 52 = .ok (.dup, 1) := by decide +kernel
theorem dc_method_6_code_53 : decode method_6_code 53 = .ok (.bipush 9, 2) := by decide +kernel
theorem dc_method_6_code_55 : decode method_6_code 55 = .ok (.bipush 122, 2) := by decide +kernel
theorem dc_method_6_code_57 : decode method_6_code 57 = .ok (.castore, 1) := by decide +kernel
theorem dc_method_6_code_58 : decode method_6_code 58 = .ok (.dup, 1) := by decide +kernel
theorem dc_method_6_code_59 : decode method_6_code 59 = .ok (.bipush 10, 2) := by decide +kernel
theorem dc_method_6_code_61 : decode method_6_code 61 = .ok (.bipush 97, 2) := by decide +kernel
theorem dc_method_6_code_63 : decode method_6_code 63 = .ok (.castore, 1) := by decide +kernel
theorem dc_method_6_code_64 : decode method_6_code 64 = .ok (.dup, 1) := by decide +kernel
theorem dc_method_6_code_65 : decode method_6_code 65 = .ok (.bipush 11, 2) := by decide +kernel
theorem dc_method_6_code_67 : decode method_6_code 67 = .ok (.bipush 116, 2) := by decide +kernel
theorem dc_method_6_code_69 : decode method_6_code 69 = .ok (.castore, 1) := by decide +kernel
theorem dc_method_6_code_70 : decode method_6_code 70 = .ok (.dup, 1) := by decide +kernel
theorem dc_method_6_code_71 : decode method_6_code 71 = .ok (.bipush 12, 2) := by decide +kernel
theorem dc_method_6_code_73 : decode method_6_code 73 = .ok (.bipush 105, 2) := by decide +kernel
theorem dc_method_6_code_75 : decode method_6_code 75 = .ok (.castore, 1) := by decide +kernel
theorem dc_method_6_code_76 : decode method_6_code 76 = .ok (.dup, 1) := by decide +kernel
theorem dc_method_6_code_77 : decode method_6_code 77 = .ok (.bipush 13, 2) := by decide +kernel
theorem dc_method_6_code_79 : decode method_6_code 79 = .ok (.bipush 111, 2) := by decide +kernel
theorem dc_method_6_code_81 : decode method_6_code 81 = .ok (.castore, 1) := by decide +kernel
theorem dc_method_6_code_82 : decode method_6_code 82 = .ok (.dup, 1) := by decide +kernel
theorem dc_method_6_code_83 : decode method_6_code 83 = .ok (.bipush 14, 2) := by decide +kernel
theorem dc_method_6_code_85 : decode method_6_code 85 = .ok (.bipush 110, 2) := by decide +kernel
theorem dc_method_6_code_87 : decode method_6_code 87 = .ok (.castore, 1) := by decide +kernel
theorem dc_method_6_code_88 : decode method_6_code 88 = .ok (.areturn, 1) := by decide +kernel
theorem dc_method_7_code_0 : decode method_7_code 0 = .ok (.bipush 16, 2) := by decide +kernel
theorem dc_method_7_code_2 : decode method_7_code 2 = .ok (.newarray .char, 2) := by decide +kernel
theorem dc_method_7_code_4 : decode method_7_code 4 = .ok (.dup, 1) := by decide +kernel
theorem dc_method_7_code_5 : decode method_7_code 5 = .ok (.iconst 0, 1) := by decide +kernel
theorem dc_method_7_code_6 : decode method_7_code 6 = .ok (.bipush 67, 2) := by decide +kernel
theorem dc_method_7_code_8 : decode method_7_code 8 = .ok (.castore, 1) := by decide +kernel
theorem dc_method_7_code_9 : decode method_7_code 9 = .ok (.dup, 1) := by decide +kernel
theorem dc_method_7_code_10 : decode method_7_code 10 = .ok (.iconst 1, 1) := by decide +kernel
theorem dc_method_7_code_11 : decode method_7_code 11 = .ok (.bipush 111, 2) := by decide +kernel
theorem dc_method_7_code_13 : decode method_7_code 13 = .ok (.castore, 1) := by decide +kernel
theorem dc_method_7_code_14 : decode method_7_code 14 = .ok (.dup, 1) := by decide +kernel
theorem dc_method_7_code_15 : decode method_7_code 15 = .ok (.iconst 2, 1) := by decide +kernel
theorem dc_method_7_code_16 : decode method_7_code 16 = .ok (.bipush 117, 2) := by decide +kernel
theorem dc_method_7_code_18 : decode method_7_code 18 = .ok (.castore, 1) := by decide +kernel
theorem dc_method_7_code_19 : decode method_7_code 19 = .ok (.dup, 1) := by decide +kernel
theorem dc_method_7_code_20 : decode method_7_code 20 = .ok (.iconst 3, 1) := by decide +kernel
theorem dc_method_7_code_21 : decode method_7_code 21 = .ok (.bipush 110, 2) := by decide +kernel
theorem dc_method_7_code_23 : decode method_7_code 23 = .ok (.castore, 1) := by decide +kernel
theorem dc_method_7_code_24 : decode method_7_code 24 = .ok (.dup, 1) := by decide +kernel
theorem dc_method_7_code_25 : decode method_7_code 25 = .ok (.iconst 4, 1) := by decide +kernel
theorem dc_method_7_code_26 : decode method_7_code 26 = .ok (.bipush 116, 2) := by decide +kernel
theorem dc_method_7_code_28 : decode method_7_code 28 = .ok (.castore, 1) := by decide +kernel
theorem dc_method_7_code_29 : decode method_7_code 29 = .ok (.dup, 1) := by decide +kernel
theorem dc_method_7_code_30 : decode method_7_code 30 = .ok (.iconst 5, 1) := by decide +kernel
theorem dc_method_7_code_31 : decode method_7_code 31 = .ok (.bipush 101, 2) := by decide +kernel
theorem dc_method_7_code_33 : decode method_7_code 33 = .ok (.castore, 1) := by decide +kernel
theorem dc_method_7_code_34 : decode method_7_code 34 = .ok (.dup, 1) := by decide +kernel
theorem dc_method_7_code_35 : decode method_7_code 35 = .ok (.bipush 6, 2) := by decide +kernel
theorem dc_method_7_code_37 : decode method_7_code 37 = .ok (.bipush 114, 2) := by decide +kernel
theorem dc_method_7_code_39 : decode method_7_code 39 = .ok (.castore, 1) := by decide +kernel
theorem dc_method_7_code_40 : decode method_7_code 40 = .ok (.dup, 1) := by decide +kernel
theorem dc_method_7_code_41 : decode method_7_code 41 = .ok (.bipush 7, 2) := by decide +kernel
theorem dc_method_7_code_43 : decode method_7_code 43 = .ok (.bipush 97, 2) := by decide +kernel
theorem dc_method_7_code_45 : decode method_7_code 45 = .ok (.castore, 1) := by decide +kernel
theorem dc_method_7_code_46 : decode method_7_code 46 = .ok (.dup, 1) := by decide +kernel
theorem dc_method_7_code_47 : decode method_7_code 47 = .ok (.bipush 8, 2) := by decide +kernel
theorem dc_method_7_code_49 : decode method_7_code 49 = .ok (.bipush 103, 2) := by decide +kernel
theorem dc_method_7_code_51 : decode method_7_code 51 = .ok (.castore, 1) := by decide +kernel
theorem dc_method_7_code_52 : decode method_7_code 52 = .ok (.dup, 1) := by decide +kernel
theorem dc_method_7_code_53 : decode method_7_code 53 = .ok (.bipush 9, 2) := by decide +kernel
theorem dc_method_7_code_55 : decode method_7_code 55 = .ok (.bipush 101, 2) := by decide +kernel
theorem dc_method_7_code_57 : decode method_7_code 57 = .ok (.castore, 1) := by decide +kernel
theorem dc_method_7_code_58 : decode method_7_code 58 = .ok (.dup, 1) := by decide +kernel
theorem dc_method_7_code_59 : decode method_7_code 59 = .ok (.bipush 10, 2) := by decide +kernel
theorem dc_method_7_code_61 : decode method_7_code 61 = .ok (.bipush 110, 2) := by decide +kernel
theorem dc_method_7_code_63 : decode method_7_code 63 = .ok (.castore, 1) := by decide +kernel
theorem dc_method_7_code_64 : decode method_7_code 64 = .ok (.dup, 1) := by decide +kernel
theorem dc_method_7_code_65 : decode method_7_code 65 = .ok (.bipush 11, 2) := by decide +kernel
theorem dc_method_7_code_67 : decode method_7_code 67 = .ok (.bipush 116, 2) := by decide +kernel
theorem dc_method_7_code_69 : decode method_7_code 69 = .ok (.castore, 1) := by decide +kernel
theorem dc_method_7_code_70 : decode method_7_code 70 = .ok (.dup, 1) := by decide +kernel
theorem dc_method_7_code_71 : decode method_7_code 71 = .ok (.bipush 12, 2) := by decide +kernel
theorem dc_method_7_code_73 : decode method_7_code 73 = .ok (.bipush 115, 2) := by decide +kernel
theorem dc_method_7_code_75 : decode method_7_code 75 = .ok (.castore, 1) := by decide +kernel
theorem dc_method_7_code_76 : decode method_7_code 76 = .ok (.dup, 1) := by decide +kernel
theorem dc_method_7_code_77 : decode method_7_code 77 = .ok (.bipush 13, 2) := by decide +kernel
theorem dc_method_7_code_79 : decode method_7_code 79 = .ok (.bipush 79, 2) := by decide +kernel
theorem dc_method_7_code_81 : decode method_7_code 81 = .ok (.castore, 1) := by decide +kernel
theorem dc_method_7_code_82 : decode method_7_code 82 = .ok (.dup, 1) := by decide +kernel
theorem dc_method_7_code_83 : decode method_7_code 83 = .ok (.bipush 14, 2) := by decide +kernel
theorem dc_method_7_code_85 : decode method_7_code 85 = .ok (.bipush 110, 2) := by decide +kernel
theorem dc_method_7_code_87 : decode method_7_code 87 = .ok (.castore, 1) := by decide +kernel
theorem dc_method_7_code_88 : decode method_7_code 88 = .ok (.dup, 1) := by decide +kernel
theorem dc_method_7_code_89 : decode method_7_code 89 = .ok (.bipush 15, 2) := by decide +kernel
theorem dc_method_7_code_91 : decode method_7_code 91 = .ok (.bipush 108, 2) := by decide +kernel
theorem dc_method_7_code_93 : decode method_7_code 93 = .ok (.castore, 1) := by decide +kernel
theorem dc_method_7_code_94 : decode method_7_code 94 = .ok (.areturn, 1) := by decide +kernel
theorem dc_prog_7_method_1_code_0 : decode prog_7_method_1_code 0 = .ok (.getstatic 10, 3) := by decide +kernel
theorem dc_prog_7_method_1_code_3 : decode prog_7_method_1_code 3 = .ok (.invokevirtual 14, 3) := by decide +kernel
theorem dc_prog_7_method_1_code_6 : decode prog_7_method_1_code 6 = .ok (.checkcast 15, 3) := by decide +kernel
theorem dc_prog_7_method_1_code_9 : decode prog_7_method_1_code 9 = .ok (.areturn, 1) := by decide +kernel
theorem dc_jdk_32_method_2_code_0 : decode jdk_32_method_2_code 0 = .ok (.aload_n 0, 1) := by decide +kernel
theorem dc_jdk_32_method_2_code_1 : decode jdk_32_method_2_code 1 = .ok (.invokespecial 7, 3) := by decide +kernel
theorem dc_jdk_32_method_2_code_4 : decode jdk_32_method_2_code 4 = .ok (.aload_n 0, 1) := by decide +kernel
theorem dc_jdk_32_method_2_code_5 : decode jdk_32_method_2_code 5 = .ok (.aload_n 1, 1) := by decide +kernel
theorem dc_jdk_32_method_2_code_6 : decode jdk_32_method_2_code 6 = .ok (.putfield 13, 3) := by decide +kernel
theorem dc_jdk_32_method_2_code_9 : decode jdk_32_method_2_code 9 = .ok (.return_, 1) := by decide +kernel
theorem dc_jdk_32_method_4_code_0 : decode jdk_32_method_4_code 0 = .ok (.aload_n 0, 1) := by decide +kernel
theorem dc_jdk_32_method_4_code_1 : decode jdk_32_method_4_code 1 = .ok (.ifnonnull 9, 3) := by decide +kernel
theorem dc_jdk_32_method_4_code_4 : decode jdk_32_method_4_code 4 = .ok (.getstatic 1, 3) := by decide +kernel
theorem dc_jdk_32_method_4_code_7 : decode jdk_32_method_4_code 7 = .ok (.goto 11, 3) := by decide +kernel
theorem dc_jdk_32_method_4_code_18 : decode jdk_32_method_4_code 18 = .ok (.areturn, 1) := by decide +kernel
theorem dc_jdk_32_method_4_code_10 : decode jdk_32_method_4_code 10 = .ok (.new 2, 3) := by decide +kernel
theorem dc_jdk_32_method_4_code_13 : decode jdk_32_method_4_code 13 = .ok (.dup, 1) := by decide +kernel
theorem dc_jdk_32_method_4_code_14 : decode jdk_32_method_4_code 14 = .ok (.aload_n 0, 1) := by decide +kernel
theorem dc_jdk_32_method_4_code_15 : decode jdk_32_method_4_code 15 = .ok (.invokespecial 23, 3) := by decide +kernel
theorem dc_jdk_32_method_15_code_0 : decode jdk_32_method_15_code 0 = .ok (.aload_n 0, 1) := by decide +kernel
theorem dc_jdk_32_method_15_code_1 : decode jdk_32_method_15_code 1 = .ok (.getfield 13, 3) := by decide +kernel
theorem dc_jdk_32_method_15_code_4 : decode jdk_32_method_15_code 4 = .ok (.ifnull 10, 3) := by decide +kernel
theorem dc_jdk_32_method_15_code_14 : decode jdk_32_method_15_code 14 = .ok (.aload_n 1, 1) := by decide +kernel
theorem dc_jdk_32_method_15_code_15 : decode jdk_32_method_15_code 15 = .ok (.areturn, 1) := by decide +kernel
theorem dc_jdk_32_method_15_code_7 : decode jdk_32_method_15_code 7 = .ok (.aload_n 0, 1) := by decide +kernel
theorem dc_jdk_32_method_15_code_8 : decode jdk_32_method_15_code 8 = .ok (.getfield 13, 3) := by decide +kernel
theorem dc_jdk_32_method_15_code_11 : decode jdk_32_method_15_code 11 = .ok (.goto 4, 3) := by decide +kernel
theorem dc_prog_7_method_6_code_0 : decode prog_7_method_6_code 0 = .ok (.aconst_null, 1) := by decide +kernel
theorem dc_prog_7_method_6_code_1 : decode prog_7_method_6_code 1 = .ok (.astore_n 1, 1) := by decide +kernel
theorem dc_prog_7_method_6_code_2 : decode prog_7_method_6_code 2 = .ok (.invokestatic 37, 3) := by decide +kernel
theorem dc_prog_7_method_6_code_5 : decode prog_7_method_6_code 5 = .ok (.astore_n 2, 1) := by decide +kernel
theorem dc_prog_7_method_6_code_6 : decode prog_7_method_6_code 6 = .ok (.aload_n 2, 1) := by decide +kernel
theorem dc_prog_7_method_6_code_7 : decode prog_7_method_6_code 7 = .ok (.arraylength, 1) := by decide +kernel
theorem dc_prog_7_method_6_code_8 : decode prog_7_method_6_code 8 = .ok (.istore_n 3, 1) := by decide +kernel
theorem dc_prog_7_method_6_code_9 : decode prog_7_method_6_code 9 = .ok (.iconst 0, 1) := by decide +kernel
theorem dc_prog_7_method_6_code_10 : decode prog_7_method_6_code 10 = .ok (.istore 4, 2) := by decide +kernel
theorem dc_prog_7_method_6_code_12 : decode prog_7_method_6_code 12 = .ok (.iload 4, 2) := by decide +kernel
theorem dc_prog_7_method_6_code_14 : decode prog_7_method_6_code 14 = .ok (.iload_n 3, 1) := by decide +kernel
theorem dc_prog_7_method_6_code_15 : decode prog_7_method_6_code 15 = .ok (.if_icmp .ge 30, 3) := by decide +kernel
theorem dc_prog_7_method_6_code_18 : decode prog_7_method_6_code 18 = .ok (.aload_n 2, 1) := by decide +kernel
theorem dc_prog_7_method_6_code_19 : decode prog_7_method_6_code 19 = .ok (.iload 4, 2) := by decide +kernel
theorem dc_prog_7_method_6_code_21 : decode prog_7_method_6_code 21 = .ok (.aaload, 1) := by decide +kernel
theorem dc_prog_7_method_6_code_22 : decode prog_7_method_6_code 22 = .ok (.astore 5, 2) := by decide +kernel
theorem dc_prog_7_method_6_code_24 : decode prog_7_method_6_code 24 = .ok (.aload 5, 2) := by decide +kernel
theorem dc_prog_7_method_6_code_26 : decode prog_7_method_6_code 26 = .ok (.getfield 29, 3) := by decide +kernel
theorem dc_prog_7_method_6_code_29 : decode prog_7_method_6_code 29 = .ok (.aload_n 0, 1) := by decide +kernel
theorem dc_prog_7_method_6_code_30 : decode prog_7_method_6_code 30 = .ok (.invokevirtual 41, 3) := by decide +kernel
theorem dc_prog_7_method_6_code_33 : decode prog_7_method_6_code 33 = .ok (.ifCond .eq 6, 3) := by decide +kernel
theorem dc_prog_7_method_6_code_36 : decode prog_7_method_6_code 36 = .ok (.aload 5, 2) := by decide +kernel
theorem dc_prog_7_method_6_code_38 : decode prog_7_method_6_code 38 = .ok (.astore_n 1, 1) := by decide +kernel
theorem dc_prog_7_method_6_code_39 : decode prog_7_method_6_code 39 = .ok (.iinc 4 1, 3) := by decide +kernel
theorem dc_prog_7_method_6_code_42 : decode prog_7_method_6_code 42 = .ok (.goto (-30), 3) := by decide +kernel
theorem dc_prog_7_method_6_code_45 : decode prog_7_method_6_code 45 = .ok (.aload_n 1, 1) := by decide +kernel
theorem dc_prog_7_method_6_code_46 : decode prog_7_method_6_code 46 = .ok (.invokestatic 47, 3) := by decide +kernel
theorem dc_prog_7_method_6_code_49 : decode prog_7_method_6_code 49 = .ok (.areturn, 1) := by decide +kernel
theorem pd_0 : parseMethodDescriptor "([CIILjava/lang/Void;)V" = some ⟨[(.array .char), .int, .int, (.object "java/lang/Void")], none⟩ := by decide +kernel
theorem pd_1 : parseMethodDescriptor "(Ljava/lang/Object;)V" = some ⟨[(.object "java/lang/Object")], none⟩ := by decide +kernel
theorem pd_2 : parseMethodDescriptor "()[Lcom/example/proof_to_token/prooftotoken/config/Sociability;" = some ⟨[], some (.array (.object "com/example/proof_to_token/prooftotoken/config/Sociability"))⟩ := by decide +kernel
theorem pd_3 : parseMethodDescriptor "(Ljava/lang/Object;)Ljava/util/Optional;" = some ⟨[(.object "java/lang/Object")], some (.object "java/util/Optional")⟩ := by decide +kernel
theorem pd_4 : parseMethodDescriptor "()[C" = some ⟨[], some (.array .char)⟩ := by decide +kernel
theorem pd_5 : parseMethodDescriptor "(Ljava/lang/String;)Ljava/util/Optional;" = some ⟨[(.object "java/lang/String")], some (.object "java/util/Optional")⟩ := by decide +kernel
theorem pd_6 : parseMethodDescriptor "(Ljava/lang/Object;)Ljava/lang/Object;" = some ⟨[(.object "java/lang/Object")], some (.object "java/lang/Object")⟩ := by decide +kernel
theorem pd_7 : parseMethodDescriptor "(C)[C" = some ⟨[.char], some (.array .char)⟩ := by decide +kernel
theorem pd_8 : parseMethodDescriptor "([C)V" = some ⟨[(.array .char)], none⟩ := by decide +kernel
theorem pn_0 : plainName "java/lang/String" = true := by first | (simp [plainName, overriddenIn]; done) | decide +kernel
theorem pn_1 : plainName "com/example/proof_to_token/prooftotoken/config/SociabilityNamedPinLaw" = true := by first | (simp [plainName, overriddenIn]; done) | decide +kernel
theorem pn_2 : plainName "com/example/proof_to_token/prooftotoken/config/Sociability" = true := by first | (simp [plainName, overriddenIn]; done) | decide +kernel
theorem pn_3 : plainName "java/util/Optional" = true := by first | (simp [plainName, overriddenIn]; done) | decide +kernel
set_option maxRecDepth 65536 in
set_option maxHeartbeats 40000000 in
theorem c_str4e (l : Launch) (Z : State) (a0 : Array Value) (hw : ∀ d ∈ tables_1, d.before a0 Z = true) (hEL : EW Z a0 [("java/lang/String", 7)]) (h0 : Heap) (hE0 : Ext Z.heap h0) (x b : Addr) (E_x : Exa Z h0 x "java/lang/String") (FV : Fld Z h0 x "java/lang/String" "value" "[B" .null) (FC : Fld Z h0 x "java/lang/String" "coder" "B" (.int 0)) (z_x : Z.heap.size ≤ x) :
    Con l Z [("java/lang/String", 7)] [x] (⟨"java/lang/String", "<init>", "([CIILjava/lang/Void;)V"⟩ : MethodName) jdk_42_method_149_code 6 none [] ({ frames := 1, cells := 4, slots := 8, locals := 14 } : Room) #[(.ref x), (.ref b), (.int (0 : Int32)), (.int (0 : Int32)), .null] h0 (fun v h' => v = none ∧ Keep h0 h' [x] ∧ Str Z h' x []) := by
  refine Con.mk (plainFor_of_name pn_0) hEL hE0 (allS E_x.lt all0) ?_
  intro p e s m below meth c T0 hby hml hret hnm W0
  rw [(show entryFrame m #[(.ref x), (.ref b), (.int (0 : Int32)), (.int (0 : Int32)), .null] 6 = mkF m 0 #[.val (.ref x), .val (.ref b), .val (.int (0 : Int32)), .val (.int (0 : Int32)), .val .null, .unset] [] from by first | (simp [entryFrame, mkF, argsToLocals, Value.category]; done) | rfl)]
  refine Go.by (fun t9_ q9_ => XS.aloadN W0.here W0.hx rfl (hb hby dc_jdk_42_method_149_code_0) rfl rfl q9_) ?_
  show Go p e below s Z [("java/lang/String", 7)] _ _ _ (T0.setTop (mkF m 1 #[.val (.ref x), .val (.ref b), .val (.int (0 : Int32)), .val (.int (0 : Int32)), .val .null, .unset] [(.ref x)]))
  refine W0.initO (wd18 hw) (wd19 hw) (wd20 hw) (by rw [hml]; rfl) (hb hby dc_jdk_42_method_149_code_1) (by decide) (Wt := 0) (Nat.le_of_eq rfl) (by decide) ?_
  intro T1 W2
  show Go p e below s Z [("java/lang/String", 7)] _ _ _ (T1.setTop (mkF m 4 #[.val (.ref x), .val (.ref b), .val (.int (0 : Int32)), .val (.int (0 : Int32)), .val .null, .unset] []))
  refine Go.by (fun t9_ q9_ => XS.iloadN W2.here W2.hx rfl (hb hby dc_jdk_42_method_149_code_4) rfl q9_) ?_
  show Go p e below s Z [("java/lang/String", 7)] _ _ _ (T1.setTop (mkF m 5 #[.val (.ref x), .val (.ref b), .val (.int (0 : Int32)), .val (.int (0 : Int32)), .val .null, .unset] [(.int (0 : Int32))]))
  refine Go.by (fun t9_ q9_ => XS.ifNo W2.here W2.hx rfl (hb hby dc_jdk_42_method_149_code_5) rfl ((if0 _ _).trans (teq rfl).2) q9_) ?_
  show Go p e below s Z [("java/lang/String", 7)] _ _ _ (T1.setTop (mkF m 8 #[.val (.ref x), .val (.ref b), .val (.int (0 : Int32)), .val (.int (0 : Int32)), .val .null, .unset] []))
  refine Go.by (fun t9_ q9_ => XS.aloadN W2.here W2.hx rfl (hb hby dc_jdk_42_method_149_code_8) rfl rfl q9_) ?_
  show Go p e below s Z [("java/lang/String", 7)] _ _ _ (T1.setTop (mkF m 9 #[.val (.ref x), .val (.ref b), .val (.int (0 : Int32)), .val (.int (0 : Int32)), .val .null, .unset] [(.ref x)]))
  refine W2.ldcC (cs := []) (wd98 hw) (k_sa hw) (List.mem_of_getElem? (i := 0) rfl) ⟨by decide +kernel, by decide +kernel⟩ (by decide) (by decide) (by decide) (hb hby dc_jdk_42_method_149_code_9) (q := 0) (by decide +kernel) (by decide) (k' := 2) (n' := 4) rfl rfl (by decide) (by decide) ?_
  intro T3 h4 d1 W5 E6 S_d1 ne_d1
  show Go p e below s Z [("java/lang/String", 7)] _ _ _ (T3.setTop (mkF m 11 #[.val (.ref x), .val (.ref b), .val (.int (0 : Int32)), .val (.int (0 : Int32)), .val .null, .unset] [(.ref d1), (.ref x)]))
  obtain ⟨t1, kb1, cd1, N1, vs1, s1, s2, s3, s4, s5, s6⟩ := S_d1
  have ne1 : t1 ≠ x := Ne.symm (Exa.neArv (E_x.ext E6) s4 (wd9 hw))
  refine W5.getf (host := "") (Or.inl (wd35 hw)) Via.refl s2 (hb hby dc_jdk_42_method_149_code_11) ?_
  intro T7 W8
  show Go p e below s Z [("java/lang/String", 7)] _ _ _ (T7.setTop (mkF m 14 #[.val (.ref x), .val (.ref b), .val (.int (0 : Int32)), .val (.int (0 : Int32)), .val .null, .unset] [(.ref t1), (.ref x)]))
  refine W8.putf (host := "") (Or.inl (wd35 hw)) Via.refl (FV.ext E6) (E_x.ext E6) (Or.inr ⟨(wd36 hw), rfl, hnm⟩) (wd9 hw) (ty := (.array .byte)) (by decide) rfl rfl z_x (List.mem_of_getElem? (i := 0) rfl) (hb hby dc_jdk_42_method_149_code_14) ?_
  intro T9 h10 W11 Wr12
  have F13 : Fld Z h10 x "java/lang/String" "value" "[B" (.ref t1) := (FV.ext E6).same Wr12
  have F14 : Fld Z h10 x "java/lang/String" "coder" "B" (.int 0) := (FC.ext E6).other Wr12 (Or.inr (slot_ne (Or.inr (wd34 hw)) (Or.inr (wd36 hw)) (by decide) (t := .byte) (t' := (.array .byte)) (by decide) (by decide)))
  have A15 : Exa Z h10 x "java/lang/String" := (E_x.ext E6).wr Wr12
  show Go p e below s Z [("java/lang/String", 7)] _ _ _ (T9.setTop (mkF m 17 #[.val (.ref x), .val (.ref b), .val (.int (0 : Int32)), .val (.int (0 : Int32)), .val .null, .unset] []))
  refine Go.by (fun t9_ q9_ => XS.aloadN W11.here W11.hx rfl (hb hby dc_jdk_42_method_149_code_17) rfl rfl q9_) ?_
  show Go p e below s Z [("java/lang/String", 7)] _ _ _ (T9.setTop (mkF m 18 #[.val (.ref x), .val (.ref b), .val (.int (0 : Int32)), .val (.int (0 : Int32)), .val .null, .unset] [(.ref x)]))
  refine W11.ldcC (cs := []) (wd98 hw) (k_sa hw) (List.mem_of_getElem? (i := 0) rfl) ⟨by decide +kernel, by decide +kernel⟩ (by decide) (by decide) (by decide) (hb hby dc_jdk_42_method_149_code_18) (q := 0) (by decide +kernel) (by decide) (k' := 4) (n' := 8) rfl rfl (by decide) (by decide) ?_
  intro T16 h17 d2 W18 E19 S_d2 ne_d2
  show Go p e below s Z [("java/lang/String", 7)] _ _ _ (T16.setTop (mkF m 20 #[.val (.ref x), .val (.ref b), .val (.int (0 : Int32)), .val (.int (0 : Int32)), .val .null, .unset] [(.ref d2), (.ref x)]))
  obtain ⟨t2, kb2, cd2, N2, vs2, u1, u2, u3, u4, u5, u6⟩ := S_d2
  obtain ⟨rfl, -⟩ : cd2 = 0 ∧ True := by rcases u5 with ⟨q, -⟩ | ⟨-, -, -, c, hc, -⟩; exact ⟨q, trivial⟩; cases hc
  refine W18.getf (host := "") (Or.inl (wd33 hw)) Via.refl u3 (hb hby dc_jdk_42_method_149_code_20) ?_
  intro T20 W21
  show Go p e below s Z [("java/lang/String", 7)] _ _ _ (T20.setTop (mkF m 23 #[.val (.ref x), .val (.ref b), .val (.int (0 : Int32)), .val (.int (0 : Int32)), .val .null, .unset] [(.int (0 : Int32)), (.ref x)]))
  refine W21.putf (host := "") (Or.inl (wd33 hw)) Via.refl (F14.ext E19) (A15.ext E19) (Or.inr ⟨(wd34 hw), rfl, hnm⟩) (wd9 hw) (ty := .byte) (by decide) rfl rfl z_x (List.mem_of_getElem? (i := 0) rfl) (hb hby dc_jdk_42_method_149_code_23) ?_
  intro T22 h23 W24 Wr25
  have F26 : Fld Z h23 x "java/lang/String" "coder" "B" (.int (0 : Int32)) := (F14.ext E19).same Wr25
  have F27 : Fld Z h23 x "java/lang/String" "value" "[B" (.ref t1) := (F13.ext E19).other Wr25 (Or.inr (slot_ne (Or.inr (wd36 hw)) (Or.inr (wd34 hw)) (by decide) (t := (.array .byte)) (t' := .byte) (by decide) (by decide)))
  have A28 : Exa Z h23 x "java/lang/String" := (A15.ext E19).wr Wr25
  show Go p e below s Z [("java/lang/String", 7)] _ _ _ (T22.setTop (mkF m 26 #[.val (.ref x), .val (.ref b), .val (.int (0 : Int32)), .val (.int (0 : Int32)), .val .null, .unset] []))
  exact W24.retV (by decide) (by decide) hret (hb hby dc_jdk_42_method_149_code_26) ⟨rfl, (((((Keep.refl h0 [x]).ext E6).wr Wr12 (Or.inl (List.mem_of_getElem? (i := 0) rfl))).ext E19).wr Wr25 (Or.inl (List.mem_of_getElem? (i := 0) rfl))), ⟨t1, kb1, 0, N1, vs1, A28, F27, F26, (((s4.other Wr12 ne1).ext E19).other Wr25 ne1), (by rcases s5 with ⟨-, q⟩ | ⟨-, -, -, c, hc, -⟩; exact Or.inl ⟨rfl, q⟩; cases hc), s6⟩⟩
set_option maxRecDepth 65536 in
set_option maxHeartbeats 40000000 in
theorem c_str1e (l : Launch) (Z : State) (a0 : Array Value) (hw : ∀ d ∈ tables_1, d.before a0 Z = true) (hEL : EW Z a0 [("java/lang/String", 7)]) (h0 : Heap) (hE0 : Ext Z.heap h0) (x b : Addr) (kb : ClassId) (vs : List Value) (dv : Value) (E_x : Exa Z h0 x "java/lang/String") (FV : Fld Z h0 x "java/lang/String" "value" "[B" .null) (FC : Fld Z h0 x "java/lang/String" "coder" "B" (.int 0)) (z_x : Z.heap.size ≤ x) (A_b : Arv Z h0 b kb .char 0 vs dv) :
    Con l Z [("java/lang/String", 7)] [x] (⟨"java/lang/String", "<init>", "([C)V"⟩ : MethodName) jdk_42_method_3_code 2 none [] ({ frames := 2, cells := 4, slots := 8, locals := 31 } : Room) #[(.ref x), (.ref b)] h0 (fun v h' => v = none ∧ Keep h0 h' [x] ∧ Str Z h' x []) := by
  refine Con.mk (plainFor_of_name pn_0) hEL hE0 (allS E_x.lt all0) ?_
  intro p e s m below meth c T0 hby hml hret hnm W0
  rw [(show entryFrame m #[(.ref x), (.ref b)] 2 = mkF m 0 #[.val (.ref x), .val (.ref b)] [] from by first | (simp [entryFrame, mkF, argsToLocals, Value.category]; done) | rfl)]
  refine Go.by (fun t9_ q9_ => XS.aloadN W0.here W0.hx rfl (hb hby dc_jdk_42_method_3_code_0) rfl rfl q9_) ?_
  show Go p e below s Z [("java/lang/String", 7)] _ _ _ (T0.setTop (mkF m 1 #[.val (.ref x), .val (.ref b)] [(.ref x)]))
  refine Go.by (fun t9_ q9_ => XS.aloadN W0.here W0.hx rfl (hb hby dc_jdk_42_method_3_code_1) rfl rfl q9_) ?_
  show Go p e below s Z [("java/lang/String", 7)] _ _ _ (T0.setTop (mkF m 2 #[.val (.ref x), .val (.ref b)] [(.ref b), (.ref x)]))
  refine Go.by (fun t9_ q9_ => XS.iconst W0.here W0.hx rfl (hb hby dc_jdk_42_method_3_code_2) q9_) ?_
  show Go p e below s Z [("java/lang/String", 7)] _ _ _ (T0.setTop (mkF m 3 #[.val (.ref x), .val (.ref b)] [(.int (0 : Int32)), (.ref b), (.ref x)]))
  refine Go.by (fun t9_ q9_ => XS.aloadN W0.here W0.hx rfl (hb hby dc_jdk_42_method_3_code_3) rfl rfl q9_) ?_
  show Go p e below s Z [("java/lang/String", 7)] _ _ _ (T0.setTop (mkF m 4 #[.val (.ref x), .val (.ref b)] [(.ref b), (.int (0 : Int32)), (.ref b), (.ref x)]))
  refine W0.alen A_b (hb hby dc_jdk_42_method_3_code_4) ?_
  show Go p e below s Z [("java/lang/String", 7)] _ _ _ (T0.setTop (mkF m 5 #[.val (.ref x), .val (.ref b)] [(.int (0 : Int32)), (.int (0 : Int32)), (.ref b), (.ref x)]))
  refine Go.by (fun t9_ q9_ => XS.aconstNull W0.here W0.hx rfl (hb hby dc_jdk_42_method_3_code_5) q9_) ?_
  show Go p e below s Z [("java/lang/String", 7)] _ _ _ (T0.setTop (mkF m 6 #[.val (.ref x), .val (.ref b)] [.null, (.int (0 : Int32)), (.int (0 : Int32)), (.ref b), (.ref x)]))
  refine W0.callI (y := (⟨"java/lang/String", "<init>", "([CIILjava/lang/Void;)V"⟩ : MethodName)) rfl (wd14 hw) (wd15 hw) (wd10 hw) (wd17 hw) (by decide) (a := x) (c_str4e l Z a0 hw hEL h0 hE0 x b E_x FV FC z_x) (allS (List.mem_of_getElem? (i := 0) rfl) all0) (by decide) (by decide) (k' := 4) (n' := 8) rfl rfl (by decide) (by decide) (by rw [hml]; rfl) (argsL := [(.ref b), (.int (0 : Int32)), (.int (0 : Int32)), .null]) (rest := []) (lenOf pd_0 rfl) rfl rfl (Wt := 0) (Nat.le_of_eq rfl) (hb hby dc_jdk_42_method_3_code_6) ?_
  intro v_ T29 h31 W30 hq_
  obtain ⟨rfl, K1, S1⟩ := hq_
  show Go p e below s Z [("java/lang/String", 7)] _ _ _ (T29.setTop (mkF m 9 #[.val (.ref x), .val (.ref b)] []))
  exact W30.retV (by decide) (by decide) hret (hb hby dc_jdk_42_method_3_code_9) ⟨rfl, K1, S1⟩
abbrev ALLs : List Int32 := [65, 108, 108, 79, 114, 103, 97, 110, 105, 122, 97, 116, 105, 111, 110, 115]
abbrev CNTs : List Int32 := [67, 111, 117, 110, 116, 101, 114, 97, 103, 101, 110, 116, 115, 79, 110, 108, 121]
def namF (cs : List Int32) (e0 e1 : Addr) : Value := if cs = CNTs then .ref e1 else if cs = ALLs then .ref e0 else .null
theorem namF_ref (cs : List Int32) (e0 e1 : Addr) : (namF cs e0 e1).isRef = true := by unfold namF; repeat' (first | rfl | split)
theorem nam_all (e0 e1 : Addr) : namF ALLs e0 e1 = .ref e0 := rfl
theorem nam_cnt (e0 e1 : Addr) : namF CNTs e0 e1 = .ref e1 := rfl
theorem nam_null {cs : List Int32} {e0 e1 : Addr} (h1 : ¬ cs = CNTs) (h2 : ¬ cs = ALLs) : namF cs e0 e1 = .null := by unfold namF; rw [if_neg h1, if_neg h2]
theorem getD_mapI (cs : List Int32) (i : Nat) : (cs.map Value.int).getD i (.int 0) = .int (cs.getD i 0) := by
  simp only [List.getD, List.getElem?_map]; cases cs[i]? <;> rfl
theorem set_self {cs : List Int32} {i : Nat} (h : i < cs.length) : cs.set i (cs.getD i 0) = cs := by
  apply List.ext_getElem (by simp)
  intro n h1 h2
  rw [List.getElem_set]
  split
  · rename_i e; subst e; simp [List.getD, h]
  · rfl
theorem set_ne {cs : List Int32} {i : Nat} {c : Int32} (h : i < cs.length) (hc : ¬ c = cs.getD i 0) : ¬ cs.set i c = cs := fun e => hc (by
  have h2 : (cs.set i c)[i]'(by simpa using h) = c := by simp
  have h3 : cs.getD i 0 = cs[i] := by simp [List.getD, h]
  rw [h3, ← h2]
  congr 1)
theorem set_rng {cs : List Int32} {i : Nat} {c : Int32} (h : ∀ c ∈ cs, ¬ c < 0 ∧ ¬ (255 : Int32) < c) (hc : ¬ c < 0 ∧ ¬ (255 : Int32) < c) : ∀ d ∈ cs.set i c, ¬ d < 0 ∧ ¬ (255 : Int32) < d := fun d hd => by
  rcases List.mem_or_eq_of_mem_set hd with q | rfl
  · exact h d q
  · exact hc
theorem rem_rng (x n : Int32) (k : Int) (hn : n.toInt = k) (hk : 0 < k) : ¬ ((x &&& (2147483647 : Int32)) % n) < 0 ∧ ((x &&& (2147483647 : Int32)) % n) < n := by
  have h := c_and x 2147483647 (by decide)
  have h2 := (c_irem (x &&& (2147483647 : Int32)) n k hn).1 h.1
  rw [Int32.lt_iff_toInt_lt, Int32.lt_iff_toInt_lt, h2, hn]
  have e0 : (0 : Int32).toInt = 0 := rfl
  have h3 := Int.emod_nonneg (x &&& (2147483647 : Int32)).toInt (Int.ne_of_gt hk)
  have h4 := Int.emod_lt_of_pos (x &&& (2147483647 : Int32)).toInt hk
  omega
theorem clamp_lt {x n : Int32} {k : Nat} (hn : n.toInt = (k : Int)) (h : ¬ x < 0 ∧ x < n) : x.toNatClampNeg < k := by
  rw [Int32.lt_iff_toInt_lt, Int32.lt_iff_toInt_lt, hn] at h
  have e0 : (0 : Int32).toInt = 0 := rfl
  have := nat_of (j := x) (by rw [Int32.lt_iff_toInt_lt]; exact h.1)
  omega

set_option maxRecDepth 65536 in
set_option maxHeartbeats 40000000 in
theorem c_all (l : Launch) (Z : State) (a0 : Array Value) (hw : ∀ d ∈ tables_1, d.before a0 Z = true) (hEL : EW Z a0 [("java/lang/String", 7)]) (h0 : Heap) (hE0 : Ext Z.heap h0)   :
    Con l Z [("java/lang/String", 7)] [] (⟨"com/example/proof_to_token/prooftotoken/config/SociabilityNamedPinLaw", "allOrgs", "()[C"⟩ : MethodName) method_2_code 0 (some (.array .char)) [] ({ frames := 0, cells := 1, slots := 16, locals := 0 } : Room) #[] h0 (fun v h' => ∃ r kr, v = some (.ref r) ∧ Ext h0 h' ∧ Arv Z h' r kr .char 16 [(.int 65), (.int 108), (.int 108), (.int 79), (.int 114), (.int 103), (.int 97), (.int 110), (.int 105), (.int 122), (.int 97), (.int 116), (.int 105), (.int 111), (.int 110), (.int 115)] (.int (0 : Int32)) ∧ Exa Z h' r "[C" ∧ Z.heap.size ≤ r) := by
  refine Con.mk (plainFor_of_name pn_1) hEL hE0 (fun x hx => by cases hx) ?_
  intro p e s m below meth c T0 hby hml hret hnm W0
  rw [(show entryFrame m #[] 0 = mkF m 0 #[] [] from by first | (simp [entryFrame, mkF, argsToLocals, Value.category]; done) | rfl)]
  refine Go.by (fun t9_ q9_ => XS.bipush W0.here W0.hx rfl (hb hby dc_method_2_code_0) q9_) ?_
  show Go p e below s Z [("java/lang/String", 7)] _ _ _ (T0.setTop (mkF m 2 #[] [(.int (16 : Int32))]))
  refine W0.newp (aty := .char) (wd7 hw) (hb hby dc_method_2_code_2) (by decide) (cap := 16) (by decide) (by decide) (k' := 1) (n' := 16) rfl rfl (by decide) (by decide) (ad := "[C") rfl ?_
  intro T32 h33 r k_r W34 E35 g_r z_r A_r V_r
  have V1_r : Arv Z h33 r k_r .char (16 : Int32) [(.int (0 : Int32)), (.int (0 : Int32)), (.int (0 : Int32)), (.int (0 : Int32)), (.int (0 : Int32)), (.int (0 : Int32)), (.int (0 : Int32)), (.int (0 : Int32)), (.int (0 : Int32)), (.int (0 : Int32)), (.int (0 : Int32)), (.int (0 : Int32)), (.int (0 : Int32)), (.int (0 : Int32)), (.int (0 : Int32)), (.int (0 : Int32))] (.int (0 : Int32)) := V_r.pad (pad_rep [] (.int (0 : Int32)) 16)
  show Go p e below s Z [("java/lang/String", 7)] _ _ _ (T32.setTop (mkF m 4 #[] [(.ref r)]))
  refine Go.by (fun t9_ q9_ => XS.dup W34.here W34.hx rfl (hb hby dc_method_2_code_4) rfl rfl q9_) ?_
  show Go p e below s Z [("java/lang/String", 7)] _ _ _ (T32.setTop (mkF m 5 #[] [(.ref r), (.ref r)]))
  refine Go.by (fun t9_ q9_ => XS.iconst W34.here W34.hx rfl (hb hby dc_method_2_code_5) q9_) ?_
  show Go p e below s Z [("java/lang/String", 7)] _ _ _ (T32.setTop (mkF m 6 #[] [(.int (0 : Int32)), (.ref r), (.ref r)]))
  refine Go.by (fun t9_ q9_ => XS.bipush W34.here W34.hx rfl (hb hby dc_method_2_code_6) q9_) ?_
  show Go p e below s Z [("java/lang/String", 7)] _ _ _ (T32.setTop (mkF m 8 #[] [(.int (65 : Int32)), (.int (0 : Int32)), (.ref r), (.ref r)]))
  refine W34.cast_ V1_r ⟨by decide, by decide⟩ (i := 0) rfl (by simp) (v' := (65 : Int32)) rfl z_r (List.mem_of_getElem? (i := 0) rfl) (hb hby dc_method_2_code_8) ?_
  intro T36 h37 W38 Wr39 V40_r'
  have V40_r : Arv Z h37 r k_r .char (16 : Int32) [(.int (65 : Int32)), (.int (0 : Int32)), (.int (0 : Int32)), (.int (0 : Int32)), (.int (0 : Int32)), (.int (0 : Int32)), (.int (0 : Int32)), (.int (0 : Int32)), (.int (0 : Int32)), (.int (0 : Int32)), (.int (0 : Int32)), (.int (0 : Int32)), (.int (0 : Int32)), (.int (0 : Int32)), (.int (0 : Int32)), (.int (0 : Int32))] (.int (0 : Int32)) := V40_r'
  show Go p e below s Z [("java/lang/String", 7)] _ _ _ (T36.setTop (mkF m 9 #[] [(.ref r)]))
  refine Go.by (fun t9_ q9_ => XS.dup W38.here W38.hx rfl (hb hby dc_method_2_code_9) rfl rfl q9_) ?_
  show Go p e below s Z [("java/lang/String", 7)] _ _ _ (T36.setTop (mkF m 10 #[] [(.ref r), (.ref r)]))
  refine Go.by (fun t9_ q9_ => XS.iconst W38.here W38.hx rfl (hb hby dc_method_2_code_10) q9_) ?_
  show Go p e below s Z [("java/lang/String", 7)] _ _ _ (T36.setTop (mkF m 11 #[] [(.int (1 : Int32)), (.ref r), (.ref r)]))
  refine Go.by (fun t9_ q9_ => XS.bipush W38.here W38.hx rfl (hb hby dc_method_2_code_11) q9_) ?_
  show Go p e below s Z [("java/lang/String", 7)] _ _ _ (T36.setTop (mkF m 13 #[] [(.int (108 : Int32)), (.int (1 : Int32)), (.ref r), (.ref r)]))
  refine W38.cast_ V40_r ⟨by decide, by decide⟩ (i := 1) rfl (by simp) (v' := (108 : Int32)) rfl z_r (List.mem_of_getElem? (i := 0) rfl) (hb hby dc_method_2_code_13) ?_
  intro T41 h42 W43 Wr44 V45_r'
  have V45_r : Arv Z h42 r k_r .char (16 : Int32) [(.int (65 : Int32)), (.int (108 : Int32)), (.int (0 : Int32)), (.int (0 : Int32)), (.int (0 : Int32)), (.int (0 : Int32)), (.int (0 : Int32)), (.int (0 : Int32)), (.int (0 : Int32)), (.int (0 : Int32)), (.int (0 : Int32)), (.int (0 : Int32)), (.int (0 : Int32)), (.int (0 : Int32)), (.int (0 : Int32)), (.int (0 : Int32))] (.int (0 : Int32)) := V45_r'
  show Go p e below s Z [("java/lang/String", 7)] _ _ _ (T41.setTop (mkF m 14 #[] [(.ref r)]))
  refine Go.by (fun t9_ q9_ => XS.dup W43.here W43.hx rfl (hb hby dc_method_2_code_14) rfl rfl q9_) ?_
  show Go p e below s Z [("java/lang/String", 7)] _ _ _ (T41.setTop (mkF m 15 #[] [(.ref r), (.ref r)]))
  refine Go.by (fun t9_ q9_ => XS.iconst W43.here W43.hx rfl (hb hby dc_method_2_code_15) q9_) ?_
  show Go p e below s Z [("java/lang/String", 7)] _ _ _ (T41.setTop (mkF m 16 #[] [(.int (2 : Int32)), (.ref r), (.ref r)]))
  refine Go.by (fun t9_ q9_ => XS.bipush W43.here W43.hx rfl (hb hby dc_method_2_code_16) q9_) ?_
  show Go p e below s Z [("java/lang/String", 7)] _ _ _ (T41.setTop (mkF m 18 #[] [(.int (108 : Int32)), (.int (2 : Int32)), (.ref r), (.ref r)]))
  refine W43.cast_ V45_r ⟨by decide, by decide⟩ (i := 2) rfl (by simp) (v' := (108 : Int32)) rfl z_r (List.mem_of_getElem? (i := 0) rfl) (hb hby dc_method_2_code_18) ?_
  intro T46 h47 W48 Wr49 V50_r'
  have V50_r : Arv Z h47 r k_r .char (16 : Int32) [(.int (65 : Int32)), (.int (108 : Int32)), (.int (108 : Int32)), (.int (0 : Int32)), (.int (0 : Int32)), (.int (0 : Int32)), (.int (0 : Int32)), (.int (0 : Int32)), (.int (0 : Int32)), (.int (0 : Int32)), (.int (0 : Int32)), (.int (0 : Int32)), (.int (0 : Int32)), (.int (0 : Int32)), (.int (0 : Int32)), (.int (0 : Int32))] (.int (0 : Int32)) := V50_r'
  show Go p e below s Z [("java/lang/String", 7)] _ _ _ (T46.setTop (mkF m 19 #[] [(.ref r)]))
  refine Go.by (fun t9_ q9_ => XS.dup W48.here W48.hx rfl (hb hby dc_method_2_code_19) rfl rfl q9_) ?_
  show Go p e below s Z [("java/lang/String", 7)] _ _ _ (T46.setTop (mkF m 20 #[] [(.ref r), (.ref r)]))
  refine Go.by (fun t9_ q9_ => XS.iconst W48.here W48.hx rfl (hb hby dc_method_2_code_20) q9_) ?_
  show Go p e below s Z [("java/lang/String", 7)] _ _ _ (T46.setTop (mkF m 21 #[] [(.int (3 : Int32)), (.ref r), (.ref r)]))
  refine Go.by (fun t9_ q9_ => XS.bipush W48.here W48.hx rfl (hb hby dc_method_2_code_21) q9_) ?_
  show Go p e below s Z [("java/lang/String", 7)] _ _ _ (T46.setTop (mkF m 23 #[] [(.int (79 : Int32)), (.int (3 : Int32)), (.ref r), (.ref r)]))
  refine W48.cast_ V50_r ⟨by decide, by decide⟩ (i := 3) rfl (by simp) (v' := (79 : Int32)) rfl z_r (List.mem_of_getElem? (i := 0) rfl) (hb hby dc_method_2_code_23) ?_
  intro T51 h52 W53 Wr54 V55_r'
  have V55_r : Arv Z h52 r k_r .char (16 : Int32) [(.int (65 : Int32)), (.int (108 : Int32)), (.int (108 : Int32)), (.int (79 : Int32)), (.int (0 : Int32)), (.int (0 : Int32)), (.int (0 : Int32)), (.int (0 : Int32)), (.int (0 : Int32)), (.int (0 : Int32)), (.int (0 : Int32)), (.int (0 : Int32)), (.int (0 : Int32)), (.int (0 : Int32)), (.int (0 : Int32)), (.int (0 : Int32))] (.int (0 : Int32)) := V55_r'
  show Go p e below s Z [("java/lang/String", 7)] _ _ _ (T51.setTop (mkF m 24 #[] [(.ref r)]))
  refine Go.by (fun t9_ q9_ => XS.dup W53.here W53.hx rfl (hb hby dc_method_2_code_24) rfl rfl q9_) ?_
  show Go p e below s Z [("java/lang/String", 7)] _ _ _ (T51.setTop (mkF m 25 #[] [(.ref r), (.ref r)]))
  refine Go.by (fun t9_ q9_ => XS.iconst W53.here W53.hx rfl (hb hby dc_method_2_code_25) q9_) ?_
  show Go p e below s Z [("java/lang/String", 7)] _ _ _ (T51.setTop (mkF m 26 #[] [(.int (4 : Int32)), (.ref r), (.ref r)]))
  refine Go.by (fun t9_ q9_ => XS.bipush W53.here W53.hx rfl (hb hby dc_method_2_code_26) q9_) ?_
  show Go p e below s Z [("java/lang/String", 7)] _ _ _ (T51.setTop (mkF m 28 #[] [(.int (114 : Int32)), (.int (4 : Int32)), (.ref r), (.ref r)]))
  refine W53.cast_ V55_r ⟨by decide, by decide⟩ (i := 4) rfl (by simp) (v' := (114 : Int32)) rfl z_r (List.mem_of_getElem? (i := 0) rfl) (hb hby dc_method_2_code_28) ?_
  intro T56 h57 W58 Wr59 V60_r'
  have V60_r : Arv Z h57 r k_r .char (16 : Int32) [(.int (65 : Int32)), (.int (108 : Int32)), (.int (108 : Int32)), (.int (79 : Int32)), (.int (114 : Int32)), (.int (0 : Int32)), (.int (0 : Int32)), (.int (0 : Int32)), (.int (0 : Int32)), (.int (0 : Int32)), (.int (0 : Int32)), (.int (0 : Int32)), (.int (0 : Int32)), (.int (0 : Int32)), (.int (0 : Int32)), (.int (0 : Int32))] (.int (0 : Int32)) := V60_r'
  show Go p e below s Z [("java/lang/String", 7)] _ _ _ (T56.setTop (mkF m 29 #[] [(.ref r)]))
  refine Go.by (fun t9_ q9_ => XS.dup W58.here W58.hx rfl (hb hby dc_method_2_code_29) rfl rfl q9_) ?_
  show Go p e below s Z [("java/lang/String", 7)] _ _ _ (T56.setTop (mkF m 30 #[] [(.ref r), (.ref r)]))
  refine Go.by (fun t9_ q9_ => XS.iconst W58.here W58.hx rfl (hb hby dc_method_2_code_30) q9_) ?_
  show Go p e below s Z [("java/lang/String", 7)] _ _ _ (T56.setTop (mkF m 31 #[] [(.int (5 : Int32)), (.ref r), (.ref r)]))
  refine Go.by (fun t9_ q9_ => XS.bipush W58.here W58.hx rfl (hb hby dc_method_2_code_31) q9_) ?_
  show Go p e below s Z [("java/lang/String", 7)] _ _ _ (T56.setTop (mkF m 33 #[] [(.int (103 : Int32)), (.int (5 : Int32)), (.ref r), (.ref r)]))
  refine W58.cast_ V60_r ⟨by decide, by decide⟩ (i := 5) rfl (by simp) (v' := (103 : Int32)) rfl z_r (List.mem_of_getElem? (i := 0) rfl) (hb hby dc_method_2_code_33) ?_
  intro T61 h62 W63 Wr64 V65_r'
  have V65_r : Arv Z h62 r k_r .char (16 : Int32) [(.int (65 : Int32)), (.int (108 : Int32)), (.int (108 : Int32)), (.int (79 : Int32)), (.int (114 : Int32)), (.int (103 : Int32)), (.int (0 : Int32)), (.int (0 : Int32)), (.int (0 : Int32)), (.int (0 : Int32)), (.int (0 : Int32)), (.int (0 : Int32)), (.int (0 : Int32)), (.int (0 : Int32)), (.int (0 : Int32)), (.int (0 : Int32))] (.int (0 : Int32)) := V65_r'
  show Go p e below s Z [("java/lang/String", 7)] _ _ _ (T61.setTop (mkF m 34 #[] [(.ref r)]))
  refine Go.by (fun t9_ q9_ => XS.dup W63.here W63.hx rfl (hb hby dc_method_2_code_34) rfl rfl q9_) ?_
  show Go p e below s Z [("java/lang/String", 7)] _ _ _ (T61.setTop (mkF m 35 #[] [(.ref r), (.ref r)]))
  refine Go.by (fun t9_ q9_ => XS.bipush W63.here W63.hx rfl (hb hby dc_method_2_code_35) q9_) ?_
  show Go p e below s Z [("java/lang/String", 7)] _ _ _ (T61.setTop (mkF m 37 #[] [(.int (6 : Int32)), (.ref r), (.ref r)]))
  refine Go.by (fun t9_ q9_ => XS.bipush W63.here W63.hx rfl (hb hby dc_method_2_code_37) q9_) ?_
  show Go p e below s Z [("java/lang/String", 7)] _ _ _ (T61.setTop (mkF m 39 #[] [(.int (97 : Int32)), (.int (6 : Int32)), (.ref r), (.ref r)]))
  refine W63.cast_ V65_r ⟨by decide, by decide⟩ (i := 6) rfl (by simp) (v' := (97 : Int32)) rfl z_r (List.mem_of_getElem? (i := 0) rfl) (hb hby dc_method_2_code_39) ?_
  intro T66 h67 W68 Wr69 V70_r'
  have V70_r : Arv Z h67 r k_r .char (16 : Int32) [(.int (65 : Int32)), (.int (108 : Int32)), (.int (108 : Int32)), (.int (79 : Int32)), (.int (114 : Int32)), (.int (103 : Int32)), (.int (97 : Int32)), (.int (0 : Int32)), (.int (0 : Int32)), (.int (0 : Int32)), (.int (0 : Int32)), (.int (0 : Int32)), (.int (0 : Int32)), (.int (0 : Int32)), (.int (0 : Int32)), (.int (0 : Int32))] (.int (0 : Int32)) := V70_r'
  show Go p e below s Z [("java/lang/String", 7)] _ _ _ (T66.setTop (mkF m 40 #[] [(.ref r)]))
  refine Go.by (fun t9_ q9_ => XS.dup W68.here W68.hx rfl (hb hby dc_method_2_code_40) rfl rfl q9_) ?_
  show Go p e below s Z [("java/lang/String", 7)] _ _ _ (T66.setTop (mkF m 41 #[] [(.ref r), (.ref r)]))
  refine Go.by (fun t9_ q9_ => XS.bipush W68.here W68.hx rfl (hb hby dc_method_2_code_41) q9_) ?_
  show Go p e below s Z [("java/lang/String", 7)] _ _ _ (T66.setTop (mkF m 43 #[] [(.int (7 : Int32)), (.ref r), (.ref r)]))
  refine Go.by (fun t9_ q9_ => XS.bipush W68.here W68.hx rfl (hb hby dc_method_2_code_43) q9_) ?_
  show Go p e below s Z [("java/lang/String", 7)] _ _ _ (T66.setTop (mkF m 45 #[] [(.int (110 : Int32)), (.int (7 : Int32)), (.ref r), (.ref r)]))
  refine W68.cast_ V70_r ⟨by decide, by decide⟩ (i := 7) rfl (by simp) (v' := (110 : Int32)) rfl z_r (List.mem_of_getElem? (i := 0) rfl) (hb hby dc_method_2_code_45) ?_
  intro T71 h72 W73 Wr74 V75_r'
  have V75_r : Arv Z h72 r k_r .char (16 : Int32) [(.int (65 : Int32)), (.int (108 : Int32)), (.int (108 : Int32)), (.int (79 : Int32)), (.int (114 : Int32)), (.int (103 : Int32)), (.int (97 : Int32)), (.int (110 : Int32)), (.int (0 : Int32)), (.int (0 : Int32)), (.int (0 : Int32)), (.int (0 : Int32)), (.int (0 : Int32)), (.int (0 : Int32)), (.int (0 : Int32)), (.int (0 : Int32))] (.int (0 : Int32)) := V75_r'
  show Go p e below s Z [("java/lang/String", 7)] _ _ _ (T71.setTop (mkF m 46 #[] [(.ref r)]))
  refine Go.by (fun t9_ q9_ => XS.dup W73.here W73.hx rfl (hb hby dc_method_2_code_46) rfl rfl q9_) ?_
  show Go p e below s Z [("java/lang/String", 7)] _ _ _ (T71.setTop (mkF m 47 #[] [(.ref r), (.ref r)]))
  refine Go.by (fun t9_ q9_ => XS.bipush W73.here W73.hx rfl (hb hby dc_method_2_code_47) q9_) ?_
  show Go p e below s Z [("java/lang/String", 7)] _ _ _ (T71.setTop (mkF m 49 #[] [(.int (8 : Int32)), (.ref r), (.ref r)]))
  refine Go.by (fun t9_ q9_ => XS.bipush W73.here W73.hx rfl (hb hby dc_method_2_code_49) q9_) ?_
  show Go p e below s Z [("java/lang/String", 7)] _ _ _ (T71.setTop (mkF m 51 #[] [(.int (105 : Int32)), (.int (8 : Int32)), (.ref r), (.ref r)]))
  refine W73.cast_ V75_r ⟨by decide, by decide⟩ (i := 8) rfl (by simp) (v' := (105 : Int32)) rfl z_r (List.mem_of_getElem? (i := 0) rfl) (hb hby dc_method_2_code_51) ?_
  intro T76 h77 W78 Wr79 V80_r'
  have V80_r : Arv Z h77 r k_r .char (16 : Int32) [(.int (65 : Int32)), (.int (108 : Int32)), (.int (108 : Int32)), (.int (79 : Int32)), (.int (114 : Int32)), (.int (103 : Int32)), (.int (97 : Int32)), (.int (110 : Int32)), (.int (105 : Int32)), (.int (0 : Int32)), (.int (0 : Int32)), (.int (0 : Int32)), (.int (0 : Int32)), (.int (0 : Int32)), (.int (0 : Int32)), (.int (0 : Int32))] (.int (0 : Int32)) := V80_r'
  show Go p e below s Z [("java/lang/String", 7)] _ _ _ (T76.setTop (mkF m 52 #[] [(.ref r)]))
  refine Go.by (fun t9_ q9_ => XS.dup W78.here W78.hx rfl (hb hby dc_method_2_code_52) rfl rfl q9_) ?_
  show Go p e below s Z [("java/lang/String", 7)] _ _ _ (T76.setTop (mkF m 53 #[] [(.ref r), (.ref r)]))
  refine Go.by (fun t9_ q9_ => XS.bipush W78.here W78.hx rfl (hb hby dc_method_2_code_53) q9_) ?_
  show Go p e below s Z [("java/lang/String", 7)] _ _ _ (T76.setTop (mkF m 55 #[] [(.int (9 : Int32)), (.ref r), (.ref r)]))
  refine Go.by (fun t9_ q9_ => XS.bipush W78.here W78.hx rfl (hb hby dc_method_2_code_55) q9_) ?_
  show Go p e below s Z [("java/lang/String", 7)] _ _ _ (T76.setTop (mkF m 57 #[] [(.int (122 : Int32)), (.int (9 : Int32)), (.ref r), (.ref r)]))
  refine W78.cast_ V80_r ⟨by decide, by decide⟩ (i := 9) rfl (by simp) (v' := (122 : Int32)) rfl z_r (List.mem_of_getElem? (i := 0) rfl) (hb hby dc_method_2_code_57) ?_
  intro T81 h82 W83 Wr84 V85_r'
  have V85_r : Arv Z h82 r k_r .char (16 : Int32) [(.int (65 : Int32)), (.int (108 : Int32)), (.int (108 : Int32)), (.int (79 : Int32)), (.int (114 : Int32)), (.int (103 : Int32)), (.int (97 : Int32)), (.int (110 : Int32)), (.int (105 : Int32)), (.int (122 : Int32)), (.int (0 : Int32)), (.int (0 : Int32)), (.int (0 : Int32)), (.int (0 : Int32)), (.int (0 : Int32)), (.int (0 : Int32))] (.int (0 : Int32)) := V85_r'
  show Go p e below s Z [("java/lang/String", 7)] _ _ _ (T81.setTop (mkF m 58 #[] [(.ref r)]))
  refine Go.by (fun t9_ q9_ => XS.dup W83.here W83.hx rfl (hb hby dc_method_2_code_58) rfl rfl q9_) ?_
  show Go p e below s Z [("java/lang/String", 7)] _ _ _ (T81.setTop (mkF m 59 #[] [(.ref r), (.ref r)]))
  refine Go.by (fun t9_ q9_ => XS.bipush W83.here W83.hx rfl (hb hby dc_method_2_code_59) q9_) ?_
  show Go p e below s Z [("java/lang/String", 7)] _ _ _ (T81.setTop (mkF m 61 #[] [(.int (10 : Int32)), (.ref r), (.ref r)]))
  refine Go.by (fun t9_ q9_ => XS.bipush W83.here W83.hx rfl (hb hby dc_method_2_code_61) q9_) ?_
  show Go p e below s Z [("java/lang/String", 7)] _ _ _ (T81.setTop (mkF m 63 #[] [(.int (97 : Int32)), (.int (10 : Int32)), (.ref r), (.ref r)]))
  refine W83.cast_ V85_r ⟨by decide, by decide⟩ (i := 10) rfl (by simp) (v' := (97 : Int32)) rfl z_r (List.mem_of_getElem? (i := 0) rfl) (hb hby dc_method_2_code_63) ?_
  intro T86 h87 W88 Wr89 V90_r'
  have V90_r : Arv Z h87 r k_r .char (16 : Int32) [(.int (65 : Int32)), (.int (108 : Int32)), (.int (108 : Int32)), (.int (79 : Int32)), (.int (114 : Int32)), (.int (103 : Int32)), (.int (97 : Int32)), (.int (110 : Int32)), (.int (105 : Int32)), (.int (122 : Int32)), (.int (97 : Int32)), (.int (0 : Int32)), (.int (0 : Int32)), (.int (0 : Int32)), (.int (0 : Int32)), (.int (0 : Int32))] (.int (0 : Int32)) := V90_r'
  show Go p e below s Z [("java/lang/String", 7)] _ _ _ (T86.setTop (mkF m 64 #[] [(.ref r)]))
  refine Go.by (fun t9_ q9_ => XS.dup W88.here W88.hx rfl (hb hby dc_method_2_code_64) rfl rfl q9_) ?_
  show Go p e below s Z [("java/lang/String", 7)] _ _ _ (T86.setTop (mkF m 65 #[] [(.ref r), (.ref r)]))
  refine Go.by (fun t9_ q9_ => XS.bipush W88.here W88.hx rfl (hb hby dc_method_2_code_65) q9_) ?_
  show Go p e below s Z [("java/lang/String", 7)] _ _ _ (T86.setTop (mkF m 67 #[] [(.int (11 : Int32)), (.ref r), (.ref r)]))
  refine Go.by (fun t9_ q9_ => XS.bipush W88.here W88.hx rfl (hb hby dc_method_2_code_67) q9_) ?_
  show Go p e below s Z [("java/lang/String", 7)] _ _ _ (T86.setTop (mkF m 69 #[] [(.int (116 : Int32)), (.int (11 : Int32)), (.ref r), (.ref r)]))
  refine W88.cast_ V90_r ⟨by decide, by decide⟩ (i := 11) rfl (by simp) (v' := (116 : Int32)) rfl z_r (List.mem_of_getElem? (i := 0) rfl) (hb hby dc_method_2_code_69) ?_
  intro T91 h92 W93 Wr94 V95_r'
  have V95_r : Arv Z h92 r k_r .char (16 : Int32) [(.int (65 : Int32)), (.int (108 : Int32)), (.int (108 : Int32)), (.int (79 : Int32)), (.int (114 : Int32)), (.int (103 : Int32)), (.int (97 : Int32)), (.int (110 : Int32)), (.int (105 : Int32)), (.int (122 : Int32)), (.int (97 : Int32)), (.int (116 : Int32)), (.int (0 : Int32)), (.int (0 : Int32)), (.int (0 : Int32)), (.int (0 : Int32))] (.int (0 : Int32)) := V95_r'
  show Go p e below s Z [("java/lang/String", 7)] _ _ _ (T91.setTop (mkF m 70 #[] [(.ref r)]))
  refine Go.by (fun t9_ q9_ => XS.dup W93.here W93.hx rfl (hb hby dc_method_2_code_70) rfl rfl q9_) ?_
  show Go p e below s Z [("java/lang/String", 7)] _ _ _ (T91.setTop (mkF m 71 #[] [(.ref r), (.ref r)]))
  refine Go.by (fun t9_ q9_ => XS.bipush W93.here W93.hx rfl (hb hby dc_method_2_code_71) q9_) ?_
  show Go p e below s Z [("java/lang/String", 7)] _ _ _ (T91.setTop (mkF m 73 #[] [(.int (12 : Int32)), (.ref r), (.ref r)]))
  refine Go.by (fun t9_ q9_ => XS.bipush W93.here W93.hx rfl (hb hby dc_method_2_code_73) q9_) ?_
  show Go p e below s Z [("java/lang/String", 7)] _ _ _ (T91.setTop (mkF m 75 #[] [(.int (105 : Int32)), (.int (12 : Int32)), (.ref r), (.ref r)]))
  refine W93.cast_ V95_r ⟨by decide, by decide⟩ (i := 12) rfl (by simp) (v' := (105 : Int32)) rfl z_r (List.mem_of_getElem? (i := 0) rfl) (hb hby dc_method_2_code_75) ?_
  intro T96 h97 W98 Wr99 V100_r'
  have V100_r : Arv Z h97 r k_r .char (16 : Int32) [(.int (65 : Int32)), (.int (108 : Int32)), (.int (108 : Int32)), (.int (79 : Int32)), (.int (114 : Int32)), (.int (103 : Int32)), (.int (97 : Int32)), (.int (110 : Int32)), (.int (105 : Int32)), (.int (122 : Int32)), (.int (97 : Int32)), (.int (116 : Int32)), (.int (105 : Int32)), (.int (0 : Int32)), (.int (0 : Int32)), (.int (0 : Int32))] (.int (0 : Int32)) := V100_r'
  show Go p e below s Z [("java/lang/String", 7)] _ _ _ (T96.setTop (mkF m 76 #[] [(.ref r)]))
  refine Go.by (fun t9_ q9_ => XS.dup W98.here W98.hx rfl (hb hby dc_method_2_code_76) rfl rfl q9_) ?_
  show Go p e below s Z [("java/lang/String", 7)] _ _ _ (T96.setTop (mkF m 77 #[] [(.ref r), (.ref r)]))
  refine Go.by (fun t9_ q9_ => XS.bipush W98.here W98.hx rfl (hb hby dc_method_2_code_77) q9_) ?_
  show Go p e below s Z [("java/lang/String", 7)] _ _ _ (T96.setTop (mkF m 79 #[] [(.int (13 : Int32)), (.ref r), (.ref r)]))
  refine Go.by (fun t9_ q9_ => XS.bipush W98.here W98.hx rfl (hb hby dc_method_2_code_79) q9_) ?_
  show Go p e below s Z [("java/lang/String", 7)] _ _ _ (T96.setTop (mkF m 81 #[] [(.int (111 : Int32)), (.int (13 : Int32)), (.ref r), (.ref r)]))
  refine W98.cast_ V100_r ⟨by decide, by decide⟩ (i := 13) rfl (by simp) (v' := (111 : Int32)) rfl z_r (List.mem_of_getElem? (i := 0) rfl) (hb hby dc_method_2_code_81) ?_
  intro T101 h102 W103 Wr104 V105_r'
  have V105_r : Arv Z h102 r k_r .char (16 : Int32) [(.int (65 : Int32)), (.int (108 : Int32)), (.int (108 : Int32)), (.int (79 : Int32)), (.int (114 : Int32)), (.int (103 : Int32)), (.int (97 : Int32)), (.int (110 : Int32)), (.int (105 : Int32)), (.int (122 : Int32)), (.int (97 : Int32)), (.int (116 : Int32)), (.int (105 : Int32)), (.int (111 : Int32)), (.int (0 : Int32)), (.int (0 : Int32))] (.int (0 : Int32)) := V105_r'
  show Go p e below s Z [("java/lang/String", 7)] _ _ _ (T101.setTop (mkF m 82 #[] [(.ref r)]))
  refine Go.by (fun t9_ q9_ => XS.dup W103.here W103.hx rfl (hb hby dc_method_2_code_82) rfl rfl q9_) ?_
  show Go p e below s Z [("java/lang/String", 7)] _ _ _ (T101.setTop (mkF m 83 #[] [(.ref r), (.ref r)]))
  refine Go.by (fun t9_ q9_ => XS.bipush W103.here W103.hx rfl (hb hby dc_method_2_code_83) q9_) ?_
  show Go p e below s Z [("java/lang/String", 7)] _ _ _ (T101.setTop (mkF m 85 #[] [(.int (14 : Int32)), (.ref r), (.ref r)]))
  refine Go.by (fun t9_ q9_ => XS.bipush W103.here W103.hx rfl (hb hby dc_method_2_code_85) q9_) ?_
  show Go p e below s Z [("java/lang/String", 7)] _ _ _ (T101.setTop (mkF m 87 #[] [(.int (110 : Int32)), (.int (14 : Int32)), (.ref r), (.ref r)]))
  refine W103.cast_ V105_r ⟨by decide, by decide⟩ (i := 14) rfl (by simp) (v' := (110 : Int32)) rfl z_r (List.mem_of_getElem? (i := 0) rfl) (hb hby dc_method_2_code_87) ?_
  intro T106 h107 W108 Wr109 V110_r'
  have V110_r : Arv Z h107 r k_r .char (16 : Int32) [(.int (65 : Int32)), (.int (108 : Int32)), (.int (108 : Int32)), (.int (79 : Int32)), (.int (114 : Int32)), (.int (103 : Int32)), (.int (97 : Int32)), (.int (110 : Int32)), (.int (105 : Int32)), (.int (122 : Int32)), (.int (97 : Int32)), (.int (116 : Int32)), (.int (105 : Int32)), (.int (111 : Int32)), (.int (110 : Int32)), (.int (0 : Int32))] (.int (0 : Int32)) := V110_r'
  show Go p e below s Z [("java/lang/String", 7)] _ _ _ (T106.setTop (mkF m 88 #[] [(.ref r)]))
  refine Go.by (fun t9_ q9_ => XS.dup W108.here W108.hx rfl (hb hby dc_method_2_code_88) rfl rfl q9_) ?_
  show Go p e below s Z [("java/lang/String", 7)] _ _ _ (T106.setTop (mkF m 89 #[] [(.ref r), (.ref r)]))
  refine Go.by (fun t9_ q9_ => XS.bipush W108.here W108.hx rfl (hb hby dc_method_2_code_89) q9_) ?_
  show Go p e below s Z [("java/lang/String", 7)] _ _ _ (T106.setTop (mkF m 91 #[] [(.int (15 : Int32)), (.ref r), (.ref r)]))
  refine Go.by (fun t9_ q9_ => XS.bipush W108.here W108.hx rfl (hb hby dc_method_2_code_91) q9_) ?_
  show Go p e below s Z [("java/lang/String", 7)] _ _ _ (T106.setTop (mkF m 93 #[] [(.int (115 : Int32)), (.int (15 : Int32)), (.ref r), (.ref r)]))
  refine W108.cast_ V110_r ⟨by decide, by decide⟩ (i := 15) rfl (by simp) (v' := (115 : Int32)) rfl z_r (List.mem_of_getElem? (i := 0) rfl) (hb hby dc_method_2_code_93) ?_
  intro T111 h112 W113 Wr114 V115_r'
  have V115_r : Arv Z h112 r k_r .char (16 : Int32) [(.int (65 : Int32)), (.int (108 : Int32)), (.int (108 : Int32)), (.int (79 : Int32)), (.int (114 : Int32)), (.int (103 : Int32)), (.int (97 : Int32)), (.int (110 : Int32)), (.int (105 : Int32)), (.int (122 : Int32)), (.int (97 : Int32)), (.int (116 : Int32)), (.int (105 : Int32)), (.int (111 : Int32)), (.int (110 : Int32)), (.int (115 : Int32))] (.int (0 : Int32)) := V115_r'
  show Go p e below s Z [("java/lang/String", 7)] _ _ _ (T111.setTop (mkF m 94 #[] [(.ref r)]))
  have X116 : Ext h0 h37 := (Ext.wr' E35 Wr39 (Nat.le_of_eq g_r))
  have X117 : Ext h0 h42 := (Ext.wr' X116 Wr44 (Nat.le_of_eq g_r))
  have X118 : Ext h0 h47 := (Ext.wr' X117 Wr49 (Nat.le_of_eq g_r))
  have X119 : Ext h0 h52 := (Ext.wr' X118 Wr54 (Nat.le_of_eq g_r))
  have X120 : Ext h0 h57 := (Ext.wr' X119 Wr59 (Nat.le_of_eq g_r))
  have X121 : Ext h0 h62 := (Ext.wr' X120 Wr64 (Nat.le_of_eq g_r))
  have X122 : Ext h0 h67 := (Ext.wr' X121 Wr69 (Nat.le_of_eq g_r))
  have X123 : Ext h0 h72 := (Ext.wr' X122 Wr74 (Nat.le_of_eq g_r))
  have X124 : Ext h0 h77 := (Ext.wr' X123 Wr79 (Nat.le_of_eq g_r))
  have X125 : Ext h0 h82 := (Ext.wr' X124 Wr84 (Nat.le_of_eq g_r))
  have X126 : Ext h0 h87 := (Ext.wr' X125 Wr89 (Nat.le_of_eq g_r))
  have X127 : Ext h0 h92 := (Ext.wr' X126 Wr94 (Nat.le_of_eq g_r))
  have X128 : Ext h0 h97 := (Ext.wr' X127 Wr99 (Nat.le_of_eq g_r))
  have X129 : Ext h0 h102 := (Ext.wr' X128 Wr104 (Nat.le_of_eq g_r))
  have X130 : Ext h0 h107 := (Ext.wr' X129 Wr109 (Nat.le_of_eq g_r))
  have X131 : Ext h0 h112 := (Ext.wr' X130 Wr114 (Nat.le_of_eq g_r))
  exact W113.retA (by decide) (by decide) hret rfl rfl (hb hby dc_method_2_code_94) ⟨r, k_r, rfl, X131, V115_r, ((((((((((((((((A_r.wr Wr39).wr Wr44).wr Wr49).wr Wr54).wr Wr59).wr Wr64).wr Wr69).wr Wr74).wr Wr79).wr Wr84).wr Wr89).wr Wr94).wr Wr99).wr Wr104).wr Wr109).wr Wr114), z_r⟩
set_option maxRecDepth 65536 in
set_option maxHeartbeats 40000000 in
theorem c_cnt (l : Launch) (Z : State) (a0 : Array Value) (hw : ∀ d ∈ tables_1, d.before a0 Z = true) (hEL : EW Z a0 [("java/lang/String", 7)]) (h0 : Heap) (hE0 : Ext Z.heap h0)   :
    Con l Z [("java/lang/String", 7)] [] (⟨"com/example/proof_to_token/prooftotoken/config/SociabilityNamedPinLaw", "cntOnly", "()[C"⟩ : MethodName) method_3_code 0 (some (.array .char)) [] ({ frames := 0, cells := 1, slots := 17, locals := 0 } : Room) #[] h0 (fun v h' => ∃ r kr, v = some (.ref r) ∧ Ext h0 h' ∧ Arv Z h' r kr .char 17 [(.int 67), (.int 111), (.int 117), (.int 110), (.int 116), (.int 101), (.int 114), (.int 97), (.int 103), (.int 101), (.int 110), (.int 116), (.int 115), (.int 79), (.int 110), (.int 108), (.int 121)] (.int (0 : Int32)) ∧ Exa Z h' r "[C" ∧ Z.heap.size ≤ r) := by
  refine Con.mk (plainFor_of_name pn_1) hEL hE0 (fun x hx => by cases hx) ?_
  intro p e s m below meth c T0 hby hml hret hnm W0
  rw [(show entryFrame m #[] 0 = mkF m 0 #[] [] from by first | (simp [entryFrame, mkF, argsToLocals, Value.category]; done) | rfl)]
  refine Go.by (fun t9_ q9_ => XS.bipush W0.here W0.hx rfl (hb hby dc_method_3_code_0) q9_) ?_
  show Go p e below s Z [("java/lang/String", 7)] _ _ _ (T0.setTop (mkF m 2 #[] [(.int (17 : Int32))]))
  refine W0.newp (aty := .char) (wd7 hw) (hb hby dc_method_3_code_2) (by decide) (cap := 17) (by decide) (by decide) (k' := 1) (n' := 17) rfl rfl (by decide) (by decide) (ad := "[C") rfl ?_
  intro T132 h133 r k_r W134 E135 g_r z_r A_r V_r
  have V1_r : Arv Z h133 r k_r .char (17 : Int32) [(.int (0 : Int32)), (.int (0 : Int32)), (.int (0 : Int32)), (.int (0 : Int32)), (.int (0 : Int32)), (.int (0 : Int32)), (.int (0 : Int32)), (.int (0 : Int32)), (.int (0 : Int32)), (.int (0 : Int32)), (.int (0 : Int32)), (.int (0 : Int32)), (.int (0 : Int32)), (.int (0 : Int32)), (.int (0 : Int32)), (.int (0 : Int32)), (.int (0 : Int32))] (.int (0 : Int32)) := V_r.pad (pad_rep [] (.int (0 : Int32)) 17)
  show Go p e below s Z [("java/lang/String", 7)] _ _ _ (T132.setTop (mkF m 4 #[] [(.ref r)]))
  refine Go.by (fun t9_ q9_ => XS.dup W134.here W134.hx rfl (hb hby dc_method_3_code_4) rfl rfl q9_) ?_
  show Go p e below s Z [("java/lang/String", 7)] _ _ _ (T132.setTop (mkF m 5 #[] [(.ref r), (.ref r)]))
  refine Go.by (fun t9_ q9_ => XS.iconst W134.here W134.hx rfl (hb hby dc_method_3_code_5) q9_) ?_
  show Go p e below s Z [("java/lang/String", 7)] _ _ _ (T132.setTop (mkF m 6 #[] [(.int (0 : Int32)), (.ref r), (.ref r)]))
  refine Go.by (fun t9_ q9_ => XS.bipush W134.here W134.hx rfl (hb hby dc_method_3_code_6) q9_) ?_
  show Go p e below s Z [("java/lang/String", 7)] _ _ _ (T132.setTop (mkF m 8 #[] [(.int (67 : Int32)), (.int (0 : Int32)), (.ref r), (.ref r)]))
  refine W134.cast_ V1_r ⟨by decide, by decide⟩ (i := 0) rfl (by simp) (v' := (67 : Int32)) rfl z_r (List.mem_of_getElem? (i := 0) rfl) (hb hby dc_method_3_code_8) ?_
  intro T136 h137 W138 Wr139 V140_r'
  have V140_r : Arv Z h137 r k_r .char (17 : Int32) [(.int (67 : Int32)), (.int (0 : Int32)), (.int (0 : Int32)), (.int (0 : Int32)), (.int (0 : Int32)), (.int (0 : Int32)), (.int (0 : Int32)), (.int (0 : Int32)), (.int (0 : Int32)), (.int (0 : Int32)), (.int (0 : Int32)), (.int (0 : Int32)), (.int (0 : Int32)), (.int (0 : Int32)), (.int (0 : Int32)), (.int (0 : Int32)), (.int (0 : Int32))] (.int (0 : Int32)) := V140_r'
  show Go p e below s Z [("java/lang/String", 7)] _ _ _ (T136.setTop (mkF m 9 #[] [(.ref r)]))
  refine Go.by (fun t9_ q9_ => XS.dup W138.here W138.hx rfl (hb hby dc_method_3_code_9) rfl rfl q9_) ?_
  show Go p e below s Z [("java/lang/String", 7)] _ _ _ (T136.setTop (mkF m 10 #[] [(.ref r), (.ref r)]))
  refine Go.by (fun t9_ q9_ => XS.iconst W138.here W138.hx rfl (hb hby dc_method_3_code_10) q9_) ?_
  show Go p e below s Z [("java/lang/String", 7)] _ _ _ (T136.setTop (mkF m 11 #[] [(.int (1 : Int32)), (.ref r), (.ref r)]))
  refine Go.by (fun t9_ q9_ => XS.bipush W138.here W138.hx rfl (hb hby dc_method_3_code_11) q9_) ?_
  show Go p e below s Z [("java/lang/String", 7)] _ _ _ (T136.setTop (mkF m 13 #[] [(.int (111 : Int32)), (.int (1 : Int32)), (.ref r), (.ref r)]))
  refine W138.cast_ V140_r ⟨by decide, by decide⟩ (i := 1) rfl (by simp) (v' := (111 : Int32)) rfl z_r (List.mem_of_getElem? (i := 0) rfl) (hb hby dc_method_3_code_13) ?_
  intro T141 h142 W143 Wr144 V145_r'
  have V145_r : Arv Z h142 r k_r .char (17 : Int32) [(.int (67 : Int32)), (.int (111 : Int32)), (.int (0 : Int32)), (.int (0 : Int32)), (.int (0 : Int32)), (.int (0 : Int32)), (.int (0 : Int32)), (.int (0 : Int32)), (.int (0 : Int32)), (.int (0 : Int32)), (.int (0 : Int32)), (.int (0 : Int32)), (.int (0 : Int32)), (.int (0 : Int32)), (.int (0 : Int32)), (.int (0 : Int32)), (.int (0 : Int32))] (.int (0 : Int32)) := V145_r'
  show Go p e below s Z [("java/lang/String", 7)] _ _ _ (T141.setTop (mkF m 14 #[] [(.ref r)]))
  refine Go.by (fun t9_ q9_ => XS.dup W143.here W143.hx rfl (hb hby dc_method_3_code_14) rfl rfl q9_) ?_
  show Go p e below s Z [("java/lang/String", 7)] _ _ _ (T141.setTop (mkF m 15 #[] [(.ref r), (.ref r)]))
  refine Go.by (fun t9_ q9_ => XS.iconst W143.here W143.hx rfl (hb hby dc_method_3_code_15) q9_) ?_
  show Go p e below s Z [("java/lang/String", 7)] _ _ _ (T141.setTop (mkF m 16 #[] [(.int (2 : Int32)), (.ref r), (.ref r)]))
  refine Go.by (fun t9_ q9_ => XS.bipush W143.here W143.hx rfl (hb hby dc_method_3_code_16) q9_) ?_
  show Go p e below s Z [("java/lang/String", 7)] _ _ _ (T141.setTop (mkF m 18 #[] [(.int (117 : Int32)), (.int (2 : Int32)), (.ref r), (.ref r)]))
  refine W143.cast_ V145_r ⟨by decide, by decide⟩ (i := 2) rfl (by simp) (v' := (117 : Int32)) rfl z_r (List.mem_of_getElem? (i := 0) rfl) (hb hby dc_method_3_code_18) ?_
  intro T146 h147 W148 Wr149 V150_r'
  have V150_r : Arv Z h147 r k_r .char (17 : Int32) [(.int (67 : Int32)), (.int (111 : Int32)), (.int (117 : Int32)), (.int (0 : Int32)), (.int (0 : Int32)), (.int (0 : Int32)), (.int (0 : Int32)), (.int (0 : Int32)), (.int (0 : Int32)), (.int (0 : Int32)), (.int (0 : Int32)), (.int (0 : Int32)), (.int (0 : Int32)), (.int (0 : Int32)), (.int (0 : Int32)), (.int (0 : Int32)), (.int (0 : Int32))] (.int (0 : Int32)) := V150_r'
  show Go p e below s Z [("java/lang/String", 7)] _ _ _ (T146.setTop (mkF m 19 #[] [(.ref r)]))
  refine Go.by (fun t9_ q9_ => XS.dup W148.here W148.hx rfl (hb hby dc_method_3_code_19) rfl rfl q9_) ?_
  show Go p e below s Z [("java/lang/String", 7)] _ _ _ (T146.setTop (mkF m 20 #[] [(.ref r), (.ref r)]))
  refine Go.by (fun t9_ q9_ => XS.iconst W148.here W148.hx rfl (hb hby dc_method_3_code_20) q9_) ?_
  show Go p e below s Z [("java/lang/String", 7)] _ _ _ (T146.setTop (mkF m 21 #[] [(.int (3 : Int32)), (.ref r), (.ref r)]))
  refine Go.by (fun t9_ q9_ => XS.bipush W148.here W148.hx rfl (hb hby dc_method_3_code_21) q9_) ?_
  show Go p e below s Z [("java/lang/String", 7)] _ _ _ (T146.setTop (mkF m 23 #[] [(.int (110 : Int32)), (.int (3 : Int32)), (.ref r), (.ref r)]))
  refine W148.cast_ V150_r ⟨by decide, by decide⟩ (i := 3) rfl (by simp) (v' := (110 : Int32)) rfl z_r (List.mem_of_getElem? (i := 0) rfl) (hb hby dc_method_3_code_23) ?_
  intro T151 h152 W153 Wr154 V155_r'
  have V155_r : Arv Z h152 r k_r .char (17 : Int32) [(.int (67 : Int32)), (.int (111 : Int32)), (.int (117 : Int32)), (.int (110 : Int32)), (.int (0 : Int32)), (.int (0 : Int32)), (.int (0 : Int32)), (.int (0 : Int32)), (.int (0 : Int32)), (.int (0 : Int32)), (.int (0 : Int32)), (.int (0 : Int32)), (.int (0 : Int32)), (.int (0 : Int32)), (.int (0 : Int32)), (.int (0 : Int32)), (.int (0 : Int32))] (.int (0 : Int32)) := V155_r'
  show Go p e below s Z [("java/lang/String", 7)] _ _ _ (T151.setTop (mkF m 24 #[] [(.ref r)]))
  refine Go.by (fun t9_ q9_ => XS.dup W153.here W153.hx rfl (hb hby dc_method_3_code_24) rfl rfl q9_) ?_
  show Go p e below s Z [("java/lang/String", 7)] _ _ _ (T151.setTop (mkF m 25 #[] [(.ref r), (.ref r)]))
  refine Go.by (fun t9_ q9_ => XS.iconst W153.here W153.hx rfl (hb hby dc_method_3_code_25) q9_) ?_
  show Go p e below s Z [("java/lang/String", 7)] _ _ _ (T151.setTop (mkF m 26 #[] [(.int (4 : Int32)), (.ref r), (.ref r)]))
  refine Go.by (fun t9_ q9_ => XS.bipush W153.here W153.hx rfl (hb hby dc_method_3_code_26) q9_) ?_
  show Go p e below s Z [("java/lang/String", 7)] _ _ _ (T151.setTop (mkF m 28 #[] [(.int (116 : Int32)), (.int (4 : Int32)), (.ref r), (.ref r)]))
  refine W153.cast_ V155_r ⟨by decide, by decide⟩ (i := 4) rfl (by simp) (v' := (116 : Int32)) rfl z_r (List.mem_of_getElem? (i := 0) rfl) (hb hby dc_method_3_code_28) ?_
  intro T156 h157 W158 Wr159 V160_r'
  have V160_r : Arv Z h157 r k_r .char (17 : Int32) [(.int (67 : Int32)), (.int (111 : Int32)), (.int (117 : Int32)), (.int (110 : Int32)), (.int (116 : Int32)), (.int (0 : Int32)), (.int (0 : Int32)), (.int (0 : Int32)), (.int (0 : Int32)), (.int (0 : Int32)), (.int (0 : Int32)), (.int (0 : Int32)), (.int (0 : Int32)), (.int (0 : Int32)), (.int (0 : Int32)), (.int (0 : Int32)), (.int (0 : Int32))] (.int (0 : Int32)) := V160_r'
  show Go p e below s Z [("java/lang/String", 7)] _ _ _ (T156.setTop (mkF m 29 #[] [(.ref r)]))
  refine Go.by (fun t9_ q9_ => XS.dup W158.here W158.hx rfl (hb hby dc_method_3_code_29) rfl rfl q9_) ?_
  show Go p e below s Z [("java/lang/String", 7)] _ _ _ (T156.setTop (mkF m 30 #[] [(.ref r), (.ref r)]))
  refine Go.by (fun t9_ q9_ => XS.iconst W158.here W158.hx rfl (hb hby dc_method_3_code_30) q9_) ?_
  show Go p e below s Z [("java/lang/String", 7)] _ _ _ (T156.setTop (mkF m 31 #[] [(.int (5 : Int32)), (.ref r), (.ref r)]))
  refine Go.by (fun t9_ q9_ => XS.bipush W158.here W158.hx rfl (hb hby dc_method_3_code_31) q9_) ?_
  show Go p e below s Z [("java/lang/String", 7)] _ _ _ (T156.setTop (mkF m 33 #[] [(.int (101 : Int32)), (.int (5 : Int32)), (.ref r), (.ref r)]))
  refine W158.cast_ V160_r ⟨by decide, by decide⟩ (i := 5) rfl (by simp) (v' := (101 : Int32)) rfl z_r (List.mem_of_getElem? (i := 0) rfl) (hb hby dc_method_3_code_33) ?_
  intro T161 h162 W163 Wr164 V165_r'
  have V165_r : Arv Z h162 r k_r .char (17 : Int32) [(.int (67 : Int32)), (.int (111 : Int32)), (.int (117 : Int32)), (.int (110 : Int32)), (.int (116 : Int32)), (.int (101 : Int32)), (.int (0 : Int32)), (.int (0 : Int32)), (.int (0 : Int32)), (.int (0 : Int32)), (.int (0 : Int32)), (.int (0 : Int32)), (.int (0 : Int32)), (.int (0 : Int32)), (.int (0 : Int32)), (.int (0 : Int32)), (.int (0 : Int32))] (.int (0 : Int32)) := V165_r'
  show Go p e below s Z [("java/lang/String", 7)] _ _ _ (T161.setTop (mkF m 34 #[] [(.ref r)]))
  refine Go.by (fun t9_ q9_ => XS.dup W163.here W163.hx rfl (hb hby dc_method_3_code_34) rfl rfl q9_) ?_
  show Go p e below s Z [("java/lang/String", 7)] _ _ _ (T161.setTop (mkF m 35 #[] [(.ref r), (.ref r)]))
  refine Go.by (fun t9_ q9_ => XS.bipush W163.here W163.hx rfl (hb hby dc_method_3_code_35) q9_) ?_
  show Go p e below s Z [("java/lang/String", 7)] _ _ _ (T161.setTop (mkF m 37 #[] [(.int (6 : Int32)), (.ref r), (.ref r)]))
  refine Go.by (fun t9_ q9_ => XS.bipush W163.here W163.hx rfl (hb hby dc_method_3_code_37) q9_) ?_
  show Go p e below s Z [("java/lang/String", 7)] _ _ _ (T161.setTop (mkF m 39 #[] [(.int (114 : Int32)), (.int (6 : Int32)), (.ref r), (.ref r)]))
  refine W163.cast_ V165_r ⟨by decide, by decide⟩ (i := 6) rfl (by simp) (v' := (114 : Int32)) rfl z_r (List.mem_of_getElem? (i := 0) rfl) (hb hby dc_method_3_code_39) ?_
  intro T166 h167 W168 Wr169 V170_r'
  have V170_r : Arv Z h167 r k_r .char (17 : Int32) [(.int (67 : Int32)), (.int (111 : Int32)), (.int (117 : Int32)), (.int (110 : Int32)), (.int (116 : Int32)), (.int (101 : Int32)), (.int (114 : Int32)), (.int (0 : Int32)), (.int (0 : Int32)), (.int (0 : Int32)), (.int (0 : Int32)), (.int (0 : Int32)), (.int (0 : Int32)), (.int (0 : Int32)), (.int (0 : Int32)), (.int (0 : Int32)), (.int (0 : Int32))] (.int (0 : Int32)) := V170_r'
  show Go p e below s Z [("java/lang/String", 7)] _ _ _ (T166.setTop (mkF m 40 #[] [(.ref r)]))
  refine Go.by (fun t9_ q9_ => XS.dup W168.here W168.hx rfl (hb hby dc_method_3_code_40) rfl rfl q9_) ?_
  show Go p e below s Z [("java/lang/String", 7)] _ _ _ (T166.setTop (mkF m 41 #[] [(.ref r), (.ref r)]))
  refine Go.by (fun t9_ q9_ => XS.bipush W168.here W168.hx rfl (hb hby dc_method_3_code_41) q9_) ?_
  show Go p e below s Z [("java/lang/String", 7)] _ _ _ (T166.setTop (mkF m 43 #[] [(.int (7 : Int32)), (.ref r), (.ref r)]))
  refine Go.by (fun t9_ q9_ => XS.bipush W168.here W168.hx rfl (hb hby dc_method_3_code_43) q9_) ?_
  show Go p e below s Z [("java/lang/String", 7)] _ _ _ (T166.setTop (mkF m 45 #[] [(.int (97 : Int32)), (.int (7 : Int32)), (.ref r), (.ref r)]))
  refine W168.cast_ V170_r ⟨by decide, by decide⟩ (i := 7) rfl (by simp) (v' := (97 : Int32)) rfl z_r (List.mem_of_getElem? (i := 0) rfl) (hb hby dc_method_3_code_45) ?_
  intro T171 h172 W173 Wr174 V175_r'
  have V175_r : Arv Z h172 r k_r .char (17 : Int32) [(.int (67 : Int32)), (.int (111 : Int32)), (.int (117 : Int32)), (.int (110 : Int32)), (.int (116 : Int32)), (.int (101 : Int32)), (.int (114 : Int32)), (.int (97 : Int32)), (.int (0 : Int32)), (.int (0 : Int32)), (.int (0 : Int32)), (.int (0 : Int32)), (.int (0 : Int32)), (.int (0 : Int32)), (.int (0 : Int32)), (.int (0 : Int32)), (.int (0 : Int32))] (.int (0 : Int32)) := V175_r'
  show Go p e below s Z [("java/lang/String", 7)] _ _ _ (T171.setTop (mkF m 46 #[] [(.ref r)]))
  refine Go.by (fun t9_ q9_ => XS.dup W173.here W173.hx rfl (hb hby dc_method_3_code_46) rfl rfl q9_) ?_
  show Go p e below s Z [("java/lang/String", 7)] _ _ _ (T171.setTop (mkF m 47 #[] [(.ref r), (.ref r)]))
  refine Go.by (fun t9_ q9_ => XS.bipush W173.here W173.hx rfl (hb hby dc_method_3_code_47) q9_) ?_
  show Go p e below s Z [("java/lang/String", 7)] _ _ _ (T171.setTop (mkF m 49 #[] [(.int (8 : Int32)), (.ref r), (.ref r)]))
  refine Go.by (fun t9_ q9_ => XS.bipush W173.here W173.hx rfl (hb hby dc_method_3_code_49) q9_) ?_
  show Go p e below s Z [("java/lang/String", 7)] _ _ _ (T171.setTop (mkF m 51 #[] [(.int (103 : Int32)), (.int (8 : Int32)), (.ref r), (.ref r)]))
  refine W173.cast_ V175_r ⟨by decide, by decide⟩ (i := 8) rfl (by simp) (v' := (103 : Int32)) rfl z_r (List.mem_of_getElem? (i := 0) rfl) (hb hby dc_method_3_code_51) ?_
  intro T176 h177 W178 Wr179 V180_r'
  have V180_r : Arv Z h177 r k_r .char (17 : Int32) [(.int (67 : Int32)), (.int (111 : Int32)), (.int (117 : Int32)), (.int (110 : Int32)), (.int (116 : Int32)), (.int (101 : Int32)), (.int (114 : Int32)), (.int (97 : Int32)), (.int (103 : Int32)), (.int (0 : Int32)), (.int (0 : Int32)), (.int (0 : Int32)), (.int (0 : Int32)), (.int (0 : Int32)), (.int (0 : Int32)), (.int (0 : Int32)), (.int (0 : Int32))] (.int (0 : Int32)) := V180_r'
  show Go p e below s Z [("java/lang/String", 7)] _ _ _ (T176.setTop (mkF m 52 #[] [(.ref r)]))
  refine Go.by (fun t9_ q9_ => XS.dup W178.here W178.hx rfl (hb hby dc_method_3_code_52) rfl rfl q9_) ?_
  show Go p e below s Z [("java/lang/String", 7)] _ _ _ (T176.setTop (mkF m 53 #[] [(.ref r), (.ref r)]))
  refine Go.by (fun t9_ q9_ => XS.bipush W178.here W178.hx rfl (hb hby dc_method_3_code_53) q9_) ?_
  show Go p e below s Z [("java/lang/String", 7)] _ _ _ (T176.setTop (mkF m 55 #[] [(.int (9 : Int32)), (.ref r), (.ref r)]))
  refine Go.by (fun t9_ q9_ => XS.bipush W178.here W178.hx rfl (hb hby dc_method_3_code_55) q9_) ?_
  show Go p e below s Z [("java/lang/String", 7)] _ _ _ (T176.setTop (mkF m 57 #[] [(.int (101 : Int32)), (.int (9 : Int32)), (.ref r), (.ref r)]))
  refine W178.cast_ V180_r ⟨by decide, by decide⟩ (i := 9) rfl (by simp) (v' := (101 : Int32)) rfl z_r (List.mem_of_getElem? (i := 0) rfl) (hb hby dc_method_3_code_57) ?_
  intro T181 h182 W183 Wr184 V185_r'
  have V185_r : Arv Z h182 r k_r .char (17 : Int32) [(.int (67 : Int32)), (.int (111 : Int32)), (.int (117 : Int32)), (.int (110 : Int32)), (.int (116 : Int32)), (.int (101 : Int32)), (.int (114 : Int32)), (.int (97 : Int32)), (.int (103 : Int32)), (.int (101 : Int32)), (.int (0 : Int32)), (.int (0 : Int32)), (.int (0 : Int32)), (.int (0 : Int32)), (.int (0 : Int32)), (.int (0 : Int32)), (.int (0 : Int32))] (.int (0 : Int32)) := V185_r'
  show Go p e below s Z [("java/lang/String", 7)] _ _ _ (T181.setTop (mkF m 58 #[] [(.ref r)]))
  refine Go.by (fun t9_ q9_ => XS.dup W183.here W183.hx rfl (hb hby dc_method_3_code_58) rfl rfl q9_) ?_
  show Go p e below s Z [("java/lang/String", 7)] _ _ _ (T181.setTop (mkF m 59 #[] [(.ref r), (.ref r)]))
  refine Go.by (fun t9_ q9_ => XS.bipush W183.here W183.hx rfl (hb hby dc_method_3_code_59) q9_) ?_
  show Go p e below s Z [("java/lang/String", 7)] _ _ _ (T181.setTop (mkF m 61 #[] [(.int (10 : Int32)), (.ref r), (.ref r)]))
  refine Go.by (fun t9_ q9_ => XS.bipush W183.here W183.hx rfl (hb hby dc_method_3_code_61) q9_) ?_
  show Go p e below s Z [("java/lang/String", 7)] _ _ _ (T181.setTop (mkF m 63 #[] [(.int (110 : Int32)), (.int (10 : Int32)), (.ref r), (.ref r)]))
  refine W183.cast_ V185_r ⟨by decide, by decide⟩ (i := 10) rfl (by simp) (v' := (110 : Int32)) rfl z_r (List.mem_of_getElem? (i := 0) rfl) (hb hby dc_method_3_code_63) ?_
  intro T186 h187 W188 Wr189 V190_r'
  have V190_r : Arv Z h187 r k_r .char (17 : Int32) [(.int (67 : Int32)), (.int (111 : Int32)), (.int (117 : Int32)), (.int (110 : Int32)), (.int (116 : Int32)), (.int (101 : Int32)), (.int (114 : Int32)), (.int (97 : Int32)), (.int (103 : Int32)), (.int (101 : Int32)), (.int (110 : Int32)), (.int (0 : Int32)), (.int (0 : Int32)), (.int (0 : Int32)), (.int (0 : Int32)), (.int (0 : Int32)), (.int (0 : Int32))] (.int (0 : Int32)) := V190_r'
  show Go p e below s Z [("java/lang/String", 7)] _ _ _ (T186.setTop (mkF m 64 #[] [(.ref r)]))
  refine Go.by (fun t9_ q9_ => XS.dup W188.here W188.hx rfl (hb hby dc_method_3_code_64) rfl rfl q9_) ?_
  show Go p e below s Z [("java/lang/String", 7)] _ _ _ (T186.setTop (mkF m 65 #[] [(.ref r), (.ref r)]))
  refine Go.by (fun t9_ q9_ => XS.bipush W188.here W188.hx rfl (hb hby dc_method_3_code_65) q9_) ?_
  show Go p e below s Z [("java/lang/String", 7)] _ _ _ (T186.setTop (mkF m 67 #[] [(.int (11 : Int32)), (.ref r), (.ref r)]))
  refine Go.by (fun t9_ q9_ => XS.bipush W188.here W188.hx rfl (hb hby dc_method_3_code_67) q9_) ?_
  show Go p e below s Z [("java/lang/String", 7)] _ _ _ (T186.setTop (mkF m 69 #[] [(.int (116 : Int32)), (.int (11 : Int32)), (.ref r), (.ref r)]))
  refine W188.cast_ V190_r ⟨by decide, by decide⟩ (i := 11) rfl (by simp) (v' := (116 : Int32)) rfl z_r (List.mem_of_getElem? (i := 0) rfl) (hb hby dc_method_3_code_69) ?_
  intro T191 h192 W193 Wr194 V195_r'
  have V195_r : Arv Z h192 r k_r .char (17 : Int32) [(.int (67 : Int32)), (.int (111 : Int32)), (.int (117 : Int32)), (.int (110 : Int32)), (.int (116 : Int32)), (.int (101 : Int32)), (.int (114 : Int32)), (.int (97 : Int32)), (.int (103 : Int32)), (.int (101 : Int32)), (.int (110 : Int32)), (.int (116 : Int32)), (.int (0 : Int32)), (.int (0 : Int32)), (.int (0 : Int32)), (.int (0 : Int32)), (.int (0 : Int32))] (.int (0 : Int32)) := V195_r'
  show Go p e below s Z [("java/lang/String", 7)] _ _ _ (T191.setTop (mkF m 70 #[] [(.ref r)]))
  refine Go.by (fun t9_ q9_ => XS.dup W193.here W193.hx rfl (hb hby dc_method_3_code_70) rfl rfl q9_) ?_
  show Go p e below s Z [("java/lang/String", 7)] _ _ _ (T191.setTop (mkF m 71 #[] [(.ref r), (.ref r)]))
  refine Go.by (fun t9_ q9_ => XS.bipush W193.here W193.hx rfl (hb hby dc_method_3_code_71) q9_) ?_
  show Go p e below s Z [("java/lang/String", 7)] _ _ _ (T191.setTop (mkF m 73 #[] [(.int (12 : Int32)), (.ref r), (.ref r)]))
  refine Go.by (fun t9_ q9_ => XS.bipush W193.here W193.hx rfl (hb hby dc_method_3_code_73) q9_) ?_
  show Go p e below s Z [("java/lang/String", 7)] _ _ _ (T191.setTop (mkF m 75 #[] [(.int (115 : Int32)), (.int (12 : Int32)), (.ref r), (.ref r)]))
  refine W193.cast_ V195_r ⟨by decide, by decide⟩ (i := 12) rfl (by simp) (v' := (115 : Int32)) rfl z_r (List.mem_of_getElem? (i := 0) rfl) (hb hby dc_method_3_code_75) ?_
  intro T196 h197 W198 Wr199 V200_r'
  have V200_r : Arv Z h197 r k_r .char (17 : Int32) [(.int (67 : Int32)), (.int (111 : Int32)), (.int (117 : Int32)), (.int (110 : Int32)), (.int (116 : Int32)), (.int (101 : Int32)), (.int (114 : Int32)), (.int (97 : Int32)), (.int (103 : Int32)), (.int (101 : Int32)), (.int (110 : Int32)), (.int (116 : Int32)), (.int (115 : Int32)), (.int (0 : Int32)), (.int (0 : Int32)), (.int (0 : Int32)), (.int (0 : Int32))] (.int (0 : Int32)) := V200_r'
  show Go p e below s Z [("java/lang/String", 7)] _ _ _ (T196.setTop (mkF m 76 #[] [(.ref r)]))
  refine Go.by (fun t9_ q9_ => XS.dup W198.here W198.hx rfl (hb hby dc_method_3_code_76) rfl rfl q9_) ?_
  show Go p e below s Z [("java/lang/String", 7)] _ _ _ (T196.setTop (mkF m 77 #[] [(.ref r), (.ref r)]))
  refine Go.by (fun t9_ q9_ => XS.bipush W198.here W198.hx rfl (hb hby dc_method_3_code_77) q9_) ?_
  show Go p e below s Z [("java/lang/String", 7)] _ _ _ (T196.setTop (mkF m 79 #[] [(.int (13 : Int32)), (.ref r), (.ref r)]))
  refine Go.by (fun t9_ q9_ => XS.bipush W198.here W198.hx rfl (hb hby dc_method_3_code_79) q9_) ?_
  show Go p e below s Z [("java/lang/String", 7)] _ _ _ (T196.setTop (mkF m 81 #[] [(.int (79 : Int32)), (.int (13 : Int32)), (.ref r), (.ref r)]))
  refine W198.cast_ V200_r ⟨by decide, by decide⟩ (i := 13) rfl (by simp) (v' := (79 : Int32)) rfl z_r (List.mem_of_getElem? (i := 0) rfl) (hb hby dc_method_3_code_81) ?_
  intro T201 h202 W203 Wr204 V205_r'
  have V205_r : Arv Z h202 r k_r .char (17 : Int32) [(.int (67 : Int32)), (.int (111 : Int32)), (.int (117 : Int32)), (.int (110 : Int32)), (.int (116 : Int32)), (.int (101 : Int32)), (.int (114 : Int32)), (.int (97 : Int32)), (.int (103 : Int32)), (.int (101 : Int32)), (.int (110 : Int32)), (.int (116 : Int32)), (.int (115 : Int32)), (.int (79 : Int32)), (.int (0 : Int32)), (.int (0 : Int32)), (.int (0 : Int32))] (.int (0 : Int32)) := V205_r'
  show Go p e below s Z [("java/lang/String", 7)] _ _ _ (T201.setTop (mkF m 82 #[] [(.ref r)]))
  refine Go.by (fun t9_ q9_ => XS.dup W203.here W203.hx rfl (hb hby dc_method_3_code_82) rfl rfl q9_) ?_
  show Go p e below s Z [("java/lang/String", 7)] _ _ _ (T201.setTop (mkF m 83 #[] [(.ref r), (.ref r)]))
  refine Go.by (fun t9_ q9_ => XS.bipush W203.here W203.hx rfl (hb hby dc_method_3_code_83) q9_) ?_
  show Go p e below s Z [("java/lang/String", 7)] _ _ _ (T201.setTop (mkF m 85 #[] [(.int (14 : Int32)), (.ref r), (.ref r)]))
  refine Go.by (fun t9_ q9_ => XS.bipush W203.here W203.hx rfl (hb hby dc_method_3_code_85) q9_) ?_
  show Go p e below s Z [("java/lang/String", 7)] _ _ _ (T201.setTop (mkF m 87 #[] [(.int (110 : Int32)), (.int (14 : Int32)), (.ref r), (.ref r)]))
  refine W203.cast_ V205_r ⟨by decide, by decide⟩ (i := 14) rfl (by simp) (v' := (110 : Int32)) rfl z_r (List.mem_of_getElem? (i := 0) rfl) (hb hby dc_method_3_code_87) ?_
  intro T206 h207 W208 Wr209 V210_r'
  have V210_r : Arv Z h207 r k_r .char (17 : Int32) [(.int (67 : Int32)), (.int (111 : Int32)), (.int (117 : Int32)), (.int (110 : Int32)), (.int (116 : Int32)), (.int (101 : Int32)), (.int (114 : Int32)), (.int (97 : Int32)), (.int (103 : Int32)), (.int (101 : Int32)), (.int (110 : Int32)), (.int (116 : Int32)), (.int (115 : Int32)), (.int (79 : Int32)), (.int (110 : Int32)), (.int (0 : Int32)), (.int (0 : Int32))] (.int (0 : Int32)) := V210_r'
  show Go p e below s Z [("java/lang/String", 7)] _ _ _ (T206.setTop (mkF m 88 #[] [(.ref r)]))
  refine Go.by (fun t9_ q9_ => XS.dup W208.here W208.hx rfl (hb hby dc_method_3_code_88) rfl rfl q9_) ?_
  show Go p e below s Z [("java/lang/String", 7)] _ _ _ (T206.setTop (mkF m 89 #[] [(.ref r), (.ref r)]))
  refine Go.by (fun t9_ q9_ => XS.bipush W208.here W208.hx rfl (hb hby dc_method_3_code_89) q9_) ?_
  show Go p e below s Z [("java/lang/String", 7)] _ _ _ (T206.setTop (mkF m 91 #[] [(.int (15 : Int32)), (.ref r), (.ref r)]))
  refine Go.by (fun t9_ q9_ => XS.bipush W208.here W208.hx rfl (hb hby dc_method_3_code_91) q9_) ?_
  show Go p e below s Z [("java/lang/String", 7)] _ _ _ (T206.setTop (mkF m 93 #[] [(.int (108 : Int32)), (.int (15 : Int32)), (.ref r), (.ref r)]))
  refine W208.cast_ V210_r ⟨by decide, by decide⟩ (i := 15) rfl (by simp) (v' := (108 : Int32)) rfl z_r (List.mem_of_getElem? (i := 0) rfl) (hb hby dc_method_3_code_93) ?_
  intro T211 h212 W213 Wr214 V215_r'
  have V215_r : Arv Z h212 r k_r .char (17 : Int32) [(.int (67 : Int32)), (.int (111 : Int32)), (.int (117 : Int32)), (.int (110 : Int32)), (.int (116 : Int32)), (.int (101 : Int32)), (.int (114 : Int32)), (.int (97 : Int32)), (.int (103 : Int32)), (.int (101 : Int32)), (.int (110 : Int32)), (.int (116 : Int32)), (.int (115 : Int32)), (.int (79 : Int32)), (.int (110 : Int32)), (.int (108 : Int32)), (.int (0 : Int32))] (.int (0 : Int32)) := V215_r'
  show Go p e below s Z [("java/lang/String", 7)] _ _ _ (T211.setTop (mkF m 94 #[] [(.ref r)]))
  refine Go.by (fun t9_ q9_ => XS.dup W213.here W213.hx rfl (hb hby dc_method_3_code_94) rfl rfl q9_) ?_
  show Go p e below s Z [("java/lang/String", 7)] _ _ _ (T211.setTop (mkF m 95 #[] [(.ref r), (.ref r)]))
  refine Go.by (fun t9_ q9_ => XS.bipush W213.here W213.hx rfl (hb hby dc_method_3_code_95) q9_) ?_
  show Go p e below s Z [("java/lang/String", 7)] _ _ _ (T211.setTop (mkF m 97 #[] [(.int (16 : Int32)), (.ref r), (.ref r)]))
  refine Go.by (fun t9_ q9_ => XS.bipush W213.here W213.hx rfl (hb hby dc_method_3_code_97) q9_) ?_
  show Go p e below s Z [("java/lang/String", 7)] _ _ _ (T211.setTop (mkF m 99 #[] [(.int (121 : Int32)), (.int (16 : Int32)), (.ref r), (.ref r)]))
  refine W213.cast_ V215_r ⟨by decide, by decide⟩ (i := 16) rfl (by simp) (v' := (121 : Int32)) rfl z_r (List.mem_of_getElem? (i := 0) rfl) (hb hby dc_method_3_code_99) ?_
  intro T216 h217 W218 Wr219 V220_r'
  have V220_r : Arv Z h217 r k_r .char (17 : Int32) [(.int (67 : Int32)), (.int (111 : Int32)), (.int (117 : Int32)), (.int (110 : Int32)), (.int (116 : Int32)), (.int (101 : Int32)), (.int (114 : Int32)), (.int (97 : Int32)), (.int (103 : Int32)), (.int (101 : Int32)), (.int (110 : Int32)), (.int (116 : Int32)), (.int (115 : Int32)), (.int (79 : Int32)), (.int (110 : Int32)), (.int (108 : Int32)), (.int (121 : Int32))] (.int (0 : Int32)) := V220_r'
  show Go p e below s Z [("java/lang/String", 7)] _ _ _ (T216.setTop (mkF m 100 #[] [(.ref r)]))
  have X221 : Ext h0 h137 := (Ext.wr' E135 Wr139 (Nat.le_of_eq g_r))
  have X222 : Ext h0 h142 := (Ext.wr' X221 Wr144 (Nat.le_of_eq g_r))
  have X223 : Ext h0 h147 := (Ext.wr' X222 Wr149 (Nat.le_of_eq g_r))
  have X224 : Ext h0 h152 := (Ext.wr' X223 Wr154 (Nat.le_of_eq g_r))
  have X225 : Ext h0 h157 := (Ext.wr' X224 Wr159 (Nat.le_of_eq g_r))
  have X226 : Ext h0 h162 := (Ext.wr' X225 Wr164 (Nat.le_of_eq g_r))
  have X227 : Ext h0 h167 := (Ext.wr' X226 Wr169 (Nat.le_of_eq g_r))
  have X228 : Ext h0 h172 := (Ext.wr' X227 Wr174 (Nat.le_of_eq g_r))
  have X229 : Ext h0 h177 := (Ext.wr' X228 Wr179 (Nat.le_of_eq g_r))
  have X230 : Ext h0 h182 := (Ext.wr' X229 Wr184 (Nat.le_of_eq g_r))
  have X231 : Ext h0 h187 := (Ext.wr' X230 Wr189 (Nat.le_of_eq g_r))
  have X232 : Ext h0 h192 := (Ext.wr' X231 Wr194 (Nat.le_of_eq g_r))
  have X233 : Ext h0 h197 := (Ext.wr' X232 Wr199 (Nat.le_of_eq g_r))
  have X234 : Ext h0 h202 := (Ext.wr' X233 Wr204 (Nat.le_of_eq g_r))
  have X235 : Ext h0 h207 := (Ext.wr' X234 Wr209 (Nat.le_of_eq g_r))
  have X236 : Ext h0 h212 := (Ext.wr' X235 Wr214 (Nat.le_of_eq g_r))
  have X237 : Ext h0 h217 := (Ext.wr' X236 Wr219 (Nat.le_of_eq g_r))
  exact W218.retA (by decide) (by decide) hret rfl rfl (hb hby dc_method_3_code_100) ⟨r, k_r, rfl, X237, V220_r, (((((((((((((((((A_r.wr Wr139).wr Wr144).wr Wr149).wr Wr154).wr Wr159).wr Wr164).wr Wr169).wr Wr174).wr Wr179).wr Wr184).wr Wr189).wr Wr194).wr Wr199).wr Wr204).wr Wr209).wr Wr214).wr Wr219), z_r⟩
set_option maxRecDepth 65536 in
set_option maxHeartbeats 40000000 in
theorem c_allp (l : Launch) (Z : State) (a0 : Array Value) (hw : ∀ d ∈ tables_1, d.before a0 Z = true) (hEL : EW Z a0 [("java/lang/String", 7)]) (h0 : Heap) (hE0 : Ext Z.heap h0) (t : Int32) (hc : ¬ t < 0 ∧ ¬ (255 : Int32) < t) :
    Con l Z [("java/lang/String", 7)] [] (⟨"com/example/proof_to_token/prooftotoken/config/SociabilityNamedPinLaw", "allOrgsPlus", "(C)[C"⟩ : MethodName) method_4_code 1 (some (.array .char)) [] ({ frames := 0, cells := 1, slots := 17, locals := 0 } : Room) #[(.int t)] h0 (fun v h' => ∃ r kr, v = some (.ref r) ∧ Ext h0 h' ∧ Arv Z h' r kr .char 17 [(.int 65), (.int 108), (.int 108), (.int 79), (.int 114), (.int 103), (.int 97), (.int 110), (.int 105), (.int 122), (.int 97), (.int 116), (.int 105), (.int 111), (.int 110), (.int 115), (.int t)] (.int (0 : Int32)) ∧ Exa Z h' r "[C" ∧ Z.heap.size ≤ r) := by
  refine Con.mk (plainFor_of_name pn_1) hEL hE0 (fun x hx => by cases hx) ?_
  intro p e s m below meth c T0 hby hml hret hnm W0
  rw [(show entryFrame m #[(.int t)] 1 = mkF m 0 #[.val (.int t)] [] from by first | (simp [entryFrame, mkF, argsToLocals, Value.category]; done) | rfl)]
  refine Go.by (fun t9_ q9_ => XS.bipush W0.here W0.hx rfl (hb hby dc_method_4_code_0) q9_) ?_
  show Go p e below s Z [("java/lang/String", 7)] _ _ _ (T0.setTop (mkF m 2 #[.val (.int t)] [(.int (17 : Int32))]))
  refine W0.newp (aty := .char) (wd7 hw) (hb hby dc_method_4_code_2) (by decide) (cap := 17) (by decide) (by decide) (k' := 1) (n' := 17) rfl rfl (by decide) (by decide) (ad := "[C") rfl ?_
  intro T238 h239 r k_r W240 E241 g_r z_r A_r V_r
  have V1_r : Arv Z h239 r k_r .char (17 : Int32) [(.int (0 : Int32)), (.int (0 : Int32)), (.int (0 : Int32)), (.int (0 : Int32)), (.int (0 : Int32)), (.int (0 : Int32)), (.int (0 : Int32)), (.int (0 : Int32)), (.int (0 : Int32)), (.int (0 : Int32)), (.int (0 : Int32)), (.int (0 : Int32)), (.int (0 : Int32)), (.int (0 : Int32)), (.int (0 : Int32)), (.int (0 : Int32)), (.int (0 : Int32))] (.int (0 : Int32)) := V_r.pad (pad_rep [] (.int (0 : Int32)) 17)
  show Go p e below s Z [("java/lang/String", 7)] _ _ _ (T238.setTop (mkF m 4 #[.val (.int t)] [(.ref r)]))
  refine Go.by (fun t9_ q9_ => XS.dup W240.here W240.hx rfl (hb hby dc_method_4_code_4) rfl rfl q9_) ?_
  show Go p e below s Z [("java/lang/String", 7)] _ _ _ (T238.setTop (mkF m 5 #[.val (.int t)] [(.ref r), (.ref r)]))
  refine Go.by (fun t9_ q9_ => XS.iconst W240.here W240.hx rfl (hb hby dc_method_4_code_5) q9_) ?_
  show Go p e below s Z [("java/lang/String", 7)] _ _ _ (T238.setTop (mkF m 6 #[.val (.int t)] [(.int (0 : Int32)), (.ref r), (.ref r)]))
  refine Go.by (fun t9_ q9_ => XS.bipush W240.here W240.hx rfl (hb hby dc_method_4_code_6) q9_) ?_
  show Go p e below s Z [("java/lang/String", 7)] _ _ _ (T238.setTop (mkF m 8 #[.val (.int t)] [(.int (65 : Int32)), (.int (0 : Int32)), (.ref r), (.ref r)]))
  refine W240.cast_ V1_r ⟨by decide, by decide⟩ (i := 0) rfl (by simp) (v' := (65 : Int32)) rfl z_r (List.mem_of_getElem? (i := 0) rfl) (hb hby dc_method_4_code_8) ?_
  intro T242 h243 W244 Wr245 V246_r'
  have V246_r : Arv Z h243 r k_r .char (17 : Int32) [(.int (65 : Int32)), (.int (0 : Int32)), (.int (0 : Int32)), (.int (0 : Int32)), (.int (0 : Int32)), (.int (0 : Int32)), (.int (0 : Int32)), (.int (0 : Int32)), (.int (0 : Int32)), (.int (0 : Int32)), (.int (0 : Int32)), (.int (0 : Int32)), (.int (0 : Int32)), (.int (0 : Int32)), (.int (0 : Int32)), (.int (0 : Int32)), (.int (0 : Int32))] (.int (0 : Int32)) := V246_r'
  show Go p e below s Z [("java/lang/String", 7)] _ _ _ (T242.setTop (mkF m 9 #[.val (.int t)] [(.ref r)]))
  refine Go.by (fun t9_ q9_ => XS.dup W244.here W244.hx rfl (hb hby dc_method_4_code_9) rfl rfl q9_) ?_
  show Go p e below s Z [("java/lang/String", 7)] _ _ _ (T242.setTop (mkF m 10 #[.val (.int t)] [(.ref r), (.ref r)]))
  refine Go.by (fun t9_ q9_ => XS.iconst W244.here W244.hx rfl (hb hby dc_method_4_code_10) q9_) ?_
  show Go p e below s Z [("java/lang/String", 7)] _ _ _ (T242.setTop (mkF m 11 #[.val (.int t)] [(.int (1 : Int32)), (.ref r), (.ref r)]))
  refine Go.by (fun t9_ q9_ => XS.bipush W244.here W244.hx rfl (hb hby dc_method_4_code_11) q9_) ?_
  show Go p e below s Z [("java/lang/String", 7)] _ _ _ (T242.setTop (mkF m 13 #[.val (.int t)] [(.int (108 : Int32)), (.int (1 : Int32)), (.ref r), (.ref r)]))
  refine W244.cast_ V246_r ⟨by decide, by decide⟩ (i := 1) rfl (by simp) (v' := (108 : Int32)) rfl z_r (List.mem_of_getElem? (i := 0) rfl) (hb hby dc_method_4_code_13) ?_
  intro T247 h248 W249 Wr250 V251_r'
  have V251_r : Arv Z h248 r k_r .char (17 : Int32) [(.int (65 : Int32)), (.int (108 : Int32)), (.int (0 : Int32)), (.int (0 : Int32)), (.int (0 : Int32)), (.int (0 : Int32)), (.int (0 : Int32)), (.int (0 : Int32)), (.int (0 : Int32)), (.int (0 : Int32)), (.int (0 : Int32)), (.int (0 : Int32)), (.int (0 : Int32)), (.int (0 : Int32)), (.int (0 : Int32)), (.int (0 : Int32)), (.int (0 : Int32))] (.int (0 : Int32)) := V251_r'
  show Go p e below s Z [("java/lang/String", 7)] _ _ _ (T247.setTop (mkF m 14 #[.val (.int t)] [(.ref r)]))
  refine Go.by (fun t9_ q9_ => XS.dup W249.here W249.hx rfl (hb hby dc_method_4_code_14) rfl rfl q9_) ?_
  show Go p e below s Z [("java/lang/String", 7)] _ _ _ (T247.setTop (mkF m 15 #[.val (.int t)] [(.ref r), (.ref r)]))
  refine Go.by (fun t9_ q9_ => XS.iconst W249.here W249.hx rfl (hb hby dc_method_4_code_15) q9_) ?_
  show Go p e below s Z [("java/lang/String", 7)] _ _ _ (T247.setTop (mkF m 16 #[.val (.int t)] [(.int (2 : Int32)), (.ref r), (.ref r)]))
  refine Go.by (fun t9_ q9_ => XS.bipush W249.here W249.hx rfl (hb hby dc_method_4_code_16) q9_) ?_
  show Go p e below s Z [("java/lang/String", 7)] _ _ _ (T247.setTop (mkF m 18 #[.val (.int t)] [(.int (108 : Int32)), (.int (2 : Int32)), (.ref r), (.ref r)]))
  refine W249.cast_ V251_r ⟨by decide, by decide⟩ (i := 2) rfl (by simp) (v' := (108 : Int32)) rfl z_r (List.mem_of_getElem? (i := 0) rfl) (hb hby dc_method_4_code_18) ?_
  intro T252 h253 W254 Wr255 V256_r'
  have V256_r : Arv Z h253 r k_r .char (17 : Int32) [(.int (65 : Int32)), (.int (108 : Int32)), (.int (108 : Int32)), (.int (0 : Int32)), (.int (0 : Int32)), (.int (0 : Int32)), (.int (0 : Int32)), (.int (0 : Int32)), (.int (0 : Int32)), (.int (0 : Int32)), (.int (0 : Int32)), (.int (0 : Int32)), (.int (0 : Int32)), (.int (0 : Int32)), (.int (0 : Int32)), (.int (0 : Int32)), (.int (0 : Int32))] (.int (0 : Int32)) := V256_r'
  show Go p e below s Z [("java/lang/String", 7)] _ _ _ (T252.setTop (mkF m 19 #[.val (.int t)] [(.ref r)]))
  refine Go.by (fun t9_ q9_ => XS.dup W254.here W254.hx rfl (hb hby dc_method_4_code_19) rfl rfl q9_) ?_
  show Go p e below s Z [("java/lang/String", 7)] _ _ _ (T252.setTop (mkF m 20 #[.val (.int t)] [(.ref r), (.ref r)]))
  refine Go.by (fun t9_ q9_ => XS.iconst W254.here W254.hx rfl (hb hby dc_method_4_code_20) q9_) ?_
  show Go p e below s Z [("java/lang/String", 7)] _ _ _ (T252.setTop (mkF m 21 #[.val (.int t)] [(.int (3 : Int32)), (.ref r), (.ref r)]))
  refine Go.by (fun t9_ q9_ => XS.bipush W254.here W254.hx rfl (hb hby dc_method_4_code_21) q9_) ?_
  show Go p e below s Z [("java/lang/String", 7)] _ _ _ (T252.setTop (mkF m 23 #[.val (.int t)] [(.int (79 : Int32)), (.int (3 : Int32)), (.ref r), (.ref r)]))
  refine W254.cast_ V256_r ⟨by decide, by decide⟩ (i := 3) rfl (by simp) (v' := (79 : Int32)) rfl z_r (List.mem_of_getElem? (i := 0) rfl) (hb hby dc_method_4_code_23) ?_
  intro T257 h258 W259 Wr260 V261_r'
  have V261_r : Arv Z h258 r k_r .char (17 : Int32) [(.int (65 : Int32)), (.int (108 : Int32)), (.int (108 : Int32)), (.int (79 : Int32)), (.int (0 : Int32)), (.int (0 : Int32)), (.int (0 : Int32)), (.int (0 : Int32)), (.int (0 : Int32)), (.int (0 : Int32)), (.int (0 : Int32)), (.int (0 : Int32)), (.int (0 : Int32)), (.int (0 : Int32)), (.int (0 : Int32)), (.int (0 : Int32)), (.int (0 : Int32))] (.int (0 : Int32)) := V261_r'
  show Go p e below s Z [("java/lang/String", 7)] _ _ _ (T257.setTop (mkF m 24 #[.val (.int t)] [(.ref r)]))
  refine Go.by (fun t9_ q9_ => XS.dup W259.here W259.hx rfl (hb hby dc_method_4_code_24) rfl rfl q9_) ?_
  show Go p e below s Z [("java/lang/String", 7)] _ _ _ (T257.setTop (mkF m 25 #[.val (.int t)] [(.ref r), (.ref r)]))
  refine Go.by (fun t9_ q9_ => XS.iconst W259.here W259.hx rfl (hb hby dc_method_4_code_25) q9_) ?_
  show Go p e below s Z [("java/lang/String", 7)] _ _ _ (T257.setTop (mkF m 26 #[.val (.int t)] [(.int (4 : Int32)), (.ref r), (.ref r)]))
  refine Go.by (fun t9_ q9_ => XS.bipush W259.here W259.hx rfl (hb hby dc_method_4_code_26) q9_) ?_
  show Go p e below s Z [("java/lang/String", 7)] _ _ _ (T257.setTop (mkF m 28 #[.val (.int t)] [(.int (114 : Int32)), (.int (4 : Int32)), (.ref r), (.ref r)]))
  refine W259.cast_ V261_r ⟨by decide, by decide⟩ (i := 4) rfl (by simp) (v' := (114 : Int32)) rfl z_r (List.mem_of_getElem? (i := 0) rfl) (hb hby dc_method_4_code_28) ?_
  intro T262 h263 W264 Wr265 V266_r'
  have V266_r : Arv Z h263 r k_r .char (17 : Int32) [(.int (65 : Int32)), (.int (108 : Int32)), (.int (108 : Int32)), (.int (79 : Int32)), (.int (114 : Int32)), (.int (0 : Int32)), (.int (0 : Int32)), (.int (0 : Int32)), (.int (0 : Int32)), (.int (0 : Int32)), (.int (0 : Int32)), (.int (0 : Int32)), (.int (0 : Int32)), (.int (0 : Int32)), (.int (0 : Int32)), (.int (0 : Int32)), (.int (0 : Int32))] (.int (0 : Int32)) := V266_r'
  show Go p e below s Z [("java/lang/String", 7)] _ _ _ (T262.setTop (mkF m 29 #[.val (.int t)] [(.ref r)]))
  refine Go.by (fun t9_ q9_ => XS.dup W264.here W264.hx rfl (hb hby dc_method_4_code_29) rfl rfl q9_) ?_
  show Go p e below s Z [("java/lang/String", 7)] _ _ _ (T262.setTop (mkF m 30 #[.val (.int t)] [(.ref r), (.ref r)]))
  refine Go.by (fun t9_ q9_ => XS.iconst W264.here W264.hx rfl (hb hby dc_method_4_code_30) q9_) ?_
  show Go p e below s Z [("java/lang/String", 7)] _ _ _ (T262.setTop (mkF m 31 #[.val (.int t)] [(.int (5 : Int32)), (.ref r), (.ref r)]))
  refine Go.by (fun t9_ q9_ => XS.bipush W264.here W264.hx rfl (hb hby dc_method_4_code_31) q9_) ?_
  show Go p e below s Z [("java/lang/String", 7)] _ _ _ (T262.setTop (mkF m 33 #[.val (.int t)] [(.int (103 : Int32)), (.int (5 : Int32)), (.ref r), (.ref r)]))
  refine W264.cast_ V266_r ⟨by decide, by decide⟩ (i := 5) rfl (by simp) (v' := (103 : Int32)) rfl z_r (List.mem_of_getElem? (i := 0) rfl) (hb hby dc_method_4_code_33) ?_
  intro T267 h268 W269 Wr270 V271_r'
  have V271_r : Arv Z h268 r k_r .char (17 : Int32) [(.int (65 : Int32)), (.int (108 : Int32)), (.int (108 : Int32)), (.int (79 : Int32)), (.int (114 : Int32)), (.int (103 : Int32)), (.int (0 : Int32)), (.int (0 : Int32)), (.int (0 : Int32)), (.int (0 : Int32)), (.int (0 : Int32)), (.int (0 : Int32)), (.int (0 : Int32)), (.int (0 : Int32)), (.int (0 : Int32)), (.int (0 : Int32)), (.int (0 : Int32))] (.int (0 : Int32)) := V271_r'
  show Go p e below s Z [("java/lang/String", 7)] _ _ _ (T267.setTop (mkF m 34 #[.val (.int t)] [(.ref r)]))
  refine Go.by (fun t9_ q9_ => XS.dup W269.here W269.hx rfl (hb hby dc_method_4_code_34) rfl rfl q9_) ?_
  show Go p e below s Z [("java/lang/String", 7)] _ _ _ (T267.setTop (mkF m 35 #[.val (.int t)] [(.ref r), (.ref r)]))
  refine Go.by (fun t9_ q9_ => XS.bipush W269.here W269.hx rfl (hb hby dc_method_4_code_35) q9_) ?_
  show Go p e below s Z [("java/lang/String", 7)] _ _ _ (T267.setTop (mkF m 37 #[.val (.int t)] [(.int (6 : Int32)), (.ref r), (.ref r)]))
  refine Go.by (fun t9_ q9_ => XS.bipush W269.here W269.hx rfl (hb hby dc_method_4_code_37) q9_) ?_
  show Go p e below s Z [("java/lang/String", 7)] _ _ _ (T267.setTop (mkF m 39 #[.val (.int t)] [(.int (97 : Int32)), (.int (6 : Int32)), (.ref r), (.ref r)]))
  refine W269.cast_ V271_r ⟨by decide, by decide⟩ (i := 6) rfl (by simp) (v' := (97 : Int32)) rfl z_r (List.mem_of_getElem? (i := 0) rfl) (hb hby dc_method_4_code_39) ?_
  intro T272 h273 W274 Wr275 V276_r'
  have V276_r : Arv Z h273 r k_r .char (17 : Int32) [(.int (65 : Int32)), (.int (108 : Int32)), (.int (108 : Int32)), (.int (79 : Int32)), (.int (114 : Int32)), (.int (103 : Int32)), (.int (97 : Int32)), (.int (0 : Int32)), (.int (0 : Int32)), (.int (0 : Int32)), (.int (0 : Int32)), (.int (0 : Int32)), (.int (0 : Int32)), (.int (0 : Int32)), (.int (0 : Int32)), (.int (0 : Int32)), (.int (0 : Int32))] (.int (0 : Int32)) := V276_r'
  show Go p e below s Z [("java/lang/String", 7)] _ _ _ (T272.setTop (mkF m 40 #[.val (.int t)] [(.ref r)]))
  refine Go.by (fun t9_ q9_ => XS.dup W274.here W274.hx rfl (hb hby dc_method_4_code_40) rfl rfl q9_) ?_
  show Go p e below s Z [("java/lang/String", 7)] _ _ _ (T272.setTop (mkF m 41 #[.val (.int t)] [(.ref r), (.ref r)]))
  refine Go.by (fun t9_ q9_ => XS.bipush W274.here W274.hx rfl (hb hby dc_method_4_code_41) q9_) ?_
  show Go p e below s Z [("java/lang/String", 7)] _ _ _ (T272.setTop (mkF m 43 #[.val (.int t)] [(.int (7 : Int32)), (.ref r), (.ref r)]))
  refine Go.by (fun t9_ q9_ => XS.bipush W274.here W274.hx rfl (hb hby dc_method_4_code_43) q9_) ?_
  show Go p e below s Z [("java/lang/String", 7)] _ _ _ (T272.setTop (mkF m 45 #[.val (.int t)] [(.int (110 : Int32)), (.int (7 : Int32)), (.ref r), (.ref r)]))
  refine W274.cast_ V276_r ⟨by decide, by decide⟩ (i := 7) rfl (by simp) (v' := (110 : Int32)) rfl z_r (List.mem_of_getElem? (i := 0) rfl) (hb hby dc_method_4_code_45) ?_
  intro T277 h278 W279 Wr280 V281_r'
  have V281_r : Arv Z h278 r k_r .char (17 : Int32) [(.int (65 : Int32)), (.int (108 : Int32)), (.int (108 : Int32)), (.int (79 : Int32)), (.int (114 : Int32)), (.int (103 : Int32)), (.int (97 : Int32)), (.int (110 : Int32)), (.int (0 : Int32)), (.int (0 : Int32)), (.int (0 : Int32)), (.int (0 : Int32)), (.int (0 : Int32)), (.int (0 : Int32)), (.int (0 : Int32)), (.int (0 : Int32)), (.int (0 : Int32))] (.int (0 : Int32)) := V281_r'
  show Go p e below s Z [("java/lang/String", 7)] _ _ _ (T277.setTop (mkF m 46 #[.val (.int t)] [(.ref r)]))
  refine Go.by (fun t9_ q9_ => XS.dup W279.here W279.hx rfl (hb hby dc_method_4_code_46) rfl rfl q9_) ?_
  show Go p e below s Z [("java/lang/String", 7)] _ _ _ (T277.setTop (mkF m 47 #[.val (.int t)] [(.ref r), (.ref r)]))
  refine Go.by (fun t9_ q9_ => XS.bipush W279.here W279.hx rfl (hb hby dc_method_4_code_47) q9_) ?_
  show Go p e below s Z [("java/lang/String", 7)] _ _ _ (T277.setTop (mkF m 49 #[.val (.int t)] [(.int (8 : Int32)), (.ref r), (.ref r)]))
  refine Go.by (fun t9_ q9_ => XS.bipush W279.here W279.hx rfl (hb hby dc_method_4_code_49) q9_) ?_
  show Go p e below s Z [("java/lang/String", 7)] _ _ _ (T277.setTop (mkF m 51 #[.val (.int t)] [(.int (105 : Int32)), (.int (8 : Int32)), (.ref r), (.ref r)]))
  refine W279.cast_ V281_r ⟨by decide, by decide⟩ (i := 8) rfl (by simp) (v' := (105 : Int32)) rfl z_r (List.mem_of_getElem? (i := 0) rfl) (hb hby dc_method_4_code_51) ?_
  intro T282 h283 W284 Wr285 V286_r'
  have V286_r : Arv Z h283 r k_r .char (17 : Int32) [(.int (65 : Int32)), (.int (108 : Int32)), (.int (108 : Int32)), (.int (79 : Int32)), (.int (114 : Int32)), (.int (103 : Int32)), (.int (97 : Int32)), (.int (110 : Int32)), (.int (105 : Int32)), (.int (0 : Int32)), (.int (0 : Int32)), (.int (0 : Int32)), (.int (0 : Int32)), (.int (0 : Int32)), (.int (0 : Int32)), (.int (0 : Int32)), (.int (0 : Int32))] (.int (0 : Int32)) := V286_r'
  show Go p e below s Z [("java/lang/String", 7)] _ _ _ (T282.setTop (mkF m 52 #[.val (.int t)] [(.ref r)]))
  refine Go.by (fun t9_ q9_ => XS.dup W284.here W284.hx rfl (hb hby dc_method_4_code_52) rfl rfl q9_) ?_
  show Go p e below s Z [("java/lang/String", 7)] _ _ _ (T282.setTop (mkF m 53 #[.val (.int t)] [(.ref r), (.ref r)]))
  refine Go.by (fun t9_ q9_ => XS.bipush W284.here W284.hx rfl (hb hby dc_method_4_code_53) q9_) ?_
  show Go p e below s Z [("java/lang/String", 7)] _ _ _ (T282.setTop (mkF m 55 #[.val (.int t)] [(.int (9 : Int32)), (.ref r), (.ref r)]))
  refine Go.by (fun t9_ q9_ => XS.bipush W284.here W284.hx rfl (hb hby dc_method_4_code_55) q9_) ?_
  show Go p e below s Z [("java/lang/String", 7)] _ _ _ (T282.setTop (mkF m 57 #[.val (.int t)] [(.int (122 : Int32)), (.int (9 : Int32)), (.ref r), (.ref r)]))
  refine W284.cast_ V286_r ⟨by decide, by decide⟩ (i := 9) rfl (by simp) (v' := (122 : Int32)) rfl z_r (List.mem_of_getElem? (i := 0) rfl) (hb hby dc_method_4_code_57) ?_
  intro T287 h288 W289 Wr290 V291_r'
  have V291_r : Arv Z h288 r k_r .char (17 : Int32) [(.int (65 : Int32)), (.int (108 : Int32)), (.int (108 : Int32)), (.int (79 : Int32)), (.int (114 : Int32)), (.int (103 : Int32)), (.int (97 : Int32)), (.int (110 : Int32)), (.int (105 : Int32)), (.int (122 : Int32)), (.int (0 : Int32)), (.int (0 : Int32)), (.int (0 : Int32)), (.int (0 : Int32)), (.int (0 : Int32)), (.int (0 : Int32)), (.int (0 : Int32))] (.int (0 : Int32)) := V291_r'
  show Go p e below s Z [("java/lang/String", 7)] _ _ _ (T287.setTop (mkF m 58 #[.val (.int t)] [(.ref r)]))
  refine Go.by (fun t9_ q9_ => XS.dup W289.here W289.hx rfl (hb hby dc_method_4_code_58) rfl rfl q9_) ?_
  show Go p e below s Z [("java/lang/String", 7)] _ _ _ (T287.setTop (mkF m 59 #[.val (.int t)] [(.ref r), (.ref r)]))
  refine Go.by (fun t9_ q9_ => XS.bipush W289.here W289.hx rfl (hb hby dc_method_4_code_59) q9_) ?_
  show Go p e below s Z [("java/lang/String", 7)] _ _ _ (T287.setTop (mkF m 61 #[.val (.int t)] [(.int (10 : Int32)), (.ref r), (.ref r)]))
  refine Go.by (fun t9_ q9_ => XS.bipush W289.here W289.hx rfl (hb hby dc_method_4_code_61) q9_) ?_
  show Go p e below s Z [("java/lang/String", 7)] _ _ _ (T287.setTop (mkF m 63 #[.val (.int t)] [(.int (97 : Int32)), (.int (10 : Int32)), (.ref r), (.ref r)]))
  refine W289.cast_ V291_r ⟨by decide, by decide⟩ (i := 10) rfl (by simp) (v' := (97 : Int32)) rfl z_r (List.mem_of_getElem? (i := 0) rfl) (hb hby dc_method_4_code_63) ?_
  intro T292 h293 W294 Wr295 V296_r'
  have V296_r : Arv Z h293 r k_r .char (17 : Int32) [(.int (65 : Int32)), (.int (108 : Int32)), (.int (108 : Int32)), (.int (79 : Int32)), (.int (114 : Int32)), (.int (103 : Int32)), (.int (97 : Int32)), (.int (110 : Int32)), (.int (105 : Int32)), (.int (122 : Int32)), (.int (97 : Int32)), (.int (0 : Int32)), (.int (0 : Int32)), (.int (0 : Int32)), (.int (0 : Int32)), (.int (0 : Int32)), (.int (0 : Int32))] (.int (0 : Int32)) := V296_r'
  show Go p e below s Z [("java/lang/String", 7)] _ _ _ (T292.setTop (mkF m 64 #[.val (.int t)] [(.ref r)]))
  refine Go.by (fun t9_ q9_ => XS.dup W294.here W294.hx rfl (hb hby dc_method_4_code_64) rfl rfl q9_) ?_
  show Go p e below s Z [("java/lang/String", 7)] _ _ _ (T292.setTop (mkF m 65 #[.val (.int t)] [(.ref r), (.ref r)]))
  refine Go.by (fun t9_ q9_ => XS.bipush W294.here W294.hx rfl (hb hby dc_method_4_code_65) q9_) ?_
  show Go p e below s Z [("java/lang/String", 7)] _ _ _ (T292.setTop (mkF m 67 #[.val (.int t)] [(.int (11 : Int32)), (.ref r), (.ref r)]))
  refine Go.by (fun t9_ q9_ => XS.bipush W294.here W294.hx rfl (hb hby dc_method_4_code_67) q9_) ?_
  show Go p e below s Z [("java/lang/String", 7)] _ _ _ (T292.setTop (mkF m 69 #[.val (.int t)] [(.int (116 : Int32)), (.int (11 : Int32)), (.ref r), (.ref r)]))
  refine W294.cast_ V296_r ⟨by decide, by decide⟩ (i := 11) rfl (by simp) (v' := (116 : Int32)) rfl z_r (List.mem_of_getElem? (i := 0) rfl) (hb hby dc_method_4_code_69) ?_
  intro T297 h298 W299 Wr300 V301_r'
  have V301_r : Arv Z h298 r k_r .char (17 : Int32) [(.int (65 : Int32)), (.int (108 : Int32)), (.int (108 : Int32)), (.int (79 : Int32)), (.int (114 : Int32)), (.int (103 : Int32)), (.int (97 : Int32)), (.int (110 : Int32)), (.int (105 : Int32)), (.int (122 : Int32)), (.int (97 : Int32)), (.int (116 : Int32)), (.int (0 : Int32)), (.int (0 : Int32)), (.int (0 : Int32)), (.int (0 : Int32)), (.int (0 : Int32))] (.int (0 : Int32)) := V301_r'
  show Go p e below s Z [("java/lang/String", 7)] _ _ _ (T297.setTop (mkF m 70 #[.val (.int t)] [(.ref r)]))
  refine Go.by (fun t9_ q9_ => XS.dup W299.here W299.hx rfl (hb hby dc_method_4_code_70) rfl rfl q9_) ?_
  show Go p e below s Z [("java/lang/String", 7)] _ _ _ (T297.setTop (mkF m 71 #[.val (.int t)] [(.ref r), (.ref r)]))
  refine Go.by (fun t9_ q9_ => XS.bipush W299.here W299.hx rfl (hb hby dc_method_4_code_71) q9_) ?_
  show Go p e below s Z [("java/lang/String", 7)] _ _ _ (T297.setTop (mkF m 73 #[.val (.int t)] [(.int (12 : Int32)), (.ref r), (.ref r)]))
  refine Go.by (fun t9_ q9_ => XS.bipush W299.here W299.hx rfl (hb hby dc_method_4_code_73) q9_) ?_
  show Go p e below s Z [("java/lang/String", 7)] _ _ _ (T297.setTop (mkF m 75 #[.val (.int t)] [(.int (105 : Int32)), (.int (12 : Int32)), (.ref r), (.ref r)]))
  refine W299.cast_ V301_r ⟨by decide, by decide⟩ (i := 12) rfl (by simp) (v' := (105 : Int32)) rfl z_r (List.mem_of_getElem? (i := 0) rfl) (hb hby dc_method_4_code_75) ?_
  intro T302 h303 W304 Wr305 V306_r'
  have V306_r : Arv Z h303 r k_r .char (17 : Int32) [(.int (65 : Int32)), (.int (108 : Int32)), (.int (108 : Int32)), (.int (79 : Int32)), (.int (114 : Int32)), (.int (103 : Int32)), (.int (97 : Int32)), (.int (110 : Int32)), (.int (105 : Int32)), (.int (122 : Int32)), (.int (97 : Int32)), (.int (116 : Int32)), (.int (105 : Int32)), (.int (0 : Int32)), (.int (0 : Int32)), (.int (0 : Int32)), (.int (0 : Int32))] (.int (0 : Int32)) := V306_r'
  show Go p e below s Z [("java/lang/String", 7)] _ _ _ (T302.setTop (mkF m 76 #[.val (.int t)] [(.ref r)]))
  refine Go.by (fun t9_ q9_ => XS.dup W304.here W304.hx rfl (hb hby dc_method_4_code_76) rfl rfl q9_) ?_
  show Go p e below s Z [("java/lang/String", 7)] _ _ _ (T302.setTop (mkF m 77 #[.val (.int t)] [(.ref r), (.ref r)]))
  refine Go.by (fun t9_ q9_ => XS.bipush W304.here W304.hx rfl (hb hby dc_method_4_code_77) q9_) ?_
  show Go p e below s Z [("java/lang/String", 7)] _ _ _ (T302.setTop (mkF m 79 #[.val (.int t)] [(.int (13 : Int32)), (.ref r), (.ref r)]))
  refine Go.by (fun t9_ q9_ => XS.bipush W304.here W304.hx rfl (hb hby dc_method_4_code_79) q9_) ?_
  show Go p e below s Z [("java/lang/String", 7)] _ _ _ (T302.setTop (mkF m 81 #[.val (.int t)] [(.int (111 : Int32)), (.int (13 : Int32)), (.ref r), (.ref r)]))
  refine W304.cast_ V306_r ⟨by decide, by decide⟩ (i := 13) rfl (by simp) (v' := (111 : Int32)) rfl z_r (List.mem_of_getElem? (i := 0) rfl) (hb hby dc_method_4_code_81) ?_
  intro T307 h308 W309 Wr310 V311_r'
  have V311_r : Arv Z h308 r k_r .char (17 : Int32) [(.int (65 : Int32)), (.int (108 : Int32)), (.int (108 : Int32)), (.int (79 : Int32)), (.int (114 : Int32)), (.int (103 : Int32)), (.int (97 : Int32)), (.int (110 : Int32)), (.int (105 : Int32)), (.int (122 : Int32)), (.int (97 : Int32)), (.int (116 : Int32)), (.int (105 : Int32)), (.int (111 : Int32)), (.int (0 : Int32)), (.int (0 : Int32)), (.int (0 : Int32))] (.int (0 : Int32)) := V311_r'
  show Go p e below s Z [("java/lang/String", 7)] _ _ _ (T307.setTop (mkF m 82 #[.val (.int t)] [(.ref r)]))
  refine Go.by (fun t9_ q9_ => XS.dup W309.here W309.hx rfl (hb hby dc_method_4_code_82) rfl rfl q9_) ?_
  show Go p e below s Z [("java/lang/String", 7)] _ _ _ (T307.setTop (mkF m 83 #[.val (.int t)] [(.ref r), (.ref r)]))
  refine Go.by (fun t9_ q9_ => XS.bipush W309.here W309.hx rfl (hb hby dc_method_4_code_83) q9_) ?_
  show Go p e below s Z [("java/lang/String", 7)] _ _ _ (T307.setTop (mkF m 85 #[.val (.int t)] [(.int (14 : Int32)), (.ref r), (.ref r)]))
  refine Go.by (fun t9_ q9_ => XS.bipush W309.here W309.hx rfl (hb hby dc_method_4_code_85) q9_) ?_
  show Go p e below s Z [("java/lang/String", 7)] _ _ _ (T307.setTop (mkF m 87 #[.val (.int t)] [(.int (110 : Int32)), (.int (14 : Int32)), (.ref r), (.ref r)]))
  refine W309.cast_ V311_r ⟨by decide, by decide⟩ (i := 14) rfl (by simp) (v' := (110 : Int32)) rfl z_r (List.mem_of_getElem? (i := 0) rfl) (hb hby dc_method_4_code_87) ?_
  intro T312 h313 W314 Wr315 V316_r'
  have V316_r : Arv Z h313 r k_r .char (17 : Int32) [(.int (65 : Int32)), (.int (108 : Int32)), (.int (108 : Int32)), (.int (79 : Int32)), (.int (114 : Int32)), (.int (103 : Int32)), (.int (97 : Int32)), (.int (110 : Int32)), (.int (105 : Int32)), (.int (122 : Int32)), (.int (97 : Int32)), (.int (116 : Int32)), (.int (105 : Int32)), (.int (111 : Int32)), (.int (110 : Int32)), (.int (0 : Int32)), (.int (0 : Int32))] (.int (0 : Int32)) := V316_r'
  show Go p e below s Z [("java/lang/String", 7)] _ _ _ (T312.setTop (mkF m 88 #[.val (.int t)] [(.ref r)]))
  refine Go.by (fun t9_ q9_ => XS.dup W314.here W314.hx rfl (hb hby dc_method_4_code_88) rfl rfl q9_) ?_
  show Go p e below s Z [("java/lang/String", 7)] _ _ _ (T312.setTop (mkF m 89 #[.val (.int t)] [(.ref r), (.ref r)]))
  refine Go.by (fun t9_ q9_ => XS.bipush W314.here W314.hx rfl (hb hby dc_method_4_code_89) q9_) ?_
  show Go p e below s Z [("java/lang/String", 7)] _ _ _ (T312.setTop (mkF m 91 #[.val (.int t)] [(.int (15 : Int32)), (.ref r), (.ref r)]))
  refine Go.by (fun t9_ q9_ => XS.bipush W314.here W314.hx rfl (hb hby dc_method_4_code_91) q9_) ?_
  show Go p e below s Z [("java/lang/String", 7)] _ _ _ (T312.setTop (mkF m 93 #[.val (.int t)] [(.int (115 : Int32)), (.int (15 : Int32)), (.ref r), (.ref r)]))
  refine W314.cast_ V316_r ⟨by decide, by decide⟩ (i := 15) rfl (by simp) (v' := (115 : Int32)) rfl z_r (List.mem_of_getElem? (i := 0) rfl) (hb hby dc_method_4_code_93) ?_
  intro T317 h318 W319 Wr320 V321_r'
  have V321_r : Arv Z h318 r k_r .char (17 : Int32) [(.int (65 : Int32)), (.int (108 : Int32)), (.int (108 : Int32)), (.int (79 : Int32)), (.int (114 : Int32)), (.int (103 : Int32)), (.int (97 : Int32)), (.int (110 : Int32)), (.int (105 : Int32)), (.int (122 : Int32)), (.int (97 : Int32)), (.int (116 : Int32)), (.int (105 : Int32)), (.int (111 : Int32)), (.int (110 : Int32)), (.int (115 : Int32)), (.int (0 : Int32))] (.int (0 : Int32)) := V321_r'
  show Go p e below s Z [("java/lang/String", 7)] _ _ _ (T317.setTop (mkF m 94 #[.val (.int t)] [(.ref r)]))
  refine Go.by (fun t9_ q9_ => XS.dup W319.here W319.hx rfl (hb hby dc_method_4_code_94) rfl rfl q9_) ?_
  show Go p e below s Z [("java/lang/String", 7)] _ _ _ (T317.setTop (mkF m 95 #[.val (.int t)] [(.ref r), (.ref r)]))
  refine Go.by (fun t9_ q9_ => XS.bipush W319.here W319.hx rfl (hb hby dc_method_4_code_95) q9_) ?_
  show Go p e below s Z [("java/lang/String", 7)] _ _ _ (T317.setTop (mkF m 97 #[.val (.int t)] [(.int (16 : Int32)), (.ref r), (.ref r)]))
  refine Go.by (fun t9_ q9_ => XS.iloadN W319.here W319.hx rfl (hb hby dc_method_4_code_97) rfl q9_) ?_
  show Go p e below s Z [("java/lang/String", 7)] _ _ _ (T317.setTop (mkF m 98 #[.val (.int t)] [(.int t), (.int (16 : Int32)), (.ref r), (.ref r)]))
  refine W319.cast_ V321_r ⟨by decide, by decide⟩ (i := 16) rfl (by simp) (v' := t) (nar_id (up16 hc)) z_r (List.mem_of_getElem? (i := 0) rfl) (hb hby dc_method_4_code_98) ?_
  intro T322 h323 W324 Wr325 V326_r'
  have V326_r : Arv Z h323 r k_r .char (17 : Int32) [(.int (65 : Int32)), (.int (108 : Int32)), (.int (108 : Int32)), (.int (79 : Int32)), (.int (114 : Int32)), (.int (103 : Int32)), (.int (97 : Int32)), (.int (110 : Int32)), (.int (105 : Int32)), (.int (122 : Int32)), (.int (97 : Int32)), (.int (116 : Int32)), (.int (105 : Int32)), (.int (111 : Int32)), (.int (110 : Int32)), (.int (115 : Int32)), (.int t)] (.int (0 : Int32)) := V326_r'
  show Go p e below s Z [("java/lang/String", 7)] _ _ _ (T322.setTop (mkF m 99 #[.val (.int t)] [(.ref r)]))
  have X327 : Ext h0 h243 := (Ext.wr' E241 Wr245 (Nat.le_of_eq g_r))
  have X328 : Ext h0 h248 := (Ext.wr' X327 Wr250 (Nat.le_of_eq g_r))
  have X329 : Ext h0 h253 := (Ext.wr' X328 Wr255 (Nat.le_of_eq g_r))
  have X330 : Ext h0 h258 := (Ext.wr' X329 Wr260 (Nat.le_of_eq g_r))
  have X331 : Ext h0 h263 := (Ext.wr' X330 Wr265 (Nat.le_of_eq g_r))
  have X332 : Ext h0 h268 := (Ext.wr' X331 Wr270 (Nat.le_of_eq g_r))
  have X333 : Ext h0 h273 := (Ext.wr' X332 Wr275 (Nat.le_of_eq g_r))
  have X334 : Ext h0 h278 := (Ext.wr' X333 Wr280 (Nat.le_of_eq g_r))
  have X335 : Ext h0 h283 := (Ext.wr' X334 Wr285 (Nat.le_of_eq g_r))
  have X336 : Ext h0 h288 := (Ext.wr' X335 Wr290 (Nat.le_of_eq g_r))
  have X337 : Ext h0 h293 := (Ext.wr' X336 Wr295 (Nat.le_of_eq g_r))
  have X338 : Ext h0 h298 := (Ext.wr' X337 Wr300 (Nat.le_of_eq g_r))
  have X339 : Ext h0 h303 := (Ext.wr' X338 Wr305 (Nat.le_of_eq g_r))
  have X340 : Ext h0 h308 := (Ext.wr' X339 Wr310 (Nat.le_of_eq g_r))
  have X341 : Ext h0 h313 := (Ext.wr' X340 Wr315 (Nat.le_of_eq g_r))
  have X342 : Ext h0 h318 := (Ext.wr' X341 Wr320 (Nat.le_of_eq g_r))
  have X343 : Ext h0 h323 := (Ext.wr' X342 Wr325 (Nat.le_of_eq g_r))
  exact W324.retA (by decide) (by decide) hret rfl rfl (hb hby dc_method_4_code_99) ⟨r, k_r, rfl, X343, V326_r, (((((((((((((((((A_r.wr Wr245).wr Wr250).wr Wr255).wr Wr260).wr Wr265).wr Wr270).wr Wr275).wr Wr280).wr Wr285).wr Wr290).wr Wr295).wr Wr300).wr Wr305).wr Wr310).wr Wr315).wr Wr320).wr Wr325), z_r⟩
set_option maxRecDepth 65536 in
set_option maxHeartbeats 40000000 in
theorem c_cntp (l : Launch) (Z : State) (a0 : Array Value) (hw : ∀ d ∈ tables_1, d.before a0 Z = true) (hEL : EW Z a0 [("java/lang/String", 7)]) (h0 : Heap) (hE0 : Ext Z.heap h0) (t : Int32) (hc : ¬ t < 0 ∧ ¬ (255 : Int32) < t) :
    Con l Z [("java/lang/String", 7)] [] (⟨"com/example/proof_to_token/prooftotoken/config/SociabilityNamedPinLaw", "cntOnlyPlus", "(C)[C"⟩ : MethodName) method_5_code 1 (some (.array .char)) [] ({ frames := 0, cells := 1, slots := 18, locals := 0 } : Room) #[(.int t)] h0 (fun v h' => ∃ r kr, v = some (.ref r) ∧ Ext h0 h' ∧ Arv Z h' r kr .char 18 [(.int 67), (.int 111), (.int 117), (.int 110), (.int 116), (.int 101), (.int 114), (.int 97), (.int 103), (.int 101), (.int 110), (.int 116), (.int 115), (.int 79), (.int 110), (.int 108), (.int 121), (.int t)] (.int (0 : Int32)) ∧ Exa Z h' r "[C" ∧ Z.heap.size ≤ r) := by
  refine Con.mk (plainFor_of_name pn_1) hEL hE0 (fun x hx => by cases hx) ?_
  intro p e s m below meth c T0 hby hml hret hnm W0
  rw [(show entryFrame m #[(.int t)] 1 = mkF m 0 #[.val (.int t)] [] from by first | (simp [entryFrame, mkF, argsToLocals, Value.category]; done) | rfl)]
  refine Go.by (fun t9_ q9_ => XS.bipush W0.here W0.hx rfl (hb hby dc_method_5_code_0) q9_) ?_
  show Go p e below s Z [("java/lang/String", 7)] _ _ _ (T0.setTop (mkF m 2 #[.val (.int t)] [(.int (18 : Int32))]))
  refine W0.newp (aty := .char) (wd7 hw) (hb hby dc_method_5_code_2) (by decide) (cap := 18) (by decide) (by decide) (k' := 1) (n' := 18) rfl rfl (by decide) (by decide) (ad := "[C") rfl ?_
  intro T344 h345 r k_r W346 E347 g_r z_r A_r V_r
  have V1_r : Arv Z h345 r k_r .char (18 : Int32) [(.int (0 : Int32)), (.int (0 : Int32)), (.int (0 : Int32)), (.int (0 : Int32)), (.int (0 : Int32)), (.int (0 : Int32)), (.int (0 : Int32)), (.int (0 : Int32)), (.int (0 : Int32)), (.int (0 : Int32)), (.int (0 : Int32)), (.int (0 : Int32)), (.int (0 : Int32)), (.int (0 : Int32)), (.int (0 : Int32)), (.int (0 : Int32)), (.int (0 : Int32)), (.int (0 : Int32))] (.int (0 : Int32)) := V_r.pad (pad_rep [] (.int (0 : Int32)) 18)
  show Go p e below s Z [("java/lang/String", 7)] _ _ _ (T344.setTop (mkF m 4 #[.val (.int t)] [(.ref r)]))
  refine Go.by (fun t9_ q9_ => XS.dup W346.here W346.hx rfl (hb hby dc_method_5_code_4) rfl rfl q9_) ?_
  show Go p e below s Z [("java/lang/String", 7)] _ _ _ (T344.setTop (mkF m 5 #[.val (.int t)] [(.ref r), (.ref r)]))
  refine Go.by (fun t9_ q9_ => XS.iconst W346.here W346.hx rfl (hb hby dc_method_5_code_5) q9_) ?_
  show Go p e below s Z [("java/lang/String", 7)] _ _ _ (T344.setTop (mkF m 6 #[.val (.int t)] [(.int (0 : Int32)), (.ref r), (.ref r)]))
  refine Go.by (fun t9_ q9_ => XS.bipush W346.here W346.hx rfl (hb hby dc_method_5_code_6) q9_) ?_
  show Go p e below s Z [("java/lang/String", 7)] _ _ _ (T344.setTop (mkF m 8 #[.val (.int t)] [(.int (67 : Int32)), (.int (0 : Int32)), (.ref r), (.ref r)]))
  refine W346.cast_ V1_r ⟨by decide, by decide⟩ (i := 0) rfl (by simp) (v' := (67 : Int32)) rfl z_r (List.mem_of_getElem? (i := 0) rfl) (hb hby dc_method_5_code_8) ?_
  intro T348 h349 W350 Wr351 V352_r'
  have V352_r : Arv Z h349 r k_r .char (18 : Int32) [(.int (67 : Int32)), (.int (0 : Int32)), (.int (0 : Int32)), (.int (0 : Int32)), (.int (0 : Int32)), (.int (0 : Int32)), (.int (0 : Int32)), (.int (0 : Int32)), (.int (0 : Int32)), (.int (0 : Int32)), (.int (0 : Int32)), (.int (0 : Int32)), (.int (0 : Int32)), (.int (0 : Int32)), (.int (0 : Int32)), (.int (0 : Int32)), (.int (0 : Int32)), (.int (0 : Int32))] (.int (0 : Int32)) := V352_r'
  show Go p e below s Z [("java/lang/String", 7)] _ _ _ (T348.setTop (mkF m 9 #[.val (.int t)] [(.ref r)]))
  refine Go.by (fun t9_ q9_ => XS.dup W350.here W350.hx rfl (hb hby dc_method_5_code_9) rfl rfl q9_) ?_
  show Go p e below s Z [("java/lang/String", 7)] _ _ _ (T348.setTop (mkF m 10 #[.val (.int t)] [(.ref r), (.ref r)]))
  refine Go.by (fun t9_ q9_ => XS.iconst W350.here W350.hx rfl (hb hby dc_method_5_code_10) q9_) ?_
  show Go p e below s Z [("java/lang/String", 7)] _ _ _ (T348.setTop (mkF m 11 #[.val (.int t)] [(.int (1 : Int32)), (.ref r), (.ref r)]))
  refine Go.by (fun t9_ q9_ => XS.bipush W350.here W350.hx rfl (hb hby dc_method_5_code_11) q9_) ?_
  show Go p e below s Z [("java/lang/String", 7)] _ _ _ (T348.setTop (mkF m 13 #[.val (.int t)] [(.int (111 : Int32)), (.int (1 : Int32)), (.ref r), (.ref r)]))
  refine W350.cast_ V352_r ⟨by decide, by decide⟩ (i := 1) rfl (by simp) (v' := (111 : Int32)) rfl z_r (List.mem_of_getElem? (i := 0) rfl) (hb hby dc_method_5_code_13) ?_
  intro T353 h354 W355 Wr356 V357_r'
  have V357_r : Arv Z h354 r k_r .char (18 : Int32) [(.int (67 : Int32)), (.int (111 : Int32)), (.int (0 : Int32)), (.int (0 : Int32)), (.int (0 : Int32)), (.int (0 : Int32)), (.int (0 : Int32)), (.int (0 : Int32)), (.int (0 : Int32)), (.int (0 : Int32)), (.int (0 : Int32)), (.int (0 : Int32)), (.int (0 : Int32)), (.int (0 : Int32)), (.int (0 : Int32)), (.int (0 : Int32)), (.int (0 : Int32)), (.int (0 : Int32))] (.int (0 : Int32)) := V357_r'
  show Go p e below s Z [("java/lang/String", 7)] _ _ _ (T353.setTop (mkF m 14 #[.val (.int t)] [(.ref r)]))
  refine Go.by (fun t9_ q9_ => XS.dup W355.here W355.hx rfl (hb hby dc_method_5_code_14) rfl rfl q9_) ?_
  show Go p e below s Z [("java/lang/String", 7)] _ _ _ (T353.setTop (mkF m 15 #[.val (.int t)] [(.ref r), (.ref r)]))
  refine Go.by (fun t9_ q9_ => XS.iconst W355.here W355.hx rfl (hb hby dc_method_5_code_15) q9_) ?_
  show Go p e below s Z [("java/lang/String", 7)] _ _ _ (T353.setTop (mkF m 16 #[.val (.int t)] [(.int (2 : Int32)), (.ref r), (.ref r)]))
  refine Go.by (fun t9_ q9_ => XS.bipush W355.here W355.hx rfl (hb hby dc_method_5_code_16) q9_) ?_
  show Go p e below s Z [("java/lang/String", 7)] _ _ _ (T353.setTop (mkF m 18 #[.val (.int t)] [(.int (117 : Int32)), (.int (2 : Int32)), (.ref r), (.ref r)]))
  refine W355.cast_ V357_r ⟨by decide, by decide⟩ (i := 2) rfl (by simp) (v' := (117 : Int32)) rfl z_r (List.mem_of_getElem? (i := 0) rfl) (hb hby dc_method_5_code_18) ?_
  intro T358 h359 W360 Wr361 V362_r'
  have V362_r : Arv Z h359 r k_r .char (18 : Int32) [(.int (67 : Int32)), (.int (111 : Int32)), (.int (117 : Int32)), (.int (0 : Int32)), (.int (0 : Int32)), (.int (0 : Int32)), (.int (0 : Int32)), (.int (0 : Int32)), (.int (0 : Int32)), (.int (0 : Int32)), (.int (0 : Int32)), (.int (0 : Int32)), (.int (0 : Int32)), (.int (0 : Int32)), (.int (0 : Int32)), (.int (0 : Int32)), (.int (0 : Int32)), (.int (0 : Int32))] (.int (0 : Int32)) := V362_r'
  show Go p e below s Z [("java/lang/String", 7)] _ _ _ (T358.setTop (mkF m 19 #[.val (.int t)] [(.ref r)]))
  refine Go.by (fun t9_ q9_ => XS.dup W360.here W360.hx rfl (hb hby dc_method_5_code_19) rfl rfl q9_) ?_
  show Go p e below s Z [("java/lang/String", 7)] _ _ _ (T358.setTop (mkF m 20 #[.val (.int t)] [(.ref r), (.ref r)]))
  refine Go.by (fun t9_ q9_ => XS.iconst W360.here W360.hx rfl (hb hby dc_method_5_code_20) q9_) ?_
  show Go p e below s Z [("java/lang/String", 7)] _ _ _ (T358.setTop (mkF m 21 #[.val (.int t)] [(.int (3 : Int32)), (.ref r), (.ref r)]))
  refine Go.by (fun t9_ q9_ => XS.bipush W360.here W360.hx rfl (hb hby dc_method_5_code_21) q9_) ?_
  show Go p e below s Z [("java/lang/String", 7)] _ _ _ (T358.setTop (mkF m 23 #[.val (.int t)] [(.int (110 : Int32)), (.int (3 : Int32)), (.ref r), (.ref r)]))
  refine W360.cast_ V362_r ⟨by decide, by decide⟩ (i := 3) rfl (by simp) (v' := (110 : Int32)) rfl z_r (List.mem_of_getElem? (i := 0) rfl) (hb hby dc_method_5_code_23) ?_
  intro T363 h364 W365 Wr366 V367_r'
  have V367_r : Arv Z h364 r k_r .char (18 : Int32) [(.int (67 : Int32)), (.int (111 : Int32)), (.int (117 : Int32)), (.int (110 : Int32)), (.int (0 : Int32)), (.int (0 : Int32)), (.int (0 : Int32)), (.int (0 : Int32)), (.int (0 : Int32)), (.int (0 : Int32)), (.int (0 : Int32)), (.int (0 : Int32)), (.int (0 : Int32)), (.int (0 : Int32)), (.int (0 : Int32)), (.int (0 : Int32)), (.int (0 : Int32)), (.int (0 : Int32))] (.int (0 : Int32)) := V367_r'
  show Go p e below s Z [("java/lang/String", 7)] _ _ _ (T363.setTop (mkF m 24 #[.val (.int t)] [(.ref r)]))
  refine Go.by (fun t9_ q9_ => XS.dup W365.here W365.hx rfl (hb hby dc_method_5_code_24) rfl rfl q9_) ?_
  show Go p e below s Z [("java/lang/String", 7)] _ _ _ (T363.setTop (mkF m 25 #[.val (.int t)] [(.ref r), (.ref r)]))
  refine Go.by (fun t9_ q9_ => XS.iconst W365.here W365.hx rfl (hb hby dc_method_5_code_25) q9_) ?_
  show Go p e below s Z [("java/lang/String", 7)] _ _ _ (T363.setTop (mkF m 26 #[.val (.int t)] [(.int (4 : Int32)), (.ref r), (.ref r)]))
  refine Go.by (fun t9_ q9_ => XS.bipush W365.here W365.hx rfl (hb hby dc_method_5_code_26) q9_) ?_
  show Go p e below s Z [("java/lang/String", 7)] _ _ _ (T363.setTop (mkF m 28 #[.val (.int t)] [(.int (116 : Int32)), (.int (4 : Int32)), (.ref r), (.ref r)]))
  refine W365.cast_ V367_r ⟨by decide, by decide⟩ (i := 4) rfl (by simp) (v' := (116 : Int32)) rfl z_r (List.mem_of_getElem? (i := 0) rfl) (hb hby dc_method_5_code_28) ?_
  intro T368 h369 W370 Wr371 V372_r'
  have V372_r : Arv Z h369 r k_r .char (18 : Int32) [(.int (67 : Int32)), (.int (111 : Int32)), (.int (117 : Int32)), (.int (110 : Int32)), (.int (116 : Int32)), (.int (0 : Int32)), (.int (0 : Int32)), (.int (0 : Int32)), (.int (0 : Int32)), (.int (0 : Int32)), (.int (0 : Int32)), (.int (0 : Int32)), (.int (0 : Int32)), (.int (0 : Int32)), (.int (0 : Int32)), (.int (0 : Int32)), (.int (0 : Int32)), (.int (0 : Int32))] (.int (0 : Int32)) := V372_r'
  show Go p e below s Z [("java/lang/String", 7)] _ _ _ (T368.setTop (mkF m 29 #[.val (.int t)] [(.ref r)]))
  refine Go.by (fun t9_ q9_ => XS.dup W370.here W370.hx rfl (hb hby dc_method_5_code_29) rfl rfl q9_) ?_
  show Go p e below s Z [("java/lang/String", 7)] _ _ _ (T368.setTop (mkF m 30 #[.val (.int t)] [(.ref r), (.ref r)]))
  refine Go.by (fun t9_ q9_ => XS.iconst W370.here W370.hx rfl (hb hby dc_method_5_code_30) q9_) ?_
  show Go p e below s Z [("java/lang/String", 7)] _ _ _ (T368.setTop (mkF m 31 #[.val (.int t)] [(.int (5 : Int32)), (.ref r), (.ref r)]))
  refine Go.by (fun t9_ q9_ => XS.bipush W370.here W370.hx rfl (hb hby dc_method_5_code_31) q9_) ?_
  show Go p e below s Z [("java/lang/String", 7)] _ _ _ (T368.setTop (mkF m 33 #[.val (.int t)] [(.int (101 : Int32)), (.int (5 : Int32)), (.ref r), (.ref r)]))
  refine W370.cast_ V372_r ⟨by decide, by decide⟩ (i := 5) rfl (by simp) (v' := (101 : Int32)) rfl z_r (List.mem_of_getElem? (i := 0) rfl) (hb hby dc_method_5_code_33) ?_
  intro T373 h374 W375 Wr376 V377_r'
  have V377_r : Arv Z h374 r k_r .char (18 : Int32) [(.int (67 : Int32)), (.int (111 : Int32)), (.int (117 : Int32)), (.int (110 : Int32)), (.int (116 : Int32)), (.int (101 : Int32)), (.int (0 : Int32)), (.int (0 : Int32)), (.int (0 : Int32)), (.int (0 : Int32)), (.int (0 : Int32)), (.int (0 : Int32)), (.int (0 : Int32)), (.int (0 : Int32)), (.int (0 : Int32)), (.int (0 : Int32)), (.int (0 : Int32)), (.int (0 : Int32))] (.int (0 : Int32)) := V377_r'
  show Go p e below s Z [("java/lang/String", 7)] _ _ _ (T373.setTop (mkF m 34 #[.val (.int t)] [(.ref r)]))
  refine Go.by (fun t9_ q9_ => XS.dup W375.here W375.hx rfl (hb hby dc_method_5_code_34) rfl rfl q9_) ?_
  show Go p e below s Z [("java/lang/String", 7)] _ _ _ (T373.setTop (mkF m 35 #[.val (.int t)] [(.ref r), (.ref r)]))
  refine Go.by (fun t9_ q9_ => XS.bipush W375.here W375.hx rfl (hb hby dc_method_5_code_35) q9_) ?_
  show Go p e below s Z [("java/lang/String", 7)] _ _ _ (T373.setTop (mkF m 37 #[.val (.int t)] [(.int (6 : Int32)), (.ref r), (.ref r)]))
  refine Go.by (fun t9_ q9_ => XS.bipush W375.here W375.hx rfl (hb hby dc_method_5_code_37) q9_) ?_
  show Go p e below s Z [("java/lang/String", 7)] _ _ _ (T373.setTop (mkF m 39 #[.val (.int t)] [(.int (114 : Int32)), (.int (6 : Int32)), (.ref r), (.ref r)]))
  refine W375.cast_ V377_r ⟨by decide, by decide⟩ (i := 6) rfl (by simp) (v' := (114 : Int32)) rfl z_r (List.mem_of_getElem? (i := 0) rfl) (hb hby dc_method_5_code_39) ?_
  intro T378 h379 W380 Wr381 V382_r'
  have V382_r : Arv Z h379 r k_r .char (18 : Int32) [(.int (67 : Int32)), (.int (111 : Int32)), (.int (117 : Int32)), (.int (110 : Int32)), (.int (116 : Int32)), (.int (101 : Int32)), (.int (114 : Int32)), (.int (0 : Int32)), (.int (0 : Int32)), (.int (0 : Int32)), (.int (0 : Int32)), (.int (0 : Int32)), (.int (0 : Int32)), (.int (0 : Int32)), (.int (0 : Int32)), (.int (0 : Int32)), (.int (0 : Int32)), (.int (0 : Int32))] (.int (0 : Int32)) := V382_r'
  show Go p e below s Z [("java/lang/String", 7)] _ _ _ (T378.setTop (mkF m 40 #[.val (.int t)] [(.ref r)]))
  refine Go.by (fun t9_ q9_ => XS.dup W380.here W380.hx rfl (hb hby dc_method_5_code_40) rfl rfl q9_) ?_
  show Go p e below s Z [("java/lang/String", 7)] _ _ _ (T378.setTop (mkF m 41 #[.val (.int t)] [(.ref r), (.ref r)]))
  refine Go.by (fun t9_ q9_ => XS.bipush W380.here W380.hx rfl (hb hby dc_method_5_code_41) q9_) ?_
  show Go p e below s Z [("java/lang/String", 7)] _ _ _ (T378.setTop (mkF m 43 #[.val (.int t)] [(.int (7 : Int32)), (.ref r), (.ref r)]))
  refine Go.by (fun t9_ q9_ => XS.bipush W380.here W380.hx rfl (hb hby dc_method_5_code_43) q9_) ?_
  show Go p e below s Z [("java/lang/String", 7)] _ _ _ (T378.setTop (mkF m 45 #[.val (.int t)] [(.int (97 : Int32)), (.int (7 : Int32)), (.ref r), (.ref r)]))
  refine W380.cast_ V382_r ⟨by decide, by decide⟩ (i := 7) rfl (by simp) (v' := (97 : Int32)) rfl z_r (List.mem_of_getElem? (i := 0) rfl) (hb hby dc_method_5_code_45) ?_
  intro T383 h384 W385 Wr386 V387_r'
  have V387_r : Arv Z h384 r k_r .char (18 : Int32) [(.int (67 : Int32)), (.int (111 : Int32)), (.int (117 : Int32)), (.int (110 : Int32)), (.int (116 : Int32)), (.int (101 : Int32)), (.int (114 : Int32)), (.int (97 : Int32)), (.int (0 : Int32)), (.int (0 : Int32)), (.int (0 : Int32)), (.int (0 : Int32)), (.int (0 : Int32)), (.int (0 : Int32)), (.int (0 : Int32)), (.int (0 : Int32)), (.int (0 : Int32)), (.int (0 : Int32))] (.int (0 : Int32)) := V387_r'
  show Go p e below s Z [("java/lang/String", 7)] _ _ _ (T383.setTop (mkF m 46 #[.val (.int t)] [(.ref r)]))
  refine Go.by (fun t9_ q9_ => XS.dup W385.here W385.hx rfl (hb hby dc_method_5_code_46) rfl rfl q9_) ?_
  show Go p e below s Z [("java/lang/String", 7)] _ _ _ (T383.setTop (mkF m 47 #[.val (.int t)] [(.ref r), (.ref r)]))
  refine Go.by (fun t9_ q9_ => XS.bipush W385.here W385.hx rfl (hb hby dc_method_5_code_47) q9_) ?_
  show Go p e below s Z [("java/lang/String", 7)] _ _ _ (T383.setTop (mkF m 49 #[.val (.int t)] [(.int (8 : Int32)), (.ref r), (.ref r)]))
  refine Go.by (fun t9_ q9_ => XS.bipush W385.here W385.hx rfl (hb hby dc_method_5_code_49) q9_) ?_
  show Go p e below s Z [("java/lang/String", 7)] _ _ _ (T383.setTop (mkF m 51 #[.val (.int t)] [(.int (103 : Int32)), (.int (8 : Int32)), (.ref r), (.ref r)]))
  refine W385.cast_ V387_r ⟨by decide, by decide⟩ (i := 8) rfl (by simp) (v' := (103 : Int32)) rfl z_r (List.mem_of_getElem? (i := 0) rfl) (hb hby dc_method_5_code_51) ?_
  intro T388 h389 W390 Wr391 V392_r'
  have V392_r : Arv Z h389 r k_r .char (18 : Int32) [(.int (67 : Int32)), (.int (111 : Int32)), (.int (117 : Int32)), (.int (110 : Int32)), (.int (116 : Int32)), (.int (101 : Int32)), (.int (114 : Int32)), (.int (97 : Int32)), (.int (103 : Int32)), (.int (0 : Int32)), (.int (0 : Int32)), (.int (0 : Int32)), (.int (0 : Int32)), (.int (0 : Int32)), (.int (0 : Int32)), (.int (0 : Int32)), (.int (0 : Int32)), (.int (0 : Int32))] (.int (0 : Int32)) := V392_r'
  show Go p e below s Z [("java/lang/String", 7)] _ _ _ (T388.setTop (mkF m 52 #[.val (.int t)] [(.ref r)]))
  refine Go.by (fun t9_ q9_ => XS.dup W390.here W390.hx rfl (hb hby dc_method_5_code_52) rfl rfl q9_) ?_
  show Go p e below s Z [("java/lang/String", 7)] _ _ _ (T388.setTop (mkF m 53 #[.val (.int t)] [(.ref r), (.ref r)]))
  refine Go.by (fun t9_ q9_ => XS.bipush W390.here W390.hx rfl (hb hby dc_method_5_code_53) q9_) ?_
  show Go p e below s Z [("java/lang/String", 7)] _ _ _ (T388.setTop (mkF m 55 #[.val (.int t)] [(.int (9 : Int32)), (.ref r), (.ref r)]))
  refine Go.by (fun t9_ q9_ => XS.bipush W390.here W390.hx rfl (hb hby dc_method_5_code_55) q9_) ?_
  show Go p e below s Z [("java/lang/String", 7)] _ _ _ (T388.setTop (mkF m 57 #[.val (.int t)] [(.int (101 : Int32)), (.int (9 : Int32)), (.ref r), (.ref r)]))
  refine W390.cast_ V392_r ⟨by decide, by decide⟩ (i := 9) rfl (by simp) (v' := (101 : Int32)) rfl z_r (List.mem_of_getElem? (i := 0) rfl) (hb hby dc_method_5_code_57) ?_
  intro T393 h394 W395 Wr396 V397_r'
  have V397_r : Arv Z h394 r k_r .char (18 : Int32) [(.int (67 : Int32)), (.int (111 : Int32)), (.int (117 : Int32)), (.int (110 : Int32)), (.int (116 : Int32)), (.int (101 : Int32)), (.int (114 : Int32)), (.int (97 : Int32)), (.int (103 : Int32)), (.int (101 : Int32)), (.int (0 : Int32)), (.int (0 : Int32)), (.int (0 : Int32)), (.int (0 : Int32)), (.int (0 : Int32)), (.int (0 : Int32)), (.int (0 : Int32)), (.int (0 : Int32))] (.int (0 : Int32)) := V397_r'
  show Go p e below s Z [("java/lang/String", 7)] _ _ _ (T393.setTop (mkF m 58 #[.val (.int t)] [(.ref r)]))
  refine Go.by (fun t9_ q9_ => XS.dup W395.here W395.hx rfl (hb hby dc_method_5_code_58) rfl rfl q9_) ?_
  show Go p e below s Z [("java/lang/String", 7)] _ _ _ (T393.setTop (mkF m 59 #[.val (.int t)] [(.ref r), (.ref r)]))
  refine Go.by (fun t9_ q9_ => XS.bipush W395.here W395.hx rfl (hb hby dc_method_5_code_59) q9_) ?_
  show Go p e below s Z [("java/lang/String", 7)] _ _ _ (T393.setTop (mkF m 61 #[.val (.int t)] [(.int (10 : Int32)), (.ref r), (.ref r)]))
  refine Go.by (fun t9_ q9_ => XS.bipush W395.here W395.hx rfl (hb hby dc_method_5_code_61) q9_) ?_
  show Go p e below s Z [("java/lang/String", 7)] _ _ _ (T393.setTop (mkF m 63 #[.val (.int t)] [(.int (110 : Int32)), (.int (10 : Int32)), (.ref r), (.ref r)]))
  refine W395.cast_ V397_r ⟨by decide, by decide⟩ (i := 10) rfl (by simp) (v' := (110 : Int32)) rfl z_r (List.mem_of_getElem? (i := 0) rfl) (hb hby dc_method_5_code_63) ?_
  intro T398 h399 W400 Wr401 V402_r'
  have V402_r : Arv Z h399 r k_r .char (18 : Int32) [(.int (67 : Int32)), (.int (111 : Int32)), (.int (117 : Int32)), (.int (110 : Int32)), (.int (116 : Int32)), (.int (101 : Int32)), (.int (114 : Int32)), (.int (97 : Int32)), (.int (103 : Int32)), (.int (101 : Int32)), (.int (110 : Int32)), (.int (0 : Int32)), (.int (0 : Int32)), (.int (0 : Int32)), (.int (0 : Int32)), (.int (0 : Int32)), (.int (0 : Int32)), (.int (0 : Int32))] (.int (0 : Int32)) := V402_r'
  show Go p e below s Z [("java/lang/String", 7)] _ _ _ (T398.setTop (mkF m 64 #[.val (.int t)] [(.ref r)]))
  refine Go.by (fun t9_ q9_ => XS.dup W400.here W400.hx rfl (hb hby dc_method_5_code_64) rfl rfl q9_) ?_
  show Go p e below s Z [("java/lang/String", 7)] _ _ _ (T398.setTop (mkF m 65 #[.val (.int t)] [(.ref r), (.ref r)]))
  refine Go.by (fun t9_ q9_ => XS.bipush W400.here W400.hx rfl (hb hby dc_method_5_code_65) q9_) ?_
  show Go p e below s Z [("java/lang/String", 7)] _ _ _ (T398.setTop (mkF m 67 #[.val (.int t)] [(.int (11 : Int32)), (.ref r), (.ref r)]))
  refine Go.by (fun t9_ q9_ => XS.bipush W400.here W400.hx rfl (hb hby dc_method_5_code_67) q9_) ?_
  show Go p e below s Z [("java/lang/String", 7)] _ _ _ (T398.setTop (mkF m 69 #[.val (.int t)] [(.int (116 : Int32)), (.int (11 : Int32)), (.ref r), (.ref r)]))
  refine W400.cast_ V402_r ⟨by decide, by decide⟩ (i := 11) rfl (by simp) (v' := (116 : Int32)) rfl z_r (List.mem_of_getElem? (i := 0) rfl) (hb hby dc_method_5_code_69) ?_
  intro T403 h404 W405 Wr406 V407_r'
  have V407_r : Arv Z h404 r k_r .char (18 : Int32) [(.int (67 : Int32)), (.int (111 : Int32)), (.int (117 : Int32)), (.int (110 : Int32)), (.int (116 : Int32)), (.int (101 : Int32)), (.int (114 : Int32)), (.int (97 : Int32)), (.int (103 : Int32)), (.int (101 : Int32)), (.int (110 : Int32)), (.int (116 : Int32)), (.int (0 : Int32)), (.int (0 : Int32)), (.int (0 : Int32)), (.int (0 : Int32)), (.int (0 : Int32)), (.int (0 : Int32))] (.int (0 : Int32)) := V407_r'
  show Go p e below s Z [("java/lang/String", 7)] _ _ _ (T403.setTop (mkF m 70 #[.val (.int t)] [(.ref r)]))
  refine Go.by (fun t9_ q9_ => XS.dup W405.here W405.hx rfl (hb hby dc_method_5_code_70) rfl rfl q9_) ?_
  show Go p e below s Z [("java/lang/String", 7)] _ _ _ (T403.setTop (mkF m 71 #[.val (.int t)] [(.ref r), (.ref r)]))
  refine Go.by (fun t9_ q9_ => XS.bipush W405.here W405.hx rfl (hb hby dc_method_5_code_71) q9_) ?_
  show Go p e below s Z [("java/lang/String", 7)] _ _ _ (T403.setTop (mkF m 73 #[.val (.int t)] [(.int (12 : Int32)), (.ref r), (.ref r)]))
  refine Go.by (fun t9_ q9_ => XS.bipush W405.here W405.hx rfl (hb hby dc_method_5_code_73) q9_) ?_
  show Go p e below s Z [("java/lang/String", 7)] _ _ _ (T403.setTop (mkF m 75 #[.val (.int t)] [(.int (115 : Int32)), (.int (12 : Int32)), (.ref r), (.ref r)]))
  refine W405.cast_ V407_r ⟨by decide, by decide⟩ (i := 12) rfl (by simp) (v' := (115 : Int32)) rfl z_r (List.mem_of_getElem? (i := 0) rfl) (hb hby dc_method_5_code_75) ?_
  intro T408 h409 W410 Wr411 V412_r'
  have V412_r : Arv Z h409 r k_r .char (18 : Int32) [(.int (67 : Int32)), (.int (111 : Int32)), (.int (117 : Int32)), (.int (110 : Int32)), (.int (116 : Int32)), (.int (101 : Int32)), (.int (114 : Int32)), (.int (97 : Int32)), (.int (103 : Int32)), (.int (101 : Int32)), (.int (110 : Int32)), (.int (116 : Int32)), (.int (115 : Int32)), (.int (0 : Int32)), (.int (0 : Int32)), (.int (0 : Int32)), (.int (0 : Int32)), (.int (0 : Int32))] (.int (0 : Int32)) := V412_r'
  show Go p e below s Z [("java/lang/String", 7)] _ _ _ (T408.setTop (mkF m 76 #[.val (.int t)] [(.ref r)]))
  refine Go.by (fun t9_ q9_ => XS.dup W410.here W410.hx rfl (hb hby dc_method_5_code_76) rfl rfl q9_) ?_
  show Go p e below s Z [("java/lang/String", 7)] _ _ _ (T408.setTop (mkF m 77 #[.val (.int t)] [(.ref r), (.ref r)]))
  refine Go.by (fun t9_ q9_ => XS.bipush W410.here W410.hx rfl (hb hby dc_method_5_code_77) q9_) ?_
  show Go p e below s Z [("java/lang/String", 7)] _ _ _ (T408.setTop (mkF m 79 #[.val (.int t)] [(.int (13 : Int32)), (.ref r), (.ref r)]))
  refine Go.by (fun t9_ q9_ => XS.bipush W410.here W410.hx rfl (hb hby dc_method_5_code_79) q9_) ?_
  show Go p e below s Z [("java/lang/String", 7)] _ _ _ (T408.setTop (mkF m 81 #[.val (.int t)] [(.int (79 : Int32)), (.int (13 : Int32)), (.ref r), (.ref r)]))
  refine W410.cast_ V412_r ⟨by decide, by decide⟩ (i := 13) rfl (by simp) (v' := (79 : Int32)) rfl z_r (List.mem_of_getElem? (i := 0) rfl) (hb hby dc_method_5_code_81) ?_
  intro T413 h414 W415 Wr416 V417_r'
  have V417_r : Arv Z h414 r k_r .char (18 : Int32) [(.int (67 : Int32)), (.int (111 : Int32)), (.int (117 : Int32)), (.int (110 : Int32)), (.int (116 : Int32)), (.int (101 : Int32)), (.int (114 : Int32)), (.int (97 : Int32)), (.int (103 : Int32)), (.int (101 : Int32)), (.int (110 : Int32)), (.int (116 : Int32)), (.int (115 : Int32)), (.int (79 : Int32)), (.int (0 : Int32)), (.int (0 : Int32)), (.int (0 : Int32)), (.int (0 : Int32))] (.int (0 : Int32)) := V417_r'
  show Go p e below s Z [("java/lang/String", 7)] _ _ _ (T413.setTop (mkF m 82 #[.val (.int t)] [(.ref r)]))
  refine Go.by (fun t9_ q9_ => XS.dup W415.here W415.hx rfl (hb hby dc_method_5_code_82) rfl rfl q9_) ?_
  show Go p e below s Z [("java/lang/String", 7)] _ _ _ (T413.setTop (mkF m 83 #[.val (.int t)] [(.ref r), (.ref r)]))
  refine Go.by (fun t9_ q9_ => XS.bipush W415.here W415.hx rfl (hb hby dc_method_5_code_83) q9_) ?_
  show Go p e below s Z [("java/lang/String", 7)] _ _ _ (T413.setTop (mkF m 85 #[.val (.int t)] [(.int (14 : Int32)), (.ref r), (.ref r)]))
  refine Go.by (fun t9_ q9_ => XS.bipush W415.here W415.hx rfl (hb hby dc_method_5_code_85) q9_) ?_
  show Go p e below s Z [("java/lang/String", 7)] _ _ _ (T413.setTop (mkF m 87 #[.val (.int t)] [(.int (110 : Int32)), (.int (14 : Int32)), (.ref r), (.ref r)]))
  refine W415.cast_ V417_r ⟨by decide, by decide⟩ (i := 14) rfl (by simp) (v' := (110 : Int32)) rfl z_r (List.mem_of_getElem? (i := 0) rfl) (hb hby dc_method_5_code_87) ?_
  intro T418 h419 W420 Wr421 V422_r'
  have V422_r : Arv Z h419 r k_r .char (18 : Int32) [(.int (67 : Int32)), (.int (111 : Int32)), (.int (117 : Int32)), (.int (110 : Int32)), (.int (116 : Int32)), (.int (101 : Int32)), (.int (114 : Int32)), (.int (97 : Int32)), (.int (103 : Int32)), (.int (101 : Int32)), (.int (110 : Int32)), (.int (116 : Int32)), (.int (115 : Int32)), (.int (79 : Int32)), (.int (110 : Int32)), (.int (0 : Int32)), (.int (0 : Int32)), (.int (0 : Int32))] (.int (0 : Int32)) := V422_r'
  show Go p e below s Z [("java/lang/String", 7)] _ _ _ (T418.setTop (mkF m 88 #[.val (.int t)] [(.ref r)]))
  refine Go.by (fun t9_ q9_ => XS.dup W420.here W420.hx rfl (hb hby dc_method_5_code_88) rfl rfl q9_) ?_
  show Go p e below s Z [("java/lang/String", 7)] _ _ _ (T418.setTop (mkF m 89 #[.val (.int t)] [(.ref r), (.ref r)]))
  refine Go.by (fun t9_ q9_ => XS.bipush W420.here W420.hx rfl (hb hby dc_method_5_code_89) q9_) ?_
  show Go p e below s Z [("java/lang/String", 7)] _ _ _ (T418.setTop (mkF m 91 #[.val (.int t)] [(.int (15 : Int32)), (.ref r), (.ref r)]))
  refine Go.by (fun t9_ q9_ => XS.bipush W420.here W420.hx rfl (hb hby dc_method_5_code_91) q9_) ?_
  show Go p e below s Z [("java/lang/String", 7)] _ _ _ (T418.setTop (mkF m 93 #[.val (.int t)] [(.int (108 : Int32)), (.int (15 : Int32)), (.ref r), (.ref r)]))
  refine W420.cast_ V422_r ⟨by decide, by decide⟩ (i := 15) rfl (by simp) (v' := (108 : Int32)) rfl z_r (List.mem_of_getElem? (i := 0) rfl) (hb hby dc_method_5_code_93) ?_
  intro T423 h424 W425 Wr426 V427_r'
  have V427_r : Arv Z h424 r k_r .char (18 : Int32) [(.int (67 : Int32)), (.int (111 : Int32)), (.int (117 : Int32)), (.int (110 : Int32)), (.int (116 : Int32)), (.int (101 : Int32)), (.int (114 : Int32)), (.int (97 : Int32)), (.int (103 : Int32)), (.int (101 : Int32)), (.int (110 : Int32)), (.int (116 : Int32)), (.int (115 : Int32)), (.int (79 : Int32)), (.int (110 : Int32)), (.int (108 : Int32)), (.int (0 : Int32)), (.int (0 : Int32))] (.int (0 : Int32)) := V427_r'
  show Go p e below s Z [("java/lang/String", 7)] _ _ _ (T423.setTop (mkF m 94 #[.val (.int t)] [(.ref r)]))
  refine Go.by (fun t9_ q9_ => XS.dup W425.here W425.hx rfl (hb hby dc_method_5_code_94) rfl rfl q9_) ?_
  show Go p e below s Z [("java/lang/String", 7)] _ _ _ (T423.setTop (mkF m 95 #[.val (.int t)] [(.ref r), (.ref r)]))
  refine Go.by (fun t9_ q9_ => XS.bipush W425.here W425.hx rfl (hb hby dc_method_5_code_95) q9_) ?_
  show Go p e below s Z [("java/lang/String", 7)] _ _ _ (T423.setTop (mkF m 97 #[.val (.int t)] [(.int (16 : Int32)), (.ref r), (.ref r)]))
  refine Go.by (fun t9_ q9_ => XS.bipush W425.here W425.hx rfl (hb hby dc_method_5_code_97) q9_) ?_
  show Go p e below s Z [("java/lang/String", 7)] _ _ _ (T423.setTop (mkF m 99 #[.val (.int t)] [(.int (121 : Int32)), (.int (16 : Int32)), (.ref r), (.ref r)]))
  refine W425.cast_ V427_r ⟨by decide, by decide⟩ (i := 16) rfl (by simp) (v' := (121 : Int32)) rfl z_r (List.mem_of_getElem? (i := 0) rfl) (hb hby dc_method_5_code_99) ?_
  intro T428 h429 W430 Wr431 V432_r'
  have V432_r : Arv Z h429 r k_r .char (18 : Int32) [(.int (67 : Int32)), (.int (111 : Int32)), (.int (117 : Int32)), (.int (110 : Int32)), (.int (116 : Int32)), (.int (101 : Int32)), (.int (114 : Int32)), (.int (97 : Int32)), (.int (103 : Int32)), (.int (101 : Int32)), (.int (110 : Int32)), (.int (116 : Int32)), (.int (115 : Int32)), (.int (79 : Int32)), (.int (110 : Int32)), (.int (108 : Int32)), (.int (121 : Int32)), (.int (0 : Int32))] (.int (0 : Int32)) := V432_r'
  show Go p e below s Z [("java/lang/String", 7)] _ _ _ (T428.setTop (mkF m 100 #[.val (.int t)] [(.ref r)]))
  refine Go.by (fun t9_ q9_ => XS.dup W430.here W430.hx rfl (hb hby dc_method_5_code_100) rfl rfl q9_) ?_
  show Go p e below s Z [("java/lang/String", 7)] _ _ _ (T428.setTop (mkF m 101 #[.val (.int t)] [(.ref r), (.ref r)]))
  refine Go.by (fun t9_ q9_ => XS.bipush W430.here W430.hx rfl (hb hby dc_method_5_code_101) q9_) ?_
  show Go p e below s Z [("java/lang/String", 7)] _ _ _ (T428.setTop (mkF m 103 #[.val (.int t)] [(.int (17 : Int32)), (.ref r), (.ref r)]))
  refine Go.by (fun t9_ q9_ => XS.iloadN W430.here W430.hx rfl (hb hby dc_method_5_code_103) rfl q9_) ?_
  show Go p e below s Z [("java/lang/String", 7)] _ _ _ (T428.setTop (mkF m 104 #[.val (.int t)] [(.int t), (.int (17 : Int32)), (.ref r), (.ref r)]))
  refine W430.cast_ V432_r ⟨by decide, by decide⟩ (i := 17) rfl (by simp) (v' := t) (nar_id (up16 hc)) z_r (List.mem_of_getElem? (i := 0) rfl) (hb hby dc_method_5_code_104) ?_
  intro T433 h434 W435 Wr436 V437_r'
  have V437_r : Arv Z h434 r k_r .char (18 : Int32) [(.int (67 : Int32)), (.int (111 : Int32)), (.int (117 : Int32)), (.int (110 : Int32)), (.int (116 : Int32)), (.int (101 : Int32)), (.int (114 : Int32)), (.int (97 : Int32)), (.int (103 : Int32)), (.int (101 : Int32)), (.int (110 : Int32)), (.int (116 : Int32)), (.int (115 : Int32)), (.int (79 : Int32)), (.int (110 : Int32)), (.int (108 : Int32)), (.int (121 : Int32)), (.int t)] (.int (0 : Int32)) := V437_r'
  show Go p e below s Z [("java/lang/String", 7)] _ _ _ (T433.setTop (mkF m 105 #[.val (.int t)] [(.ref r)]))
  have X438 : Ext h0 h349 := (Ext.wr' E347 Wr351 (Nat.le_of_eq g_r))
  have X439 : Ext h0 h354 := (Ext.wr' X438 Wr356 (Nat.le_of_eq g_r))
  have X440 : Ext h0 h359 := (Ext.wr' X439 Wr361 (Nat.le_of_eq g_r))
  have X441 : Ext h0 h364 := (Ext.wr' X440 Wr366 (Nat.le_of_eq g_r))
  have X442 : Ext h0 h369 := (Ext.wr' X441 Wr371 (Nat.le_of_eq g_r))
  have X443 : Ext h0 h374 := (Ext.wr' X442 Wr376 (Nat.le_of_eq g_r))
  have X444 : Ext h0 h379 := (Ext.wr' X443 Wr381 (Nat.le_of_eq g_r))
  have X445 : Ext h0 h384 := (Ext.wr' X444 Wr386 (Nat.le_of_eq g_r))
  have X446 : Ext h0 h389 := (Ext.wr' X445 Wr391 (Nat.le_of_eq g_r))
  have X447 : Ext h0 h394 := (Ext.wr' X446 Wr396 (Nat.le_of_eq g_r))
  have X448 : Ext h0 h399 := (Ext.wr' X447 Wr401 (Nat.le_of_eq g_r))
  have X449 : Ext h0 h404 := (Ext.wr' X448 Wr406 (Nat.le_of_eq g_r))
  have X450 : Ext h0 h409 := (Ext.wr' X449 Wr411 (Nat.le_of_eq g_r))
  have X451 : Ext h0 h414 := (Ext.wr' X450 Wr416 (Nat.le_of_eq g_r))
  have X452 : Ext h0 h419 := (Ext.wr' X451 Wr421 (Nat.le_of_eq g_r))
  have X453 : Ext h0 h424 := (Ext.wr' X452 Wr426 (Nat.le_of_eq g_r))
  have X454 : Ext h0 h429 := (Ext.wr' X453 Wr431 (Nat.le_of_eq g_r))
  have X455 : Ext h0 h434 := (Ext.wr' X454 Wr436 (Nat.le_of_eq g_r))
  exact W435.retA (by decide) (by decide) hret rfl rfl (hb hby dc_method_5_code_105) ⟨r, k_r, rfl, X455, V437_r, ((((((((((((((((((A_r.wr Wr351).wr Wr356).wr Wr361).wr Wr366).wr Wr371).wr Wr376).wr Wr381).wr Wr386).wr Wr391).wr Wr396).wr Wr401).wr Wr406).wr Wr411).wr Wr416).wr Wr421).wr Wr426).wr Wr431).wr Wr436), z_r⟩
set_option maxRecDepth 65536 in
set_option maxHeartbeats 40000000 in
theorem c_alls (l : Launch) (Z : State) (a0 : Array Value) (hw : ∀ d ∈ tables_1, d.before a0 Z = true) (hEL : EW Z a0 [("java/lang/String", 7)]) (h0 : Heap) (hE0 : Ext Z.heap h0)   :
    Con l Z [("java/lang/String", 7)] [] (⟨"com/example/proof_to_token/prooftotoken/config/SociabilityNamedPinLaw", "allOrgsShort", "()[C"⟩ : MethodName) method_6_code 0 (some (.array .char)) [] ({ frames := 0, cells := 1, slots := 15, locals := 0 } : Room) #[] h0 (fun v h' => ∃ r kr, v = some (.ref r) ∧ Ext h0 h' ∧ Arv Z h' r kr .char 15 [(.int 65), (.int 108), (.int 108), (.int 79), (.int 114), (.int 103), (.int 97), (.int 110), (.int 105), (.int 122), (.int 97), (.int 116), (.int 105), (.int 111), (.int 110)] (.int (0 : Int32)) ∧ Exa Z h' r "[C" ∧ Z.heap.size ≤ r) := by
  refine Con.mk (plainFor_of_name pn_1) hEL hE0 (fun x hx => by cases hx) ?_
  intro p e s m below meth c T0 hby hml hret hnm W0
  rw [(show entryFrame m #[] 0 = mkF m 0 #[] [] from by first | (simp [entryFrame, mkF, argsToLocals, Value.category]; done) | rfl)]
  refine Go.by (fun t9_ q9_ => XS.bipush W0.here W0.hx rfl (hb hby dc_method_6_code_0) q9_) ?_
  show Go p e below s Z [("java/lang/String", 7)] _ _ _ (T0.setTop (mkF m 2 #[] [(.int (15 : Int32))]))
  refine W0.newp (aty := .char) (wd7 hw) (hb hby dc_method_6_code_2) (by decide) (cap := 15) (by decide) (by decide) (k' := 1) (n' := 15) rfl rfl (by decide) (by decide) (ad := "[C") rfl ?_
  intro T456 h457 r k_r W458 E459 g_r z_r A_r V_r
  have V1_r : Arv Z h457 r k_r .char (15 : Int32) [(.int (0 : Int32)), (.int (0 : Int32)), (.int (0 : Int32)), (.int (0 : Int32)), (.int (0 : Int32)), (.int (0 : Int32)), (.int (0 : Int32)), (.int (0 : Int32)), (.int (0 : Int32)), (.int (0 : Int32)), (.int (0 : Int32)), (.int (0 : Int32)), (.int (0 : Int32)), (.int (0 : Int32)), (.int (0 : Int32))] (.int (0 : Int32)) := V_r.pad (pad_rep [] (.int (0 : Int32)) 15)
  show Go p e below s Z [("java/lang/String", 7)] _ _ _ (T456.setTop (mkF m 4 #[] [(.ref r)]))
  refine Go.by (fun t9_ q9_ => XS.dup W458.here W458.hx rfl (hb hby dc_method_6_code_4) rfl rfl q9_) ?_
  show Go p e below s Z [("java/lang/String", 7)] _ _ _ (T456.setTop (mkF m 5 #[] [(.ref r), (.ref r)]))
  refine Go.by (fun t9_ q9_ => XS.iconst W458.here W458.hx rfl (hb hby dc_method_6_code_5) q9_) ?_
  show Go p e below s Z [("java/lang/String", 7)] _ _ _ (T456.setTop (mkF m 6 #[] [(.int (0 : Int32)), (.ref r), (.ref r)]))
  refine Go.by (fun t9_ q9_ => XS.bipush W458.here W458.hx rfl (hb hby dc_method_6_code_6) q9_) ?_
  show Go p e below s Z [("java/lang/String", 7)] _ _ _ (T456.setTop (mkF m 8 #[] [(.int (65 : Int32)), (.int (0 : Int32)), (.ref r), (.ref r)]))
  refine W458.cast_ V1_r ⟨by decide, by decide⟩ (i := 0) rfl (by simp) (v' := (65 : Int32)) rfl z_r (List.mem_of_getElem? (i := 0) rfl) (hb hby dc_method_6_code_8) ?_
  intro T460 h461 W462 Wr463 V464_r'
  have V464_r : Arv Z h461 r k_r .char (15 : Int32) [(.int (65 : Int32)), (.int (0 : Int32)), (.int (0 : Int32)), (.int (0 : Int32)), (.int (0 : Int32)), (.int (0 : Int32)), (.int (0 : Int32)), (.int (0 : Int32)), (.int (0 : Int32)), (.int (0 : Int32)), (.int (0 : Int32)), (.int (0 : Int32)), (.int (0 : Int32)), (.int (0 : Int32)), (.int (0 : Int32))] (.int (0 : Int32)) := V464_r'
  show Go p e below s Z [("java/lang/String", 7)] _ _ _ (T460.setTop (mkF m 9 #[] [(.ref r)]))
  refine Go.by (fun t9_ q9_ => XS.dup W462.here W462.hx rfl (hb hby dc_method_6_code_9) rfl rfl q9_) ?_
  show Go p e below s Z [("java/lang/String", 7)] _ _ _ (T460.setTop (mkF m 10 #[] [(.ref r), (.ref r)]))
  refine Go.by (fun t9_ q9_ => XS.iconst W462.here W462.hx rfl (hb hby dc_method_6_code_10) q9_) ?_
  show Go p e below s Z [("java/lang/String", 7)] _ _ _ (T460.setTop (mkF m 11 #[] [(.int (1 : Int32)), (.ref r), (.ref r)]))
  refine Go.by (fun t9_ q9_ => XS.bipush W462.here W462.hx rfl (hb hby dc_method_6_code_11) q9_) ?_
  show Go p e below s Z [("java/lang/String", 7)] _ _ _ (T460.setTop (mkF m 13 #[] [(.int (108 : Int32)), (.int (1 : Int32)), (.ref r), (.ref r)]))
  refine W462.cast_ V464_r ⟨by decide, by decide⟩ (i := 1) rfl (by simp) (v' := (108 : Int32)) rfl z_r (List.mem_of_getElem? (i := 0) rfl) (hb hby dc_method_6_code_13) ?_
  intro T465 h466 W467 Wr468 V469_r'
  have V469_r : Arv Z h466 r k_r .char (15 : Int32) [(.int (65 : Int32)), (.int (108 : Int32)), (.int (0 : Int32)), (.int (0 : Int32)), (.int (0 : Int32)), (.int (0 : Int32)), (.int (0 : Int32)), (.int (0 : Int32)), (.int (0 : Int32)), (.int (0 : Int32)), (.int (0 : Int32)), (.int (0 : Int32)), (.int (0 : Int32)), (.int (0 : Int32)), (.int (0 : Int32))] (.int (0 : Int32)) := V469_r'
  show Go p e below s Z [("java/lang/String", 7)] _ _ _ (T465.setTop (mkF m 14 #[] [(.ref r)]))
  refine Go.by (fun t9_ q9_ => XS.dup W467.here W467.hx rfl (hb hby dc_method_6_code_14) rfl rfl q9_) ?_
  show Go p e below s Z [("java/lang/String", 7)] _ _ _ (T465.setTop (mkF m 15 #[] [(.ref r), (.ref r)]))
  refine Go.by (fun t9_ q9_ => XS.iconst W467.here W467.hx rfl (hb hby dc_method_6_code_15) q9_) ?_
  show Go p e below s Z [("java/lang/String", 7)] _ _ _ (T465.setTop (mkF m 16 #[] [(.int (2 : Int32)), (.ref r), (.ref r)]))
  refine Go.by (fun t9_ q9_ => XS.bipush W467.here W467.hx rfl (hb hby dc_method_6_code_16) q9_) ?_
  show Go p e below s Z [("java/lang/String", 7)] _ _ _ (T465.setTop (mkF m 18 #[] [(.int (108 : Int32)), (.int (2 : Int32)), (.ref r), (.ref r)]))
  refine W467.cast_ V469_r ⟨by decide, by decide⟩ (i := 2) rfl (by simp) (v' := (108 : Int32)) rfl z_r (List.mem_of_getElem? (i := 0) rfl) (hb hby dc_method_6_code_18) ?_
  intro T470 h471 W472 Wr473 V474_r'
  have V474_r : Arv Z h471 r k_r .char (15 : Int32) [(.int (65 : Int32)), (.int (108 : Int32)), (.int (108 : Int32)), (.int (0 : Int32)), (.int (0 : Int32)), (.int (0 : Int32)), (.int (0 : Int32)), (.int (0 : Int32)), (.int (0 : Int32)), (.int (0 : Int32)), (.int (0 : Int32)), (.int (0 : Int32)), (.int (0 : Int32)), (.int (0 : Int32)), (.int (0 : Int32))] (.int (0 : Int32)) := V474_r'
  show Go p e below s Z [("java/lang/String", 7)] _ _ _ (T470.setTop (mkF m 19 #[] [(.ref r)]))
  refine Go.by (fun t9_ q9_ => XS.dup W472.here W472.hx rfl (hb hby dc_method_6_code_19) rfl rfl q9_) ?_
  show Go p e below s Z [("java/lang/String", 7)] _ _ _ (T470.setTop (mkF m 20 #[] [(.ref r), (.ref r)]))
  refine Go.by (fun t9_ q9_ => XS.iconst W472.here W472.hx rfl (hb hby dc_method_6_code_20) q9_) ?_
  show Go p e below s Z [("java/lang/String", 7)] _ _ _ (T470.setTop (mkF m 21 #[] [(.int (3 : Int32)), (.ref r), (.ref r)]))
  refine Go.by (fun t9_ q9_ => XS.bipush W472.here W472.hx rfl (hb hby dc_method_6_code_21) q9_) ?_
  show Go p e below s Z [("java/lang/String", 7)] _ _ _ (T470.setTop (mkF m 23 #[] [(.int (79 : Int32)), (.int (3 : Int32)), (.ref r), (.ref r)]))
  refine W472.cast_ V474_r ⟨by decide, by decide⟩ (i := 3) rfl (by simp) (v' := (79 : Int32)) rfl z_r (List.mem_of_getElem? (i := 0) rfl) (hb hby dc_method_6_code_23) ?_
  intro T475 h476 W477 Wr478 V479_r'
  have V479_r : Arv Z h476 r k_r .char (15 : Int32) [(.int (65 : Int32)), (.int (108 : Int32)), (.int (108 : Int32)), (.int (79 : Int32)), (.int (0 : Int32)), (.int (0 : Int32)), (.int (0 : Int32)), (.int (0 : Int32)), (.int (0 : Int32)), (.int (0 : Int32)), (.int (0 : Int32)), (.int (0 : Int32)), (.int (0 : Int32)), (.int (0 : Int32)), (.int (0 : Int32))] (.int (0 : Int32)) := V479_r'
  show Go p e below s Z [("java/lang/String", 7)] _ _ _ (T475.setTop (mkF m 24 #[] [(.ref r)]))
  refine Go.by (fun t9_ q9_ => XS.dup W477.here W477.hx rfl (hb hby dc_method_6_code_24) rfl rfl q9_) ?_
  show Go p e below s Z [("java/lang/String", 7)] _ _ _ (T475.setTop (mkF m 25 #[] [(.ref r), (.ref r)]))
  refine Go.by (fun t9_ q9_ => XS.iconst W477.here W477.hx rfl (hb hby dc_method_6_code_25) q9_) ?_
  show Go p e below s Z [("java/lang/String", 7)] _ _ _ (T475.setTop (mkF m 26 #[] [(.int (4 : Int32)), (.ref r), (.ref r)]))
  refine Go.by (fun t9_ q9_ => XS.bipush W477.here W477.hx rfl (hb hby dc_method_6_code_26) q9_) ?_
  show Go p e below s Z [("java/lang/String", 7)] _ _ _ (T475.setTop (mkF m 28 #[] [(.int (114 : Int32)), (.int (4 : Int32)), (.ref r), (.ref r)]))
  refine W477.cast_ V479_r ⟨by decide, by decide⟩ (i := 4) rfl (by simp) (v' := (114 : Int32)) rfl z_r (List.mem_of_getElem? (i := 0) rfl) (hb hby dc_method_6_code_28) ?_
  intro T480 h481 W482 Wr483 V484_r'
  have V484_r : Arv Z h481 r k_r .char (15 : Int32) [(.int (65 : Int32)), (.int (108 : Int32)), (.int (108 : Int32)), (.int (79 : Int32)), (.int (114 : Int32)), (.int (0 : Int32)), (.int (0 : Int32)), (.int (0 : Int32)), (.int (0 : Int32)), (.int (0 : Int32)), (.int (0 : Int32)), (.int (0 : Int32)), (.int (0 : Int32)), (.int (0 : Int32)), (.int (0 : Int32))] (.int (0 : Int32)) := V484_r'
  show Go p e below s Z [("java/lang/String", 7)] _ _ _ (T480.setTop (mkF m 29 #[] [(.ref r)]))
  refine Go.by (fun t9_ q9_ => XS.dup W482.here W482.hx rfl (hb hby dc_method_6_code_29) rfl rfl q9_) ?_
  show Go p e below s Z [("java/lang/String", 7)] _ _ _ (T480.setTop (mkF m 30 #[] [(.ref r), (.ref r)]))
  refine Go.by (fun t9_ q9_ => XS.iconst W482.here W482.hx rfl (hb hby dc_method_6_code_30) q9_) ?_
  show Go p e below s Z [("java/lang/String", 7)] _ _ _ (T480.setTop (mkF m 31 #[] [(.int (5 : Int32)), (.ref r), (.ref r)]))
  refine Go.by (fun t9_ q9_ => XS.bipush W482.here W482.hx rfl (hb hby dc_method_6_code_31) q9_) ?_
  show Go p e below s Z [("java/lang/String", 7)] _ _ _ (T480.setTop (mkF m 33 #[] [(.int (103 : Int32)), (.int (5 : Int32)), (.ref r), (.ref r)]))
  refine W482.cast_ V484_r ⟨by decide, by decide⟩ (i := 5) rfl (by simp) (v' := (103 : Int32)) rfl z_r (List.mem_of_getElem? (i := 0) rfl) (hb hby dc_method_6_code_33) ?_
  intro T485 h486 W487 Wr488 V489_r'
  have V489_r : Arv Z h486 r k_r .char (15 : Int32) [(.int (65 : Int32)), (.int (108 : Int32)), (.int (108 : Int32)), (.int (79 : Int32)), (.int (114 : Int32)), (.int (103 : Int32)), (.int (0 : Int32)), (.int (0 : Int32)), (.int (0 : Int32)), (.int (0 : Int32)), (.int (0 : Int32)), (.int (0 : Int32)), (.int (0 : Int32)), (.int (0 : Int32)), (.int (0 : Int32))] (.int (0 : Int32)) := V489_r'
  show Go p e below s Z [("java/lang/String", 7)] _ _ _ (T485.setTop (mkF m 34 #[] [(.ref r)]))
  refine Go.by (fun t9_ q9_ => XS.dup W487.here W487.hx rfl (hb hby dc_method_6_code_34) rfl rfl q9_) ?_
  show Go p e below s Z [("java/lang/String", 7)] _ _ _ (T485.setTop (mkF m 35 #[] [(.ref r), (.ref r)]))
  refine Go.by (fun t9_ q9_ => XS.bipush W487.here W487.hx rfl (hb hby dc_method_6_code_35) q9_) ?_
  show Go p e below s Z [("java/lang/String", 7)] _ _ _ (T485.setTop (mkF m 37 #[] [(.int (6 : Int32)), (.ref r), (.ref r)]))
  refine Go.by (fun t9_ q9_ => XS.bipush W487.here W487.hx rfl (hb hby dc_method_6_code_37) q9_) ?_
  show Go p e below s Z [("java/lang/String", 7)] _ _ _ (T485.setTop (mkF m 39 #[] [(.int (97 : Int32)), (.int (6 : Int32)), (.ref r), (.ref r)]))
  refine W487.cast_ V489_r ⟨by decide, by decide⟩ (i := 6) rfl (by simp) (v' := (97 : Int32)) rfl z_r (List.mem_of_getElem? (i := 0) rfl) (hb hby dc_method_6_code_39) ?_
  intro T490 h491 W492 Wr493 V494_r'
  have V494_r : Arv Z h491 r k_r .char (15 : Int32) [(.int (65 : Int32)), (.int (108 : Int32)), (.int (108 : Int32)), (.int (79 : Int32)), (.int (114 : Int32)), (.int (103 : Int32)), (.int (97 : Int32)), (.int (0 : Int32)), (.int (0 : Int32)), (.int (0 : Int32)), (.int (0 : Int32)), (.int (0 : Int32)), (.int (0 : Int32)), (.int (0 : Int32)), (.int (0 : Int32))] (.int (0 : Int32)) := V494_r'
  show Go p e below s Z [("java/lang/String", 7)] _ _ _ (T490.setTop (mkF m 40 #[] [(.ref r)]))
  refine Go.by (fun t9_ q9_ => XS.dup W492.here W492.hx rfl (hb hby dc_method_6_code_40) rfl rfl q9_) ?_
  show Go p e below s Z [("java/lang/String", 7)] _ _ _ (T490.setTop (mkF m 41 #[] [(.ref r), (.ref r)]))
  refine Go.by (fun t9_ q9_ => XS.bipush W492.here W492.hx rfl (hb hby dc_method_6_code_41) q9_) ?_
  show Go p e below s Z [("java/lang/String", 7)] _ _ _ (T490.setTop (mkF m 43 #[] [(.int (7 : Int32)), (.ref r), (.ref r)]))
  refine Go.by (fun t9_ q9_ => XS.bipush W492.here W492.hx rfl (hb hby dc_method_6_code_43) q9_) ?_
  show Go p e below s Z [("java/lang/String", 7)] _ _ _ (T490.setTop (mkF m 45 #[] [(.int (110 : Int32)), (.int (7 : Int32)), (.ref r), (.ref r)]))
  refine W492.cast_ V494_r ⟨by decide, by decide⟩ (i := 7) rfl (by simp) (v' := (110 : Int32)) rfl z_r (List.mem_of_getElem? (i := 0) rfl) (hb hby dc_method_6_code_45) ?_
  intro T495 h496 W497 Wr498 V499_r'
  have V499_r : Arv Z h496 r k_r .char (15 : Int32) [(.int (65 : Int32)), (.int (108 : Int32)), (.int (108 : Int32)), (.int (79 : Int32)), (.int (114 : Int32)), (.int (103 : Int32)), (.int (97 : Int32)), (.int (110 : Int32)), (.int (0 : Int32)), (.int (0 : Int32)), (.int (0 : Int32)), (.int (0 : Int32)), (.int (0 : Int32)), (.int (0 : Int32)), (.int (0 : Int32))] (.int (0 : Int32)) := V499_r'
  show Go p e below s Z [("java/lang/String", 7)] _ _ _ (T495.setTop (mkF m 46 #[] [(.ref r)]))
  refine Go.by (fun t9_ q9_ => XS.dup W497.here W497.hx rfl (hb hby dc_method_6_code_46) rfl rfl q9_) ?_
  show Go p e below s Z [("java/lang/String", 7)] _ _ _ (T495.setTop (mkF m 47 #[] [(.ref r), (.ref r)]))
  refine Go.by (fun t9_ q9_ => XS.bipush W497.here W497.hx rfl (hb hby dc_method_6_code_47) q9_) ?_
  show Go p e below s Z [("java/lang/String", 7)] _ _ _ (T495.setTop (mkF m 49 #[] [(.int (8 : Int32)), (.ref r), (.ref r)]))
  refine Go.by (fun t9_ q9_ => XS.bipush W497.here W497.hx rfl (hb hby dc_method_6_code_49) q9_) ?_
  show Go p e below s Z [("java/lang/String", 7)] _ _ _ (T495.setTop (mkF m 51 #[] [(.int (105 : Int32)), (.int (8 : Int32)), (.ref r), (.ref r)]))
  refine W497.cast_ V499_r ⟨by decide, by decide⟩ (i := 8) rfl (by simp) (v' := (105 : Int32)) rfl z_r (List.mem_of_getElem? (i := 0) rfl) (hb hby dc_method_6_code_51) ?_
  intro T500 h501 W502 Wr503 V504_r'
  have V504_r : Arv Z h501 r k_r .char (15 : Int32) [(.int (65 : Int32)), (.int (108 : Int32)), (.int (108 : Int32)), (.int (79 : Int32)), (.int (114 : Int32)), (.int (103 : Int32)), (.int (97 : Int32)), (.int (110 : Int32)), (.int (105 : Int32)), (.int (0 : Int32)), (.int (0 : Int32)), (.int (0 : Int32)), (.int (0 : Int32)), (.int (0 : Int32)), (.int (0 : Int32))] (.int (0 : Int32)) := V504_r'
  show Go p e below s Z [("java/lang/String", 7)] _ _ _ (T500.setTop (mkF m 52 #[] [(.ref r)]))
  refine Go.by (fun t9_ q9_ => XS.dup W502.here W502.hx rfl (hb hby dc_method_6_code_52) rfl rfl q9_) ?_
  show Go p e below s Z [("java/lang/String", 7)] _ _ _ (T500.setTop (mkF m 53 #[] [(.ref r), (.ref r)]))
  refine Go.by (fun t9_ q9_ => XS.bipush W502.here W502.hx rfl (hb hby dc_method_6_code_53) q9_) ?_
  show Go p e below s Z [("java/lang/String", 7)] _ _ _ (T500.setTop (mkF m 55 #[] [(.int (9 : Int32)), (.ref r), (.ref r)]))
  refine Go.by (fun t9_ q9_ => XS.bipush W502.here W502.hx rfl (hb hby dc_method_6_code_55) q9_) ?_
  show Go p e below s Z [("java/lang/String", 7)] _ _ _ (T500.setTop (mkF m 57 #[] [(.int (122 : Int32)), (.int (9 : Int32)), (.ref r), (.ref r)]))
  refine W502.cast_ V504_r ⟨by decide, by decide⟩ (i := 9) rfl (by simp) (v' := (122 : Int32)) rfl z_r (List.mem_of_getElem? (i := 0) rfl) (hb hby dc_method_6_code_57) ?_
  intro T505 h506 W507 Wr508 V509_r'
  have V509_r : Arv Z h506 r k_r .char (15 : Int32) [(.int (65 : Int32)), (.int (108 : Int32)), (.int (108 : Int32)), (.int (79 : Int32)), (.int (114 : Int32)), (.int (103 : Int32)), (.int (97 : Int32)), (.int (110 : Int32)), (.int (105 : Int32)), (.int (122 : Int32)), (.int (0 : Int32)), (.int (0 : Int32)), (.int (0 : Int32)), (.int (0 : Int32)), (.int (0 : Int32))] (.int (0 : Int32)) := V509_r'
  show Go p e below s Z [("java/lang/String", 7)] _ _ _ (T505.setTop (mkF m 58 #[] [(.ref r)]))
  refine Go.by (fun t9_ q9_ => XS.dup W507.here W507.hx rfl (hb hby dc_method_6_code_58) rfl rfl q9_) ?_
  show Go p e below s Z [("java/lang/String", 7)] _ _ _ (T505.setTop (mkF m 59 #[] [(.ref r), (.ref r)]))
  refine Go.by (fun t9_ q9_ => XS.bipush W507.here W507.hx rfl (hb hby dc_method_6_code_59) q9_) ?_
  show Go p e below s Z [("java/lang/String", 7)] _ _ _ (T505.setTop (mkF m 61 #[] [(.int (10 : Int32)), (.ref r), (.ref r)]))
  refine Go.by (fun t9_ q9_ => XS.bipush W507.here W507.hx rfl (hb hby dc_method_6_code_61) q9_) ?_
  show Go p e below s Z [("java/lang/String", 7)] _ _ _ (T505.setTop (mkF m 63 #[] [(.int (97 : Int32)), (.int (10 : Int32)), (.ref r), (.ref r)]))
  refine W507.cast_ V509_r ⟨by decide, by decide⟩ (i := 10) rfl (by simp) (v' := (97 : Int32)) rfl z_r (List.mem_of_getElem? (i := 0) rfl) (hb hby dc_method_6_code_63) ?_
  intro T510 h511 W512 Wr513 V514_r'
  have V514_r : Arv Z h511 r k_r .char (15 : Int32) [(.int (65 : Int32)), (.int (108 : Int32)), (.int (108 : Int32)), (.int (79 : Int32)), (.int (114 : Int32)), (.int (103 : Int32)), (.int (97 : Int32)), (.int (110 : Int32)), (.int (105 : Int32)), (.int (122 : Int32)), (.int (97 : Int32)), (.int (0 : Int32)), (.int (0 : Int32)), (.int (0 : Int32)), (.int (0 : Int32))] (.int (0 : Int32)) := V514_r'
  show Go p e below s Z [("java/lang/String", 7)] _ _ _ (T510.setTop (mkF m 64 #[] [(.ref r)]))
  refine Go.by (fun t9_ q9_ => XS.dup W512.here W512.hx rfl (hb hby dc_method_6_code_64) rfl rfl q9_) ?_
  show Go p e below s Z [("java/lang/String", 7)] _ _ _ (T510.setTop (mkF m 65 #[] [(.ref r), (.ref r)]))
  refine Go.by (fun t9_ q9_ => XS.bipush W512.here W512.hx rfl (hb hby dc_method_6_code_65) q9_) ?_
  show Go p e below s Z [("java/lang/String", 7)] _ _ _ (T510.setTop (mkF m 67 #[] [(.int (11 : Int32)), (.ref r), (.ref r)]))
  refine Go.by (fun t9_ q9_ => XS.bipush W512.here W512.hx rfl (hb hby dc_method_6_code_67) q9_) ?_
  show Go p e below s Z [("java/lang/String", 7)] _ _ _ (T510.setTop (mkF m 69 #[] [(.int (116 : Int32)), (.int (11 : Int32)), (.ref r), (.ref r)]))
  refine W512.cast_ V514_r ⟨by decide, by decide⟩ (i := 11) rfl (by simp) (v' := (116 : Int32)) rfl z_r (List.mem_of_getElem? (i := 0) rfl) (hb hby dc_method_6_code_69) ?_
  intro T515 h516 W517 Wr518 V519_r'
  have V519_r : Arv Z h516 r k_r .char (15 : Int32) [(.int (65 : Int32)), (.int (108 : Int32)), (.int (108 : Int32)), (.int (79 : Int32)), (.int (114 : Int32)), (.int (103 : Int32)), (.int (97 : Int32)), (.int (110 : Int32)), (.int (105 : Int32)), (.int (122 : Int32)), (.int (97 : Int32)), (.int (116 : Int32)), (.int (0 : Int32)), (.int (0 : Int32)), (.int (0 : Int32))] (.int (0 : Int32)) := V519_r'
  show Go p e below s Z [("java/lang/String", 7)] _ _ _ (T515.setTop (mkF m 70 #[] [(.ref r)]))
  refine Go.by (fun t9_ q9_ => XS.dup W517.here W517.hx rfl (hb hby dc_method_6_code_70) rfl rfl q9_) ?_
  show Go p e below s Z [("java/lang/String", 7)] _ _ _ (T515.setTop (mkF m 71 #[] [(.ref r), (.ref r)]))
  refine Go.by (fun t9_ q9_ => XS.bipush W517.here W517.hx rfl (hb hby dc_method_6_code_71) q9_) ?_
  show Go p e below s Z [("java/lang/String", 7)] _ _ _ (T515.setTop (mkF m 73 #[] [(.int (12 : Int32)), (.ref r), (.ref r)]))
  refine Go.by (fun t9_ q9_ => XS.bipush W517.here W517.hx rfl (hb hby dc_method_6_code_73) q9_) ?_
  show Go p e below s Z [("java/lang/String", 7)] _ _ _ (T515.setTop (mkF m 75 #[] [(.int (105 : Int32)), (.int (12 : Int32)), (.ref r), (.ref r)]))
  refine W517.cast_ V519_r ⟨by decide, by decide⟩ (i := 12) rfl (by simp) (v' := (105 : Int32)) rfl z_r (List.mem_of_getElem? (i := 0) rfl) (hb hby dc_method_6_code_75) ?_
  intro T520 h521 W522 Wr523 V524_r'
  have V524_r : Arv Z h521 r k_r .char (15 : Int32) [(.int (65 : Int32)), (.int (108 : Int32)), (.int (108 : Int32)), (.int (79 : Int32)), (.int (114 : Int32)), (.int (103 : Int32)), (.int (97 : Int32)), (.int (110 : Int32)), (.int (105 : Int32)), (.int (122 : Int32)), (.int (97 : Int32)), (.int (116 : Int32)), (.int (105 : Int32)), (.int (0 : Int32)), (.int (0 : Int32))] (.int (0 : Int32)) := V524_r'
  show Go p e below s Z [("java/lang/String", 7)] _ _ _ (T520.setTop (mkF m 76 #[] [(.ref r)]))
  refine Go.by (fun t9_ q9_ => XS.dup W522.here W522.hx rfl (hb hby dc_method_6_code_76) rfl rfl q9_) ?_
  show Go p e below s Z [("java/lang/String", 7)] _ _ _ (T520.setTop (mkF m 77 #[] [(.ref r), (.ref r)]))
  refine Go.by (fun t9_ q9_ => XS.bipush W522.here W522.hx rfl (hb hby dc_method_6_code_77) q9_) ?_
  show Go p e below s Z [("java/lang/String", 7)] _ _ _ (T520.setTop (mkF m 79 #[] [(.int (13 : Int32)), (.ref r), (.ref r)]))
  refine Go.by (fun t9_ q9_ => XS.bipush W522.here W522.hx rfl (hb hby dc_method_6_code_79) q9_) ?_
  show Go p e below s Z [("java/lang/String", 7)] _ _ _ (T520.setTop (mkF m 81 #[] [(.int (111 : Int32)), (.int (13 : Int32)), (.ref r), (.ref r)]))
  refine W522.cast_ V524_r ⟨by decide, by decide⟩ (i := 13) rfl (by simp) (v' := (111 : Int32)) rfl z_r (List.mem_of_getElem? (i := 0) rfl) (hb hby dc_method_6_code_81) ?_
  intro T525 h526 W527 Wr528 V529_r'
  have V529_r : Arv Z h526 r k_r .char (15 : Int32) [(.int (65 : Int32)), (.int (108 : Int32)), (.int (108 : Int32)), (.int (79 : Int32)), (.int (114 : Int32)), (.int (103 : Int32)), (.int (97 : Int32)), (.int (110 : Int32)), (.int (105 : Int32)), (.int (122 : Int32)), (.int (97 : Int32)), (.int (116 : Int32)), (.int (105 : Int32)), (.int (111 : Int32)), (.int (0 : Int32))] (.int (0 : Int32)) := V529_r'
  show Go p e below s Z [("java/lang/String", 7)] _ _ _ (T525.setTop (mkF m 82 #[] [(.ref r)]))
  refine Go.by (fun t9_ q9_ => XS.dup W527.here W527.hx rfl (hb hby dc_method_6_code_82) rfl rfl q9_) ?_
  show Go p e below s Z [("java/lang/String", 7)] _ _ _ (T525.setTop (mkF m 83 #[] [(.ref r), (.ref r)]))
  refine Go.by (fun t9_ q9_ => XS.bipush W527.here W527.hx rfl (hb hby dc_method_6_code_83) q9_) ?_
  show Go p e below s Z [("java/lang/String", 7)] _ _ _ (T525.setTop (mkF m 85 #[] [(.int (14 : Int32)), (.ref r), (.ref r)]))
  refine Go.by (fun t9_ q9_ => XS.bipush W527.here W527.hx rfl (hb hby dc_method_6_code_85) q9_) ?_
  show Go p e below s Z [("java/lang/String", 7)] _ _ _ (T525.setTop (mkF m 87 #[] [(.int (110 : Int32)), (.int (14 : Int32)), (.ref r), (.ref r)]))
  refine W527.cast_ V529_r ⟨by decide, by decide⟩ (i := 14) rfl (by simp) (v' := (110 : Int32)) rfl z_r (List.mem_of_getElem? (i := 0) rfl) (hb hby dc_method_6_code_87) ?_
  intro T530 h531 W532 Wr533 V534_r'
  have V534_r : Arv Z h531 r k_r .char (15 : Int32) [(.int (65 : Int32)), (.int (108 : Int32)), (.int (108 : Int32)), (.int (79 : Int32)), (.int (114 : Int32)), (.int (103 : Int32)), (.int (97 : Int32)), (.int (110 : Int32)), (.int (105 : Int32)), (.int (122 : Int32)), (.int (97 : Int32)), (.int (116 : Int32)), (.int (105 : Int32)), (.int (111 : Int32)), (.int (110 : Int32))] (.int (0 : Int32)) := V534_r'
  show Go p e below s Z [("java/lang/String", 7)] _ _ _ (T530.setTop (mkF m 88 #[] [(.ref r)]))
  have X535 : Ext h0 h461 := (Ext.wr' E459 Wr463 (Nat.le_of_eq g_r))
  have X536 : Ext h0 h466 := (Ext.wr' X535 Wr468 (Nat.le_of_eq g_r))
  have X537 : Ext h0 h471 := (Ext.wr' X536 Wr473 (Nat.le_of_eq g_r))
  have X538 : Ext h0 h476 := (Ext.wr' X537 Wr478 (Nat.le_of_eq g_r))
  have X539 : Ext h0 h481 := (Ext.wr' X538 Wr483 (Nat.le_of_eq g_r))
  have X540 : Ext h0 h486 := (Ext.wr' X539 Wr488 (Nat.le_of_eq g_r))
  have X541 : Ext h0 h491 := (Ext.wr' X540 Wr493 (Nat.le_of_eq g_r))
  have X542 : Ext h0 h496 := (Ext.wr' X541 Wr498 (Nat.le_of_eq g_r))
  have X543 : Ext h0 h501 := (Ext.wr' X542 Wr503 (Nat.le_of_eq g_r))
  have X544 : Ext h0 h506 := (Ext.wr' X543 Wr508 (Nat.le_of_eq g_r))
  have X545 : Ext h0 h511 := (Ext.wr' X544 Wr513 (Nat.le_of_eq g_r))
  have X546 : Ext h0 h516 := (Ext.wr' X545 Wr518 (Nat.le_of_eq g_r))
  have X547 : Ext h0 h521 := (Ext.wr' X546 Wr523 (Nat.le_of_eq g_r))
  have X548 : Ext h0 h526 := (Ext.wr' X547 Wr528 (Nat.le_of_eq g_r))
  have X549 : Ext h0 h531 := (Ext.wr' X548 Wr533 (Nat.le_of_eq g_r))
  exact W532.retA (by decide) (by decide) hret rfl rfl (hb hby dc_method_6_code_88) ⟨r, k_r, rfl, X549, V534_r, (((((((((((((((A_r.wr Wr463).wr Wr468).wr Wr473).wr Wr478).wr Wr483).wr Wr488).wr Wr493).wr Wr498).wr Wr503).wr Wr508).wr Wr513).wr Wr518).wr Wr523).wr Wr528).wr Wr533), z_r⟩
set_option maxRecDepth 65536 in
set_option maxHeartbeats 40000000 in
theorem c_cnts (l : Launch) (Z : State) (a0 : Array Value) (hw : ∀ d ∈ tables_1, d.before a0 Z = true) (hEL : EW Z a0 [("java/lang/String", 7)]) (h0 : Heap) (hE0 : Ext Z.heap h0)   :
    Con l Z [("java/lang/String", 7)] [] (⟨"com/example/proof_to_token/prooftotoken/config/SociabilityNamedPinLaw", "cntOnlyShort", "()[C"⟩ : MethodName) method_7_code 0 (some (.array .char)) [] ({ frames := 0, cells := 1, slots := 16, locals := 0 } : Room) #[] h0 (fun v h' => ∃ r kr, v = some (.ref r) ∧ Ext h0 h' ∧ Arv Z h' r kr .char 16 [(.int 67), (.int 111), (.int 117), (.int 110), (.int 116), (.int 101), (.int 114), (.int 97), (.int 103), (.int 101), (.int 110), (.int 116), (.int 115), (.int 79), (.int 110), (.int 108)] (.int (0 : Int32)) ∧ Exa Z h' r "[C" ∧ Z.heap.size ≤ r) := by
  refine Con.mk (plainFor_of_name pn_1) hEL hE0 (fun x hx => by cases hx) ?_
  intro p e s m below meth c T0 hby hml hret hnm W0
  rw [(show entryFrame m #[] 0 = mkF m 0 #[] [] from by first | (simp [entryFrame, mkF, argsToLocals, Value.category]; done) | rfl)]
  refine Go.by (fun t9_ q9_ => XS.bipush W0.here W0.hx rfl (hb hby dc_method_7_code_0) q9_) ?_
  show Go p e below s Z [("java/lang/String", 7)] _ _ _ (T0.setTop (mkF m 2 #[] [(.int (16 : Int32))]))
  refine W0.newp (aty := .char) (wd7 hw) (hb hby dc_method_7_code_2) (by decide) (cap := 16) (by decide) (by decide) (k' := 1) (n' := 16) rfl rfl (by decide) (by decide) (ad := "[C") rfl ?_
  intro T550 h551 r k_r W552 E553 g_r z_r A_r V_r
  have V1_r : Arv Z h551 r k_r .char (16 : Int32) [(.int (0 : Int32)), (.int (0 : Int32)), (.int (0 : Int32)), (.int (0 : Int32)), (.int (0 : Int32)), (.int (0 : Int32)), (.int (0 : Int32)), (.int (0 : Int32)), (.int (0 : Int32)), (.int (0 : Int32)), (.int (0 : Int32)), (.int (0 : Int32)), (.int (0 : Int32)), (.int (0 : Int32)), (.int (0 : Int32)), (.int (0 : Int32))] (.int (0 : Int32)) := V_r.pad (pad_rep [] (.int (0 : Int32)) 16)
  show Go p e below s Z [("java/lang/String", 7)] _ _ _ (T550.setTop (mkF m 4 #[] [(.ref r)]))
  refine Go.by (fun t9_ q9_ => XS.dup W552.here W552.hx rfl (hb hby dc_method_7_code_4) rfl rfl q9_) ?_
  show Go p e below s Z [("java/lang/String", 7)] _ _ _ (T550.setTop (mkF m 5 #[] [(.ref r), (.ref r)]))
  refine Go.by (fun t9_ q9_ => XS.iconst W552.here W552.hx rfl (hb hby dc_method_7_code_5) q9_) ?_
  show Go p e below s Z [("java/lang/String", 7)] _ _ _ (T550.setTop (mkF m 6 #[] [(.int (0 : Int32)), (.ref r), (.ref r)]))
  refine Go.by (fun t9_ q9_ => XS.bipush W552.here W552.hx rfl (hb hby dc_method_7_code_6) q9_) ?_
  show Go p e below s Z [("java/lang/String", 7)] _ _ _ (T550.setTop (mkF m 8 #[] [(.int (67 : Int32)), (.int (0 : Int32)), (.ref r), (.ref r)]))
  refine W552.cast_ V1_r ⟨by decide, by decide⟩ (i := 0) rfl (by simp) (v' := (67 : Int32)) rfl z_r (List.mem_of_getElem? (i := 0) rfl) (hb hby dc_method_7_code_8) ?_
  intro T554 h555 W556 Wr557 V558_r'
  have V558_r : Arv Z h555 r k_r .char (16 : Int32) [(.int (67 : Int32)), (.int (0 : Int32)), (.int (0 : Int32)), (.int (0 : Int32)), (.int (0 : Int32)), (.int (0 : Int32)), (.int (0 : Int32)), (.int (0 : Int32)), (.int (0 : Int32)), (.int (0 : Int32)), (.int (0 : Int32)), (.int (0 : Int32)), (.int (0 : Int32)), (.int (0 : Int32)), (.int (0 : Int32)), (.int (0 : Int32))] (.int (0 : Int32)) := V558_r'
  show Go p e below s Z [("java/lang/String", 7)] _ _ _ (T554.setTop (mkF m 9 #[] [(.ref r)]))
  refine Go.by (fun t9_ q9_ => XS.dup W556.here W556.hx rfl (hb hby dc_method_7_code_9) rfl rfl q9_) ?_
  show Go p e below s Z [("java/lang/String", 7)] _ _ _ (T554.setTop (mkF m 10 #[] [(.ref r), (.ref r)]))
  refine Go.by (fun t9_ q9_ => XS.iconst W556.here W556.hx rfl (hb hby dc_method_7_code_10) q9_) ?_
  show Go p e below s Z [("java/lang/String", 7)] _ _ _ (T554.setTop (mkF m 11 #[] [(.int (1 : Int32)), (.ref r), (.ref r)]))
  refine Go.by (fun t9_ q9_ => XS.bipush W556.here W556.hx rfl (hb hby dc_method_7_code_11) q9_) ?_
  show Go p e below s Z [("java/lang/String", 7)] _ _ _ (T554.setTop (mkF m 13 #[] [(.int (111 : Int32)), (.int (1 : Int32)), (.ref r), (.ref r)]))
  refine W556.cast_ V558_r ⟨by decide, by decide⟩ (i := 1) rfl (by simp) (v' := (111 : Int32)) rfl z_r (List.mem_of_getElem? (i := 0) rfl) (hb hby dc_method_7_code_13) ?_
  intro T559 h560 W561 Wr562 V563_r'
  have V563_r : Arv Z h560 r k_r .char (16 : Int32) [(.int (67 : Int32)), (.int (111 : Int32)), (.int (0 : Int32)), (.int (0 : Int32)), (.int (0 : Int32)), (.int (0 : Int32)), (.int (0 : Int32)), (.int (0 : Int32)), (.int (0 : Int32)), (.int (0 : Int32)), (.int (0 : Int32)), (.int (0 : Int32)), (.int (0 : Int32)), (.int (0 : Int32)), (.int (0 : Int32)), (.int (0 : Int32))] (.int (0 : Int32)) := V563_r'
  show Go p e below s Z [("java/lang/String", 7)] _ _ _ (T559.setTop (mkF m 14 #[] [(.ref r)]))
  refine Go.by (fun t9_ q9_ => XS.dup W561.here W561.hx rfl (hb hby dc_method_7_code_14) rfl rfl q9_) ?_
  show Go p e below s Z [("java/lang/String", 7)] _ _ _ (T559.setTop (mkF m 15 #[] [(.ref r), (.ref r)]))
  refine Go.by (fun t9_ q9_ => XS.iconst W561.here W561.hx rfl (hb hby dc_method_7_code_15) q9_) ?_
  show Go p e below s Z [("java/lang/String", 7)] _ _ _ (T559.setTop (mkF m 16 #[] [(.int (2 : Int32)), (.ref r), (.ref r)]))
  refine Go.by (fun t9_ q9_ => XS.bipush W561.here W561.hx rfl (hb hby dc_method_7_code_16) q9_) ?_
  show Go p e below s Z [("java/lang/String", 7)] _ _ _ (T559.setTop (mkF m 18 #[] [(.int (117 : Int32)), (.int (2 : Int32)), (.ref r), (.ref r)]))
  refine W561.cast_ V563_r ⟨by decide, by decide⟩ (i := 2) rfl (by simp) (v' := (117 : Int32)) rfl z_r (List.mem_of_getElem? (i := 0) rfl) (hb hby dc_method_7_code_18) ?_
  intro T564 h565 W566 Wr567 V568_r'
  have V568_r : Arv Z h565 r k_r .char (16 : Int32) [(.int (67 : Int32)), (.int (111 : Int32)), (.int (117 : Int32)), (.int (0 : Int32)), (.int (0 : Int32)), (.int (0 : Int32)), (.int (0 : Int32)), (.int (0 : Int32)), (.int (0 : Int32)), (.int (0 : Int32)), (.int (0 : Int32)), (.int (0 : Int32)), (.int (0 : Int32)), (.int (0 : Int32)), (.int (0 : Int32)), (.int (0 : Int32))] (.int (0 : Int32)) := V568_r'
  show Go p e below s Z [("java/lang/String", 7)] _ _ _ (T564.setTop (mkF m 19 #[] [(.ref r)]))
  refine Go.by (fun t9_ q9_ => XS.dup W566.here W566.hx rfl (hb hby dc_method_7_code_19) rfl rfl q9_) ?_
  show Go p e below s Z [("java/lang/String", 7)] _ _ _ (T564.setTop (mkF m 20 #[] [(.ref r), (.ref r)]))
  refine Go.by (fun t9_ q9_ => XS.iconst W566.here W566.hx rfl (hb hby dc_method_7_code_20) q9_) ?_
  show Go p e below s Z [("java/lang/String", 7)] _ _ _ (T564.setTop (mkF m 21 #[] [(.int (3 : Int32)), (.ref r), (.ref r)]))
  refine Go.by (fun t9_ q9_ => XS.bipush W566.here W566.hx rfl (hb hby dc_method_7_code_21) q9_) ?_
  show Go p e below s Z [("java/lang/String", 7)] _ _ _ (T564.setTop (mkF m 23 #[] [(.int (110 : Int32)), (.int (3 : Int32)), (.ref r), (.ref r)]))
  refine W566.cast_ V568_r ⟨by decide, by decide⟩ (i := 3) rfl (by simp) (v' := (110 : Int32)) rfl z_r (List.mem_of_getElem? (i := 0) rfl) (hb hby dc_method_7_code_23) ?_
  intro T569 h570 W571 Wr572 V573_r'
  have V573_r : Arv Z h570 r k_r .char (16 : Int32) [(.int (67 : Int32)), (.int (111 : Int32)), (.int (117 : Int32)), (.int (110 : Int32)), (.int (0 : Int32)), (.int (0 : Int32)), (.int (0 : Int32)), (.int (0 : Int32)), (.int (0 : Int32)), (.int (0 : Int32)), (.int (0 : Int32)), (.int (0 : Int32)), (.int (0 : Int32)), (.int (0 : Int32)), (.int (0 : Int32)), (.int (0 : Int32))] (.int (0 : Int32)) := V573_r'
  show Go p e below s Z [("java/lang/String", 7)] _ _ _ (T569.setTop (mkF m 24 #[] [(.ref r)]))
  refine Go.by (fun t9_ q9_ => XS.dup W571.here W571.hx rfl (hb hby dc_method_7_code_24) rfl rfl q9_) ?_
  show Go p e below s Z [("java/lang/String", 7)] _ _ _ (T569.setTop (mkF m 25 #[] [(.ref r), (.ref r)]))
  refine Go.by (fun t9_ q9_ => XS.iconst W571.here W571.hx rfl (hb hby dc_method_7_code_25) q9_) ?_
  show Go p e below s Z [("java/lang/String", 7)] _ _ _ (T569.setTop (mkF m 26 #[] [(.int (4 : Int32)), (.ref r), (.ref r)]))
  refine Go.by (fun t9_ q9_ => XS.bipush W571.here W571.hx rfl (hb hby dc_method_7_code_26) q9_) ?_
  show Go p e below s Z [("java/lang/String", 7)] _ _ _ (T569.setTop (mkF m 28 #[] [(.int (116 : Int32)), (.int (4 : Int32)), (.ref r), (.ref r)]))
  refine W571.cast_ V573_r ⟨by decide, by decide⟩ (i := 4) rfl (by simp) (v' := (116 : Int32)) rfl z_r (List.mem_of_getElem? (i := 0) rfl) (hb hby dc_method_7_code_28) ?_
  intro T574 h575 W576 Wr577 V578_r'
  have V578_r : Arv Z h575 r k_r .char (16 : Int32) [(.int (67 : Int32)), (.int (111 : Int32)), (.int (117 : Int32)), (.int (110 : Int32)), (.int (116 : Int32)), (.int (0 : Int32)), (.int (0 : Int32)), (.int (0 : Int32)), (.int (0 : Int32)), (.int (0 : Int32)), (.int (0 : Int32)), (.int (0 : Int32)), (.int (0 : Int32)), (.int (0 : Int32)), (.int (0 : Int32)), (.int (0 : Int32))] (.int (0 : Int32)) := V578_r'
  show Go p e below s Z [("java/lang/String", 7)] _ _ _ (T574.setTop (mkF m 29 #[] [(.ref r)]))
  refine Go.by (fun t9_ q9_ => XS.dup W576.here W576.hx rfl (hb hby dc_method_7_code_29) rfl rfl q9_) ?_
  show Go p e below s Z [("java/lang/String", 7)] _ _ _ (T574.setTop (mkF m 30 #[] [(.ref r), (.ref r)]))
  refine Go.by (fun t9_ q9_ => XS.iconst W576.here W576.hx rfl (hb hby dc_method_7_code_30) q9_) ?_
  show Go p e below s Z [("java/lang/String", 7)] _ _ _ (T574.setTop (mkF m 31 #[] [(.int (5 : Int32)), (.ref r), (.ref r)]))
  refine Go.by (fun t9_ q9_ => XS.bipush W576.here W576.hx rfl (hb hby dc_method_7_code_31) q9_) ?_
  show Go p e below s Z [("java/lang/String", 7)] _ _ _ (T574.setTop (mkF m 33 #[] [(.int (101 : Int32)), (.int (5 : Int32)), (.ref r), (.ref r)]))
  refine W576.cast_ V578_r ⟨by decide, by decide⟩ (i := 5) rfl (by simp) (v' := (101 : Int32)) rfl z_r (List.mem_of_getElem? (i := 0) rfl) (hb hby dc_method_7_code_33) ?_
  intro T579 h580 W581 Wr582 V583_r'
  have V583_r : Arv Z h580 r k_r .char (16 : Int32) [(.int (67 : Int32)), (.int (111 : Int32)), (.int (117 : Int32)), (.int (110 : Int32)), (.int (116 : Int32)), (.int (101 : Int32)), (.int (0 : Int32)), (.int (0 : Int32)), (.int (0 : Int32)), (.int (0 : Int32)), (.int (0 : Int32)), (.int (0 : Int32)), (.int (0 : Int32)), (.int (0 : Int32)), (.int (0 : Int32)), (.int (0 : Int32))] (.int (0 : Int32)) := V583_r'
  show Go p e below s Z [("java/lang/String", 7)] _ _ _ (T579.setTop (mkF m 34 #[] [(.ref r)]))
  refine Go.by (fun t9_ q9_ => XS.dup W581.here W581.hx rfl (hb hby dc_method_7_code_34) rfl rfl q9_) ?_
  show Go p e below s Z [("java/lang/String", 7)] _ _ _ (T579.setTop (mkF m 35 #[] [(.ref r), (.ref r)]))
  refine Go.by (fun t9_ q9_ => XS.bipush W581.here W581.hx rfl (hb hby dc_method_7_code_35) q9_) ?_
  show Go p e below s Z [("java/lang/String", 7)] _ _ _ (T579.setTop (mkF m 37 #[] [(.int (6 : Int32)), (.ref r), (.ref r)]))
  refine Go.by (fun t9_ q9_ => XS.bipush W581.here W581.hx rfl (hb hby dc_method_7_code_37) q9_) ?_
  show Go p e below s Z [("java/lang/String", 7)] _ _ _ (T579.setTop (mkF m 39 #[] [(.int (114 : Int32)), (.int (6 : Int32)), (.ref r), (.ref r)]))
  refine W581.cast_ V583_r ⟨by decide, by decide⟩ (i := 6) rfl (by simp) (v' := (114 : Int32)) rfl z_r (List.mem_of_getElem? (i := 0) rfl) (hb hby dc_method_7_code_39) ?_
  intro T584 h585 W586 Wr587 V588_r'
  have V588_r : Arv Z h585 r k_r .char (16 : Int32) [(.int (67 : Int32)), (.int (111 : Int32)), (.int (117 : Int32)), (.int (110 : Int32)), (.int (116 : Int32)), (.int (101 : Int32)), (.int (114 : Int32)), (.int (0 : Int32)), (.int (0 : Int32)), (.int (0 : Int32)), (.int (0 : Int32)), (.int (0 : Int32)), (.int (0 : Int32)), (.int (0 : Int32)), (.int (0 : Int32)), (.int (0 : Int32))] (.int (0 : Int32)) := V588_r'
  show Go p e below s Z [("java/lang/String", 7)] _ _ _ (T584.setTop (mkF m 40 #[] [(.ref r)]))
  refine Go.by (fun t9_ q9_ => XS.dup W586.here W586.hx rfl (hb hby dc_method_7_code_40) rfl rfl q9_) ?_
  show Go p e below s Z [("java/lang/String", 7)] _ _ _ (T584.setTop (mkF m 41 #[] [(.ref r), (.ref r)]))
  refine Go.by (fun t9_ q9_ => XS.bipush W586.here W586.hx rfl (hb hby dc_method_7_code_41) q9_) ?_
  show Go p e below s Z [("java/lang/String", 7)] _ _ _ (T584.setTop (mkF m 43 #[] [(.int (7 : Int32)), (.ref r), (.ref r)]))
  refine Go.by (fun t9_ q9_ => XS.bipush W586.here W586.hx rfl (hb hby dc_method_7_code_43) q9_) ?_
  show Go p e below s Z [("java/lang/String", 7)] _ _ _ (T584.setTop (mkF m 45 #[] [(.int (97 : Int32)), (.int (7 : Int32)), (.ref r), (.ref r)]))
  refine W586.cast_ V588_r ⟨by decide, by decide⟩ (i := 7) rfl (by simp) (v' := (97 : Int32)) rfl z_r (List.mem_of_getElem? (i := 0) rfl) (hb hby dc_method_7_code_45) ?_
  intro T589 h590 W591 Wr592 V593_r'
  have V593_r : Arv Z h590 r k_r .char (16 : Int32) [(.int (67 : Int32)), (.int (111 : Int32)), (.int (117 : Int32)), (.int (110 : Int32)), (.int (116 : Int32)), (.int (101 : Int32)), (.int (114 : Int32)), (.int (97 : Int32)), (.int (0 : Int32)), (.int (0 : Int32)), (.int (0 : Int32)), (.int (0 : Int32)), (.int (0 : Int32)), (.int (0 : Int32)), (.int (0 : Int32)), (.int (0 : Int32))] (.int (0 : Int32)) := V593_r'
  show Go p e below s Z [("java/lang/String", 7)] _ _ _ (T589.setTop (mkF m 46 #[] [(.ref r)]))
  refine Go.by (fun t9_ q9_ => XS.dup W591.here W591.hx rfl (hb hby dc_method_7_code_46) rfl rfl q9_) ?_
  show Go p e below s Z [("java/lang/String", 7)] _ _ _ (T589.setTop (mkF m 47 #[] [(.ref r), (.ref r)]))
  refine Go.by (fun t9_ q9_ => XS.bipush W591.here W591.hx rfl (hb hby dc_method_7_code_47) q9_) ?_
  show Go p e below s Z [("java/lang/String", 7)] _ _ _ (T589.setTop (mkF m 49 #[] [(.int (8 : Int32)), (.ref r), (.ref r)]))
  refine Go.by (fun t9_ q9_ => XS.bipush W591.here W591.hx rfl (hb hby dc_method_7_code_49) q9_) ?_
  show Go p e below s Z [("java/lang/String", 7)] _ _ _ (T589.setTop (mkF m 51 #[] [(.int (103 : Int32)), (.int (8 : Int32)), (.ref r), (.ref r)]))
  refine W591.cast_ V593_r ⟨by decide, by decide⟩ (i := 8) rfl (by simp) (v' := (103 : Int32)) rfl z_r (List.mem_of_getElem? (i := 0) rfl) (hb hby dc_method_7_code_51) ?_
  intro T594 h595 W596 Wr597 V598_r'
  have V598_r : Arv Z h595 r k_r .char (16 : Int32) [(.int (67 : Int32)), (.int (111 : Int32)), (.int (117 : Int32)), (.int (110 : Int32)), (.int (116 : Int32)), (.int (101 : Int32)), (.int (114 : Int32)), (.int (97 : Int32)), (.int (103 : Int32)), (.int (0 : Int32)), (.int (0 : Int32)), (.int (0 : Int32)), (.int (0 : Int32)), (.int (0 : Int32)), (.int (0 : Int32)), (.int (0 : Int32))] (.int (0 : Int32)) := V598_r'
  show Go p e below s Z [("java/lang/String", 7)] _ _ _ (T594.setTop (mkF m 52 #[] [(.ref r)]))
  refine Go.by (fun t9_ q9_ => XS.dup W596.here W596.hx rfl (hb hby dc_method_7_code_52) rfl rfl q9_) ?_
  show Go p e below s Z [("java/lang/String", 7)] _ _ _ (T594.setTop (mkF m 53 #[] [(.ref r), (.ref r)]))
  refine Go.by (fun t9_ q9_ => XS.bipush W596.here W596.hx rfl (hb hby dc_method_7_code_53) q9_) ?_
  show Go p e below s Z [("java/lang/String", 7)] _ _ _ (T594.setTop (mkF m 55 #[] [(.int (9 : Int32)), (.ref r), (.ref r)]))
  refine Go.by (fun t9_ q9_ => XS.bipush W596.here W596.hx rfl (hb hby dc_method_7_code_55) q9_) ?_
  show Go p e below s Z [("java/lang/String", 7)] _ _ _ (T594.setTop (mkF m 57 #[] [(.int (101 : Int32)), (.int (9 : Int32)), (.ref r), (.ref r)]))
  refine W596.cast_ V598_r ⟨by decide, by decide⟩ (i := 9) rfl (by simp) (v' := (101 : Int32)) rfl z_r (List.mem_of_getElem? (i := 0) rfl) (hb hby dc_method_7_code_57) ?_
  intro T599 h600 W601 Wr602 V603_r'
  have V603_r : Arv Z h600 r k_r .char (16 : Int32) [(.int (67 : Int32)), (.int (111 : Int32)), (.int (117 : Int32)), (.int (110 : Int32)), (.int (116 : Int32)), (.int (101 : Int32)), (.int (114 : Int32)), (.int (97 : Int32)), (.int (103 : Int32)), (.int (101 : Int32)), (.int (0 : Int32)), (.int (0 : Int32)), (.int (0 : Int32)), (.int (0 : Int32)), (.int (0 : Int32)), (.int (0 : Int32))] (.int (0 : Int32)) := V603_r'
  show Go p e below s Z [("java/lang/String", 7)] _ _ _ (T599.setTop (mkF m 58 #[] [(.ref r)]))
  refine Go.by (fun t9_ q9_ => XS.dup W601.here W601.hx rfl (hb hby dc_method_7_code_58) rfl rfl q9_) ?_
  show Go p e below s Z [("java/lang/String", 7)] _ _ _ (T599.setTop (mkF m 59 #[] [(.ref r), (.ref r)]))
  refine Go.by (fun t9_ q9_ => XS.bipush W601.here W601.hx rfl (hb hby dc_method_7_code_59) q9_) ?_
  show Go p e below s Z [("java/lang/String", 7)] _ _ _ (T599.setTop (mkF m 61 #[] [(.int (10 : Int32)), (.ref r), (.ref r)]))
  refine Go.by (fun t9_ q9_ => XS.bipush W601.here W601.hx rfl (hb hby dc_method_7_code_61) q9_) ?_
  show Go p e below s Z [("java/lang/String", 7)] _ _ _ (T599.setTop (mkF m 63 #[] [(.int (110 : Int32)), (.int (10 : Int32)), (.ref r), (.ref r)]))
  refine W601.cast_ V603_r ⟨by decide, by decide⟩ (i := 10) rfl (by simp) (v' := (110 : Int32)) rfl z_r (List.mem_of_getElem? (i := 0) rfl) (hb hby dc_method_7_code_63) ?_
  intro T604 h605 W606 Wr607 V608_r'
  have V608_r : Arv Z h605 r k_r .char (16 : Int32) [(.int (67 : Int32)), (.int (111 : Int32)), (.int (117 : Int32)), (.int (110 : Int32)), (.int (116 : Int32)), (.int (101 : Int32)), (.int (114 : Int32)), (.int (97 : Int32)), (.int (103 : Int32)), (.int (101 : Int32)), (.int (110 : Int32)), (.int (0 : Int32)), (.int (0 : Int32)), (.int (0 : Int32)), (.int (0 : Int32)), (.int (0 : Int32))] (.int (0 : Int32)) := V608_r'
  show Go p e below s Z [("java/lang/String", 7)] _ _ _ (T604.setTop (mkF m 64 #[] [(.ref r)]))
  refine Go.by (fun t9_ q9_ => XS.dup W606.here W606.hx rfl (hb hby dc_method_7_code_64) rfl rfl q9_) ?_
  show Go p e below s Z [("java/lang/String", 7)] _ _ _ (T604.setTop (mkF m 65 #[] [(.ref r), (.ref r)]))
  refine Go.by (fun t9_ q9_ => XS.bipush W606.here W606.hx rfl (hb hby dc_method_7_code_65) q9_) ?_
  show Go p e below s Z [("java/lang/String", 7)] _ _ _ (T604.setTop (mkF m 67 #[] [(.int (11 : Int32)), (.ref r), (.ref r)]))
  refine Go.by (fun t9_ q9_ => XS.bipush W606.here W606.hx rfl (hb hby dc_method_7_code_67) q9_) ?_
  show Go p e below s Z [("java/lang/String", 7)] _ _ _ (T604.setTop (mkF m 69 #[] [(.int (116 : Int32)), (.int (11 : Int32)), (.ref r), (.ref r)]))
  refine W606.cast_ V608_r ⟨by decide, by decide⟩ (i := 11) rfl (by simp) (v' := (116 : Int32)) rfl z_r (List.mem_of_getElem? (i := 0) rfl) (hb hby dc_method_7_code_69) ?_
  intro T609 h610 W611 Wr612 V613_r'
  have V613_r : Arv Z h610 r k_r .char (16 : Int32) [(.int (67 : Int32)), (.int (111 : Int32)), (.int (117 : Int32)), (.int (110 : Int32)), (.int (116 : Int32)), (.int (101 : Int32)), (.int (114 : Int32)), (.int (97 : Int32)), (.int (103 : Int32)), (.int (101 : Int32)), (.int (110 : Int32)), (.int (116 : Int32)), (.int (0 : Int32)), (.int (0 : Int32)), (.int (0 : Int32)), (.int (0 : Int32))] (.int (0 : Int32)) := V613_r'
  show Go p e below s Z [("java/lang/String", 7)] _ _ _ (T609.setTop (mkF m 70 #[] [(.ref r)]))
  refine Go.by (fun t9_ q9_ => XS.dup W611.here W611.hx rfl (hb hby dc_method_7_code_70) rfl rfl q9_) ?_
  show Go p e below s Z [("java/lang/String", 7)] _ _ _ (T609.setTop (mkF m 71 #[] [(.ref r), (.ref r)]))
  refine Go.by (fun t9_ q9_ => XS.bipush W611.here W611.hx rfl (hb hby dc_method_7_code_71) q9_) ?_
  show Go p e below s Z [("java/lang/String", 7)] _ _ _ (T609.setTop (mkF m 73 #[] [(.int (12 : Int32)), (.ref r), (.ref r)]))
  refine Go.by (fun t9_ q9_ => XS.bipush W611.here W611.hx rfl (hb hby dc_method_7_code_73) q9_) ?_
  show Go p e below s Z [("java/lang/String", 7)] _ _ _ (T609.setTop (mkF m 75 #[] [(.int (115 : Int32)), (.int (12 : Int32)), (.ref r), (.ref r)]))
  refine W611.cast_ V613_r ⟨by decide, by decide⟩ (i := 12) rfl (by simp) (v' := (115 : Int32)) rfl z_r (List.mem_of_getElem? (i := 0) rfl) (hb hby dc_method_7_code_75) ?_
  intro T614 h615 W616 Wr617 V618_r'
  have V618_r : Arv Z h615 r k_r .char (16 : Int32) [(.int (67 : Int32)), (.int (111 : Int32)), (.int (117 : Int32)), (.int (110 : Int32)), (.int (116 : Int32)), (.int (101 : Int32)), (.int (114 : Int32)), (.int (97 : Int32)), (.int (103 : Int32)), (.int (101 : Int32)), (.int (110 : Int32)), (.int (116 : Int32)), (.int (115 : Int32)), (.int (0 : Int32)), (.int (0 : Int32)), (.int (0 : Int32))] (.int (0 : Int32)) := V618_r'
  show Go p e below s Z [("java/lang/String", 7)] _ _ _ (T614.setTop (mkF m 76 #[] [(.ref r)]))
  refine Go.by (fun t9_ q9_ => XS.dup W616.here W616.hx rfl (hb hby dc_method_7_code_76) rfl rfl q9_) ?_
  show Go p e below s Z [("java/lang/String", 7)] _ _ _ (T614.setTop (mkF m 77 #[] [(.ref r), (.ref r)]))
  refine Go.by (fun t9_ q9_ => XS.bipush W616.here W616.hx rfl (hb hby dc_method_7_code_77) q9_) ?_
  show Go p e below s Z [("java/lang/String", 7)] _ _ _ (T614.setTop (mkF m 79 #[] [(.int (13 : Int32)), (.ref r), (.ref r)]))
  refine Go.by (fun t9_ q9_ => XS.bipush W616.here W616.hx rfl (hb hby dc_method_7_code_79) q9_) ?_
  show Go p e below s Z [("java/lang/String", 7)] _ _ _ (T614.setTop (mkF m 81 #[] [(.int (79 : Int32)), (.int (13 : Int32)), (.ref r), (.ref r)]))
  refine W616.cast_ V618_r ⟨by decide, by decide⟩ (i := 13) rfl (by simp) (v' := (79 : Int32)) rfl z_r (List.mem_of_getElem? (i := 0) rfl) (hb hby dc_method_7_code_81) ?_
  intro T619 h620 W621 Wr622 V623_r'
  have V623_r : Arv Z h620 r k_r .char (16 : Int32) [(.int (67 : Int32)), (.int (111 : Int32)), (.int (117 : Int32)), (.int (110 : Int32)), (.int (116 : Int32)), (.int (101 : Int32)), (.int (114 : Int32)), (.int (97 : Int32)), (.int (103 : Int32)), (.int (101 : Int32)), (.int (110 : Int32)), (.int (116 : Int32)), (.int (115 : Int32)), (.int (79 : Int32)), (.int (0 : Int32)), (.int (0 : Int32))] (.int (0 : Int32)) := V623_r'
  show Go p e below s Z [("java/lang/String", 7)] _ _ _ (T619.setTop (mkF m 82 #[] [(.ref r)]))
  refine Go.by (fun t9_ q9_ => XS.dup W621.here W621.hx rfl (hb hby dc_method_7_code_82) rfl rfl q9_) ?_
  show Go p e below s Z [("java/lang/String", 7)] _ _ _ (T619.setTop (mkF m 83 #[] [(.ref r), (.ref r)]))
  refine Go.by (fun t9_ q9_ => XS.bipush W621.here W621.hx rfl (hb hby dc_method_7_code_83) q9_) ?_
  show Go p e below s Z [("java/lang/String", 7)] _ _ _ (T619.setTop (mkF m 85 #[] [(.int (14 : Int32)), (.ref r), (.ref r)]))
  refine Go.by (fun t9_ q9_ => XS.bipush W621.here W621.hx rfl (hb hby dc_method_7_code_85) q9_) ?_
  show Go p e below s Z [("java/lang/String", 7)] _ _ _ (T619.setTop (mkF m 87 #[] [(.int (110 : Int32)), (.int (14 : Int32)), (.ref r), (.ref r)]))
  refine W621.cast_ V623_r ⟨by decide, by decide⟩ (i := 14) rfl (by simp) (v' := (110 : Int32)) rfl z_r (List.mem_of_getElem? (i := 0) rfl) (hb hby dc_method_7_code_87) ?_
  intro T624 h625 W626 Wr627 V628_r'
  have V628_r : Arv Z h625 r k_r .char (16 : Int32) [(.int (67 : Int32)), (.int (111 : Int32)), (.int (117 : Int32)), (.int (110 : Int32)), (.int (116 : Int32)), (.int (101 : Int32)), (.int (114 : Int32)), (.int (97 : Int32)), (.int (103 : Int32)), (.int (101 : Int32)), (.int (110 : Int32)), (.int (116 : Int32)), (.int (115 : Int32)), (.int (79 : Int32)), (.int (110 : Int32)), (.int (0 : Int32))] (.int (0 : Int32)) := V628_r'
  show Go p e below s Z [("java/lang/String", 7)] _ _ _ (T624.setTop (mkF m 88 #[] [(.ref r)]))
  refine Go.by (fun t9_ q9_ => XS.dup W626.here W626.hx rfl (hb hby dc_method_7_code_88) rfl rfl q9_) ?_
  show Go p e below s Z [("java/lang/String", 7)] _ _ _ (T624.setTop (mkF m 89 #[] [(.ref r), (.ref r)]))
  refine Go.by (fun t9_ q9_ => XS.bipush W626.here W626.hx rfl (hb hby dc_method_7_code_89) q9_) ?_
  show Go p e below s Z [("java/lang/String", 7)] _ _ _ (T624.setTop (mkF m 91 #[] [(.int (15 : Int32)), (.ref r), (.ref r)]))
  refine Go.by (fun t9_ q9_ => XS.bipush W626.here W626.hx rfl (hb hby dc_method_7_code_91) q9_) ?_
  show Go p e below s Z [("java/lang/String", 7)] _ _ _ (T624.setTop (mkF m 93 #[] [(.int (108 : Int32)), (.int (15 : Int32)), (.ref r), (.ref r)]))
  refine W626.cast_ V628_r ⟨by decide, by decide⟩ (i := 15) rfl (by simp) (v' := (108 : Int32)) rfl z_r (List.mem_of_getElem? (i := 0) rfl) (hb hby dc_method_7_code_93) ?_
  intro T629 h630 W631 Wr632 V633_r'
  have V633_r : Arv Z h630 r k_r .char (16 : Int32) [(.int (67 : Int32)), (.int (111 : Int32)), (.int (117 : Int32)), (.int (110 : Int32)), (.int (116 : Int32)), (.int (101 : Int32)), (.int (114 : Int32)), (.int (97 : Int32)), (.int (103 : Int32)), (.int (101 : Int32)), (.int (110 : Int32)), (.int (116 : Int32)), (.int (115 : Int32)), (.int (79 : Int32)), (.int (110 : Int32)), (.int (108 : Int32))] (.int (0 : Int32)) := V633_r'
  show Go p e below s Z [("java/lang/String", 7)] _ _ _ (T629.setTop (mkF m 94 #[] [(.ref r)]))
  have X634 : Ext h0 h555 := (Ext.wr' E553 Wr557 (Nat.le_of_eq g_r))
  have X635 : Ext h0 h560 := (Ext.wr' X634 Wr562 (Nat.le_of_eq g_r))
  have X636 : Ext h0 h565 := (Ext.wr' X635 Wr567 (Nat.le_of_eq g_r))
  have X637 : Ext h0 h570 := (Ext.wr' X636 Wr572 (Nat.le_of_eq g_r))
  have X638 : Ext h0 h575 := (Ext.wr' X637 Wr577 (Nat.le_of_eq g_r))
  have X639 : Ext h0 h580 := (Ext.wr' X638 Wr582 (Nat.le_of_eq g_r))
  have X640 : Ext h0 h585 := (Ext.wr' X639 Wr587 (Nat.le_of_eq g_r))
  have X641 : Ext h0 h590 := (Ext.wr' X640 Wr592 (Nat.le_of_eq g_r))
  have X642 : Ext h0 h595 := (Ext.wr' X641 Wr597 (Nat.le_of_eq g_r))
  have X643 : Ext h0 h600 := (Ext.wr' X642 Wr602 (Nat.le_of_eq g_r))
  have X644 : Ext h0 h605 := (Ext.wr' X643 Wr607 (Nat.le_of_eq g_r))
  have X645 : Ext h0 h610 := (Ext.wr' X644 Wr612 (Nat.le_of_eq g_r))
  have X646 : Ext h0 h615 := (Ext.wr' X645 Wr617 (Nat.le_of_eq g_r))
  have X647 : Ext h0 h620 := (Ext.wr' X646 Wr622 (Nat.le_of_eq g_r))
  have X648 : Ext h0 h625 := (Ext.wr' X647 Wr627 (Nat.le_of_eq g_r))
  have X649 : Ext h0 h630 := (Ext.wr' X648 Wr632 (Nat.le_of_eq g_r))
  exact W631.retA (by decide) (by decide) hret rfl rfl (hb hby dc_method_7_code_94) ⟨r, k_r, rfl, X649, V633_r, ((((((((((((((((A_r.wr Wr557).wr Wr562).wr Wr567).wr Wr572).wr Wr577).wr Wr582).wr Wr587).wr Wr592).wr Wr597).wr Wr602).wr Wr607).wr Wr612).wr Wr617).wr Wr622).wr Wr627).wr Wr632), z_r⟩
set_option maxRecDepth 65536 in
set_option maxHeartbeats 40000000 in
theorem c_values (l : Launch) (Z : State) (a0 : Array Value) (hw : ∀ d ∈ tables_1, d.before a0 Z = true) (hEL : EW Z a0 [("java/lang/String", 7)]) (h0 : Heap) (hE0 : Ext Z.heap h0) (av e0 e1 : Addr) (kv : ClassId) (SV : Sta Z Z.heap "com/example/proof_to_token/prooftotoken/config/Sociability" "$VALUES" "[Lcom/example/proof_to_token/prooftotoken/config/Sociability;" (.ref av)) (AV : Arv Z Z.heap av kv (.object "com/example/proof_to_token/prooftotoken/config/Sociability") 2 [(.ref e0), (.ref e1)] .null) (XV : Exa Z Z.heap av "[Lcom/example/proof_to_token/prooftotoken/config/Sociability;") :
    Con l Z [("java/lang/String", 7)] [] (⟨"com/example/proof_to_token/prooftotoken/config/Sociability", "values", "()[Lcom/example/proof_to_token/prooftotoken/config/Sociability;"⟩ : MethodName) prog_7_method_1_code 0 (some (.array (.object "com/example/proof_to_token/prooftotoken/config/Sociability"))) [] ({ frames := 1, cells := 1, slots := 2, locals := 14 } : Room) #[] h0 (fun v h' => ∃ r kr, v = some (.ref r) ∧ Ext h0 h' ∧ Arv Z h' r kr (.object "com/example/proof_to_token/prooftotoken/config/Sociability") 2 [(.ref e0), (.ref e1)] .null) := by
  refine Con.mk (plainFor_of_name pn_2) hEL hE0 (fun x hx => by cases hx) ?_
  intro p e s m below meth c T0 hby hml hret hnm W0
  rw [(show entryFrame m #[] 0 = mkF m 0 #[] [] from by first | (simp [entryFrame, mkF, argsToLocals, Value.category]; done) | rfl)]
  refine W0.gets (host := "") (Or.inl (wd43 hw)) Via.refl (SV.ext W0.old) (hb hby dc_prog_7_method_1_code_0) ?_
  intro T650 W651
  show Go p e below s Z [("java/lang/String", 7)] _ _ _ (T650.setTop (mkF m 3 #[] [(.ref av)]))
  refine W651.cloneA (wd45 hw) (wd46 hw) (wd50 hw) (wd48 hw) (wd49 hw) (wd51 hw) (AV.ext W651.old) (XV.ext W651.old) (by rw [hml]; rfl) (hb hby dc_prog_7_method_1_code_3) (by decide) (Wt := 0) (by decide) (by decide) (cap := 2) (by decide) (k' := 1) (n' := 2) rfl rfl (by decide) (by decide) ?_
  intro T652 h653 r W654 E655 g_r z_r A_r E_r
  show Go p e below s Z [("java/lang/String", 7)] _ _ _ (T652.setTop (mkF m 6 #[] [(.ref r)]))
  refine W654.castY (wd54 hw) (Ins.self E_r) (hb hby dc_prog_7_method_1_code_6) ?_
  intro T656 W657
  show Go p e below s Z [("java/lang/String", 7)] _ _ _ (T656.setTop (mkF m 9 #[] [(.ref r)]))
  exact W657.retA (by decide) (by decide) hret rfl rfl (hb hby dc_prog_7_method_1_code_9) ⟨r, kv, rfl, E655, A_r⟩
set_option maxRecDepth 65536 in
set_option maxHeartbeats 40000000 in
theorem c_optinit (l : Launch) (Z : State) (a0 : Array Value) (hw : ∀ d ∈ tables_1, d.before a0 Z = true) (hEL : EW Z a0 [("java/lang/String", 7)]) (h0 : Heap) (hE0 : Ext Z.heap h0) (x a : Addr) (E_x : Exa Z h0 x "java/util/Optional") (FV : Fld Z h0 x "java/util/Optional" "value" "Ljava/lang/Object;" .null) (z_x : Z.heap.size ≤ x) :
    Con l Z [("java/lang/String", 7)] [x] (⟨"java/util/Optional", "<init>", "(Ljava/lang/Object;)V"⟩ : MethodName) jdk_32_method_2_code 2 none [] ({ frames := 1, cells := 0, slots := 0, locals := 12 } : Room) #[(.ref x), (.ref a)] h0 (fun v h' => v = none ∧ Keep h0 h' [x] ∧ Exa Z h' x "java/util/Optional" ∧ Fld Z h' x "java/util/Optional" "value" "Ljava/lang/Object;" (.ref a)) := by
  refine Con.mk (plainFor_of_name pn_3) hEL hE0 (allS E_x.lt all0) ?_
  intro p e s m below meth c T0 hby hml hret hnm W0
  rw [(show entryFrame m #[(.ref x), (.ref a)] 2 = mkF m 0 #[.val (.ref x), .val (.ref a)] [] from by first | (simp [entryFrame, mkF, argsToLocals, Value.category]; done) | rfl)]
  refine Go.by (fun t9_ q9_ => XS.aloadN W0.here W0.hx rfl (hb hby dc_jdk_32_method_2_code_0) rfl rfl q9_) ?_
  show Go p e below s Z [("java/lang/String", 7)] _ _ _ (T0.setTop (mkF m 1 #[.val (.ref x), .val (.ref a)] [(.ref x)]))
  refine W0.initO (wd78 hw) (wd19 hw) (wd20 hw) (by rw [hml]; rfl) (hb hby dc_jdk_32_method_2_code_1) (by decide) (Wt := 0) (Nat.le_of_eq rfl) (by decide) ?_
  intro T658 W659
  show Go p e below s Z [("java/lang/String", 7)] _ _ _ (T658.setTop (mkF m 4 #[.val (.ref x), .val (.ref a)] []))
  refine Go.by (fun t9_ q9_ => XS.aloadN W659.here W659.hx rfl (hb hby dc_jdk_32_method_2_code_4) rfl rfl q9_) ?_
  show Go p e below s Z [("java/lang/String", 7)] _ _ _ (T658.setTop (mkF m 5 #[.val (.ref x), .val (.ref a)] [(.ref x)]))
  refine Go.by (fun t9_ q9_ => XS.aloadN W659.here W659.hx rfl (hb hby dc_jdk_32_method_2_code_5) rfl rfl q9_) ?_
  show Go p e below s Z [("java/lang/String", 7)] _ _ _ (T658.setTop (mkF m 6 #[.val (.ref x), .val (.ref a)] [(.ref a), (.ref x)]))
  refine W659.putf (host := "") (Or.inl (wd79 hw)) Via.refl FV E_x (Or.inr ⟨(wd80 hw), rfl, hnm⟩) (wd73 hw) (ty := (.object "java/lang/Object")) (by decide) rfl rfl z_x (List.mem_of_getElem? (i := 0) rfl) (hb hby dc_jdk_32_method_2_code_6) ?_
  intro T660 h661 W662 Wr663
  have F664 : Fld Z h661 x "java/util/Optional" "value" "Ljava/lang/Object;" (.ref a) := FV.same Wr663
  have A665 : Exa Z h661 x "java/util/Optional" := E_x.wr Wr663
  show Go p e below s Z [("java/lang/String", 7)] _ _ _ (T660.setTop (mkF m 9 #[.val (.ref x), .val (.ref a)] []))
  exact W662.retV (by decide) (by decide) hret (hb hby dc_jdk_32_method_2_code_9) ⟨rfl, ((Keep.refl h0 [x]).wr Wr663 (Or.inl (List.mem_of_getElem? (i := 0) rfl))), A665, F664⟩
set_option maxRecDepth 65536 in
set_option maxHeartbeats 40000000 in
theorem c_ofnull (l : Launch) (Z : State) (a0 : Array Value) (hw : ∀ d ∈ tables_1, d.before a0 Z = true) (hEL : EW Z a0 [("java/lang/String", 7)]) (h0 : Heap) (hE0 : Ext Z.heap h0) (em : Addr) (SE : Sta Z Z.heap "java/util/Optional" "EMPTY" "Ljava/util/Optional;" (.ref em)) :
    Con l Z [("java/lang/String", 7)] [] (⟨"java/util/Optional", "ofNullable", "(Ljava/lang/Object;)Ljava/util/Optional;"⟩ : MethodName) jdk_32_method_4_code 1 (some (.object "java/util/Optional")) [] ({ frames := 0, cells := 0, slots := 0, locals := 0 } : Room) #[.null] h0 (fun v h' => v = (some (.ref em)) ∧ h' = h0) := by
  refine Con.mk (plainFor_of_name pn_3) hEL hE0 (fun x hx => by cases hx) ?_
  intro p e s m below meth c T0 hby hml hret hnm W0
  rw [(show entryFrame m #[.null] 1 = mkF m 0 #[.val .null] [] from by first | (simp [entryFrame, mkF, argsToLocals, Value.category]; done) | rfl)]
  refine Go.by (fun t9_ q9_ => XS.aloadN W0.here W0.hx rfl (hb hby dc_jdk_32_method_4_code_0) rfl rfl q9_) ?_
  show Go p e below s Z [("java/lang/String", 7)] _ _ _ (T0.setTop (mkF m 1 #[.val .null] [.null]))
  refine Go.by (fun t9_ q9_ => XS.ifnonnullNo W0.here W0.hx rfl (hb hby dc_jdk_32_method_4_code_1) rfl q9_) ?_
  show Go p e below s Z [("java/lang/String", 7)] _ _ _ (T0.setTop (mkF m 4 #[.val .null] []))
  refine W0.gets (host := "") (Or.inl (wd93 hw)) Via.refl (SE.ext W0.old) (hb hby dc_jdk_32_method_4_code_4) ?_
  intro T666 W667
  show Go p e below s Z [("java/lang/String", 7)] _ _ _ (T666.setTop (mkF m 7 #[.val .null] [(.ref em)]))
  refine Go.by (fun t9_ q9_ => XS.goto W667.here W667.hx rfl (pc0 := 7) (pc' := 18) rfl (hb hby dc_jdk_32_method_4_code_7) (by decide) (by decide) q9_) ?_
  show Go p e below s Z [("java/lang/String", 7)] _ _ _ (T666.setTop (mkF m 18 #[.val .null] [(.ref em)]))
  exact W667.retA (by decide) (by decide) hret rfl rfl (hb hby dc_jdk_32_method_4_code_18) ⟨rfl, rfl⟩
set_option maxRecDepth 65536 in
set_option maxHeartbeats 40000000 in
theorem c_ofref (l : Launch) (Z : State) (a0 : Array Value) (hw : ∀ d ∈ tables_1, d.before a0 Z = true) (hEL : EW Z a0 [("java/lang/String", 7)]) (h0 : Heap) (hE0 : Ext Z.heap h0) (a : Addr)  :
    Con l Z [("java/lang/String", 7)] [] (⟨"java/util/Optional", "ofNullable", "(Ljava/lang/Object;)Ljava/util/Optional;"⟩ : MethodName) jdk_32_method_4_code 1 (some (.object "java/util/Optional")) [] ({ frames := 2, cells := 1, slots := 1, locals := 26 } : Room) #[(.ref a)] h0 (fun v h' => ∃ r, v = some (.ref r) ∧ Ext h0 h' ∧ Exa Z h' r "java/util/Optional" ∧ Fld Z h' r "java/util/Optional" "value" "Ljava/lang/Object;" (.ref a)) := by
  refine Con.mk (plainFor_of_name pn_3) hEL hE0 (fun x hx => by cases hx) ?_
  intro p e s m below meth c T0 hby hml hret hnm W0
  rw [(show entryFrame m #[(.ref a)] 1 = mkF m 0 #[.val (.ref a)] [] from by first | (simp [entryFrame, mkF, argsToLocals, Value.category]; done) | rfl)]
  refine Go.by (fun t9_ q9_ => XS.aloadN W0.here W0.hx rfl (hb hby dc_jdk_32_method_4_code_0) rfl rfl q9_) ?_
  show Go p e below s Z [("java/lang/String", 7)] _ _ _ (T0.setTop (mkF m 1 #[.val (.ref a)] [(.ref a)]))
  refine Go.by (fun t9_ q9_ => XS.ifnonnullYes W0.here W0.hx rfl (pc0 := 1) (pc' := 10) rfl (hb hby dc_jdk_32_method_4_code_1) rfl (by decide) (by decide) q9_) ?_
  show Go p e below s Z [("java/lang/String", 7)] _ _ _ (T0.setTop (mkF m 10 #[.val (.ref a)] []))
  refine W0.new (wd72 hw) (wd73 hw) (wd70 hw) (hb hby dc_jdk_32_method_4_code_10) (k' := 1) (n' := 1) rfl rfl (by decide) (by decide) ?_
  intro T668 h669 r W670 E671 g_r z_r A_r D_r
  have F_value_r : Fld Z h669 r "java/util/Optional" "value" "Ljava/lang/Object;" .null := D_r (Or.inr (wd80 hw)) (ty := (.object "java/lang/Object")) (by decide)
  show Go p e below s Z [("java/lang/String", 7)] _ _ _ (T668.setTop (mkF m 13 #[.val (.ref a)] [(.ref r)]))
  refine Go.by (fun t9_ q9_ => XS.dup W670.here W670.hx rfl (hb hby dc_jdk_32_method_4_code_13) rfl rfl q9_) ?_
  show Go p e below s Z [("java/lang/String", 7)] _ _ _ (T668.setTop (mkF m 14 #[.val (.ref a)] [(.ref r), (.ref r)]))
  refine Go.by (fun t9_ q9_ => XS.aloadN W670.here W670.hx rfl (hb hby dc_jdk_32_method_4_code_14) rfl rfl q9_) ?_
  show Go p e below s Z [("java/lang/String", 7)] _ _ _ (T668.setTop (mkF m 15 #[.val (.ref a)] [(.ref a), (.ref r), (.ref r)]))
  refine W670.callI (y := (⟨"java/util/Optional", "<init>", "(Ljava/lang/Object;)V"⟩ : MethodName)) rfl (wd74 hw) (wd75 hw) (wd70 hw) (wd77 hw) (by decide) (a := r) (c_optinit l Z a0 hw hEL h669 W670.old r a A_r F_value_r z_r) (allS (List.mem_of_getElem? (i := 0) rfl) all0) (by decide) (by decide) (k' := 1) (n' := 1) rfl rfl (by decide) (by decide) (by rw [hml]; rfl) (argsL := [(.ref a)]) (rest := [(.ref r)]) (lenOf pd_1 rfl) rfl rfl (Wt := 1) (Nat.le_of_eq rfl) (hb hby dc_jdk_32_method_4_code_15) ?_
  intro v_ T672 h674 W673 hq_
  obtain ⟨rfl, K1, E1, F1⟩ := hq_
  show Go p e below s Z [("java/lang/String", 7)] _ _ _ (T672.setTop (mkF m 18 #[.val (.ref a)] [(.ref r)]))
  have X675 : Ext h0 h674 := (Ext.keep' E671 K1 (allS (Nat.le_of_eq g_r) all0))
  exact W673.retA (by decide) (by decide) hret rfl rfl (hb hby dc_jdk_32_method_4_code_18) ⟨r, rfl, X675, E1, F1⟩
set_option maxRecDepth 65536 in
set_option maxHeartbeats 40000000 in
theorem c_orelse (l : Launch) (Z : State) (a0 : Array Value) (hw : ∀ d ∈ tables_1, d.before a0 Z = true) (hEL : EW Z a0 [("java/lang/String", 7)]) (h0 : Heap) (hE0 : Ext Z.heap h0) (x : Addr) (u : Value) (hu : u.isRef = true) (FX : Fld Z h0 x "java/util/Optional" "value" "Ljava/lang/Object;" u) :
    Con l Z [("java/lang/String", 7)] [] (⟨"java/util/Optional", "orElse", "(Ljava/lang/Object;)Ljava/lang/Object;"⟩ : MethodName) jdk_32_method_15_code 2 (some (.object "java/lang/Object")) [] ({ frames := 0, cells := 0, slots := 0, locals := 0 } : Room) #[(.ref x), .null] h0 (fun v h' => v = (some u) ∧ h' = h0) := by
  refine Con.mk (plainFor_of_name pn_3) hEL hE0 (fun x hx => by cases hx) ?_
  intro p e s m below meth c T0 hby hml hret hnm W0
  rw [(show entryFrame m #[(.ref x), .null] 2 = mkF m 0 #[.val (.ref x), .val .null] [] from by first | (simp [entryFrame, mkF, argsToLocals, Value.category]; done) | rfl)]
  refine Go.by (fun t9_ q9_ => XS.aloadN W0.here W0.hx rfl (hb hby dc_jdk_32_method_15_code_0) rfl rfl q9_) ?_
  show Go p e below s Z [("java/lang/String", 7)] _ _ _ (T0.setTop (mkF m 1 #[.val (.ref x), .val .null] [(.ref x)]))
  rcases ref_cases hu with hu' | ⟨q, hu'⟩
  · subst hu'
    refine W0.getf (host := "") (Or.inl (wd79 hw)) Via.refl FX (hb hby dc_jdk_32_method_15_code_1) ?_
    intro T676 W677
    show Go p e below s Z [("java/lang/String", 7)] _ _ _ (T676.setTop (mkF m 4 #[.val (.ref x), .val .null] [.null]))
    refine Go.by (fun t9_ q9_ => XS.ifnullYes W677.here W677.hx rfl (pc0 := 4) (pc' := 14) rfl (hb hby dc_jdk_32_method_15_code_4) rfl (by decide) (by decide) q9_) ?_
    show Go p e below s Z [("java/lang/String", 7)] _ _ _ (T676.setTop (mkF m 14 #[.val (.ref x), .val .null] []))
    refine Go.by (fun t9_ q9_ => XS.aloadN W677.here W677.hx rfl (hb hby dc_jdk_32_method_15_code_14) rfl rfl q9_) ?_
    show Go p e below s Z [("java/lang/String", 7)] _ _ _ (T676.setTop (mkF m 15 #[.val (.ref x), .val .null] [.null]))
    exact W677.retA (by decide) (by decide) hret rfl rfl (hb hby dc_jdk_32_method_15_code_15) ⟨rfl, rfl⟩
  · subst hu'
    refine W0.getf (host := "") (Or.inl (wd79 hw)) Via.refl FX (hb hby dc_jdk_32_method_15_code_1) ?_
    intro T678 W679
    show Go p e below s Z [("java/lang/String", 7)] _ _ _ (T678.setTop (mkF m 4 #[.val (.ref x), .val .null] [(.ref q)]))
    refine Go.by (fun t9_ q9_ => XS.ifnullNo W679.here W679.hx rfl (hb hby dc_jdk_32_method_15_code_4) rfl q9_) ?_
    show Go p e below s Z [("java/lang/String", 7)] _ _ _ (T678.setTop (mkF m 7 #[.val (.ref x), .val .null] []))
    refine Go.by (fun t9_ q9_ => XS.aloadN W679.here W679.hx rfl (hb hby dc_jdk_32_method_15_code_7) rfl rfl q9_) ?_
    show Go p e below s Z [("java/lang/String", 7)] _ _ _ (T678.setTop (mkF m 8 #[.val (.ref x), .val .null] [(.ref x)]))
    refine W679.getf (host := "") (Or.inl (wd79 hw)) Via.refl FX (hb hby dc_jdk_32_method_15_code_8) ?_
    intro T680 W681
    show Go p e below s Z [("java/lang/String", 7)] _ _ _ (T680.setTop (mkF m 11 #[.val (.ref x), .val .null] [(.ref q)]))
    refine Go.by (fun t9_ q9_ => XS.goto W681.here W681.hx rfl (pc0 := 11) (pc' := 15) rfl (hb hby dc_jdk_32_method_15_code_11) (by decide) (by decide) q9_) ?_
    show Go p e below s Z [("java/lang/String", 7)] _ _ _ (T680.setTop (mkF m 15 #[.val (.ref x), .val .null] [(.ref q)]))
    exact W681.retA (by decide) (by decide) hret rfl rfl (hb hby dc_jdk_32_method_15_code_15) ⟨rfl, rfl⟩
set_option maxRecDepth 65536 in
set_option maxHeartbeats 40000000 in
theorem c_named (l : Launch) (Z : State) (a0 : Array Value) (hw : ∀ d ∈ tables_1, d.before a0 Z = true) (hEL : EW Z a0 [("java/lang/String", 7)]) (h0 : Heap) (hE0 : Ext Z.heap h0) (nm : Addr) (cs : List Int32) (G1 : Int32) (av e0 e1 t0 t1 em : Addr) (kv : ClassId) (SG1 : Sta Z Z.heap "java/lang/String" "COMPACT_STRINGS" "Z" (.int G1)) (hG : ¬ G1 = 0) (SV : Sta Z Z.heap "com/example/proof_to_token/prooftotoken/config/Sociability" "$VALUES" "[Lcom/example/proof_to_token/prooftotoken/config/Sociability;" (.ref av)) (AV : Arv Z Z.heap av kv (.object "com/example/proof_to_token/prooftotoken/config/Sociability") 2 [(.ref e0), (.ref e1)] .null) (XV : Exa Z Z.heap av "[Lcom/example/proof_to_token/prooftotoken/config/Sociability;") (FW0 : Fld Z Z.heap e0 "com/example/proof_to_token/prooftotoken/config/Sociability" "publishedName" "Ljava/lang/String;" (.ref t0)) (FW1 : Fld Z Z.heap e1 "com/example/proof_to_token/prooftotoken/config/Sociability" "publishedName" "Ljava/lang/String;" (.ref t1)) (S0 : Str Z Z.heap t0 ALLs) (S1 : Str Z Z.heap t1 CNTs) (SE : Sta Z Z.heap "java/util/Optional" "EMPTY" "Ljava/util/Optional;" (.ref em)) (EE : Exa Z Z.heap em "java/util/Optional") (FE : Fld Z Z.heap em "java/util/Optional" "value" "Ljava/lang/Object;" .null) (SN : Str Z h0 nm cs) (ln : cs.length ≤ 4000) :
    Con l Z [("java/lang/String", 7)] [] (⟨"com/example/proof_to_token/prooftotoken/config/Sociability", "named", "(Ljava/lang/String;)Ljava/util/Optional;"⟩ : MethodName) prog_7_method_6_code 6 (some (.object "java/util/Optional")) [] ({ frames := 3, cells := 2, slots := 3, locals := 60 } : Room) #[(.ref nm)] h0 (fun v h' => ∃ r, v = some (.ref r) ∧ Ext h0 h' ∧ Exa Z h' r "java/util/Optional" ∧ Fld Z h' r "java/util/Optional" "value" "Ljava/lang/Object;" (namF cs e0 e1)) := by
  refine Con.mk (plainFor_of_name pn_2) hEL hE0 (fun x hx => by cases hx) ?_
  intro p e s m below meth c T0 hby hml hret hnm W0
  rw [(show entryFrame m #[(.ref nm)] 6 = mkF m 0 #[.val (.ref nm), .unset, .unset, .unset, .unset, .unset] [] from by first | (simp [entryFrame, mkF, argsToLocals, Value.category]; done) | rfl)]
  refine Go.by (fun t9_ q9_ => XS.aconstNull W0.here W0.hx rfl (hb hby dc_prog_7_method_6_code_0) q9_) ?_
  show Go p e below s Z [("java/lang/String", 7)] _ _ _ (T0.setTop (mkF m 1 #[.val (.ref nm), .unset, .unset, .unset, .unset, .unset] [.null]))
  refine Go.by (fun t9_ q9_ => XS.astoreN W0.here W0.hx rfl (hb hby dc_prog_7_method_6_code_1) rfl rfl (l' := #[.val (.ref nm), .val .null, .unset, .unset, .unset, .unset]) rfl q9_) ?_
  show Go p e below s Z [("java/lang/String", 7)] _ _ _ (T0.setTop (mkF m 2 #[.val (.ref nm), .val .null, .unset, .unset, .unset, .unset] []))
  refine W0.callS (y := (⟨"com/example/proof_to_token/prooftotoken/config/Sociability", "values", "()[Lcom/example/proof_to_token/prooftotoken/config/Sociability;"⟩ : MethodName)) (wd40 hw) (wd41 hw) (wd1 hw) (wd42 hw) (by decide) (c_values l Z a0 hw hEL h0 hE0 av e0 e1 kv SV AV XV) all0 (by decide) (by decide) (k' := 1) (n' := 2) rfl rfl (by decide) (by decide) (by rw [hml]; rfl) (argsL := []) (rest := []) (lenOf pd_2 rfl) rfl rfl (Wt := 0) (Nat.le_of_eq rfl) (hb hby dc_prog_7_method_6_code_2) ?_
  intro v_ T682 h684 W683 hq_
  obtain ⟨r, kr, rfl, X1, A_r⟩ := hq_
  show Go p e below s Z [("java/lang/String", 7)] _ _ _ (T682.setTop (mkF m 5 #[.val (.ref nm), .val .null, .unset, .unset, .unset, .unset] [(.ref r)]))
  refine Go.by (fun t9_ q9_ => XS.astoreN W683.here W683.hx rfl (hb hby dc_prog_7_method_6_code_5) rfl rfl (l' := #[.val (.ref nm), .val .null, .val (.ref r), .unset, .unset, .unset]) rfl q9_) ?_
  show Go p e below s Z [("java/lang/String", 7)] _ _ _ (T682.setTop (mkF m 6 #[.val (.ref nm), .val .null, .val (.ref r), .unset, .unset, .unset] []))
  refine Go.by (fun t9_ q9_ => XS.aloadN W683.here W683.hx rfl (hb hby dc_prog_7_method_6_code_6) rfl rfl q9_) ?_
  show Go p e below s Z [("java/lang/String", 7)] _ _ _ (T682.setTop (mkF m 7 #[.val (.ref nm), .val .null, .val (.ref r), .unset, .unset, .unset] [(.ref r)]))
  refine W683.alen A_r (hb hby dc_prog_7_method_6_code_7) ?_
  show Go p e below s Z [("java/lang/String", 7)] _ _ _ (T682.setTop (mkF m 8 #[.val (.ref nm), .val .null, .val (.ref r), .unset, .unset, .unset] [(.int (2 : Int32))]))
  refine Go.by (fun t9_ q9_ => XS.istoreN W683.here W683.hx rfl (hb hby dc_prog_7_method_6_code_8) rfl (l' := #[.val (.ref nm), .val .null, .val (.ref r), .val (.int (2 : Int32)), .unset, .unset]) rfl q9_) ?_
  show Go p e below s Z [("java/lang/String", 7)] _ _ _ (T682.setTop (mkF m 9 #[.val (.ref nm), .val .null, .val (.ref r), .val (.int (2 : Int32)), .unset, .unset] []))
  refine Go.by (fun t9_ q9_ => XS.iconst W683.here W683.hx rfl (hb hby dc_prog_7_method_6_code_9) q9_) ?_
  show Go p e below s Z [("java/lang/String", 7)] _ _ _ (T682.setTop (mkF m 10 #[.val (.ref nm), .val .null, .val (.ref r), .val (.int (2 : Int32)), .unset, .unset] [(.int (0 : Int32))]))
  refine Go.by (fun t9_ q9_ => XS.istore W683.here W683.hx rfl (hb hby dc_prog_7_method_6_code_10) rfl (l' := #[.val (.ref nm), .val .null, .val (.ref r), .val (.int (2 : Int32)), .val (.int (0 : Int32)), .unset]) rfl q9_) ?_
  show Go p e below s Z [("java/lang/String", 7)] _ _ _ (T682.setTop (mkF m 12 #[.val (.ref nm), .val .null, .val (.ref r), .val (.int (2 : Int32)), .val (.int (0 : Int32)), .unset] []))
  refine Go.by (fun t9_ q9_ => XS.iload W683.here W683.hx rfl (hb hby dc_prog_7_method_6_code_12) rfl q9_) ?_
  show Go p e below s Z [("java/lang/String", 7)] _ _ _ (T682.setTop (mkF m 14 #[.val (.ref nm), .val .null, .val (.ref r), .val (.int (2 : Int32)), .val (.int (0 : Int32)), .unset] [(.int (0 : Int32))]))
  refine Go.by (fun t9_ q9_ => XS.iloadN W683.here W683.hx rfl (hb hby dc_prog_7_method_6_code_14) rfl q9_) ?_
  show Go p e below s Z [("java/lang/String", 7)] _ _ _ (T682.setTop (mkF m 15 #[.val (.ref nm), .val .null, .val (.ref r), .val (.int (2 : Int32)), .val (.int (0 : Int32)), .unset] [(.int (2 : Int32)), (.int (0 : Int32))]))
  refine Go.by (fun t9_ q9_ => XS.icmpNo W683.here W683.hx rfl (hb hby dc_prog_7_method_6_code_15) rfl (tlt (by decide)).2.1 q9_) ?_
  show Go p e below s Z [("java/lang/String", 7)] _ _ _ (T682.setTop (mkF m 18 #[.val (.ref nm), .val .null, .val (.ref r), .val (.int (2 : Int32)), .val (.int (0 : Int32)), .unset] []))
  refine Go.by (fun t9_ q9_ => XS.aloadN W683.here W683.hx rfl (hb hby dc_prog_7_method_6_code_18) rfl rfl q9_) ?_
  show Go p e below s Z [("java/lang/String", 7)] _ _ _ (T682.setTop (mkF m 19 #[.val (.ref nm), .val .null, .val (.ref r), .val (.int (2 : Int32)), .val (.int (0 : Int32)), .unset] [(.ref r)]))
  refine Go.by (fun t9_ q9_ => XS.iload W683.here W683.hx rfl (hb hby dc_prog_7_method_6_code_19) rfl q9_) ?_
  show Go p e below s Z [("java/lang/String", 7)] _ _ _ (T682.setTop (mkF m 21 #[.val (.ref nm), .val .null, .val (.ref r), .val (.int (2 : Int32)), .val (.int (0 : Int32)), .unset] [(.int (0 : Int32)), (.ref r)]))
  refine W683.aald A_r rfl ⟨by decide, by decide⟩ (v := (.ref e0)) rfl (hb hby dc_prog_7_method_6_code_21) ?_
  show Go p e below s Z [("java/lang/String", 7)] _ _ _ (T682.setTop (mkF m 22 #[.val (.ref nm), .val .null, .val (.ref r), .val (.int (2 : Int32)), .val (.int (0 : Int32)), .unset] [(.ref e0)]))
  refine Go.by (fun t9_ q9_ => XS.astore W683.here W683.hx rfl (hb hby dc_prog_7_method_6_code_22) rfl rfl (l' := #[.val (.ref nm), .val .null, .val (.ref r), .val (.int (2 : Int32)), .val (.int (0 : Int32)), .val (.ref e0)]) rfl q9_) ?_
  show Go p e below s Z [("java/lang/String", 7)] _ _ _ (T682.setTop (mkF m 24 #[.val (.ref nm), .val .null, .val (.ref r), .val (.int (2 : Int32)), .val (.int (0 : Int32)), .val (.ref e0)] []))
  refine Go.by (fun t9_ q9_ => XS.aload W683.here W683.hx rfl (hb hby dc_prog_7_method_6_code_24) rfl rfl q9_) ?_
  show Go p e below s Z [("java/lang/String", 7)] _ _ _ (T682.setTop (mkF m 26 #[.val (.ref nm), .val .null, .val (.ref r), .val (.int (2 : Int32)), .val (.int (0 : Int32)), .val (.ref e0)] [(.ref e0)]))
  refine W683.getf (host := "") (Or.inl (wd56 hw)) Via.refl (FW0.ext W683.old) (hb hby dc_prog_7_method_6_code_26) ?_
  intro T685 W686
  show Go p e below s Z [("java/lang/String", 7)] _ _ _ (T685.setTop (mkF m 29 #[.val (.ref nm), .val .null, .val (.ref r), .val (.int (2 : Int32)), .val (.int (0 : Int32)), .val (.ref e0)] [(.ref t0)]))
  refine Go.by (fun t9_ q9_ => XS.aloadN W686.here W686.hx rfl (hb hby dc_prog_7_method_6_code_29) rfl rfl q9_) ?_
  show Go p e below s Z [("java/lang/String", 7)] _ _ _ (T685.setTop (mkF m 30 #[.val (.ref nm), .val .null, .val (.ref r), .val (.int (2 : Int32)), .val (.int (0 : Int32)), .val (.ref e0)] [(.ref nm), (.ref t0)]))
  refine W686.strEq (k_eq hw) (wd9 hw) (wd58 hw) (wd59 hw) (wd61 hw) (wd60 hw) (S0.ext W686.old) (SN.ext X1) (by decide) ln (SG1.ext W686.old) hG (by decide) (Wt := 0) (by decide) (by rw [hml]; rfl) (Nat.le_of_eq rfl) (by decide) (by decide) (hb hby dc_prog_7_method_6_code_30) ?_
  intro T687 rr0 W688 hrr0
  show Go p e below s Z [("java/lang/String", 7)] _ _ _ (T687.setTop (mkF m 33 #[.val (.ref nm), .val .null, .val (.ref r), .val (.int (2 : Int32)), .val (.int (0 : Int32)), .val (.ref e0)] [(.int rr0)]))
  by_cases q0 : cs = ALLs
  · refine Go.by (fun t9_ q9_ => XS.ifNo W688.here W688.hx rfl (hb hby dc_prog_7_method_6_code_33) rfl ((if0 _ _).trans (feq (by rw [hrr0, if_pos q0.symm]; decide)).1) q9_) ?_
    show Go p e below s Z [("java/lang/String", 7)] _ _ _ (T687.setTop (mkF m 36 #[.val (.ref nm), .val .null, .val (.ref r), .val (.int (2 : Int32)), .val (.int (0 : Int32)), .val (.ref e0)] []))
    refine Go.by (fun t9_ q9_ => XS.aload W688.here W688.hx rfl (hb hby dc_prog_7_method_6_code_36) rfl rfl q9_) ?_
    show Go p e below s Z [("java/lang/String", 7)] _ _ _ (T687.setTop (mkF m 38 #[.val (.ref nm), .val .null, .val (.ref r), .val (.int (2 : Int32)), .val (.int (0 : Int32)), .val (.ref e0)] [(.ref e0)]))
    refine Go.by (fun t9_ q9_ => XS.astoreN W688.here W688.hx rfl (hb hby dc_prog_7_method_6_code_38) rfl rfl (l' := #[.val (.ref nm), .val (.ref e0), .val (.ref r), .val (.int (2 : Int32)), .val (.int (0 : Int32)), .val (.ref e0)]) rfl q9_) ?_
    show Go p e below s Z [("java/lang/String", 7)] _ _ _ (T687.setTop (mkF m 39 #[.val (.ref nm), .val (.ref e0), .val (.ref r), .val (.int (2 : Int32)), .val (.int (0 : Int32)), .val (.ref e0)] []))
    refine Go.by (fun t9_ q9_ => XS.iinc W688.here W688.hx rfl (hb hby dc_prog_7_method_6_code_39) rfl (l' := #[.val (.ref nm), .val (.ref e0), .val (.ref r), .val (.int (2 : Int32)), .val (.int ((0 : Int32) + (1 : Int32))), .val (.ref e0)]) rfl q9_) ?_
    show Go p e below s Z [("java/lang/String", 7)] _ _ _ (T687.setTop (mkF m 42 #[.val (.ref nm), .val (.ref e0), .val (.ref r), .val (.int (2 : Int32)), .val (.int ((0 : Int32) + (1 : Int32))), .val (.ref e0)] []))
    show Go p e below s Z [("java/lang/String", 7)] _ _ _ (T687.setTop (mkF m 42 #[.val (.ref nm), .val (.ref e0), .val (.ref r), .val (.int (2 : Int32)), .val (.int (1 : Int32)), .val (.ref e0)] []))
    refine Go.by (fun t9_ q9_ => XS.goto W688.here W688.hx rfl (pc0 := 42) (pc' := 12) rfl (hb hby dc_prog_7_method_6_code_42) (by decide) (by decide) q9_) ?_
    show Go p e below s Z [("java/lang/String", 7)] _ _ _ (T687.setTop (mkF m 12 #[.val (.ref nm), .val (.ref e0), .val (.ref r), .val (.int (2 : Int32)), .val (.int (1 : Int32)), .val (.ref e0)] []))
    refine Go.by (fun t9_ q9_ => XS.iload W688.here W688.hx rfl (hb hby dc_prog_7_method_6_code_12) rfl q9_) ?_
    show Go p e below s Z [("java/lang/String", 7)] _ _ _ (T687.setTop (mkF m 14 #[.val (.ref nm), .val (.ref e0), .val (.ref r), .val (.int (2 : Int32)), .val (.int (1 : Int32)), .val (.ref e0)] [(.int (1 : Int32))]))
    refine Go.by (fun t9_ q9_ => XS.iloadN W688.here W688.hx rfl (hb hby dc_prog_7_method_6_code_14) rfl q9_) ?_
    show Go p e below s Z [("java/lang/String", 7)] _ _ _ (T687.setTop (mkF m 15 #[.val (.ref nm), .val (.ref e0), .val (.ref r), .val (.int (2 : Int32)), .val (.int (1 : Int32)), .val (.ref e0)] [(.int (2 : Int32)), (.int (1 : Int32))]))
    refine Go.by (fun t9_ q9_ => XS.icmpNo W688.here W688.hx rfl (hb hby dc_prog_7_method_6_code_15) rfl (tlt (by decide)).2.1 q9_) ?_
    show Go p e below s Z [("java/lang/String", 7)] _ _ _ (T687.setTop (mkF m 18 #[.val (.ref nm), .val (.ref e0), .val (.ref r), .val (.int (2 : Int32)), .val (.int (1 : Int32)), .val (.ref e0)] []))
    refine Go.by (fun t9_ q9_ => XS.aloadN W688.here W688.hx rfl (hb hby dc_prog_7_method_6_code_18) rfl rfl q9_) ?_
    show Go p e below s Z [("java/lang/String", 7)] _ _ _ (T687.setTop (mkF m 19 #[.val (.ref nm), .val (.ref e0), .val (.ref r), .val (.int (2 : Int32)), .val (.int (1 : Int32)), .val (.ref e0)] [(.ref r)]))
    refine Go.by (fun t9_ q9_ => XS.iload W688.here W688.hx rfl (hb hby dc_prog_7_method_6_code_19) rfl q9_) ?_
    show Go p e below s Z [("java/lang/String", 7)] _ _ _ (T687.setTop (mkF m 21 #[.val (.ref nm), .val (.ref e0), .val (.ref r), .val (.int (2 : Int32)), .val (.int (1 : Int32)), .val (.ref e0)] [(.int (1 : Int32)), (.ref r)]))
    refine W688.aald A_r rfl ⟨by decide, by decide⟩ (v := (.ref e1)) rfl (hb hby dc_prog_7_method_6_code_21) ?_
    show Go p e below s Z [("java/lang/String", 7)] _ _ _ (T687.setTop (mkF m 22 #[.val (.ref nm), .val (.ref e0), .val (.ref r), .val (.int (2 : Int32)), .val (.int (1 : Int32)), .val (.ref e0)] [(.ref e1)]))
    refine Go.by (fun t9_ q9_ => XS.astore W688.here W688.hx rfl (hb hby dc_prog_7_method_6_code_22) rfl rfl (l' := #[.val (.ref nm), .val (.ref e0), .val (.ref r), .val (.int (2 : Int32)), .val (.int (1 : Int32)), .val (.ref e1)]) rfl q9_) ?_
    show Go p e below s Z [("java/lang/String", 7)] _ _ _ (T687.setTop (mkF m 24 #[.val (.ref nm), .val (.ref e0), .val (.ref r), .val (.int (2 : Int32)), .val (.int (1 : Int32)), .val (.ref e1)] []))
    refine Go.by (fun t9_ q9_ => XS.aload W688.here W688.hx rfl (hb hby dc_prog_7_method_6_code_24) rfl rfl q9_) ?_
    show Go p e below s Z [("java/lang/String", 7)] _ _ _ (T687.setTop (mkF m 26 #[.val (.ref nm), .val (.ref e0), .val (.ref r), .val (.int (2 : Int32)), .val (.int (1 : Int32)), .val (.ref e1)] [(.ref e1)]))
    refine W688.getf (host := "") (Or.inl (wd56 hw)) Via.refl (FW1.ext W688.old) (hb hby dc_prog_7_method_6_code_26) ?_
    intro T689 W690
    show Go p e below s Z [("java/lang/String", 7)] _ _ _ (T689.setTop (mkF m 29 #[.val (.ref nm), .val (.ref e0), .val (.ref r), .val (.int (2 : Int32)), .val (.int (1 : Int32)), .val (.ref e1)] [(.ref t1)]))
    refine Go.by (fun t9_ q9_ => XS.aloadN W690.here W690.hx rfl (hb hby dc_prog_7_method_6_code_29) rfl rfl q9_) ?_
    show Go p e below s Z [("java/lang/String", 7)] _ _ _ (T689.setTop (mkF m 30 #[.val (.ref nm), .val (.ref e0), .val (.ref r), .val (.int (2 : Int32)), .val (.int (1 : Int32)), .val (.ref e1)] [(.ref nm), (.ref t1)]))
    refine W690.strEq (k_eq hw) (wd9 hw) (wd58 hw) (wd59 hw) (wd61 hw) (wd60 hw) (S1.ext W690.old) (SN.ext X1) (by decide) ln (SG1.ext W690.old) hG (by decide) (Wt := 0) (by decide) (by rw [hml]; rfl) (Nat.le_of_eq rfl) (by decide) (by decide) (hb hby dc_prog_7_method_6_code_30) ?_
    intro T691 rr1 W692 hrr1
    show Go p e below s Z [("java/lang/String", 7)] _ _ _ (T691.setTop (mkF m 33 #[.val (.ref nm), .val (.ref e0), .val (.ref r), .val (.int (2 : Int32)), .val (.int (1 : Int32)), .val (.ref e1)] [(.int rr1)]))
    by_cases q1 : cs = CNTs
    · refine Go.by (fun t9_ q9_ => XS.ifNo W692.here W692.hx rfl (hb hby dc_prog_7_method_6_code_33) rfl ((if0 _ _).trans (feq (by rw [hrr1, if_pos q1.symm]; decide)).1) q9_) ?_
      show Go p e below s Z [("java/lang/String", 7)] _ _ _ (T691.setTop (mkF m 36 #[.val (.ref nm), .val (.ref e0), .val (.ref r), .val (.int (2 : Int32)), .val (.int (1 : Int32)), .val (.ref e1)] []))
      refine Go.by (fun t9_ q9_ => XS.aload W692.here W692.hx rfl (hb hby dc_prog_7_method_6_code_36) rfl rfl q9_) ?_
      show Go p e below s Z [("java/lang/String", 7)] _ _ _ (T691.setTop (mkF m 38 #[.val (.ref nm), .val (.ref e0), .val (.ref r), .val (.int (2 : Int32)), .val (.int (1 : Int32)), .val (.ref e1)] [(.ref e1)]))
      refine Go.by (fun t9_ q9_ => XS.astoreN W692.here W692.hx rfl (hb hby dc_prog_7_method_6_code_38) rfl rfl (l' := #[.val (.ref nm), .val (.ref e1), .val (.ref r), .val (.int (2 : Int32)), .val (.int (1 : Int32)), .val (.ref e1)]) rfl q9_) ?_
      show Go p e below s Z [("java/lang/String", 7)] _ _ _ (T691.setTop (mkF m 39 #[.val (.ref nm), .val (.ref e1), .val (.ref r), .val (.int (2 : Int32)), .val (.int (1 : Int32)), .val (.ref e1)] []))
      refine Go.by (fun t9_ q9_ => XS.iinc W692.here W692.hx rfl (hb hby dc_prog_7_method_6_code_39) rfl (l' := #[.val (.ref nm), .val (.ref e1), .val (.ref r), .val (.int (2 : Int32)), .val (.int ((1 : Int32) + (1 : Int32))), .val (.ref e1)]) rfl q9_) ?_
      show Go p e below s Z [("java/lang/String", 7)] _ _ _ (T691.setTop (mkF m 42 #[.val (.ref nm), .val (.ref e1), .val (.ref r), .val (.int (2 : Int32)), .val (.int ((1 : Int32) + (1 : Int32))), .val (.ref e1)] []))
      show Go p e below s Z [("java/lang/String", 7)] _ _ _ (T691.setTop (mkF m 42 #[.val (.ref nm), .val (.ref e1), .val (.ref r), .val (.int (2 : Int32)), .val (.int (2 : Int32)), .val (.ref e1)] []))
      refine Go.by (fun t9_ q9_ => XS.goto W692.here W692.hx rfl (pc0 := 42) (pc' := 12) rfl (hb hby dc_prog_7_method_6_code_42) (by decide) (by decide) q9_) ?_
      show Go p e below s Z [("java/lang/String", 7)] _ _ _ (T691.setTop (mkF m 12 #[.val (.ref nm), .val (.ref e1), .val (.ref r), .val (.int (2 : Int32)), .val (.int (2 : Int32)), .val (.ref e1)] []))
      refine Go.by (fun t9_ q9_ => XS.iload W692.here W692.hx rfl (hb hby dc_prog_7_method_6_code_12) rfl q9_) ?_
      show Go p e below s Z [("java/lang/String", 7)] _ _ _ (T691.setTop (mkF m 14 #[.val (.ref nm), .val (.ref e1), .val (.ref r), .val (.int (2 : Int32)), .val (.int (2 : Int32)), .val (.ref e1)] [(.int (2 : Int32))]))
      refine Go.by (fun t9_ q9_ => XS.iloadN W692.here W692.hx rfl (hb hby dc_prog_7_method_6_code_14) rfl q9_) ?_
      show Go p e below s Z [("java/lang/String", 7)] _ _ _ (T691.setTop (mkF m 15 #[.val (.ref nm), .val (.ref e1), .val (.ref r), .val (.int (2 : Int32)), .val (.int (2 : Int32)), .val (.ref e1)] [(.int (2 : Int32)), (.int (2 : Int32))]))
      refine Go.by (fun t9_ q9_ => XS.icmpYes W692.here W692.hx rfl (pc0 := 15) (pc' := 45) rfl (hb hby dc_prog_7_method_6_code_15) rfl (flt (by decide)).2.1 (by decide) (by decide) q9_) ?_
      show Go p e below s Z [("java/lang/String", 7)] _ _ _ (T691.setTop (mkF m 45 #[.val (.ref nm), .val (.ref e1), .val (.ref r), .val (.int (2 : Int32)), .val (.int (2 : Int32)), .val (.ref e1)] []))
      refine Go.by (fun t9_ q9_ => XS.aloadN W692.here W692.hx rfl (hb hby dc_prog_7_method_6_code_45) rfl rfl q9_) ?_
      show Go p e below s Z [("java/lang/String", 7)] _ _ _ (T691.setTop (mkF m 46 #[.val (.ref nm), .val (.ref e1), .val (.ref r), .val (.int (2 : Int32)), .val (.int (2 : Int32)), .val (.ref e1)] [(.ref e1)]))
      refine W692.callS (y := (⟨"java/util/Optional", "ofNullable", "(Ljava/lang/Object;)Ljava/util/Optional;"⟩ : MethodName)) (wd68 hw) (wd69 hw) (wd70 hw) (wd71 hw) (by decide) (c_ofref l Z a0 hw hEL h684 W692.old e1) all0 (by decide) (by decide) (k' := 2) (n' := 3) rfl rfl (by decide) (by decide) (by rw [hml]; rfl) (argsL := [(.ref e1)]) (rest := []) (lenOf pd_3 rfl) rfl rfl (Wt := 0) (Nat.le_of_eq rfl) (hb hby dc_prog_7_method_6_code_46) ?_
      intro v_ T693 h695 W694 hq_
      obtain ⟨ro, rfl, X2, E2, F2⟩ := hq_
      show Go p e below s Z [("java/lang/String", 7)] _ _ _ (T693.setTop (mkF m 49 #[.val (.ref nm), .val (.ref e1), .val (.ref r), .val (.int (2 : Int32)), .val (.int (2 : Int32)), .val (.ref e1)] [(.ref ro)]))
      have X696 : Ext h0 h695 := (Ext.trans' X1 X2)
      exact W694.retA (by decide) (by decide) hret rfl rfl (hb hby dc_prog_7_method_6_code_49) ⟨ro, rfl, X696, E2, by unfold namF; rw [if_pos q1]; exact F2⟩
    · refine Go.by (fun t9_ q9_ => XS.ifYes W692.here W692.hx rfl (pc0 := 33) (pc' := 39) rfl (hb hby dc_prog_7_method_6_code_33) rfl ((if0 _ _).trans (teq (by rw [hrr1, if_neg (fun z => q1 z.symm)])).1) (by decide) (by decide) q9_) ?_
      show Go p e below s Z [("java/lang/String", 7)] _ _ _ (T691.setTop (mkF m 39 #[.val (.ref nm), .val (.ref e0), .val (.ref r), .val (.int (2 : Int32)), .val (.int (1 : Int32)), .val (.ref e1)] []))
      refine Go.by (fun t9_ q9_ => XS.iinc W692.here W692.hx rfl (hb hby dc_prog_7_method_6_code_39) rfl (l' := #[.val (.ref nm), .val (.ref e0), .val (.ref r), .val (.int (2 : Int32)), .val (.int ((1 : Int32) + (1 : Int32))), .val (.ref e1)]) rfl q9_) ?_
      show Go p e below s Z [("java/lang/String", 7)] _ _ _ (T691.setTop (mkF m 42 #[.val (.ref nm), .val (.ref e0), .val (.ref r), .val (.int (2 : Int32)), .val (.int ((1 : Int32) + (1 : Int32))), .val (.ref e1)] []))
      show Go p e below s Z [("java/lang/String", 7)] _ _ _ (T691.setTop (mkF m 42 #[.val (.ref nm), .val (.ref e0), .val (.ref r), .val (.int (2 : Int32)), .val (.int (2 : Int32)), .val (.ref e1)] []))
      refine Go.by (fun t9_ q9_ => XS.goto W692.here W692.hx rfl (pc0 := 42) (pc' := 12) rfl (hb hby dc_prog_7_method_6_code_42) (by decide) (by decide) q9_) ?_
      show Go p e below s Z [("java/lang/String", 7)] _ _ _ (T691.setTop (mkF m 12 #[.val (.ref nm), .val (.ref e0), .val (.ref r), .val (.int (2 : Int32)), .val (.int (2 : Int32)), .val (.ref e1)] []))
      refine Go.by (fun t9_ q9_ => XS.iload W692.here W692.hx rfl (hb hby dc_prog_7_method_6_code_12) rfl q9_) ?_
      show Go p e below s Z [("java/lang/String", 7)] _ _ _ (T691.setTop (mkF m 14 #[.val (.ref nm), .val (.ref e0), .val (.ref r), .val (.int (2 : Int32)), .val (.int (2 : Int32)), .val (.ref e1)] [(.int (2 : Int32))]))
      refine Go.by (fun t9_ q9_ => XS.iloadN W692.here W692.hx rfl (hb hby dc_prog_7_method_6_code_14) rfl q9_) ?_
      show Go p e below s Z [("java/lang/String", 7)] _ _ _ (T691.setTop (mkF m 15 #[.val (.ref nm), .val (.ref e0), .val (.ref r), .val (.int (2 : Int32)), .val (.int (2 : Int32)), .val (.ref e1)] [(.int (2 : Int32)), (.int (2 : Int32))]))
      refine Go.by (fun t9_ q9_ => XS.icmpYes W692.here W692.hx rfl (pc0 := 15) (pc' := 45) rfl (hb hby dc_prog_7_method_6_code_15) rfl (flt (by decide)).2.1 (by decide) (by decide) q9_) ?_
      show Go p e below s Z [("java/lang/String", 7)] _ _ _ (T691.setTop (mkF m 45 #[.val (.ref nm), .val (.ref e0), .val (.ref r), .val (.int (2 : Int32)), .val (.int (2 : Int32)), .val (.ref e1)] []))
      refine Go.by (fun t9_ q9_ => XS.aloadN W692.here W692.hx rfl (hb hby dc_prog_7_method_6_code_45) rfl rfl q9_) ?_
      show Go p e below s Z [("java/lang/String", 7)] _ _ _ (T691.setTop (mkF m 46 #[.val (.ref nm), .val (.ref e0), .val (.ref r), .val (.int (2 : Int32)), .val (.int (2 : Int32)), .val (.ref e1)] [(.ref e0)]))
      refine W692.callS (y := (⟨"java/util/Optional", "ofNullable", "(Ljava/lang/Object;)Ljava/util/Optional;"⟩ : MethodName)) (wd68 hw) (wd69 hw) (wd70 hw) (wd71 hw) (by decide) (c_ofref l Z a0 hw hEL h684 W692.old e0) all0 (by decide) (by decide) (k' := 2) (n' := 3) rfl rfl (by decide) (by decide) (by rw [hml]; rfl) (argsL := [(.ref e0)]) (rest := []) (lenOf pd_3 rfl) rfl rfl (Wt := 0) (Nat.le_of_eq rfl) (hb hby dc_prog_7_method_6_code_46) ?_
      intro v_ T697 h699 W698 hq_
      obtain ⟨ro, rfl, X2, E2, F2⟩ := hq_
      show Go p e below s Z [("java/lang/String", 7)] _ _ _ (T697.setTop (mkF m 49 #[.val (.ref nm), .val (.ref e0), .val (.ref r), .val (.int (2 : Int32)), .val (.int (2 : Int32)), .val (.ref e1)] [(.ref ro)]))
      have X700 : Ext h0 h699 := (Ext.trans' X1 X2)
      exact W698.retA (by decide) (by decide) hret rfl rfl (hb hby dc_prog_7_method_6_code_49) ⟨ro, rfl, X700, E2, by unfold namF; rw [if_neg q1, if_pos q0]; exact F2⟩
  · refine Go.by (fun t9_ q9_ => XS.ifYes W688.here W688.hx rfl (pc0 := 33) (pc' := 39) rfl (hb hby dc_prog_7_method_6_code_33) rfl ((if0 _ _).trans (teq (by rw [hrr0, if_neg (fun z => q0 z.symm)])).1) (by decide) (by decide) q9_) ?_
    show Go p e below s Z [("java/lang/String", 7)] _ _ _ (T687.setTop (mkF m 39 #[.val (.ref nm), .val .null, .val (.ref r), .val (.int (2 : Int32)), .val (.int (0 : Int32)), .val (.ref e0)] []))
    refine Go.by (fun t9_ q9_ => XS.iinc W688.here W688.hx rfl (hb hby dc_prog_7_method_6_code_39) rfl (l' := #[.val (.ref nm), .val .null, .val (.ref r), .val (.int (2 : Int32)), .val (.int ((0 : Int32) + (1 : Int32))), .val (.ref e0)]) rfl q9_) ?_
    show Go p e below s Z [("java/lang/String", 7)] _ _ _ (T687.setTop (mkF m 42 #[.val (.ref nm), .val .null, .val (.ref r), .val (.int (2 : Int32)), .val (.int ((0 : Int32) + (1 : Int32))), .val (.ref e0)] []))
    show Go p e below s Z [("java/lang/String", 7)] _ _ _ (T687.setTop (mkF m 42 #[.val (.ref nm), .val .null, .val (.ref r), .val (.int (2 : Int32)), .val (.int (1 : Int32)), .val (.ref e0)] []))
    refine Go.by (fun t9_ q9_ => XS.goto W688.here W688.hx rfl (pc0 := 42) (pc' := 12) rfl (hb hby dc_prog_7_method_6_code_42) (by decide) (by decide) q9_) ?_
    show Go p e below s Z [("java/lang/String", 7)] _ _ _ (T687.setTop (mkF m 12 #[.val (.ref nm), .val .null, .val (.ref r), .val (.int (2 : Int32)), .val (.int (1 : Int32)), .val (.ref e0)] []))
    refine Go.by (fun t9_ q9_ => XS.iload W688.here W688.hx rfl (hb hby dc_prog_7_method_6_code_12) rfl q9_) ?_
    show Go p e below s Z [("java/lang/String", 7)] _ _ _ (T687.setTop (mkF m 14 #[.val (.ref nm), .val .null, .val (.ref r), .val (.int (2 : Int32)), .val (.int (1 : Int32)), .val (.ref e0)] [(.int (1 : Int32))]))
    refine Go.by (fun t9_ q9_ => XS.iloadN W688.here W688.hx rfl (hb hby dc_prog_7_method_6_code_14) rfl q9_) ?_
    show Go p e below s Z [("java/lang/String", 7)] _ _ _ (T687.setTop (mkF m 15 #[.val (.ref nm), .val .null, .val (.ref r), .val (.int (2 : Int32)), .val (.int (1 : Int32)), .val (.ref e0)] [(.int (2 : Int32)), (.int (1 : Int32))]))
    refine Go.by (fun t9_ q9_ => XS.icmpNo W688.here W688.hx rfl (hb hby dc_prog_7_method_6_code_15) rfl (tlt (by decide)).2.1 q9_) ?_
    show Go p e below s Z [("java/lang/String", 7)] _ _ _ (T687.setTop (mkF m 18 #[.val (.ref nm), .val .null, .val (.ref r), .val (.int (2 : Int32)), .val (.int (1 : Int32)), .val (.ref e0)] []))
    refine Go.by (fun t9_ q9_ => XS.aloadN W688.here W688.hx rfl (hb hby dc_prog_7_method_6_code_18) rfl rfl q9_) ?_
    show Go p e below s Z [("java/lang/String", 7)] _ _ _ (T687.setTop (mkF m 19 #[.val (.ref nm), .val .null, .val (.ref r), .val (.int (2 : Int32)), .val (.int (1 : Int32)), .val (.ref e0)] [(.ref r)]))
    refine Go.by (fun t9_ q9_ => XS.iload W688.here W688.hx rfl (hb hby dc_prog_7_method_6_code_19) rfl q9_) ?_
    show Go p e below s Z [("java/lang/String", 7)] _ _ _ (T687.setTop (mkF m 21 #[.val (.ref nm), .val .null, .val (.ref r), .val (.int (2 : Int32)), .val (.int (1 : Int32)), .val (.ref e0)] [(.int (1 : Int32)), (.ref r)]))
    refine W688.aald A_r rfl ⟨by decide, by decide⟩ (v := (.ref e1)) rfl (hb hby dc_prog_7_method_6_code_21) ?_
    show Go p e below s Z [("java/lang/String", 7)] _ _ _ (T687.setTop (mkF m 22 #[.val (.ref nm), .val .null, .val (.ref r), .val (.int (2 : Int32)), .val (.int (1 : Int32)), .val (.ref e0)] [(.ref e1)]))
    refine Go.by (fun t9_ q9_ => XS.astore W688.here W688.hx rfl (hb hby dc_prog_7_method_6_code_22) rfl rfl (l' := #[.val (.ref nm), .val .null, .val (.ref r), .val (.int (2 : Int32)), .val (.int (1 : Int32)), .val (.ref e1)]) rfl q9_) ?_
    show Go p e below s Z [("java/lang/String", 7)] _ _ _ (T687.setTop (mkF m 24 #[.val (.ref nm), .val .null, .val (.ref r), .val (.int (2 : Int32)), .val (.int (1 : Int32)), .val (.ref e1)] []))
    refine Go.by (fun t9_ q9_ => XS.aload W688.here W688.hx rfl (hb hby dc_prog_7_method_6_code_24) rfl rfl q9_) ?_
    show Go p e below s Z [("java/lang/String", 7)] _ _ _ (T687.setTop (mkF m 26 #[.val (.ref nm), .val .null, .val (.ref r), .val (.int (2 : Int32)), .val (.int (1 : Int32)), .val (.ref e1)] [(.ref e1)]))
    refine W688.getf (host := "") (Or.inl (wd56 hw)) Via.refl (FW1.ext W688.old) (hb hby dc_prog_7_method_6_code_26) ?_
    intro T701 W702
    show Go p e below s Z [("java/lang/String", 7)] _ _ _ (T701.setTop (mkF m 29 #[.val (.ref nm), .val .null, .val (.ref r), .val (.int (2 : Int32)), .val (.int (1 : Int32)), .val (.ref e1)] [(.ref t1)]))
    refine Go.by (fun t9_ q9_ => XS.aloadN W702.here W702.hx rfl (hb hby dc_prog_7_method_6_code_29) rfl rfl q9_) ?_
    show Go p e below s Z [("java/lang/String", 7)] _ _ _ (T701.setTop (mkF m 30 #[.val (.ref nm), .val .null, .val (.ref r), .val (.int (2 : Int32)), .val (.int (1 : Int32)), .val (.ref e1)] [(.ref nm), (.ref t1)]))
    refine W702.strEq (k_eq hw) (wd9 hw) (wd58 hw) (wd59 hw) (wd61 hw) (wd60 hw) (S1.ext W702.old) (SN.ext X1) (by decide) ln (SG1.ext W702.old) hG (by decide) (Wt := 0) (by decide) (by rw [hml]; rfl) (Nat.le_of_eq rfl) (by decide) (by decide) (hb hby dc_prog_7_method_6_code_30) ?_
    intro T703 rr1 W704 hrr1
    show Go p e below s Z [("java/lang/String", 7)] _ _ _ (T703.setTop (mkF m 33 #[.val (.ref nm), .val .null, .val (.ref r), .val (.int (2 : Int32)), .val (.int (1 : Int32)), .val (.ref e1)] [(.int rr1)]))
    by_cases q1 : cs = CNTs
    · refine Go.by (fun t9_ q9_ => XS.ifNo W704.here W704.hx rfl (hb hby dc_prog_7_method_6_code_33) rfl ((if0 _ _).trans (feq (by rw [hrr1, if_pos q1.symm]; decide)).1) q9_) ?_
      show Go p e below s Z [("java/lang/String", 7)] _ _ _ (T703.setTop (mkF m 36 #[.val (.ref nm), .val .null, .val (.ref r), .val (.int (2 : Int32)), .val (.int (1 : Int32)), .val (.ref e1)] []))
      refine Go.by (fun t9_ q9_ => XS.aload W704.here W704.hx rfl (hb hby dc_prog_7_method_6_code_36) rfl rfl q9_) ?_
      show Go p e below s Z [("java/lang/String", 7)] _ _ _ (T703.setTop (mkF m 38 #[.val (.ref nm), .val .null, .val (.ref r), .val (.int (2 : Int32)), .val (.int (1 : Int32)), .val (.ref e1)] [(.ref e1)]))
      refine Go.by (fun t9_ q9_ => XS.astoreN W704.here W704.hx rfl (hb hby dc_prog_7_method_6_code_38) rfl rfl (l' := #[.val (.ref nm), .val (.ref e1), .val (.ref r), .val (.int (2 : Int32)), .val (.int (1 : Int32)), .val (.ref e1)]) rfl q9_) ?_
      show Go p e below s Z [("java/lang/String", 7)] _ _ _ (T703.setTop (mkF m 39 #[.val (.ref nm), .val (.ref e1), .val (.ref r), .val (.int (2 : Int32)), .val (.int (1 : Int32)), .val (.ref e1)] []))
      refine Go.by (fun t9_ q9_ => XS.iinc W704.here W704.hx rfl (hb hby dc_prog_7_method_6_code_39) rfl (l' := #[.val (.ref nm), .val (.ref e1), .val (.ref r), .val (.int (2 : Int32)), .val (.int ((1 : Int32) + (1 : Int32))), .val (.ref e1)]) rfl q9_) ?_
      show Go p e below s Z [("java/lang/String", 7)] _ _ _ (T703.setTop (mkF m 42 #[.val (.ref nm), .val (.ref e1), .val (.ref r), .val (.int (2 : Int32)), .val (.int ((1 : Int32) + (1 : Int32))), .val (.ref e1)] []))
      show Go p e below s Z [("java/lang/String", 7)] _ _ _ (T703.setTop (mkF m 42 #[.val (.ref nm), .val (.ref e1), .val (.ref r), .val (.int (2 : Int32)), .val (.int (2 : Int32)), .val (.ref e1)] []))
      refine Go.by (fun t9_ q9_ => XS.goto W704.here W704.hx rfl (pc0 := 42) (pc' := 12) rfl (hb hby dc_prog_7_method_6_code_42) (by decide) (by decide) q9_) ?_
      show Go p e below s Z [("java/lang/String", 7)] _ _ _ (T703.setTop (mkF m 12 #[.val (.ref nm), .val (.ref e1), .val (.ref r), .val (.int (2 : Int32)), .val (.int (2 : Int32)), .val (.ref e1)] []))
      refine Go.by (fun t9_ q9_ => XS.iload W704.here W704.hx rfl (hb hby dc_prog_7_method_6_code_12) rfl q9_) ?_
      show Go p e below s Z [("java/lang/String", 7)] _ _ _ (T703.setTop (mkF m 14 #[.val (.ref nm), .val (.ref e1), .val (.ref r), .val (.int (2 : Int32)), .val (.int (2 : Int32)), .val (.ref e1)] [(.int (2 : Int32))]))
      refine Go.by (fun t9_ q9_ => XS.iloadN W704.here W704.hx rfl (hb hby dc_prog_7_method_6_code_14) rfl q9_) ?_
      show Go p e below s Z [("java/lang/String", 7)] _ _ _ (T703.setTop (mkF m 15 #[.val (.ref nm), .val (.ref e1), .val (.ref r), .val (.int (2 : Int32)), .val (.int (2 : Int32)), .val (.ref e1)] [(.int (2 : Int32)), (.int (2 : Int32))]))
      refine Go.by (fun t9_ q9_ => XS.icmpYes W704.here W704.hx rfl (pc0 := 15) (pc' := 45) rfl (hb hby dc_prog_7_method_6_code_15) rfl (flt (by decide)).2.1 (by decide) (by decide) q9_) ?_
      show Go p e below s Z [("java/lang/String", 7)] _ _ _ (T703.setTop (mkF m 45 #[.val (.ref nm), .val (.ref e1), .val (.ref r), .val (.int (2 : Int32)), .val (.int (2 : Int32)), .val (.ref e1)] []))
      refine Go.by (fun t9_ q9_ => XS.aloadN W704.here W704.hx rfl (hb hby dc_prog_7_method_6_code_45) rfl rfl q9_) ?_
      show Go p e below s Z [("java/lang/String", 7)] _ _ _ (T703.setTop (mkF m 46 #[.val (.ref nm), .val (.ref e1), .val (.ref r), .val (.int (2 : Int32)), .val (.int (2 : Int32)), .val (.ref e1)] [(.ref e1)]))
      refine W704.callS (y := (⟨"java/util/Optional", "ofNullable", "(Ljava/lang/Object;)Ljava/util/Optional;"⟩ : MethodName)) (wd68 hw) (wd69 hw) (wd70 hw) (wd71 hw) (by decide) (c_ofref l Z a0 hw hEL h684 W704.old e1) all0 (by decide) (by decide) (k' := 2) (n' := 3) rfl rfl (by decide) (by decide) (by rw [hml]; rfl) (argsL := [(.ref e1)]) (rest := []) (lenOf pd_3 rfl) rfl rfl (Wt := 0) (Nat.le_of_eq rfl) (hb hby dc_prog_7_method_6_code_46) ?_
      intro v_ T705 h707 W706 hq_
      obtain ⟨ro, rfl, X2, E2, F2⟩ := hq_
      show Go p e below s Z [("java/lang/String", 7)] _ _ _ (T705.setTop (mkF m 49 #[.val (.ref nm), .val (.ref e1), .val (.ref r), .val (.int (2 : Int32)), .val (.int (2 : Int32)), .val (.ref e1)] [(.ref ro)]))
      have X708 : Ext h0 h707 := (Ext.trans' X1 X2)
      exact W706.retA (by decide) (by decide) hret rfl rfl (hb hby dc_prog_7_method_6_code_49) ⟨ro, rfl, X708, E2, by unfold namF; rw [if_pos q1]; exact F2⟩
    · refine Go.by (fun t9_ q9_ => XS.ifYes W704.here W704.hx rfl (pc0 := 33) (pc' := 39) rfl (hb hby dc_prog_7_method_6_code_33) rfl ((if0 _ _).trans (teq (by rw [hrr1, if_neg (fun z => q1 z.symm)])).1) (by decide) (by decide) q9_) ?_
      show Go p e below s Z [("java/lang/String", 7)] _ _ _ (T703.setTop (mkF m 39 #[.val (.ref nm), .val .null, .val (.ref r), .val (.int (2 : Int32)), .val (.int (1 : Int32)), .val (.ref e1)] []))
      refine Go.by (fun t9_ q9_ => XS.iinc W704.here W704.hx rfl (hb hby dc_prog_7_method_6_code_39) rfl (l' := #[.val (.ref nm), .val .null, .val (.ref r), .val (.int (2 : Int32)), .val (.int ((1 : Int32) + (1 : Int32))), .val (.ref e1)]) rfl q9_) ?_
      show Go p e below s Z [("java/lang/String", 7)] _ _ _ (T703.setTop (mkF m 42 #[.val (.ref nm), .val .null, .val (.ref r), .val (.int (2 : Int32)), .val (.int ((1 : Int32) + (1 : Int32))), .val (.ref e1)] []))
      show Go p e below s Z [("java/lang/String", 7)] _ _ _ (T703.setTop (mkF m 42 #[.val (.ref nm), .val .null, .val (.ref r), .val (.int (2 : Int32)), .val (.int (2 : Int32)), .val (.ref e1)] []))
      refine Go.by (fun t9_ q9_ => XS.goto W704.here W704.hx rfl (pc0 := 42) (pc' := 12) rfl (hb hby dc_prog_7_method_6_code_42) (by decide) (by decide) q9_) ?_
      show Go p e below s Z [("java/lang/String", 7)] _ _ _ (T703.setTop (mkF m 12 #[.val (.ref nm), .val .null, .val (.ref r), .val (.int (2 : Int32)), .val (.int (2 : Int32)), .val (.ref e1)] []))
      refine Go.by (fun t9_ q9_ => XS.iload W704.here W704.hx rfl (hb hby dc_prog_7_method_6_code_12) rfl q9_) ?_
      show Go p e below s Z [("java/lang/String", 7)] _ _ _ (T703.setTop (mkF m 14 #[.val (.ref nm), .val .null, .val (.ref r), .val (.int (2 : Int32)), .val (.int (2 : Int32)), .val (.ref e1)] [(.int (2 : Int32))]))
      refine Go.by (fun t9_ q9_ => XS.iloadN W704.here W704.hx rfl (hb hby dc_prog_7_method_6_code_14) rfl q9_) ?_
      show Go p e below s Z [("java/lang/String", 7)] _ _ _ (T703.setTop (mkF m 15 #[.val (.ref nm), .val .null, .val (.ref r), .val (.int (2 : Int32)), .val (.int (2 : Int32)), .val (.ref e1)] [(.int (2 : Int32)), (.int (2 : Int32))]))
      refine Go.by (fun t9_ q9_ => XS.icmpYes W704.here W704.hx rfl (pc0 := 15) (pc' := 45) rfl (hb hby dc_prog_7_method_6_code_15) rfl (flt (by decide)).2.1 (by decide) (by decide) q9_) ?_
      show Go p e below s Z [("java/lang/String", 7)] _ _ _ (T703.setTop (mkF m 45 #[.val (.ref nm), .val .null, .val (.ref r), .val (.int (2 : Int32)), .val (.int (2 : Int32)), .val (.ref e1)] []))
      refine Go.by (fun t9_ q9_ => XS.aloadN W704.here W704.hx rfl (hb hby dc_prog_7_method_6_code_45) rfl rfl q9_) ?_
      show Go p e below s Z [("java/lang/String", 7)] _ _ _ (T703.setTop (mkF m 46 #[.val (.ref nm), .val .null, .val (.ref r), .val (.int (2 : Int32)), .val (.int (2 : Int32)), .val (.ref e1)] [.null]))
      refine W704.callSp (y := (⟨"java/util/Optional", "ofNullable", "(Ljava/lang/Object;)Ljava/util/Optional;"⟩ : MethodName)) (wd68 hw) (wd69 hw) (wd70 hw) (wd71 hw) (by decide) (c_ofnull l Z a0 hw hEL h684 W704.old em SE) all0 (by decide) (by decide) (k' := 1) (n' := 2) rfl rfl (by decide) (by decide) (by rw [hml]; rfl) (argsL := [.null]) (rest := []) (lenOf pd_3 rfl) rfl rfl (Wt := 0) (Nat.le_of_eq rfl) (hb hby dc_prog_7_method_6_code_46) ?_
      intro T709 W710
      show Go p e below s Z [("java/lang/String", 7)] _ _ _ (T709.setTop (mkF m 49 #[.val (.ref nm), .val .null, .val (.ref r), .val (.int (2 : Int32)), .val (.int (2 : Int32)), .val (.ref e1)] [(.ref em)]))
      exact W710.retA (by decide) (by decide) hret rfl rfl (hb hby dc_prog_7_method_6_code_49) ⟨em, rfl, X1, (EE.ext W710.old), by unfold namF; rw [if_neg q1, if_neg q0]; exact (FE.ext W710.old)⟩
set_option maxRecDepth 65536 in
set_option maxHeartbeats 40000000 in
theorem c_law (l : Launch) (Z : State) (a0 : Array Value) (hw : ∀ d ∈ tables_1, d.before a0 Z = true) (hEL : EW Z a0 [("java/lang/String", 7)]) (h0 : Heap) (hE0 : Ext Z.heap h0) (p0 p1 p2 p3 : Int32) (G1 : Int32) (av e0 e1 t0 t1 em : Addr) (kv : ClassId) (SG1 : Sta Z Z.heap "java/lang/String" "COMPACT_STRINGS" "Z" (.int G1)) (hG : ¬ G1 = 0) (SV : Sta Z Z.heap "com/example/proof_to_token/prooftotoken/config/Sociability" "$VALUES" "[Lcom/example/proof_to_token/prooftotoken/config/Sociability;" (.ref av)) (AV : Arv Z Z.heap av kv (.object "com/example/proof_to_token/prooftotoken/config/Sociability") 2 [(.ref e0), (.ref e1)] .null) (XV : Exa Z Z.heap av "[Lcom/example/proof_to_token/prooftotoken/config/Sociability;") (FW0 : Fld Z Z.heap e0 "com/example/proof_to_token/prooftotoken/config/Sociability" "publishedName" "Ljava/lang/String;" (.ref t0)) (FW1 : Fld Z Z.heap e1 "com/example/proof_to_token/prooftotoken/config/Sociability" "publishedName" "Ljava/lang/String;" (.ref t1)) (S0 : Str Z Z.heap t0 ALLs) (S1 : Str Z Z.heap t1 CNTs) (SE : Sta Z Z.heap "java/util/Optional" "EMPTY" "Ljava/util/Optional;" (.ref em)) (EE : Exa Z Z.heap em "java/util/Optional") (FE : Fld Z Z.heap em "java/util/Optional" "value" "Ljava/lang/Object;" .null) (ST0 : Sta Z Z.heap "com/example/proof_to_token/prooftotoken/config/Sociability" "ALL_ORGANIZATIONS" "Lcom/example/proof_to_token/prooftotoken/config/Sociability;" (.ref e0)) (ST1 : Sta Z Z.heap "com/example/proof_to_token/prooftotoken/config/Sociability" "COUNTERAGENTS_ONLY" "Lcom/example/proof_to_token/prooftotoken/config/Sociability;" (.ref e1)) :
    Con l Z [("java/lang/String", 7)] [] x code maxLocals ret tables_1 room_1 #[(.int p0), (.int p1), (.int p2), (.int p3)] h0 (fun v h' => v = some (.int 1)) := by
  refine Con.mk (plainFor_of_name pn_1) hEL hE0 (fun x hx => by cases hx) ?_
  intro p e s m below meth c T0 hby hml hret hnm W0
  rw [(show entryFrame m #[(.int p0), (.int p1), (.int p2), (.int p3)] maxLocals = mkF m 0 #[.val (.int p0), .val (.int p1), .val (.int p2), .val (.int p3), .unset, .unset, .unset, .unset, .unset, .unset, .unset, .unset, .unset] [] from by first | (simp [entryFrame, mkF, argsToLocals, Value.category, maxLocals]; done) | rfl)]
  refine Go.by (fun t9_ q9_ => XS.iloadN W0.here W0.hx rfl (hb hby at_0) rfl q9_) ?_
  show Go p e below s Z [("java/lang/String", 7)] _ _ _ (T0.setTop (mkF m 1 #[.val (.int p0), .val (.int p1), .val (.int p2), .val (.int p3), .unset, .unset, .unset, .unset, .unset, .unset, .unset, .unset, .unset] [(.int p0)]))
  refine Go.by (fun t9_ q9_ => XS.iconst W0.here W0.hx rfl (hb hby at_1) q9_) ?_
  show Go p e below s Z [("java/lang/String", 7)] _ _ _ (T0.setTop (mkF m 2 #[.val (.int p0), .val (.int p1), .val (.int p2), .val (.int p3), .unset, .unset, .unset, .unset, .unset, .unset, .unset, .unset, .unset] [(.int (3 : Int32)), (.int p0)]))
  refine Go.by (fun t9_ q9_ => XS.iand W0.here W0.hx rfl (hb hby at_2) rfl q9_) ?_
  show Go p e below s Z [("java/lang/String", 7)] _ _ _ (T0.setTop (mkF m 3 #[.val (.int p0), .val (.int p1), .val (.int p2), .val (.int p3), .unset, .unset, .unset, .unset, .unset, .unset, .unset, .unset, .unset] [(.int (p0 &&& (3 : Int32)))]))
  refine Go.by (fun t9_ q9_ => XS.istore W0.here W0.hx rfl (hb hby at_3) rfl (l' := #[.val (.int p0), .val (.int p1), .val (.int p2), .val (.int p3), .val (.int (p0 &&& (3 : Int32))), .unset, .unset, .unset, .unset, .unset, .unset, .unset, .unset]) rfl q9_) ?_
  show Go p e below s Z [("java/lang/String", 7)] _ _ _ (T0.setTop (mkF m 5 #[.val (.int p0), .val (.int p1), .val (.int p2), .val (.int p3), .val (.int (p0 &&& (3 : Int32))), .unset, .unset, .unset, .unset, .unset, .unset, .unset, .unset] []))
  obtain ⟨md, h_md⟩ : ∃ z : Int32, z = (p0 &&& (3 : Int32)) := ⟨_, rfl⟩
  rw [← h_md]
  show Go p e below s Z [("java/lang/String", 7)] _ _ _ (T0.setTop (mkF m 5 #[.val (.int p0), .val (.int p1), .val (.int p2), .val (.int p3), .val (.int md), .unset, .unset, .unset, .unset, .unset, .unset, .unset, .unset] []))
  clear h_md
  refine Go.by (fun t9_ q9_ => XS.iloadN W0.here W0.hx rfl (hb hby at_5) rfl q9_) ?_
  show Go p e below s Z [("java/lang/String", 7)] _ _ _ (T0.setTop (mkF m 6 #[.val (.int p0), .val (.int p1), .val (.int p2), .val (.int p3), .val (.int md), .unset, .unset, .unset, .unset, .unset, .unset, .unset, .unset] [(.int p0)]))
  refine Go.by (fun t9_ q9_ => XS.iconst W0.here W0.hx rfl (hb hby at_6) q9_) ?_
  show Go p e below s Z [("java/lang/String", 7)] _ _ _ (T0.setTop (mkF m 7 #[.val (.int p0), .val (.int p1), .val (.int p2), .val (.int p3), .val (.int md), .unset, .unset, .unset, .unset, .unset, .unset, .unset, .unset] [(.int (2 : Int32)), (.int p0)]))
  refine Go.by (fun t9_ q9_ => XS.iushr W0.here W0.hx rfl (hb hby at_7) rfl q9_) ?_
  show Go p e below s Z [("java/lang/String", 7)] _ _ _ (T0.setTop (mkF m 8 #[.val (.int p0), .val (.int p1), .val (.int p2), .val (.int p3), .val (.int md), .unset, .unset, .unset, .unset, .unset, .unset, .unset, .unset] [(.int ((p0.toUInt32 >>> ((2 : Int32) &&& 31).toUInt32).toInt32))]))
  refine Go.by (fun t9_ q9_ => XS.iconst W0.here W0.hx rfl (hb hby at_8) q9_) ?_
  show Go p e below s Z [("java/lang/String", 7)] _ _ _ (T0.setTop (mkF m 9 #[.val (.int p0), .val (.int p1), .val (.int p2), .val (.int p3), .val (.int md), .unset, .unset, .unset, .unset, .unset, .unset, .unset, .unset] [(.int (1 : Int32)), (.int ((p0.toUInt32 >>> ((2 : Int32) &&& 31).toUInt32).toInt32))]))
  refine Go.by (fun t9_ q9_ => XS.iand W0.here W0.hx rfl (hb hby at_9) rfl q9_) ?_
  show Go p e below s Z [("java/lang/String", 7)] _ _ _ (T0.setTop (mkF m 10 #[.val (.int p0), .val (.int p1), .val (.int p2), .val (.int p3), .val (.int md), .unset, .unset, .unset, .unset, .unset, .unset, .unset, .unset] [(.int (((p0.toUInt32 >>> ((2 : Int32) &&& 31).toUInt32).toInt32) &&& (1 : Int32)))]))
  obtain ⟨se, h_se⟩ : ∃ z : Int32, z = (if (((p0.toUInt32 >>> ((2 : Int32) &&& 31).toUInt32).toInt32) &&& (1 : Int32)) = (0 : Int32) then (0 : Int32) else (1 : Int32)) := ⟨_, rfl⟩
  have mg_se : ∀ t, Steps p.tables e below (T0.setTop (mkF m 18 #[.val (.int p0), .val (.int p1), .val (.int p2), .val (.int p3), .val (.int md), .unset, .unset, .unset, .unset, .unset, .unset, .unset, .unset] [(.int se)])) t → Steps p.tables e below (T0.setTop (mkF m 10 #[.val (.int p0), .val (.int p1), .val (.int p2), .val (.int p3), .val (.int md), .unset, .unset, .unset, .unset, .unset, .unset, .unset, .unset] [(.int (((p0.toUInt32 >>> ((2 : Int32) &&& 31).toUInt32).toInt32) &&& (1 : Int32)))])) t := by
    intro t q
    by_cases hm711 : (((p0.toUInt32 >>> ((2 : Int32) &&& 31).toUInt32).toInt32) &&& (1 : Int32)) = (0 : Int32)
    · refine XS.ifYes W0.here W0.hx rfl (pc0 := 10) (pc' := 17) rfl (hb hby at_10) rfl ((if0 _ _).trans (teq hm711).1) (by decide) (by decide) ?_
      show Steps p.tables e below (T0.setTop (mkF m 17 #[.val (.int p0), .val (.int p1), .val (.int p2), .val (.int p3), .val (.int md), .unset, .unset, .unset, .unset, .unset, .unset, .unset, .unset] [])) _
      refine XS.iconst W0.here W0.hx rfl (hb hby at_17) ?_
      show Steps p.tables e below (T0.setTop (mkF m 18 #[.val (.int p0), .val (.int p1), .val (.int p2), .val (.int p3), .val (.int md), .unset, .unset, .unset, .unset, .unset, .unset, .unset, .unset] [(.int (0 : Int32))])) _
      rw [if_pos hm711] at h_se
      subst h_se
      exact q
    · refine XS.ifNo W0.here W0.hx rfl (hb hby at_10) rfl ((if0 _ _).trans (feq hm711).1) ?_
      show Steps p.tables e below (T0.setTop (mkF m 13 #[.val (.int p0), .val (.int p1), .val (.int p2), .val (.int p3), .val (.int md), .unset, .unset, .unset, .unset, .unset, .unset, .unset, .unset] [])) _
      refine XS.iconst W0.here W0.hx rfl (hb hby at_13) ?_
      show Steps p.tables e below (T0.setTop (mkF m 14 #[.val (.int p0), .val (.int p1), .val (.int p2), .val (.int p3), .val (.int md), .unset, .unset, .unset, .unset, .unset, .unset, .unset, .unset] [(.int (1 : Int32))])) _
      refine XS.goto W0.here W0.hx rfl (pc0 := 14) (pc' := 18) rfl (hb hby at_14) (by decide) (by decide) ?_
      show Steps p.tables e below (T0.setTop (mkF m 18 #[.val (.int p0), .val (.int p1), .val (.int p2), .val (.int p3), .val (.int md), .unset, .unset, .unset, .unset, .unset, .unset, .unset, .unset] [(.int (1 : Int32))])) _
      rw [if_neg hm711] at h_se
      subst h_se
      exact q
  refine Go.by mg_se ?_
  show Go p e below s Z [("java/lang/String", 7)] _ _ _ (T0.setTop (mkF m 18 #[.val (.int p0), .val (.int p1), .val (.int p2), .val (.int p3), .val (.int md), .unset, .unset, .unset, .unset, .unset, .unset, .unset, .unset] [(.int se)]))
  clear h_se mg_se
  refine Go.by (fun t9_ q9_ => XS.istore W0.here W0.hx rfl (hb hby at_18) rfl (l' := #[.val (.int p0), .val (.int p1), .val (.int p2), .val (.int p3), .val (.int md), .val (.int se), .unset, .unset, .unset, .unset, .unset, .unset, .unset]) rfl q9_) ?_
  show Go p e below s Z [("java/lang/String", 7)] _ _ _ (T0.setTop (mkF m 20 #[.val (.int p0), .val (.int p1), .val (.int p2), .val (.int p3), .val (.int md), .val (.int se), .unset, .unset, .unset, .unset, .unset, .unset, .unset] []))
  refine Go.by (fun t9_ q9_ => XS.iloadN W0.here W0.hx rfl (hb hby at_20) rfl q9_) ?_
  show Go p e below s Z [("java/lang/String", 7)] _ _ _ (T0.setTop (mkF m 21 #[.val (.int p0), .val (.int p1), .val (.int p2), .val (.int p3), .val (.int md), .val (.int se), .unset, .unset, .unset, .unset, .unset, .unset, .unset] [(.int p0)]))
  refine Go.by (fun t9_ q9_ => XS.iconst W0.here W0.hx rfl (hb hby at_21) q9_) ?_
  show Go p e below s Z [("java/lang/String", 7)] _ _ _ (T0.setTop (mkF m 22 #[.val (.int p0), .val (.int p1), .val (.int p2), .val (.int p3), .val (.int md), .val (.int se), .unset, .unset, .unset, .unset, .unset, .unset, .unset] [(.int (3 : Int32)), (.int p0)]))
  refine Go.by (fun t9_ q9_ => XS.iushr W0.here W0.hx rfl (hb hby at_22) rfl q9_) ?_
  show Go p e below s Z [("java/lang/String", 7)] _ _ _ (T0.setTop (mkF m 23 #[.val (.int p0), .val (.int p1), .val (.int p2), .val (.int p3), .val (.int md), .val (.int se), .unset, .unset, .unset, .unset, .unset, .unset, .unset] [(.int ((p0.toUInt32 >>> ((3 : Int32) &&& 31).toUInt32).toInt32))]))
  refine Go.by (fun t9_ q9_ => XS.iconst W0.here W0.hx rfl (hb hby at_23) q9_) ?_
  show Go p e below s Z [("java/lang/String", 7)] _ _ _ (T0.setTop (mkF m 24 #[.val (.int p0), .val (.int p1), .val (.int p2), .val (.int p3), .val (.int md), .val (.int se), .unset, .unset, .unset, .unset, .unset, .unset, .unset] [(.int (1 : Int32)), (.int ((p0.toUInt32 >>> ((3 : Int32) &&& 31).toUInt32).toInt32))]))
  refine Go.by (fun t9_ q9_ => XS.iand W0.here W0.hx rfl (hb hby at_24) rfl q9_) ?_
  show Go p e below s Z [("java/lang/String", 7)] _ _ _ (T0.setTop (mkF m 25 #[.val (.int p0), .val (.int p1), .val (.int p2), .val (.int p3), .val (.int md), .val (.int se), .unset, .unset, .unset, .unset, .unset, .unset, .unset] [(.int (((p0.toUInt32 >>> ((3 : Int32) &&& 31).toUInt32).toInt32) &&& (1 : Int32)))]))
  obtain ⟨su, h_su⟩ : ∃ z : Int32, z = (if (((p0.toUInt32 >>> ((3 : Int32) &&& 31).toUInt32).toInt32) &&& (1 : Int32)) = (0 : Int32) then (0 : Int32) else (1 : Int32)) := ⟨_, rfl⟩
  have mg_su : ∀ t, Steps p.tables e below (T0.setTop (mkF m 33 #[.val (.int p0), .val (.int p1), .val (.int p2), .val (.int p3), .val (.int md), .val (.int se), .unset, .unset, .unset, .unset, .unset, .unset, .unset] [(.int su)])) t → Steps p.tables e below (T0.setTop (mkF m 25 #[.val (.int p0), .val (.int p1), .val (.int p2), .val (.int p3), .val (.int md), .val (.int se), .unset, .unset, .unset, .unset, .unset, .unset, .unset] [(.int (((p0.toUInt32 >>> ((3 : Int32) &&& 31).toUInt32).toInt32) &&& (1 : Int32)))])) t := by
    intro t q
    by_cases hm712 : (((p0.toUInt32 >>> ((3 : Int32) &&& 31).toUInt32).toInt32) &&& (1 : Int32)) = (0 : Int32)
    · refine XS.ifYes W0.here W0.hx rfl (pc0 := 25) (pc' := 32) rfl (hb hby at_25) rfl ((if0 _ _).trans (teq hm712).1) (by decide) (by decide) ?_
      show Steps p.tables e below (T0.setTop (mkF m 32 #[.val (.int p0), .val (.int p1), .val (.int p2), .val (.int p3), .val (.int md), .val (.int se), .unset, .unset, .unset, .unset, .unset, .unset, .unset] [])) _
      refine XS.iconst W0.here W0.hx rfl (hb hby at_32) ?_
      show Steps p.tables e below (T0.setTop (mkF m 33 #[.val (.int p0), .val (.int p1), .val (.int p2), .val (.int p3), .val (.int md), .val (.int se), .unset, .unset, .unset, .unset, .unset, .unset, .unset] [(.int (0 : Int32))])) _
      rw [if_pos hm712] at h_su
      subst h_su
      exact q
    · refine XS.ifNo W0.here W0.hx rfl (hb hby at_25) rfl ((if0 _ _).trans (feq hm712).1) ?_
      show Steps p.tables e below (T0.setTop (mkF m 28 #[.val (.int p0), .val (.int p1), .val (.int p2), .val (.int p3), .val (.int md), .val (.int se), .unset, .unset, .unset, .unset, .unset, .unset, .unset] [])) _
      refine XS.iconst W0.here W0.hx rfl (hb hby at_28) ?_
      show Steps p.tables e below (T0.setTop (mkF m 29 #[.val (.int p0), .val (.int p1), .val (.int p2), .val (.int p3), .val (.int md), .val (.int se), .unset, .unset, .unset, .unset, .unset, .unset, .unset] [(.int (1 : Int32))])) _
      refine XS.goto W0.here W0.hx rfl (pc0 := 29) (pc' := 33) rfl (hb hby at_29) (by decide) (by decide) ?_
      show Steps p.tables e below (T0.setTop (mkF m 33 #[.val (.int p0), .val (.int p1), .val (.int p2), .val (.int p3), .val (.int md), .val (.int se), .unset, .unset, .unset, .unset, .unset, .unset, .unset] [(.int (1 : Int32))])) _
      rw [if_neg hm712] at h_su
      subst h_su
      exact q
  refine Go.by mg_su ?_
  show Go p e below s Z [("java/lang/String", 7)] _ _ _ (T0.setTop (mkF m 33 #[.val (.int p0), .val (.int p1), .val (.int p2), .val (.int p3), .val (.int md), .val (.int se), .unset, .unset, .unset, .unset, .unset, .unset, .unset] [(.int su)]))
  clear h_su mg_su
  refine Go.by (fun t9_ q9_ => XS.istore W0.here W0.hx rfl (hb hby at_33) rfl (l' := #[.val (.int p0), .val (.int p1), .val (.int p2), .val (.int p3), .val (.int md), .val (.int se), .val (.int su), .unset, .unset, .unset, .unset, .unset, .unset]) rfl q9_) ?_
  show Go p e below s Z [("java/lang/String", 7)] _ _ _ (T0.setTop (mkF m 35 #[.val (.int p0), .val (.int p1), .val (.int p2), .val (.int p3), .val (.int md), .val (.int se), .val (.int su), .unset, .unset, .unset, .unset, .unset, .unset] []))
  refine Go.by (fun t9_ q9_ => XS.iload W0.here W0.hx rfl (hb hby at_35) rfl q9_) ?_
  show Go p e below s Z [("java/lang/String", 7)] _ _ _ (T0.setTop (mkF m 37 #[.val (.int p0), .val (.int p1), .val (.int p2), .val (.int p3), .val (.int md), .val (.int se), .val (.int su), .unset, .unset, .unset, .unset, .unset, .unset] [(.int se)]))
  by_cases hsec : se = (0 : Int32)
  · refine Go.by (fun t9_ q9_ => XS.ifYes W0.here W0.hx rfl (pc0 := 37) (pc' := 46) rfl (hb hby at_37) rfl ((if0 _ _).trans (teq hsec).1) (by decide) (by decide) q9_) ?_
    show Go p e below s Z [("java/lang/String", 7)] _ _ _ (T0.setTop (mkF m 46 #[.val (.int p0), .val (.int p1), .val (.int p2), .val (.int p3), .val (.int md), .val (.int se), .val (.int su), .unset, .unset, .unset, .unset, .unset, .unset] []))
    refine W0.gets (host := "") (Or.inl (wd0 hw)) Via.refl (ST0.ext W0.old) (hb hby at_46) ?_
    intro T713 W714
    show Go p e below s Z [("java/lang/String", 7)] _ _ _ (T713.setTop (mkF m 49 #[.val (.int p0), .val (.int p1), .val (.int p2), .val (.int p3), .val (.int md), .val (.int se), .val (.int su), .unset, .unset, .unset, .unset, .unset, .unset] [(.ref e0)]))
    refine Go.by (fun t9_ q9_ => XS.astore W714.here W714.hx rfl (hb hby at_49) rfl rfl (l' := #[.val (.int p0), .val (.int p1), .val (.int p2), .val (.int p3), .val (.int md), .val (.int se), .val (.int su), .val (.ref e0), .unset, .unset, .unset, .unset, .unset]) rfl q9_) ?_
    show Go p e below s Z [("java/lang/String", 7)] _ _ _ (T713.setTop (mkF m 51 #[.val (.int p0), .val (.int p1), .val (.int p2), .val (.int p3), .val (.int md), .val (.int se), .val (.int su), .val (.ref e0), .unset, .unset, .unset, .unset, .unset] []))
    refine Go.by (fun t9_ q9_ => XS.iloadN W714.here W714.hx rfl (hb hby at_51) rfl q9_) ?_
    show Go p e below s Z [("java/lang/String", 7)] _ _ _ (T713.setTop (mkF m 52 #[.val (.int p0), .val (.int p1), .val (.int p2), .val (.int p3), .val (.int md), .val (.int se), .val (.int su), .val (.ref e0), .unset, .unset, .unset, .unset, .unset] [(.int p2)]))
    refine Go.by (fun t9_ q9_ => XS.sipush W714.here W714.hx rfl (hb hby at_52) q9_) ?_
    show Go p e below s Z [("java/lang/String", 7)] _ _ _ (T713.setTop (mkF m 55 #[.val (.int p0), .val (.int p1), .val (.int p2), .val (.int p3), .val (.int md), .val (.int se), .val (.int su), .val (.ref e0), .unset, .unset, .unset, .unset, .unset] [(.int (255 : Int32)), (.int p2)]))
    refine Go.by (fun t9_ q9_ => XS.iand W714.here W714.hx rfl (hb hby at_55) rfl q9_) ?_
    show Go p e below s Z [("java/lang/String", 7)] _ _ _ (T713.setTop (mkF m 56 #[.val (.int p0), .val (.int p1), .val (.int p2), .val (.int p3), .val (.int md), .val (.int se), .val (.int su), .val (.ref e0), .unset, .unset, .unset, .unset, .unset] [(.int (p2 &&& (255 : Int32)))]))
    refine Go.by (fun t9_ q9_ => XS.i2c W714.here W714.hx rfl (hb hby at_56) rfl q9_) ?_
    show Go p e below s Z [("java/lang/String", 7)] _ _ _ (T713.setTop (mkF m 57 #[.val (.int p0), .val (.int p1), .val (.int p2), .val (.int p3), .val (.int md), .val (.int se), .val (.int su), .val (.ref e0), .unset, .unset, .unset, .unset, .unset] [(.int ((p2 &&& (255 : Int32)).toUInt32.toUInt16.toUInt32.toInt32))]))
    refine Go.by (fun t9_ q9_ => XS.istore W714.here W714.hx rfl (hb hby at_57) rfl (l' := #[.val (.int p0), .val (.int p1), .val (.int p2), .val (.int p3), .val (.int md), .val (.int se), .val (.int su), .val (.ref e0), .val (.int ((p2 &&& (255 : Int32)).toUInt32.toUInt16.toUInt32.toInt32)), .unset, .unset, .unset, .unset]) rfl q9_) ?_
    show Go p e below s Z [("java/lang/String", 7)] _ _ _ (T713.setTop (mkF m 59 #[.val (.int p0), .val (.int p1), .val (.int p2), .val (.int p3), .val (.int md), .val (.int se), .val (.int su), .val (.ref e0), .val (.int ((p2 &&& (255 : Int32)).toUInt32.toUInt16.toUInt32.toInt32)), .unset, .unset, .unset, .unset] []))
    obtain ⟨ca, h_ca⟩ : ∃ z : Int32, z = ((p2 &&& (255 : Int32)).toUInt32.toUInt16.toUInt32.toInt32) := ⟨_, rfl⟩
    rw [← h_ca]
    show Go p e below s Z [("java/lang/String", 7)] _ _ _ (T713.setTop (mkF m 59 #[.val (.int p0), .val (.int p1), .val (.int p2), .val (.int p3), .val (.int md), .val (.int se), .val (.int su), .val (.ref e0), .val (.int ca), .unset, .unset, .unset, .unset] []))
    have r_ca : ¬ ca < 0 ∧ ¬ (255 : Int32) < ca := by rw [h_ca]; exact k_mask _
    clear h_ca
    refine Go.by (fun t9_ q9_ => XS.iload W714.here W714.hx rfl (hb hby at_59) rfl q9_) ?_
    show Go p e below s Z [("java/lang/String", 7)] _ _ _ (T713.setTop (mkF m 61 #[.val (.int p0), .val (.int p1), .val (.int p2), .val (.int p3), .val (.int md), .val (.int se), .val (.int su), .val (.ref e0), .val (.int ca), .unset, .unset, .unset, .unset] [(.int md)]))
    by_cases hm0 : md = (0 : Int32)
    · refine Go.by (fun t9_ q9_ => XS.ifNo W714.here W714.hx rfl (hb hby at_61) rfl ((if0 _ _).trans (teq hm0).2) q9_) ?_
      show Go p e below s Z [("java/lang/String", 7)] _ _ _ (T713.setTop (mkF m 64 #[.val (.int p0), .val (.int p1), .val (.int p2), .val (.int p3), .val (.int md), .val (.int se), .val (.int su), .val (.ref e0), .val (.int ca), .unset, .unset, .unset, .unset] []))
      refine Go.by (fun t9_ q9_ => XS.iload W714.here W714.hx rfl (hb hby at_64) rfl q9_) ?_
      show Go p e below s Z [("java/lang/String", 7)] _ _ _ (T713.setTop (mkF m 66 #[.val (.int p0), .val (.int p1), .val (.int p2), .val (.int p3), .val (.int md), .val (.int se), .val (.int su), .val (.ref e0), .val (.int ca), .unset, .unset, .unset, .unset] [(.int se)]))
      refine Go.by (fun t9_ q9_ => XS.ifYes W714.here W714.hx rfl (pc0 := 66) (pc' := 75) rfl (hb hby at_66) rfl ((if0 _ _).trans (teq hsec).1) (by decide) (by decide) q9_) ?_
      show Go p e below s Z [("java/lang/String", 7)] _ _ _ (T713.setTop (mkF m 75 #[.val (.int p0), .val (.int p1), .val (.int p2), .val (.int p3), .val (.int md), .val (.int se), .val (.int su), .val (.ref e0), .val (.int ca), .unset, .unset, .unset, .unset] []))
      refine W714.callS (y := (⟨"com/example/proof_to_token/prooftotoken/config/SociabilityNamedPinLaw", "allOrgs", "()[C"⟩ : MethodName)) (wd3 hw) (wd4 hw) (wd5 hw) (wd6 hw) (by decide) (c_all l Z a0 hw hEL h0 W714.old) all0 (by decide) (by decide) (k' := 1) (n' := 16) rfl rfl (by decide) (by decide) (by rw [hml]; rfl) (argsL := []) (rest := []) (lenOf pd_4 rfl) rfl rfl (Wt := 0) (Nat.le_of_eq rfl) (hb hby at_75) ?_
      intro v_ T715 h717 W716 hq_
      obtain ⟨tx, kx, rfl, X1, A_x, E_x, z_x⟩ := hq_
      show Go p e below s Z [("java/lang/String", 7)] _ _ _ (T715.setTop (mkF m 78 #[.val (.int p0), .val (.int p1), .val (.int p2), .val (.int p3), .val (.int md), .val (.int se), .val (.int su), .val (.ref e0), .val (.int ca), .unset, .unset, .unset, .unset] [(.ref tx)]))
      refine Go.by (fun t9_ q9_ => XS.astore W716.here W716.hx rfl (hb hby at_78) rfl rfl (l' := #[.val (.int p0), .val (.int p1), .val (.int p2), .val (.int p3), .val (.int md), .val (.int se), .val (.int su), .val (.ref e0), .val (.int ca), .val (.ref tx), .unset, .unset, .unset]) rfl q9_) ?_
      show Go p e below s Z [("java/lang/String", 7)] _ _ _ (T715.setTop (mkF m 80 #[.val (.int p0), .val (.int p1), .val (.int p2), .val (.int p3), .val (.int md), .val (.int se), .val (.int su), .val (.ref e0), .val (.int ca), .val (.ref tx), .unset, .unset, .unset] []))
      refine Go.by (fun t9_ q9_ => XS.aload W716.here W716.hx rfl (hb hby at_80) rfl rfl q9_) ?_
      show Go p e below s Z [("java/lang/String", 7)] _ _ _ (T715.setTop (mkF m 82 #[.val (.int p0), .val (.int p1), .val (.int p2), .val (.int p3), .val (.int md), .val (.int se), .val (.int su), .val (.ref e0), .val (.int ca), .val (.ref tx), .unset, .unset, .unset] [(.ref e0)]))
      refine Go.by (fun t9_ q9_ => XS.astore W716.here W716.hx rfl (hb hby at_82) rfl rfl (l' := #[.val (.int p0), .val (.int p1), .val (.int p2), .val (.int p3), .val (.int md), .val (.int se), .val (.int su), .val (.ref e0), .val (.int ca), .val (.ref tx), .val (.ref e0), .unset, .unset]) rfl q9_) ?_
      show Go p e below s Z [("java/lang/String", 7)] _ _ _ (T715.setTop (mkF m 84 #[.val (.int p0), .val (.int p1), .val (.int p2), .val (.int p3), .val (.int md), .val (.int se), .val (.int su), .val (.ref e0), .val (.int ca), .val (.ref tx), .val (.ref e0), .unset, .unset] []))
      refine Go.by (fun t9_ q9_ => XS.goto W716.here W716.hx rfl (pc0 := 84) (pc' := 270) rfl (hb hby at_84) (by decide) (by decide) q9_) ?_
      show Go p e below s Z [("java/lang/String", 7)] _ _ _ (T715.setTop (mkF m 270 #[.val (.int p0), .val (.int p1), .val (.int p2), .val (.int p3), .val (.int md), .val (.int se), .val (.int su), .val (.ref e0), .val (.int ca), .val (.ref tx), .val (.ref e0), .unset, .unset] []))
      refine W716.new (wd8 hw) (wd9 hw) (wd10 hw) (hb hby at_270) (k' := 2) (n' := 20) rfl rfl (by decide) (by decide) ?_
      intro T718 h719 st W720 E721 g_st z_st A_st D_st
      have F_coder_st : Fld Z h719 st "java/lang/String" "coder" "B" (.int (0 : Int32)) := D_st (Or.inr (wd34 hw)) (ty := .byte) (by decide)
      have F_value_st : Fld Z h719 st "java/lang/String" "value" "[B" .null := D_st (Or.inr (wd36 hw)) (ty := (.array .byte)) (by decide)
      show Go p e below s Z [("java/lang/String", 7)] _ _ _ (T718.setTop (mkF m 273 #[.val (.int p0), .val (.int p1), .val (.int p2), .val (.int p3), .val (.int md), .val (.int se), .val (.int su), .val (.ref e0), .val (.int ca), .val (.ref tx), .val (.ref e0), .unset, .unset] [(.ref st)]))
      refine Go.by (fun t9_ q9_ => XS.dup W720.here W720.hx rfl (hb hby at_273) rfl rfl q9_) ?_
      show Go p e below s Z [("java/lang/String", 7)] _ _ _ (T718.setTop (mkF m 274 #[.val (.int p0), .val (.int p1), .val (.int p2), .val (.int p3), .val (.int md), .val (.int se), .val (.int su), .val (.ref e0), .val (.int ca), .val (.ref tx), .val (.ref e0), .unset, .unset] [(.ref st), (.ref st)]))
      refine Go.by (fun t9_ q9_ => XS.aload W720.here W720.hx rfl (hb hby at_274) rfl rfl q9_) ?_
      show Go p e below s Z [("java/lang/String", 7)] _ _ _ (T718.setTop (mkF m 276 #[.val (.int p0), .val (.int p1), .val (.int p2), .val (.int p3), .val (.int md), .val (.int se), .val (.int su), .val (.ref e0), .val (.int ca), .val (.ref tx), .val (.ref e0), .unset, .unset] [(.ref tx), (.ref st), (.ref st)]))
      refine W720.strV (cs := ALLs) (k_words hw) (wd9 hw) (wd11 hw) (wd12 hw) A_st F_value_st F_coder_st (A_x.ext E721) (SG1.ext W720.old) hG (q := 16) rfl rfl (by decide) (by decide) (by decide) z_st (List.mem_of_getElem? (i := 0) rfl) (by decide) (Wt := 1) (by decide) (k' := 3) (n' := 36) rfl rfl (by decide) (by decide) (by rw [hml]; rfl) (Nat.le_of_eq rfl) (hb hby at_276) ?_
      intro T722 h723 W724 K725 S_st
      show Go p e below s Z [("java/lang/String", 7)] _ _ _ (T722.setTop (mkF m 279 #[.val (.int p0), .val (.int p1), .val (.int p2), .val (.int p3), .val (.int md), .val (.int se), .val (.int su), .val (.ref e0), .val (.int ca), .val (.ref tx), .val (.ref e0), .unset, .unset] [(.ref st)]))
      have hxp : namF ALLs e0 e1 = (.ref e0) := nam_all _ _
      refine W724.callS (y := (⟨"com/example/proof_to_token/prooftotoken/config/Sociability", "named", "(Ljava/lang/String;)Ljava/util/Optional;"⟩ : MethodName)) (wd37 hw) (wd38 hw) (wd1 hw) (wd39 hw) (by decide) (c_named l Z a0 hw hEL h723 W724.old st _ G1 av e0 e1 t0 t1 em kv SG1 hG SV AV XV FW0 FW1 S0 S1 SE EE FE S_st (by simp)) all0 (by decide) (by decide) (k' := 5) (n' := 39) rfl rfl (by decide) (by decide) (by rw [hml]; rfl) (argsL := [(.ref st)]) (rest := []) (lenOf pd_5 rfl) rfl rfl (Wt := 0) (Nat.le_of_eq rfl) (hb hby at_279) ?_
      intro v_ T726 h728 W727 hq_
      obtain ⟨ro, rfl, X2, E2, F2⟩ := hq_
      rw [hxp] at F2
      show Go p e below s Z [("java/lang/String", 7)] _ _ _ (T726.setTop (mkF m 282 #[.val (.int p0), .val (.int p1), .val (.int p2), .val (.int p3), .val (.int md), .val (.int se), .val (.int su), .val (.ref e0), .val (.int ca), .val (.ref tx), .val (.ref e0), .unset, .unset] [(.ref ro)]))
      refine Go.by (fun t9_ q9_ => XS.astore W727.here W727.hx rfl (hb hby at_282) rfl rfl (l' := #[.val (.int p0), .val (.int p1), .val (.int p2), .val (.int p3), .val (.int md), .val (.int se), .val (.int su), .val (.ref e0), .val (.int ca), .val (.ref tx), .val (.ref e0), .val (.ref ro), .unset]) rfl q9_) ?_
      show Go p e below s Z [("java/lang/String", 7)] _ _ _ (T726.setTop (mkF m 284 #[.val (.int p0), .val (.int p1), .val (.int p2), .val (.int p3), .val (.int md), .val (.int se), .val (.int su), .val (.ref e0), .val (.int ca), .val (.ref tx), .val (.ref e0), .val (.ref ro), .unset] []))
      refine Go.by (fun t9_ q9_ => XS.aload W727.here W727.hx rfl (hb hby at_284) rfl rfl q9_) ?_
      show Go p e below s Z [("java/lang/String", 7)] _ _ _ (T726.setTop (mkF m 286 #[.val (.int p0), .val (.int p1), .val (.int p2), .val (.int p3), .val (.int md), .val (.int se), .val (.int su), .val (.ref e0), .val (.int ca), .val (.ref tx), .val (.ref e0), .val (.ref ro), .unset] [(.ref ro)]))
      refine Go.by (fun t9_ q9_ => XS.aconstNull W727.here W727.hx rfl (hb hby at_286) q9_) ?_
      show Go p e below s Z [("java/lang/String", 7)] _ _ _ (T726.setTop (mkF m 287 #[.val (.int p0), .val (.int p1), .val (.int p2), .val (.int p3), .val (.int md), .val (.int se), .val (.int su), .val (.ref e0), .val (.int ca), .val (.ref tx), .val (.ref e0), .val (.ref ro), .unset] [.null, (.ref ro)]))
      refine W727.callVp (y := (⟨"java/util/Optional", "orElse", "(Ljava/lang/Object;)Ljava/lang/Object;"⟩ : MethodName)) (z := (⟨"java/util/Optional", "orElse", "(Ljava/lang/Object;)Ljava/lang/Object;"⟩ : MethodName)) (wd81 hw) (wd82 hw) (nf_sel rfl (wd84 hw)) (wd84 hw) (wd83 hw) (wd70 hw) (wd85 hw) (by decide) E2 (a := ro) (c_orelse l Z a0 hw hEL h728 W727.old ro _ rfl F2) all0 (by decide) (by decide) (k' := 5) (n' := 39) rfl rfl (by decide) (by decide) (by rw [hml]; rfl) (argsL := [.null]) (rest := []) (lenOf pd_6 rfl) rfl rfl (Wt := 0) (Nat.le_of_eq rfl) (hb hby at_287) ?_
      intro T729 W730
      show Go p e below s Z [("java/lang/String", 7)] _ _ _ (T729.setTop (mkF m 290 #[.val (.int p0), .val (.int p1), .val (.int p2), .val (.int p3), .val (.int md), .val (.int se), .val (.int su), .val (.ref e0), .val (.int ca), .val (.ref tx), .val (.ref e0), .val (.ref ro), .unset] [(.ref e0)]))
      refine Go.by (fun t9_ q9_ => XS.aload W730.here W730.hx rfl (hb hby at_290) rfl rfl q9_) ?_
      show Go p e below s Z [("java/lang/String", 7)] _ _ _ (T729.setTop (mkF m 292 #[.val (.int p0), .val (.int p1), .val (.int p2), .val (.int p3), .val (.int md), .val (.int se), .val (.int su), .val (.ref e0), .val (.int ca), .val (.ref tx), .val (.ref e0), .val (.ref ro), .unset] [(.ref e0), (.ref e0)]))
      refine Go.by (fun t9_ q9_ => acmpW W730 (g := (mkF m 292 #[.val (.int p0), .val (.int p1), .val (.int p2), .val (.int p3), .val (.int md), .val (.int se), .val (.int su), .val (.ref e0), .val (.int ca), .val (.ref tx), .val (.ref e0), .val (.ref ro), .unset] [(.ref e0), (.ref e0)])) rfl rfl rfl (pc0 := 292) (pc' := 295) (same := true) rfl (hb hby at_292) rfl (decide_eq_true rfl) (by decide) (by decide) q9_) ?_
      show Go p e below s Z [("java/lang/String", 7)] _ _ _ (T729.setTop (mkF m 295 #[.val (.int p0), .val (.int p1), .val (.int p2), .val (.int p3), .val (.int md), .val (.int se), .val (.int su), .val (.ref e0), .val (.int ca), .val (.ref tx), .val (.ref e0), .val (.ref ro), .unset] []))
      refine Go.by (fun t9_ q9_ => XS.iconst W730.here W730.hx rfl (hb hby at_295) q9_) ?_
      show Go p e below s Z [("java/lang/String", 7)] _ _ _ (T729.setTop (mkF m 296 #[.val (.int p0), .val (.int p1), .val (.int p2), .val (.int p3), .val (.int md), .val (.int se), .val (.int su), .val (.ref e0), .val (.int ca), .val (.ref tx), .val (.ref e0), .val (.ref ro), .unset] [(.int (1 : Int32))]))
      refine Go.by (fun t9_ q9_ => XS.goto W730.here W730.hx rfl (pc0 := 296) (pc' := 300) rfl (hb hby at_296) (by decide) (by decide) q9_) ?_
      show Go p e below s Z [("java/lang/String", 7)] _ _ _ (T729.setTop (mkF m 300 #[.val (.int p0), .val (.int p1), .val (.int p2), .val (.int p3), .val (.int md), .val (.int se), .val (.int su), .val (.ref e0), .val (.int ca), .val (.ref tx), .val (.ref e0), .val (.ref ro), .unset] [(.int (1 : Int32))]))
      exact W730.retN (z' := (1 : Int32)) (by decide) (by decide) hret (by simp) (hb hby at_300) rfl rfl
    · refine Go.by (fun t9_ q9_ => XS.ifYes W714.here W714.hx rfl (pc0 := 61) (pc' := 87) rfl (hb hby at_61) rfl ((if0 _ _).trans (feq hm0).2) (by decide) (by decide) q9_) ?_
      show Go p e below s Z [("java/lang/String", 7)] _ _ _ (T713.setTop (mkF m 87 #[.val (.int p0), .val (.int p1), .val (.int p2), .val (.int p3), .val (.int md), .val (.int se), .val (.int su), .val (.ref e0), .val (.int ca), .unset, .unset, .unset, .unset] []))
      refine Go.by (fun t9_ q9_ => XS.iload W714.here W714.hx rfl (hb hby at_87) rfl q9_) ?_
      show Go p e below s Z [("java/lang/String", 7)] _ _ _ (T713.setTop (mkF m 89 #[.val (.int p0), .val (.int p1), .val (.int p2), .val (.int p3), .val (.int md), .val (.int se), .val (.int su), .val (.ref e0), .val (.int ca), .unset, .unset, .unset, .unset] [(.int md)]))
      refine Go.by (fun t9_ q9_ => XS.iconst W714.here W714.hx rfl (hb hby at_89) q9_) ?_
      show Go p e below s Z [("java/lang/String", 7)] _ _ _ (T713.setTop (mkF m 90 #[.val (.int p0), .val (.int p1), .val (.int p2), .val (.int p3), .val (.int md), .val (.int se), .val (.int su), .val (.ref e0), .val (.int ca), .unset, .unset, .unset, .unset] [(.int (1 : Int32)), (.int md)]))
      by_cases hm1 : md = (1 : Int32)
      · refine Go.by (fun t9_ q9_ => XS.icmpNo W714.here W714.hx rfl (hb hby at_90) rfl (teq hm1).2 q9_) ?_
        show Go p e below s Z [("java/lang/String", 7)] _ _ _ (T713.setTop (mkF m 93 #[.val (.int p0), .val (.int p1), .val (.int p2), .val (.int p3), .val (.int md), .val (.int se), .val (.int su), .val (.ref e0), .val (.int ca), .unset, .unset, .unset, .unset] []))
        refine Go.by (fun t9_ q9_ => XS.iload W714.here W714.hx rfl (hb hby at_93) rfl q9_) ?_
        show Go p e below s Z [("java/lang/String", 7)] _ _ _ (T713.setTop (mkF m 95 #[.val (.int p0), .val (.int p1), .val (.int p2), .val (.int p3), .val (.int md), .val (.int se), .val (.int su), .val (.ref e0), .val (.int ca), .unset, .unset, .unset, .unset] [(.int se)]))
        refine Go.by (fun t9_ q9_ => XS.ifYes W714.here W714.hx rfl (pc0 := 95) (pc' := 104) rfl (hb hby at_95) rfl ((if0 _ _).trans (teq hsec).1) (by decide) (by decide) q9_) ?_
        show Go p e below s Z [("java/lang/String", 7)] _ _ _ (T713.setTop (mkF m 104 #[.val (.int p0), .val (.int p1), .val (.int p2), .val (.int p3), .val (.int md), .val (.int se), .val (.int su), .val (.ref e0), .val (.int ca), .unset, .unset, .unset, .unset] []))
        refine W714.callS (y := (⟨"com/example/proof_to_token/prooftotoken/config/SociabilityNamedPinLaw", "allOrgs", "()[C"⟩ : MethodName)) (wd3 hw) (wd4 hw) (wd5 hw) (wd6 hw) (by decide) (c_all l Z a0 hw hEL h0 W714.old) all0 (by decide) (by decide) (k' := 1) (n' := 16) rfl rfl (by decide) (by decide) (by rw [hml]; rfl) (argsL := []) (rest := []) (lenOf pd_4 rfl) rfl rfl (Wt := 0) (Nat.le_of_eq rfl) (hb hby at_104) ?_
        intro v_ T731 h733 W732 hq_
        obtain ⟨tx, kx, rfl, X1, A_x, E_x, z_x⟩ := hq_
        show Go p e below s Z [("java/lang/String", 7)] _ _ _ (T731.setTop (mkF m 107 #[.val (.int p0), .val (.int p1), .val (.int p2), .val (.int p3), .val (.int md), .val (.int se), .val (.int su), .val (.ref e0), .val (.int ca), .unset, .unset, .unset, .unset] [(.ref tx)]))
        refine Go.by (fun t9_ q9_ => XS.astore W732.here W732.hx rfl (hb hby at_107) rfl rfl (l' := #[.val (.int p0), .val (.int p1), .val (.int p2), .val (.int p3), .val (.int md), .val (.int se), .val (.int su), .val (.ref e0), .val (.int ca), .val (.ref tx), .unset, .unset, .unset]) rfl q9_) ?_
        show Go p e below s Z [("java/lang/String", 7)] _ _ _ (T731.setTop (mkF m 109 #[.val (.int p0), .val (.int p1), .val (.int p2), .val (.int p3), .val (.int md), .val (.int se), .val (.int su), .val (.ref e0), .val (.int ca), .val (.ref tx), .unset, .unset, .unset] []))
        refine Go.by (fun t9_ q9_ => XS.iloadN W732.here W732.hx rfl (hb hby at_109) rfl q9_) ?_
        show Go p e below s Z [("java/lang/String", 7)] _ _ _ (T731.setTop (mkF m 110 #[.val (.int p0), .val (.int p1), .val (.int p2), .val (.int p3), .val (.int md), .val (.int se), .val (.int su), .val (.ref e0), .val (.int ca), .val (.ref tx), .unset, .unset, .unset] [(.int p1)]))
        refine W732.ldcI (wd97 hw) (hb hby at_110) ?_
        show Go p e below s Z [("java/lang/String", 7)] _ _ _ (T731.setTop (mkF m 112 #[.val (.int p0), .val (.int p1), .val (.int p2), .val (.int p3), .val (.int md), .val (.int se), .val (.int su), .val (.ref e0), .val (.int ca), .val (.ref tx), .unset, .unset, .unset] [(.int (2147483647 : Int32)), (.int p1)]))
        refine Go.by (fun t9_ q9_ => XS.iand W732.here W732.hx rfl (hb hby at_112) rfl q9_) ?_
        show Go p e below s Z [("java/lang/String", 7)] _ _ _ (T731.setTop (mkF m 113 #[.val (.int p0), .val (.int p1), .val (.int p2), .val (.int p3), .val (.int md), .val (.int se), .val (.int su), .val (.ref e0), .val (.int ca), .val (.ref tx), .unset, .unset, .unset] [(.int (p1 &&& (2147483647 : Int32)))]))
        refine Go.by (fun t9_ q9_ => XS.aload W732.here W732.hx rfl (hb hby at_113) rfl rfl q9_) ?_
        show Go p e below s Z [("java/lang/String", 7)] _ _ _ (T731.setTop (mkF m 115 #[.val (.int p0), .val (.int p1), .val (.int p2), .val (.int p3), .val (.int md), .val (.int se), .val (.int su), .val (.ref e0), .val (.int ca), .val (.ref tx), .unset, .unset, .unset] [(.ref tx), (.int (p1 &&& (2147483647 : Int32)))]))
        refine W732.alen A_x (hb hby at_115) ?_
        show Go p e below s Z [("java/lang/String", 7)] _ _ _ (T731.setTop (mkF m 116 #[.val (.int p0), .val (.int p1), .val (.int p2), .val (.int p3), .val (.int md), .val (.int se), .val (.int su), .val (.ref e0), .val (.int ca), .val (.ref tx), .unset, .unset, .unset] [(.int (16 : Int32)), (.int (p1 &&& (2147483647 : Int32)))]))
        refine Go.by (fun t9_ q9_ => iremW W732.here W732.hx rfl (hb hby at_116) rfl (by decide) q9_) ?_
        show Go p e below s Z [("java/lang/String", 7)] _ _ _ (T731.setTop (mkF m 117 #[.val (.int p0), .val (.int p1), .val (.int p2), .val (.int p3), .val (.int md), .val (.int se), .val (.int su), .val (.ref e0), .val (.int ca), .val (.ref tx), .unset, .unset, .unset] [(.int ((p1 &&& (2147483647 : Int32)) % (16 : Int32)))]))
        refine Go.by (fun t9_ q9_ => XS.istore W732.here W732.hx rfl (hb hby at_117) rfl (l' := #[.val (.int p0), .val (.int p1), .val (.int p2), .val (.int p3), .val (.int md), .val (.int se), .val (.int su), .val (.ref e0), .val (.int ca), .val (.ref tx), .unset, .val (.int ((p1 &&& (2147483647 : Int32)) % (16 : Int32))), .unset]) rfl q9_) ?_
        show Go p e below s Z [("java/lang/String", 7)] _ _ _ (T731.setTop (mkF m 119 #[.val (.int p0), .val (.int p1), .val (.int p2), .val (.int p3), .val (.int md), .val (.int se), .val (.int su), .val (.ref e0), .val (.int ca), .val (.ref tx), .unset, .val (.int ((p1 &&& (2147483647 : Int32)) % (16 : Int32))), .unset] []))
        obtain ⟨pp, h_pp⟩ : ∃ z : Int32, z = ((p1 &&& (2147483647 : Int32)) % (16 : Int32)) := ⟨_, rfl⟩
        rw [← h_pp]
        show Go p e below s Z [("java/lang/String", 7)] _ _ _ (T731.setTop (mkF m 119 #[.val (.int p0), .val (.int p1), .val (.int p2), .val (.int p3), .val (.int md), .val (.int se), .val (.int su), .val (.ref e0), .val (.int ca), .val (.ref tx), .unset, .val (.int pp), .unset] []))
        have r_pp : ¬ pp < 0 ∧ pp < (16 : Int32) := by rw [h_pp]; exact rem_rng p1 16 16 rfl (by decide)
        clear h_pp
        have l_pp : pp.toNatClampNeg < ALLs.length := clamp_lt (n := 16) (k := 16) rfl r_pp
        refine Go.by (fun t9_ q9_ => XS.aload W732.here W732.hx rfl (hb hby at_119) rfl rfl q9_) ?_
        show Go p e below s Z [("java/lang/String", 7)] _ _ _ (T731.setTop (mkF m 121 #[.val (.int p0), .val (.int p1), .val (.int p2), .val (.int p3), .val (.int md), .val (.int se), .val (.int su), .val (.ref e0), .val (.int ca), .val (.ref tx), .unset, .val (.int pp), .unset] [(.ref tx)]))
        refine Go.by (fun t9_ q9_ => XS.iload W732.here W732.hx rfl (hb hby at_121) rfl q9_) ?_
        show Go p e below s Z [("java/lang/String", 7)] _ _ _ (T731.setTop (mkF m 123 #[.val (.int p0), .val (.int p1), .val (.int p2), .val (.int p3), .val (.int md), .val (.int se), .val (.int su), .val (.ref e0), .val (.int ca), .val (.ref tx), .unset, .val (.int pp), .unset] [(.int pp), (.ref tx)]))
        refine W732.cald (vs := ALLs.map Value.int) (dv := .int 0) A_x r_pp (v := .int (ALLs.getD pp.toNatClampNeg 0)) (getD_mapI _ _) (hb hby at_123) ?_
        show Go p e below s Z [("java/lang/String", 7)] _ _ _ (T731.setTop (mkF m 124 #[.val (.int p0), .val (.int p1), .val (.int p2), .val (.int p3), .val (.int md), .val (.int se), .val (.int su), .val (.ref e0), .val (.int ca), .val (.ref tx), .unset, .val (.int pp), .unset] [(.int (ALLs.getD pp.toNatClampNeg 0))]))
        refine Go.by (fun t9_ q9_ => XS.istore W732.here W732.hx rfl (hb hby at_124) rfl (l' := #[.val (.int p0), .val (.int p1), .val (.int p2), .val (.int p3), .val (.int md), .val (.int se), .val (.int su), .val (.ref e0), .val (.int ca), .val (.ref tx), .unset, .val (.int pp), .val (.int (ALLs.getD pp.toNatClampNeg 0))]) rfl q9_) ?_
        show Go p e below s Z [("java/lang/String", 7)] _ _ _ (T731.setTop (mkF m 126 #[.val (.int p0), .val (.int p1), .val (.int p2), .val (.int p3), .val (.int md), .val (.int se), .val (.int su), .val (.ref e0), .val (.int ca), .val (.ref tx), .unset, .val (.int pp), .val (.int (ALLs.getD pp.toNatClampNeg 0))] []))
        obtain ⟨oc, h_oc⟩ : ∃ z : Int32, z = (ALLs.getD pp.toNatClampNeg 0) := ⟨_, rfl⟩
        rw [← h_oc]
        show Go p e below s Z [("java/lang/String", 7)] _ _ _ (T731.setTop (mkF m 126 #[.val (.int p0), .val (.int p1), .val (.int p2), .val (.int p3), .val (.int md), .val (.int se), .val (.int su), .val (.ref e0), .val (.int ca), .val (.ref tx), .unset, .val (.int pp), .val (.int oc)] []))
        refine Go.by (fun t9_ q9_ => XS.aload W732.here W732.hx rfl (hb hby at_126) rfl rfl q9_) ?_
        show Go p e below s Z [("java/lang/String", 7)] _ _ _ (T731.setTop (mkF m 128 #[.val (.int p0), .val (.int p1), .val (.int p2), .val (.int p3), .val (.int md), .val (.int se), .val (.int su), .val (.ref e0), .val (.int ca), .val (.ref tx), .unset, .val (.int pp), .val (.int oc)] [(.ref tx)]))
        refine Go.by (fun t9_ q9_ => XS.iload W732.here W732.hx rfl (hb hby at_128) rfl q9_) ?_
        show Go p e below s Z [("java/lang/String", 7)] _ _ _ (T731.setTop (mkF m 130 #[.val (.int p0), .val (.int p1), .val (.int p2), .val (.int p3), .val (.int md), .val (.int se), .val (.int su), .val (.ref e0), .val (.int ca), .val (.ref tx), .unset, .val (.int pp), .val (.int oc)] [(.int pp), (.ref tx)]))
        refine Go.by (fun t9_ q9_ => XS.iload W732.here W732.hx rfl (hb hby at_130) rfl q9_) ?_
        show Go p e below s Z [("java/lang/String", 7)] _ _ _ (T731.setTop (mkF m 132 #[.val (.int p0), .val (.int p1), .val (.int p2), .val (.int p3), .val (.int md), .val (.int se), .val (.int su), .val (.ref e0), .val (.int ca), .val (.ref tx), .unset, .val (.int pp), .val (.int oc)] [(.int ca), (.int pp), (.ref tx)]))
        have W734 := W732.safeE E_x (by decide) (by decide)
        refine W734.cast_ (vs := ALLs.map Value.int) (dv := .int 0) A_x r_pp (i := pp.toNatClampNeg) rfl (by rw [List.length_map]; exact l_pp) (v' := ca) (nar_id (up16 r_ca)) z_x (List.mem_of_getElem? (i := 0) rfl) (hb hby at_132) ?_
        intro T735 h736 W737 Wr738 V2'
        have V2 : Arv Z h736 tx kx .char (16 : Int32) ((ALLs.set pp.toNatClampNeg ca).map Value.int) (.int 0) := by rw [List.map_set]; exact V2'
        show Go p e below s Z [("java/lang/String", 7)] _ _ _ (T735.setTop (mkF m 133 #[.val (.int p0), .val (.int p1), .val (.int p2), .val (.int p3), .val (.int md), .val (.int se), .val (.int su), .val (.ref e0), .val (.int ca), .val (.ref tx), .unset, .val (.int pp), .val (.int oc)] []))
        refine Go.by (fun t9_ q9_ => XS.iload W737.here W737.hx rfl (hb hby at_133) rfl q9_) ?_
        show Go p e below s Z [("java/lang/String", 7)] _ _ _ (T735.setTop (mkF m 135 #[.val (.int p0), .val (.int p1), .val (.int p2), .val (.int p3), .val (.int md), .val (.int se), .val (.int su), .val (.ref e0), .val (.int ca), .val (.ref tx), .unset, .val (.int pp), .val (.int oc)] [(.int ca)]))
        refine Go.by (fun t9_ q9_ => XS.iload W737.here W737.hx rfl (hb hby at_135) rfl q9_) ?_
        show Go p e below s Z [("java/lang/String", 7)] _ _ _ (T735.setTop (mkF m 137 #[.val (.int p0), .val (.int p1), .val (.int p2), .val (.int p3), .val (.int md), .val (.int se), .val (.int su), .val (.ref e0), .val (.int ca), .val (.ref tx), .unset, .val (.int pp), .val (.int oc)] [(.int oc), (.int ca)]))
        by_cases hco : ca = oc
        · refine Go.by (fun t9_ q9_ => XS.icmpNo W737.here W737.hx rfl (hb hby at_137) rfl (teq hco).2 q9_) ?_
          show Go p e below s Z [("java/lang/String", 7)] _ _ _ (T735.setTop (mkF m 140 #[.val (.int p0), .val (.int p1), .val (.int p2), .val (.int p3), .val (.int md), .val (.int se), .val (.int su), .val (.ref e0), .val (.int ca), .val (.ref tx), .unset, .val (.int pp), .val (.int oc)] []))
          refine Go.by (fun t9_ q9_ => XS.aload W737.here W737.hx rfl (hb hby at_140) rfl rfl q9_) ?_
          show Go p e below s Z [("java/lang/String", 7)] _ _ _ (T735.setTop (mkF m 142 #[.val (.int p0), .val (.int p1), .val (.int p2), .val (.int p3), .val (.int md), .val (.int se), .val (.int su), .val (.ref e0), .val (.int ca), .val (.ref tx), .unset, .val (.int pp), .val (.int oc)] [(.ref e0)]))
          refine Go.by (fun t9_ q9_ => XS.goto W737.here W737.hx rfl (pc0 := 142) (pc' := 146) rfl (hb hby at_142) (by decide) (by decide) q9_) ?_
          show Go p e below s Z [("java/lang/String", 7)] _ _ _ (T735.setTop (mkF m 146 #[.val (.int p0), .val (.int p1), .val (.int p2), .val (.int p3), .val (.int md), .val (.int se), .val (.int su), .val (.ref e0), .val (.int ca), .val (.ref tx), .unset, .val (.int pp), .val (.int oc)] [(.ref e0)]))
          refine Go.by (fun t9_ q9_ => XS.astore W737.here W737.hx rfl (hb hby at_146) rfl rfl (l' := #[.val (.int p0), .val (.int p1), .val (.int p2), .val (.int p3), .val (.int md), .val (.int se), .val (.int su), .val (.ref e0), .val (.int ca), .val (.ref tx), .val (.ref e0), .val (.int pp), .val (.int oc)]) rfl q9_) ?_
          show Go p e below s Z [("java/lang/String", 7)] _ _ _ (T735.setTop (mkF m 148 #[.val (.int p0), .val (.int p1), .val (.int p2), .val (.int p3), .val (.int md), .val (.int se), .val (.int su), .val (.ref e0), .val (.int ca), .val (.ref tx), .val (.ref e0), .val (.int pp), .val (.int oc)] []))
          refine Go.by (fun t9_ q9_ => XS.goto W737.here W737.hx rfl (pc0 := 148) (pc' := 270) rfl (hb hby at_148) (by decide) (by decide) q9_) ?_
          show Go p e below s Z [("java/lang/String", 7)] _ _ _ (T735.setTop (mkF m 270 #[.val (.int p0), .val (.int p1), .val (.int p2), .val (.int p3), .val (.int md), .val (.int se), .val (.int su), .val (.ref e0), .val (.int ca), .val (.ref tx), .val (.ref e0), .val (.int pp), .val (.int oc)] []))
          refine W737.new (wd8 hw) (wd9 hw) (wd10 hw) (hb hby at_270) (k' := 2) (n' := 20) rfl rfl (by decide) (by decide) ?_
          intro T739 h740 st W741 E742 g_st z_st A_st D_st
          have F_coder_st : Fld Z h740 st "java/lang/String" "coder" "B" (.int (0 : Int32)) := D_st (Or.inr (wd34 hw)) (ty := .byte) (by decide)
          have F_value_st : Fld Z h740 st "java/lang/String" "value" "[B" .null := D_st (Or.inr (wd36 hw)) (ty := (.array .byte)) (by decide)
          show Go p e below s Z [("java/lang/String", 7)] _ _ _ (T739.setTop (mkF m 273 #[.val (.int p0), .val (.int p1), .val (.int p2), .val (.int p3), .val (.int md), .val (.int se), .val (.int su), .val (.ref e0), .val (.int ca), .val (.ref tx), .val (.ref e0), .val (.int pp), .val (.int oc)] [(.ref st)]))
          refine Go.by (fun t9_ q9_ => XS.dup W741.here W741.hx rfl (hb hby at_273) rfl rfl q9_) ?_
          show Go p e below s Z [("java/lang/String", 7)] _ _ _ (T739.setTop (mkF m 274 #[.val (.int p0), .val (.int p1), .val (.int p2), .val (.int p3), .val (.int md), .val (.int se), .val (.int su), .val (.ref e0), .val (.int ca), .val (.ref tx), .val (.ref e0), .val (.int pp), .val (.int oc)] [(.ref st), (.ref st)]))
          refine Go.by (fun t9_ q9_ => XS.aload W741.here W741.hx rfl (hb hby at_274) rfl rfl q9_) ?_
          show Go p e below s Z [("java/lang/String", 7)] _ _ _ (T739.setTop (mkF m 276 #[.val (.int p0), .val (.int p1), .val (.int p2), .val (.int p3), .val (.int md), .val (.int se), .val (.int su), .val (.ref e0), .val (.int ca), .val (.ref tx), .val (.ref e0), .val (.int pp), .val (.int oc)] [(.ref tx), (.ref st), (.ref st)]))
          refine W741.strV (cs := (ALLs.set pp.toNatClampNeg ca)) (k_words hw) (wd9 hw) (wd11 hw) (wd12 hw) A_st F_value_st F_coder_st (V2.ext E742) (SG1.ext W741.old) hG (q := 16) (by simp) rfl (by decide) (by decide) (set_rng (by decide) r_ca) z_st (List.mem_of_getElem? (i := 0) rfl) (by decide) (Wt := 1) (by decide) (k' := 3) (n' := 36) rfl rfl (by decide) (by decide) (by rw [hml]; rfl) (Nat.le_of_eq rfl) (hb hby at_276) ?_
          intro T743 h744 W745 K746 S_st
          show Go p e below s Z [("java/lang/String", 7)] _ _ _ (T743.setTop (mkF m 279 #[.val (.int p0), .val (.int p1), .val (.int p2), .val (.int p3), .val (.int md), .val (.int se), .val (.int su), .val (.ref e0), .val (.int ca), .val (.ref tx), .val (.ref e0), .val (.int pp), .val (.int oc)] [(.ref st)]))
          have hxp : namF (ALLs.set pp.toNatClampNeg ca) e0 e1 = (.ref e0) := by rw [hco, h_oc, set_self l_pp]; exact nam_all _ _
          refine W745.callS (y := (⟨"com/example/proof_to_token/prooftotoken/config/Sociability", "named", "(Ljava/lang/String;)Ljava/util/Optional;"⟩ : MethodName)) (wd37 hw) (wd38 hw) (wd1 hw) (wd39 hw) (by decide) (c_named l Z a0 hw hEL h744 W745.old st _ G1 av e0 e1 t0 t1 em kv SG1 hG SV AV XV FW0 FW1 S0 S1 SE EE FE S_st (by simp)) all0 (by decide) (by decide) (k' := 5) (n' := 39) rfl rfl (by decide) (by decide) (by rw [hml]; rfl) (argsL := [(.ref st)]) (rest := []) (lenOf pd_5 rfl) rfl rfl (Wt := 0) (Nat.le_of_eq rfl) (hb hby at_279) ?_
          intro v_ T747 h749 W748 hq_
          obtain ⟨ro, rfl, X2, E2, F2⟩ := hq_
          rw [hxp] at F2
          show Go p e below s Z [("java/lang/String", 7)] _ _ _ (T747.setTop (mkF m 282 #[.val (.int p0), .val (.int p1), .val (.int p2), .val (.int p3), .val (.int md), .val (.int se), .val (.int su), .val (.ref e0), .val (.int ca), .val (.ref tx), .val (.ref e0), .val (.int pp), .val (.int oc)] [(.ref ro)]))
          refine Go.by (fun t9_ q9_ => XS.astore W748.here W748.hx rfl (hb hby at_282) rfl rfl (l' := #[.val (.int p0), .val (.int p1), .val (.int p2), .val (.int p3), .val (.int md), .val (.int se), .val (.int su), .val (.ref e0), .val (.int ca), .val (.ref tx), .val (.ref e0), .val (.ref ro), .val (.int oc)]) rfl q9_) ?_
          show Go p e below s Z [("java/lang/String", 7)] _ _ _ (T747.setTop (mkF m 284 #[.val (.int p0), .val (.int p1), .val (.int p2), .val (.int p3), .val (.int md), .val (.int se), .val (.int su), .val (.ref e0), .val (.int ca), .val (.ref tx), .val (.ref e0), .val (.ref ro), .val (.int oc)] []))
          refine Go.by (fun t9_ q9_ => XS.aload W748.here W748.hx rfl (hb hby at_284) rfl rfl q9_) ?_
          show Go p e below s Z [("java/lang/String", 7)] _ _ _ (T747.setTop (mkF m 286 #[.val (.int p0), .val (.int p1), .val (.int p2), .val (.int p3), .val (.int md), .val (.int se), .val (.int su), .val (.ref e0), .val (.int ca), .val (.ref tx), .val (.ref e0), .val (.ref ro), .val (.int oc)] [(.ref ro)]))
          refine Go.by (fun t9_ q9_ => XS.aconstNull W748.here W748.hx rfl (hb hby at_286) q9_) ?_
          show Go p e below s Z [("java/lang/String", 7)] _ _ _ (T747.setTop (mkF m 287 #[.val (.int p0), .val (.int p1), .val (.int p2), .val (.int p3), .val (.int md), .val (.int se), .val (.int su), .val (.ref e0), .val (.int ca), .val (.ref tx), .val (.ref e0), .val (.ref ro), .val (.int oc)] [.null, (.ref ro)]))
          refine W748.callVp (y := (⟨"java/util/Optional", "orElse", "(Ljava/lang/Object;)Ljava/lang/Object;"⟩ : MethodName)) (z := (⟨"java/util/Optional", "orElse", "(Ljava/lang/Object;)Ljava/lang/Object;"⟩ : MethodName)) (wd81 hw) (wd82 hw) (nf_sel rfl (wd84 hw)) (wd84 hw) (wd83 hw) (wd70 hw) (wd85 hw) (by decide) E2 (a := ro) (c_orelse l Z a0 hw hEL h749 W748.old ro _ rfl F2) all0 (by decide) (by decide) (k' := 5) (n' := 39) rfl rfl (by decide) (by decide) (by rw [hml]; rfl) (argsL := [.null]) (rest := []) (lenOf pd_6 rfl) rfl rfl (Wt := 0) (Nat.le_of_eq rfl) (hb hby at_287) ?_
          intro T750 W751
          show Go p e below s Z [("java/lang/String", 7)] _ _ _ (T750.setTop (mkF m 290 #[.val (.int p0), .val (.int p1), .val (.int p2), .val (.int p3), .val (.int md), .val (.int se), .val (.int su), .val (.ref e0), .val (.int ca), .val (.ref tx), .val (.ref e0), .val (.ref ro), .val (.int oc)] [(.ref e0)]))
          refine Go.by (fun t9_ q9_ => XS.aload W751.here W751.hx rfl (hb hby at_290) rfl rfl q9_) ?_
          show Go p e below s Z [("java/lang/String", 7)] _ _ _ (T750.setTop (mkF m 292 #[.val (.int p0), .val (.int p1), .val (.int p2), .val (.int p3), .val (.int md), .val (.int se), .val (.int su), .val (.ref e0), .val (.int ca), .val (.ref tx), .val (.ref e0), .val (.ref ro), .val (.int oc)] [(.ref e0), (.ref e0)]))
          refine Go.by (fun t9_ q9_ => acmpW W751 (g := (mkF m 292 #[.val (.int p0), .val (.int p1), .val (.int p2), .val (.int p3), .val (.int md), .val (.int se), .val (.int su), .val (.ref e0), .val (.int ca), .val (.ref tx), .val (.ref e0), .val (.ref ro), .val (.int oc)] [(.ref e0), (.ref e0)])) rfl rfl rfl (pc0 := 292) (pc' := 295) (same := true) rfl (hb hby at_292) rfl (decide_eq_true rfl) (by decide) (by decide) q9_) ?_
          show Go p e below s Z [("java/lang/String", 7)] _ _ _ (T750.setTop (mkF m 295 #[.val (.int p0), .val (.int p1), .val (.int p2), .val (.int p3), .val (.int md), .val (.int se), .val (.int su), .val (.ref e0), .val (.int ca), .val (.ref tx), .val (.ref e0), .val (.ref ro), .val (.int oc)] []))
          refine Go.by (fun t9_ q9_ => XS.iconst W751.here W751.hx rfl (hb hby at_295) q9_) ?_
          show Go p e below s Z [("java/lang/String", 7)] _ _ _ (T750.setTop (mkF m 296 #[.val (.int p0), .val (.int p1), .val (.int p2), .val (.int p3), .val (.int md), .val (.int se), .val (.int su), .val (.ref e0), .val (.int ca), .val (.ref tx), .val (.ref e0), .val (.ref ro), .val (.int oc)] [(.int (1 : Int32))]))
          refine Go.by (fun t9_ q9_ => XS.goto W751.here W751.hx rfl (pc0 := 296) (pc' := 300) rfl (hb hby at_296) (by decide) (by decide) q9_) ?_
          show Go p e below s Z [("java/lang/String", 7)] _ _ _ (T750.setTop (mkF m 300 #[.val (.int p0), .val (.int p1), .val (.int p2), .val (.int p3), .val (.int md), .val (.int se), .val (.int su), .val (.ref e0), .val (.int ca), .val (.ref tx), .val (.ref e0), .val (.ref ro), .val (.int oc)] [(.int (1 : Int32))]))
          exact W751.retN (z' := (1 : Int32)) (by decide) (by decide) hret (by simp) (hb hby at_300) rfl rfl
        · refine Go.by (fun t9_ q9_ => XS.icmpYes W737.here W737.hx rfl (pc0 := 137) (pc' := 145) rfl (hb hby at_137) rfl (feq hco).2 (by decide) (by decide) q9_) ?_
          show Go p e below s Z [("java/lang/String", 7)] _ _ _ (T735.setTop (mkF m 145 #[.val (.int p0), .val (.int p1), .val (.int p2), .val (.int p3), .val (.int md), .val (.int se), .val (.int su), .val (.ref e0), .val (.int ca), .val (.ref tx), .unset, .val (.int pp), .val (.int oc)] []))
          refine Go.by (fun t9_ q9_ => XS.aconstNull W737.here W737.hx rfl (hb hby at_145) q9_) ?_
          show Go p e below s Z [("java/lang/String", 7)] _ _ _ (T735.setTop (mkF m 146 #[.val (.int p0), .val (.int p1), .val (.int p2), .val (.int p3), .val (.int md), .val (.int se), .val (.int su), .val (.ref e0), .val (.int ca), .val (.ref tx), .unset, .val (.int pp), .val (.int oc)] [.null]))
          refine Go.by (fun t9_ q9_ => XS.astore W737.here W737.hx rfl (hb hby at_146) rfl rfl (l' := #[.val (.int p0), .val (.int p1), .val (.int p2), .val (.int p3), .val (.int md), .val (.int se), .val (.int su), .val (.ref e0), .val (.int ca), .val (.ref tx), .val .null, .val (.int pp), .val (.int oc)]) rfl q9_) ?_
          show Go p e below s Z [("java/lang/String", 7)] _ _ _ (T735.setTop (mkF m 148 #[.val (.int p0), .val (.int p1), .val (.int p2), .val (.int p3), .val (.int md), .val (.int se), .val (.int su), .val (.ref e0), .val (.int ca), .val (.ref tx), .val .null, .val (.int pp), .val (.int oc)] []))
          refine Go.by (fun t9_ q9_ => XS.goto W737.here W737.hx rfl (pc0 := 148) (pc' := 270) rfl (hb hby at_148) (by decide) (by decide) q9_) ?_
          show Go p e below s Z [("java/lang/String", 7)] _ _ _ (T735.setTop (mkF m 270 #[.val (.int p0), .val (.int p1), .val (.int p2), .val (.int p3), .val (.int md), .val (.int se), .val (.int su), .val (.ref e0), .val (.int ca), .val (.ref tx), .val .null, .val (.int pp), .val (.int oc)] []))
          refine W737.new (wd8 hw) (wd9 hw) (wd10 hw) (hb hby at_270) (k' := 2) (n' := 20) rfl rfl (by decide) (by decide) ?_
          intro T752 h753 st W754 E755 g_st z_st A_st D_st
          have F_coder_st : Fld Z h753 st "java/lang/String" "coder" "B" (.int (0 : Int32)) := D_st (Or.inr (wd34 hw)) (ty := .byte) (by decide)
          have F_value_st : Fld Z h753 st "java/lang/String" "value" "[B" .null := D_st (Or.inr (wd36 hw)) (ty := (.array .byte)) (by decide)
          show Go p e below s Z [("java/lang/String", 7)] _ _ _ (T752.setTop (mkF m 273 #[.val (.int p0), .val (.int p1), .val (.int p2), .val (.int p3), .val (.int md), .val (.int se), .val (.int su), .val (.ref e0), .val (.int ca), .val (.ref tx), .val .null, .val (.int pp), .val (.int oc)] [(.ref st)]))
          refine Go.by (fun t9_ q9_ => XS.dup W754.here W754.hx rfl (hb hby at_273) rfl rfl q9_) ?_
          show Go p e below s Z [("java/lang/String", 7)] _ _ _ (T752.setTop (mkF m 274 #[.val (.int p0), .val (.int p1), .val (.int p2), .val (.int p3), .val (.int md), .val (.int se), .val (.int su), .val (.ref e0), .val (.int ca), .val (.ref tx), .val .null, .val (.int pp), .val (.int oc)] [(.ref st), (.ref st)]))
          refine Go.by (fun t9_ q9_ => XS.aload W754.here W754.hx rfl (hb hby at_274) rfl rfl q9_) ?_
          show Go p e below s Z [("java/lang/String", 7)] _ _ _ (T752.setTop (mkF m 276 #[.val (.int p0), .val (.int p1), .val (.int p2), .val (.int p3), .val (.int md), .val (.int se), .val (.int su), .val (.ref e0), .val (.int ca), .val (.ref tx), .val .null, .val (.int pp), .val (.int oc)] [(.ref tx), (.ref st), (.ref st)]))
          refine W754.strV (cs := (ALLs.set pp.toNatClampNeg ca)) (k_words hw) (wd9 hw) (wd11 hw) (wd12 hw) A_st F_value_st F_coder_st (V2.ext E755) (SG1.ext W754.old) hG (q := 16) (by simp) rfl (by decide) (by decide) (set_rng (by decide) r_ca) z_st (List.mem_of_getElem? (i := 0) rfl) (by decide) (Wt := 1) (by decide) (k' := 3) (n' := 36) rfl rfl (by decide) (by decide) (by rw [hml]; rfl) (Nat.le_of_eq rfl) (hb hby at_276) ?_
          intro T756 h757 W758 K759 S_st
          show Go p e below s Z [("java/lang/String", 7)] _ _ _ (T756.setTop (mkF m 279 #[.val (.int p0), .val (.int p1), .val (.int p2), .val (.int p3), .val (.int md), .val (.int se), .val (.int su), .val (.ref e0), .val (.int ca), .val (.ref tx), .val .null, .val (.int pp), .val (.int oc)] [(.ref st)]))
          have hxp : namF (ALLs.set pp.toNatClampNeg ca) e0 e1 = .null := nam_null (fun q => absurd (congrArg List.length q) (by simp)) (set_ne l_pp (h_oc ▸ hco))
          refine W758.callS (y := (⟨"com/example/proof_to_token/prooftotoken/config/Sociability", "named", "(Ljava/lang/String;)Ljava/util/Optional;"⟩ : MethodName)) (wd37 hw) (wd38 hw) (wd1 hw) (wd39 hw) (by decide) (c_named l Z a0 hw hEL h757 W758.old st _ G1 av e0 e1 t0 t1 em kv SG1 hG SV AV XV FW0 FW1 S0 S1 SE EE FE S_st (by simp)) all0 (by decide) (by decide) (k' := 5) (n' := 39) rfl rfl (by decide) (by decide) (by rw [hml]; rfl) (argsL := [(.ref st)]) (rest := []) (lenOf pd_5 rfl) rfl rfl (Wt := 0) (Nat.le_of_eq rfl) (hb hby at_279) ?_
          intro v_ T760 h762 W761 hq_
          obtain ⟨ro, rfl, X2, E2, F2⟩ := hq_
          rw [hxp] at F2
          show Go p e below s Z [("java/lang/String", 7)] _ _ _ (T760.setTop (mkF m 282 #[.val (.int p0), .val (.int p1), .val (.int p2), .val (.int p3), .val (.int md), .val (.int se), .val (.int su), .val (.ref e0), .val (.int ca), .val (.ref tx), .val .null, .val (.int pp), .val (.int oc)] [(.ref ro)]))
          refine Go.by (fun t9_ q9_ => XS.astore W761.here W761.hx rfl (hb hby at_282) rfl rfl (l' := #[.val (.int p0), .val (.int p1), .val (.int p2), .val (.int p3), .val (.int md), .val (.int se), .val (.int su), .val (.ref e0), .val (.int ca), .val (.ref tx), .val .null, .val (.ref ro), .val (.int oc)]) rfl q9_) ?_
          show Go p e below s Z [("java/lang/String", 7)] _ _ _ (T760.setTop (mkF m 284 #[.val (.int p0), .val (.int p1), .val (.int p2), .val (.int p3), .val (.int md), .val (.int se), .val (.int su), .val (.ref e0), .val (.int ca), .val (.ref tx), .val .null, .val (.ref ro), .val (.int oc)] []))
          refine Go.by (fun t9_ q9_ => XS.aload W761.here W761.hx rfl (hb hby at_284) rfl rfl q9_) ?_
          show Go p e below s Z [("java/lang/String", 7)] _ _ _ (T760.setTop (mkF m 286 #[.val (.int p0), .val (.int p1), .val (.int p2), .val (.int p3), .val (.int md), .val (.int se), .val (.int su), .val (.ref e0), .val (.int ca), .val (.ref tx), .val .null, .val (.ref ro), .val (.int oc)] [(.ref ro)]))
          refine Go.by (fun t9_ q9_ => XS.aconstNull W761.here W761.hx rfl (hb hby at_286) q9_) ?_
          show Go p e below s Z [("java/lang/String", 7)] _ _ _ (T760.setTop (mkF m 287 #[.val (.int p0), .val (.int p1), .val (.int p2), .val (.int p3), .val (.int md), .val (.int se), .val (.int su), .val (.ref e0), .val (.int ca), .val (.ref tx), .val .null, .val (.ref ro), .val (.int oc)] [.null, (.ref ro)]))
          refine W761.callVp (y := (⟨"java/util/Optional", "orElse", "(Ljava/lang/Object;)Ljava/lang/Object;"⟩ : MethodName)) (z := (⟨"java/util/Optional", "orElse", "(Ljava/lang/Object;)Ljava/lang/Object;"⟩ : MethodName)) (wd81 hw) (wd82 hw) (nf_sel rfl (wd84 hw)) (wd84 hw) (wd83 hw) (wd70 hw) (wd85 hw) (by decide) E2 (a := ro) (c_orelse l Z a0 hw hEL h762 W761.old ro _ rfl F2) all0 (by decide) (by decide) (k' := 5) (n' := 39) rfl rfl (by decide) (by decide) (by rw [hml]; rfl) (argsL := [.null]) (rest := []) (lenOf pd_6 rfl) rfl rfl (Wt := 0) (Nat.le_of_eq rfl) (hb hby at_287) ?_
          intro T763 W764
          show Go p e below s Z [("java/lang/String", 7)] _ _ _ (T763.setTop (mkF m 290 #[.val (.int p0), .val (.int p1), .val (.int p2), .val (.int p3), .val (.int md), .val (.int se), .val (.int su), .val (.ref e0), .val (.int ca), .val (.ref tx), .val .null, .val (.ref ro), .val (.int oc)] [.null]))
          refine Go.by (fun t9_ q9_ => XS.aload W764.here W764.hx rfl (hb hby at_290) rfl rfl q9_) ?_
          show Go p e below s Z [("java/lang/String", 7)] _ _ _ (T763.setTop (mkF m 292 #[.val (.int p0), .val (.int p1), .val (.int p2), .val (.int p3), .val (.int md), .val (.int se), .val (.int su), .val (.ref e0), .val (.int ca), .val (.ref tx), .val .null, .val (.ref ro), .val (.int oc)] [.null, .null]))
          refine Go.by (fun t9_ q9_ => acmpW W764 (g := (mkF m 292 #[.val (.int p0), .val (.int p1), .val (.int p2), .val (.int p3), .val (.int md), .val (.int se), .val (.int su), .val (.ref e0), .val (.int ca), .val (.ref tx), .val .null, .val (.ref ro), .val (.int oc)] [.null, .null])) rfl rfl rfl (pc0 := 292) (pc' := 295) (same := true) rfl (hb hby at_292) rfl (decide_eq_true rfl) (by decide) (by decide) q9_) ?_
          show Go p e below s Z [("java/lang/String", 7)] _ _ _ (T763.setTop (mkF m 295 #[.val (.int p0), .val (.int p1), .val (.int p2), .val (.int p3), .val (.int md), .val (.int se), .val (.int su), .val (.ref e0), .val (.int ca), .val (.ref tx), .val .null, .val (.ref ro), .val (.int oc)] []))
          refine Go.by (fun t9_ q9_ => XS.iconst W764.here W764.hx rfl (hb hby at_295) q9_) ?_
          show Go p e below s Z [("java/lang/String", 7)] _ _ _ (T763.setTop (mkF m 296 #[.val (.int p0), .val (.int p1), .val (.int p2), .val (.int p3), .val (.int md), .val (.int se), .val (.int su), .val (.ref e0), .val (.int ca), .val (.ref tx), .val .null, .val (.ref ro), .val (.int oc)] [(.int (1 : Int32))]))
          refine Go.by (fun t9_ q9_ => XS.goto W764.here W764.hx rfl (pc0 := 296) (pc' := 300) rfl (hb hby at_296) (by decide) (by decide) q9_) ?_
          show Go p e below s Z [("java/lang/String", 7)] _ _ _ (T763.setTop (mkF m 300 #[.val (.int p0), .val (.int p1), .val (.int p2), .val (.int p3), .val (.int md), .val (.int se), .val (.int su), .val (.ref e0), .val (.int ca), .val (.ref tx), .val .null, .val (.ref ro), .val (.int oc)] [(.int (1 : Int32))]))
          exact W764.retN (z' := (1 : Int32)) (by decide) (by decide) hret (by simp) (hb hby at_300) rfl rfl
      · refine Go.by (fun t9_ q9_ => XS.icmpYes W714.here W714.hx rfl (pc0 := 90) (pc' := 151) rfl (hb hby at_90) rfl (feq hm1).2 (by decide) (by decide) q9_) ?_
        show Go p e below s Z [("java/lang/String", 7)] _ _ _ (T713.setTop (mkF m 151 #[.val (.int p0), .val (.int p1), .val (.int p2), .val (.int p3), .val (.int md), .val (.int se), .val (.int su), .val (.ref e0), .val (.int ca), .unset, .unset, .unset, .unset] []))
        refine Go.by (fun t9_ q9_ => XS.iload W714.here W714.hx rfl (hb hby at_151) rfl q9_) ?_
        show Go p e below s Z [("java/lang/String", 7)] _ _ _ (T713.setTop (mkF m 153 #[.val (.int p0), .val (.int p1), .val (.int p2), .val (.int p3), .val (.int md), .val (.int se), .val (.int su), .val (.ref e0), .val (.int ca), .unset, .unset, .unset, .unset] [(.int md)]))
        refine Go.by (fun t9_ q9_ => XS.iconst W714.here W714.hx rfl (hb hby at_153) q9_) ?_
        show Go p e below s Z [("java/lang/String", 7)] _ _ _ (T713.setTop (mkF m 154 #[.val (.int p0), .val (.int p1), .val (.int p2), .val (.int p3), .val (.int md), .val (.int se), .val (.int su), .val (.ref e0), .val (.int ca), .unset, .unset, .unset, .unset] [(.int (2 : Int32)), (.int md)]))
        by_cases hm2 : md = (2 : Int32)
        · refine Go.by (fun t9_ q9_ => XS.icmpNo W714.here W714.hx rfl (hb hby at_154) rfl (teq hm2).2 q9_) ?_
          show Go p e below s Z [("java/lang/String", 7)] _ _ _ (T713.setTop (mkF m 157 #[.val (.int p0), .val (.int p1), .val (.int p2), .val (.int p3), .val (.int md), .val (.int se), .val (.int su), .val (.ref e0), .val (.int ca), .unset, .unset, .unset, .unset] []))
          refine Go.by (fun t9_ q9_ => XS.iload W714.here W714.hx rfl (hb hby at_157) rfl q9_) ?_
          show Go p e below s Z [("java/lang/String", 7)] _ _ _ (T713.setTop (mkF m 159 #[.val (.int p0), .val (.int p1), .val (.int p2), .val (.int p3), .val (.int md), .val (.int se), .val (.int su), .val (.ref e0), .val (.int ca), .unset, .unset, .unset, .unset] [(.int se)]))
          refine Go.by (fun t9_ q9_ => XS.ifYes W714.here W714.hx rfl (pc0 := 159) (pc' := 170) rfl (hb hby at_159) rfl ((if0 _ _).trans (teq hsec).1) (by decide) (by decide) q9_) ?_
          show Go p e below s Z [("java/lang/String", 7)] _ _ _ (T713.setTop (mkF m 170 #[.val (.int p0), .val (.int p1), .val (.int p2), .val (.int p3), .val (.int md), .val (.int se), .val (.int su), .val (.ref e0), .val (.int ca), .unset, .unset, .unset, .unset] []))
          refine Go.by (fun t9_ q9_ => XS.iload W714.here W714.hx rfl (hb hby at_170) rfl q9_) ?_
          show Go p e below s Z [("java/lang/String", 7)] _ _ _ (T713.setTop (mkF m 172 #[.val (.int p0), .val (.int p1), .val (.int p2), .val (.int p3), .val (.int md), .val (.int se), .val (.int su), .val (.ref e0), .val (.int ca), .unset, .unset, .unset, .unset] [(.int ca)]))
          refine W714.callS (y := (⟨"com/example/proof_to_token/prooftotoken/config/SociabilityNamedPinLaw", "allOrgsPlus", "(C)[C"⟩ : MethodName)) (wd94 hw) (wd95 hw) (wd5 hw) (wd96 hw) (by decide) (c_allp l Z a0 hw hEL h0 W714.old ca r_ca) all0 (by decide) (by decide) (k' := 1) (n' := 17) rfl rfl (by decide) (by decide) (by rw [hml]; rfl) (argsL := [(.int ca)]) (rest := []) (lenOf pd_7 rfl) rfl rfl (Wt := 0) (Nat.le_of_eq rfl) (hb hby at_172) ?_
          intro v_ T765 h767 W766 hq_
          obtain ⟨tx, kx, rfl, X1, A_x, E_x, z_x⟩ := hq_
          show Go p e below s Z [("java/lang/String", 7)] _ _ _ (T765.setTop (mkF m 175 #[.val (.int p0), .val (.int p1), .val (.int p2), .val (.int p3), .val (.int md), .val (.int se), .val (.int su), .val (.ref e0), .val (.int ca), .unset, .unset, .unset, .unset] [(.ref tx)]))
          refine Go.by (fun t9_ q9_ => XS.astore W766.here W766.hx rfl (hb hby at_175) rfl rfl (l' := #[.val (.int p0), .val (.int p1), .val (.int p2), .val (.int p3), .val (.int md), .val (.int se), .val (.int su), .val (.ref e0), .val (.int ca), .val (.ref tx), .unset, .unset, .unset]) rfl q9_) ?_
          show Go p e below s Z [("java/lang/String", 7)] _ _ _ (T765.setTop (mkF m 177 #[.val (.int p0), .val (.int p1), .val (.int p2), .val (.int p3), .val (.int md), .val (.int se), .val (.int su), .val (.ref e0), .val (.int ca), .val (.ref tx), .unset, .unset, .unset] []))
          refine Go.by (fun t9_ q9_ => XS.aconstNull W766.here W766.hx rfl (hb hby at_177) q9_) ?_
          show Go p e below s Z [("java/lang/String", 7)] _ _ _ (T765.setTop (mkF m 178 #[.val (.int p0), .val (.int p1), .val (.int p2), .val (.int p3), .val (.int md), .val (.int se), .val (.int su), .val (.ref e0), .val (.int ca), .val (.ref tx), .unset, .unset, .unset] [.null]))
          refine Go.by (fun t9_ q9_ => XS.astore W766.here W766.hx rfl (hb hby at_178) rfl rfl (l' := #[.val (.int p0), .val (.int p1), .val (.int p2), .val (.int p3), .val (.int md), .val (.int se), .val (.int su), .val (.ref e0), .val (.int ca), .val (.ref tx), .val .null, .unset, .unset]) rfl q9_) ?_
          show Go p e below s Z [("java/lang/String", 7)] _ _ _ (T765.setTop (mkF m 180 #[.val (.int p0), .val (.int p1), .val (.int p2), .val (.int p3), .val (.int md), .val (.int se), .val (.int su), .val (.ref e0), .val (.int ca), .val (.ref tx), .val .null, .unset, .unset] []))
          refine Go.by (fun t9_ q9_ => XS.goto W766.here W766.hx rfl (pc0 := 180) (pc' := 270) rfl (hb hby at_180) (by decide) (by decide) q9_) ?_
          show Go p e below s Z [("java/lang/String", 7)] _ _ _ (T765.setTop (mkF m 270 #[.val (.int p0), .val (.int p1), .val (.int p2), .val (.int p3), .val (.int md), .val (.int se), .val (.int su), .val (.ref e0), .val (.int ca), .val (.ref tx), .val .null, .unset, .unset] []))
          refine W766.new (wd8 hw) (wd9 hw) (wd10 hw) (hb hby at_270) (k' := 2) (n' := 21) rfl rfl (by decide) (by decide) ?_
          intro T768 h769 st W770 E771 g_st z_st A_st D_st
          have F_coder_st : Fld Z h769 st "java/lang/String" "coder" "B" (.int (0 : Int32)) := D_st (Or.inr (wd34 hw)) (ty := .byte) (by decide)
          have F_value_st : Fld Z h769 st "java/lang/String" "value" "[B" .null := D_st (Or.inr (wd36 hw)) (ty := (.array .byte)) (by decide)
          show Go p e below s Z [("java/lang/String", 7)] _ _ _ (T768.setTop (mkF m 273 #[.val (.int p0), .val (.int p1), .val (.int p2), .val (.int p3), .val (.int md), .val (.int se), .val (.int su), .val (.ref e0), .val (.int ca), .val (.ref tx), .val .null, .unset, .unset] [(.ref st)]))
          refine Go.by (fun t9_ q9_ => XS.dup W770.here W770.hx rfl (hb hby at_273) rfl rfl q9_) ?_
          show Go p e below s Z [("java/lang/String", 7)] _ _ _ (T768.setTop (mkF m 274 #[.val (.int p0), .val (.int p1), .val (.int p2), .val (.int p3), .val (.int md), .val (.int se), .val (.int su), .val (.ref e0), .val (.int ca), .val (.ref tx), .val .null, .unset, .unset] [(.ref st), (.ref st)]))
          refine Go.by (fun t9_ q9_ => XS.aload W770.here W770.hx rfl (hb hby at_274) rfl rfl q9_) ?_
          show Go p e below s Z [("java/lang/String", 7)] _ _ _ (T768.setTop (mkF m 276 #[.val (.int p0), .val (.int p1), .val (.int p2), .val (.int p3), .val (.int md), .val (.int se), .val (.int su), .val (.ref e0), .val (.int ca), .val (.ref tx), .val .null, .unset, .unset] [(.ref tx), (.ref st), (.ref st)]))
          refine W770.strV (cs := [65, 108, 108, 79, 114, 103, 97, 110, 105, 122, 97, 116, 105, 111, 110, 115, ca]) (k_words hw) (wd9 hw) (wd11 hw) (wd12 hw) A_st F_value_st F_coder_st (A_x.ext E771) (SG1.ext W770.old) hG (q := 17) rfl rfl (by decide) (by decide) (by intro c hc; simp only [List.mem_cons, List.not_mem_nil, or_false] at hc; rcases hc with rfl | rfl | rfl | rfl | rfl | rfl | rfl | rfl | rfl | rfl | rfl | rfl | rfl | rfl | rfl | rfl | rfl <;> first | assumption | decide) z_st (List.mem_of_getElem? (i := 0) rfl) (by decide) (Wt := 1) (by decide) (k' := 3) (n' := 38) rfl rfl (by decide) (by decide) (by rw [hml]; rfl) (Nat.le_of_eq rfl) (hb hby at_276) ?_
          intro T772 h773 W774 K775 S_st
          show Go p e below s Z [("java/lang/String", 7)] _ _ _ (T772.setTop (mkF m 279 #[.val (.int p0), .val (.int p1), .val (.int p2), .val (.int p3), .val (.int md), .val (.int se), .val (.int su), .val (.ref e0), .val (.int ca), .val (.ref tx), .val .null, .unset, .unset] [(.ref st)]))
          have hxp : namF [65, 108, 108, 79, 114, 103, 97, 110, 105, 122, 97, 116, 105, 111, 110, 115, ca] e0 e1 = .null := nam_null (by simp) (by simp)
          refine W774.callS (y := (⟨"com/example/proof_to_token/prooftotoken/config/Sociability", "named", "(Ljava/lang/String;)Ljava/util/Optional;"⟩ : MethodName)) (wd37 hw) (wd38 hw) (wd1 hw) (wd39 hw) (by decide) (c_named l Z a0 hw hEL h773 W774.old st _ G1 av e0 e1 t0 t1 em kv SG1 hG SV AV XV FW0 FW1 S0 S1 SE EE FE S_st (by simp)) all0 (by decide) (by decide) (k' := 5) (n' := 41) rfl rfl (by decide) (by decide) (by rw [hml]; rfl) (argsL := [(.ref st)]) (rest := []) (lenOf pd_5 rfl) rfl rfl (Wt := 0) (Nat.le_of_eq rfl) (hb hby at_279) ?_
          intro v_ T776 h778 W777 hq_
          obtain ⟨ro, rfl, X2, E2, F2⟩ := hq_
          rw [hxp] at F2
          show Go p e below s Z [("java/lang/String", 7)] _ _ _ (T776.setTop (mkF m 282 #[.val (.int p0), .val (.int p1), .val (.int p2), .val (.int p3), .val (.int md), .val (.int se), .val (.int su), .val (.ref e0), .val (.int ca), .val (.ref tx), .val .null, .unset, .unset] [(.ref ro)]))
          refine Go.by (fun t9_ q9_ => XS.astore W777.here W777.hx rfl (hb hby at_282) rfl rfl (l' := #[.val (.int p0), .val (.int p1), .val (.int p2), .val (.int p3), .val (.int md), .val (.int se), .val (.int su), .val (.ref e0), .val (.int ca), .val (.ref tx), .val .null, .val (.ref ro), .unset]) rfl q9_) ?_
          show Go p e below s Z [("java/lang/String", 7)] _ _ _ (T776.setTop (mkF m 284 #[.val (.int p0), .val (.int p1), .val (.int p2), .val (.int p3), .val (.int md), .val (.int se), .val (.int su), .val (.ref e0), .val (.int ca), .val (.ref tx), .val .null, .val (.ref ro), .unset] []))
          refine Go.by (fun t9_ q9_ => XS.aload W777.here W777.hx rfl (hb hby at_284) rfl rfl q9_) ?_
          show Go p e below s Z [("java/lang/String", 7)] _ _ _ (T776.setTop (mkF m 286 #[.val (.int p0), .val (.int p1), .val (.int p2), .val (.int p3), .val (.int md), .val (.int se), .val (.int su), .val (.ref e0), .val (.int ca), .val (.ref tx), .val .null, .val (.ref ro), .unset] [(.ref ro)]))
          refine Go.by (fun t9_ q9_ => XS.aconstNull W777.here W777.hx rfl (hb hby at_286) q9_) ?_
          show Go p e below s Z [("java/lang/String", 7)] _ _ _ (T776.setTop (mkF m 287 #[.val (.int p0), .val (.int p1), .val (.int p2), .val (.int p3), .val (.int md), .val (.int se), .val (.int su), .val (.ref e0), .val (.int ca), .val (.ref tx), .val .null, .val (.ref ro), .unset] [.null, (.ref ro)]))
          refine W777.callVp (y := (⟨"java/util/Optional", "orElse", "(Ljava/lang/Object;)Ljava/lang/Object;"⟩ : MethodName)) (z := (⟨"java/util/Optional", "orElse", "(Ljava/lang/Object;)Ljava/lang/Object;"⟩ : MethodName)) (wd81 hw) (wd82 hw) (nf_sel rfl (wd84 hw)) (wd84 hw) (wd83 hw) (wd70 hw) (wd85 hw) (by decide) E2 (a := ro) (c_orelse l Z a0 hw hEL h778 W777.old ro _ rfl F2) all0 (by decide) (by decide) (k' := 5) (n' := 41) rfl rfl (by decide) (by decide) (by rw [hml]; rfl) (argsL := [.null]) (rest := []) (lenOf pd_6 rfl) rfl rfl (Wt := 0) (Nat.le_of_eq rfl) (hb hby at_287) ?_
          intro T779 W780
          show Go p e below s Z [("java/lang/String", 7)] _ _ _ (T779.setTop (mkF m 290 #[.val (.int p0), .val (.int p1), .val (.int p2), .val (.int p3), .val (.int md), .val (.int se), .val (.int su), .val (.ref e0), .val (.int ca), .val (.ref tx), .val .null, .val (.ref ro), .unset] [.null]))
          refine Go.by (fun t9_ q9_ => XS.aload W780.here W780.hx rfl (hb hby at_290) rfl rfl q9_) ?_
          show Go p e below s Z [("java/lang/String", 7)] _ _ _ (T779.setTop (mkF m 292 #[.val (.int p0), .val (.int p1), .val (.int p2), .val (.int p3), .val (.int md), .val (.int se), .val (.int su), .val (.ref e0), .val (.int ca), .val (.ref tx), .val .null, .val (.ref ro), .unset] [.null, .null]))
          refine Go.by (fun t9_ q9_ => acmpW W780 (g := (mkF m 292 #[.val (.int p0), .val (.int p1), .val (.int p2), .val (.int p3), .val (.int md), .val (.int se), .val (.int su), .val (.ref e0), .val (.int ca), .val (.ref tx), .val .null, .val (.ref ro), .unset] [.null, .null])) rfl rfl rfl (pc0 := 292) (pc' := 295) (same := true) rfl (hb hby at_292) rfl (decide_eq_true rfl) (by decide) (by decide) q9_) ?_
          show Go p e below s Z [("java/lang/String", 7)] _ _ _ (T779.setTop (mkF m 295 #[.val (.int p0), .val (.int p1), .val (.int p2), .val (.int p3), .val (.int md), .val (.int se), .val (.int su), .val (.ref e0), .val (.int ca), .val (.ref tx), .val .null, .val (.ref ro), .unset] []))
          refine Go.by (fun t9_ q9_ => XS.iconst W780.here W780.hx rfl (hb hby at_295) q9_) ?_
          show Go p e below s Z [("java/lang/String", 7)] _ _ _ (T779.setTop (mkF m 296 #[.val (.int p0), .val (.int p1), .val (.int p2), .val (.int p3), .val (.int md), .val (.int se), .val (.int su), .val (.ref e0), .val (.int ca), .val (.ref tx), .val .null, .val (.ref ro), .unset] [(.int (1 : Int32))]))
          refine Go.by (fun t9_ q9_ => XS.goto W780.here W780.hx rfl (pc0 := 296) (pc' := 300) rfl (hb hby at_296) (by decide) (by decide) q9_) ?_
          show Go p e below s Z [("java/lang/String", 7)] _ _ _ (T779.setTop (mkF m 300 #[.val (.int p0), .val (.int p1), .val (.int p2), .val (.int p3), .val (.int md), .val (.int se), .val (.int su), .val (.ref e0), .val (.int ca), .val (.ref tx), .val .null, .val (.ref ro), .unset] [(.int (1 : Int32))]))
          exact W780.retN (z' := (1 : Int32)) (by decide) (by decide) hret (by simp) (hb hby at_300) rfl rfl
        · refine Go.by (fun t9_ q9_ => XS.icmpYes W714.here W714.hx rfl (pc0 := 154) (pc' := 183) rfl (hb hby at_154) rfl (feq hm2).2 (by decide) (by decide) q9_) ?_
          show Go p e below s Z [("java/lang/String", 7)] _ _ _ (T713.setTop (mkF m 183 #[.val (.int p0), .val (.int p1), .val (.int p2), .val (.int p3), .val (.int md), .val (.int se), .val (.int su), .val (.ref e0), .val (.int ca), .unset, .unset, .unset, .unset] []))
          refine Go.by (fun t9_ q9_ => XS.iload W714.here W714.hx rfl (hb hby at_183) rfl q9_) ?_
          show Go p e below s Z [("java/lang/String", 7)] _ _ _ (T713.setTop (mkF m 185 #[.val (.int p0), .val (.int p1), .val (.int p2), .val (.int p3), .val (.int md), .val (.int se), .val (.int su), .val (.ref e0), .val (.int ca), .unset, .unset, .unset, .unset] [(.int su)]))
          by_cases hsb : su = (0 : Int32)
          · refine Go.by (fun t9_ q9_ => XS.ifYes W714.here W714.hx rfl (pc0 := 185) (pc' := 210) rfl (hb hby at_185) rfl ((if0 _ _).trans (teq hsb).1) (by decide) (by decide) q9_) ?_
            show Go p e below s Z [("java/lang/String", 7)] _ _ _ (T713.setTop (mkF m 210 #[.val (.int p0), .val (.int p1), .val (.int p2), .val (.int p3), .val (.int md), .val (.int se), .val (.int su), .val (.ref e0), .val (.int ca), .unset, .unset, .unset, .unset] []))
            refine Go.by (fun t9_ q9_ => XS.iloadN W714.here W714.hx rfl (hb hby at_210) rfl q9_) ?_
            show Go p e below s Z [("java/lang/String", 7)] _ _ _ (T713.setTop (mkF m 211 #[.val (.int p0), .val (.int p1), .val (.int p2), .val (.int p3), .val (.int md), .val (.int se), .val (.int su), .val (.ref e0), .val (.int ca), .unset, .unset, .unset, .unset] [(.int p1)]))
            refine Go.by (fun t9_ q9_ => XS.iconst W714.here W714.hx rfl (hb hby at_211) q9_) ?_
            show Go p e below s Z [("java/lang/String", 7)] _ _ _ (T713.setTop (mkF m 212 #[.val (.int p0), .val (.int p1), .val (.int p2), .val (.int p3), .val (.int md), .val (.int se), .val (.int su), .val (.ref e0), .val (.int ca), .unset, .unset, .unset, .unset] [(.int (3 : Int32)), (.int p1)]))
            refine Go.by (fun t9_ q9_ => XS.iand W714.here W714.hx rfl (hb hby at_212) rfl q9_) ?_
            show Go p e below s Z [("java/lang/String", 7)] _ _ _ (T713.setTop (mkF m 213 #[.val (.int p0), .val (.int p1), .val (.int p2), .val (.int p3), .val (.int md), .val (.int se), .val (.int su), .val (.ref e0), .val (.int ca), .unset, .unset, .unset, .unset] [(.int (p1 &&& (3 : Int32)))]))
            refine Go.by (fun t9_ q9_ => XS.istore W714.here W714.hx rfl (hb hby at_213) rfl (l' := #[.val (.int p0), .val (.int p1), .val (.int p2), .val (.int p3), .val (.int md), .val (.int se), .val (.int su), .val (.ref e0), .val (.int ca), .unset, .unset, .val (.int (p1 &&& (3 : Int32))), .unset]) rfl q9_) ?_
            show Go p e below s Z [("java/lang/String", 7)] _ _ _ (T713.setTop (mkF m 215 #[.val (.int p0), .val (.int p1), .val (.int p2), .val (.int p3), .val (.int md), .val (.int se), .val (.int su), .val (.ref e0), .val (.int ca), .unset, .unset, .val (.int (p1 &&& (3 : Int32))), .unset] []))
            rcases and3 p1 with hn | hn | hn | hn
            · rw [hn]
              show Go p e below s Z [("java/lang/String", 7)] _ _ _ (T713.setTop (mkF m 215 #[.val (.int p0), .val (.int p1), .val (.int p2), .val (.int p3), .val (.int md), .val (.int se), .val (.int su), .val (.ref e0), .val (.int ca), .unset, .unset, .val (.int (0 : Int32)), .unset] []))
              refine Go.by (fun t9_ q9_ => XS.iload W714.here W714.hx rfl (hb hby at_215) rfl q9_) ?_
              show Go p e below s Z [("java/lang/String", 7)] _ _ _ (T713.setTop (mkF m 217 #[.val (.int p0), .val (.int p1), .val (.int p2), .val (.int p3), .val (.int md), .val (.int se), .val (.int su), .val (.ref e0), .val (.int ca), .unset, .unset, .val (.int (0 : Int32)), .unset] [(.int (0 : Int32))]))
              refine W714.newp (aty := .char) (wd7 hw) (hb hby at_217) (by decide) (cap := 0) (by decide) (by decide) (k' := 1) (n' := 0) rfl rfl (by decide) (by decide) (ad := "[C") rfl ?_
              intro T797 h798 tx k_tx W799 E800 g_tx z_tx A_tx V_tx
              have V1_tx : Arv Z h798 tx k_tx .char (0 : Int32) [] (.int (0 : Int32)) := V_tx.pad (pad_rep [] (.int (0 : Int32)) 0)
              show Go p e below s Z [("java/lang/String", 7)] _ _ _ (T797.setTop (mkF m 219 #[.val (.int p0), .val (.int p1), .val (.int p2), .val (.int p3), .val (.int md), .val (.int se), .val (.int su), .val (.ref e0), .val (.int ca), .unset, .unset, .val (.int (0 : Int32)), .unset] [(.ref tx)]))
              refine Go.by (fun t9_ q9_ => XS.astore W799.here W799.hx rfl (hb hby at_219) rfl rfl (l' := #[.val (.int p0), .val (.int p1), .val (.int p2), .val (.int p3), .val (.int md), .val (.int se), .val (.int su), .val (.ref e0), .val (.int ca), .val (.ref tx), .unset, .val (.int (0 : Int32)), .unset]) rfl q9_) ?_
              show Go p e below s Z [("java/lang/String", 7)] _ _ _ (T797.setTop (mkF m 221 #[.val (.int p0), .val (.int p1), .val (.int p2), .val (.int p3), .val (.int md), .val (.int se), .val (.int su), .val (.ref e0), .val (.int ca), .val (.ref tx), .unset, .val (.int (0 : Int32)), .unset] []))
              refine Go.by (fun t9_ q9_ => XS.iload W799.here W799.hx rfl (hb hby at_221) rfl q9_) ?_
              show Go p e below s Z [("java/lang/String", 7)] _ _ _ (T797.setTop (mkF m 223 #[.val (.int p0), .val (.int p1), .val (.int p2), .val (.int p3), .val (.int md), .val (.int se), .val (.int su), .val (.ref e0), .val (.int ca), .val (.ref tx), .unset, .val (.int (0 : Int32)), .unset] [(.int (0 : Int32))]))
              refine Go.by (fun t9_ q9_ => XS.ifYes W799.here W799.hx rfl (pc0 := 223) (pc' := 232) rfl (hb hby at_223) rfl ((if0 _ _).trans (flt (by decide)).2.2.2) (by decide) (by decide) q9_) ?_
              show Go p e below s Z [("java/lang/String", 7)] _ _ _ (T797.setTop (mkF m 232 #[.val (.int p0), .val (.int p1), .val (.int p2), .val (.int p3), .val (.int md), .val (.int se), .val (.int su), .val (.ref e0), .val (.int ca), .val (.ref tx), .unset, .val (.int (0 : Int32)), .unset] []))
              refine Go.by (fun t9_ q9_ => XS.iload W799.here W799.hx rfl (hb hby at_232) rfl q9_) ?_
              show Go p e below s Z [("java/lang/String", 7)] _ _ _ (T797.setTop (mkF m 234 #[.val (.int p0), .val (.int p1), .val (.int p2), .val (.int p3), .val (.int md), .val (.int se), .val (.int su), .val (.ref e0), .val (.int ca), .val (.ref tx), .unset, .val (.int (0 : Int32)), .unset] [(.int (0 : Int32))]))
              refine Go.by (fun t9_ q9_ => XS.iconst W799.here W799.hx rfl (hb hby at_234) q9_) ?_
              show Go p e below s Z [("java/lang/String", 7)] _ _ _ (T797.setTop (mkF m 235 #[.val (.int p0), .val (.int p1), .val (.int p2), .val (.int p3), .val (.int md), .val (.int se), .val (.int su), .val (.ref e0), .val (.int ca), .val (.ref tx), .unset, .val (.int (0 : Int32)), .unset] [(.int (1 : Int32)), (.int (0 : Int32))]))
              refine Go.by (fun t9_ q9_ => XS.icmpYes W799.here W799.hx rfl (pc0 := 235) (pc' := 248) rfl (hb hby at_235) rfl (flt (by decide)).2.2.2 (by decide) (by decide) q9_) ?_
              show Go p e below s Z [("java/lang/String", 7)] _ _ _ (T797.setTop (mkF m 248 #[.val (.int p0), .val (.int p1), .val (.int p2), .val (.int p3), .val (.int md), .val (.int se), .val (.int su), .val (.ref e0), .val (.int ca), .val (.ref tx), .unset, .val (.int (0 : Int32)), .unset] []))
              refine Go.by (fun t9_ q9_ => XS.iload W799.here W799.hx rfl (hb hby at_248) rfl q9_) ?_
              show Go p e below s Z [("java/lang/String", 7)] _ _ _ (T797.setTop (mkF m 250 #[.val (.int p0), .val (.int p1), .val (.int p2), .val (.int p3), .val (.int md), .val (.int se), .val (.int su), .val (.ref e0), .val (.int ca), .val (.ref tx), .unset, .val (.int (0 : Int32)), .unset] [(.int (0 : Int32))]))
              refine Go.by (fun t9_ q9_ => XS.iconst W799.here W799.hx rfl (hb hby at_250) q9_) ?_
              show Go p e below s Z [("java/lang/String", 7)] _ _ _ (T797.setTop (mkF m 251 #[.val (.int p0), .val (.int p1), .val (.int p2), .val (.int p3), .val (.int md), .val (.int se), .val (.int su), .val (.ref e0), .val (.int ca), .val (.ref tx), .unset, .val (.int (0 : Int32)), .unset] [(.int (2 : Int32)), (.int (0 : Int32))]))
              refine Go.by (fun t9_ q9_ => XS.icmpYes W799.here W799.hx rfl (pc0 := 251) (pc' := 267) rfl (hb hby at_251) rfl (flt (by decide)).2.2.2 (by decide) (by decide) q9_) ?_
              show Go p e below s Z [("java/lang/String", 7)] _ _ _ (T797.setTop (mkF m 267 #[.val (.int p0), .val (.int p1), .val (.int p2), .val (.int p3), .val (.int md), .val (.int se), .val (.int su), .val (.ref e0), .val (.int ca), .val (.ref tx), .unset, .val (.int (0 : Int32)), .unset] []))
              refine Go.by (fun t9_ q9_ => XS.aconstNull W799.here W799.hx rfl (hb hby at_267) q9_) ?_
              show Go p e below s Z [("java/lang/String", 7)] _ _ _ (T797.setTop (mkF m 268 #[.val (.int p0), .val (.int p1), .val (.int p2), .val (.int p3), .val (.int md), .val (.int se), .val (.int su), .val (.ref e0), .val (.int ca), .val (.ref tx), .unset, .val (.int (0 : Int32)), .unset] [.null]))
              refine Go.by (fun t9_ q9_ => XS.astore W799.here W799.hx rfl (hb hby at_268) rfl rfl (l' := #[.val (.int p0), .val (.int p1), .val (.int p2), .val (.int p3), .val (.int md), .val (.int se), .val (.int su), .val (.ref e0), .val (.int ca), .val (.ref tx), .val .null, .val (.int (0 : Int32)), .unset]) rfl q9_) ?_
              show Go p e below s Z [("java/lang/String", 7)] _ _ _ (T797.setTop (mkF m 270 #[.val (.int p0), .val (.int p1), .val (.int p2), .val (.int p3), .val (.int md), .val (.int se), .val (.int su), .val (.ref e0), .val (.int ca), .val (.ref tx), .val .null, .val (.int (0 : Int32)), .unset] []))
              refine W799.new (wd8 hw) (wd9 hw) (wd10 hw) (hb hby at_270) (k' := 2) (n' := 4) rfl rfl (by decide) (by decide) ?_
              intro T801 h802 st W803 E804 g_st z_st A_st D_st
              have F_coder_st : Fld Z h802 st "java/lang/String" "coder" "B" (.int (0 : Int32)) := D_st (Or.inr (wd34 hw)) (ty := .byte) (by decide)
              have F_value_st : Fld Z h802 st "java/lang/String" "value" "[B" .null := D_st (Or.inr (wd36 hw)) (ty := (.array .byte)) (by decide)
              show Go p e below s Z [("java/lang/String", 7)] _ _ _ (T801.setTop (mkF m 273 #[.val (.int p0), .val (.int p1), .val (.int p2), .val (.int p3), .val (.int md), .val (.int se), .val (.int su), .val (.ref e0), .val (.int ca), .val (.ref tx), .val .null, .val (.int (0 : Int32)), .unset] [(.ref st)]))
              refine Go.by (fun t9_ q9_ => XS.dup W803.here W803.hx rfl (hb hby at_273) rfl rfl q9_) ?_
              show Go p e below s Z [("java/lang/String", 7)] _ _ _ (T801.setTop (mkF m 274 #[.val (.int p0), .val (.int p1), .val (.int p2), .val (.int p3), .val (.int md), .val (.int se), .val (.int su), .val (.ref e0), .val (.int ca), .val (.ref tx), .val .null, .val (.int (0 : Int32)), .unset] [(.ref st), (.ref st)]))
              refine Go.by (fun t9_ q9_ => XS.aload W803.here W803.hx rfl (hb hby at_274) rfl rfl q9_) ?_
              show Go p e below s Z [("java/lang/String", 7)] _ _ _ (T801.setTop (mkF m 276 #[.val (.int p0), .val (.int p1), .val (.int p2), .val (.int p3), .val (.int md), .val (.int se), .val (.int su), .val (.ref e0), .val (.int ca), .val (.ref tx), .val .null, .val (.int (0 : Int32)), .unset] [(.ref tx), (.ref st), (.ref st)]))
              refine W803.callI (y := (⟨"java/lang/String", "<init>", "([C)V"⟩ : MethodName)) rfl (wd11 hw) (wd12 hw) (wd10 hw) (wd13 hw) (by decide) (a := st) (c_str1e l Z a0 hw hEL h802 W803.old st tx _ _ _ A_st F_value_st F_coder_st z_st (V1_tx.ext E804)) (allS (List.mem_of_getElem? (i := 0) rfl) all0) (by decide) (by decide) (k' := 6) (n' := 12) rfl rfl (by decide) (by decide) (by rw [hml]; rfl) (argsL := [(.ref tx)]) (rest := [(.ref st)]) (lenOf pd_8 rfl) rfl rfl (Wt := 1) (Nat.le_of_eq rfl) (hb hby at_276) ?_
              intro v_ T805 h807 W806 hq_
              obtain ⟨rfl, K1, S_st⟩ := hq_
              show Go p e below s Z [("java/lang/String", 7)] _ _ _ (T805.setTop (mkF m 279 #[.val (.int p0), .val (.int p1), .val (.int p2), .val (.int p3), .val (.int md), .val (.int se), .val (.int su), .val (.ref e0), .val (.int ca), .val (.ref tx), .val .null, .val (.int (0 : Int32)), .unset] [(.ref st)]))
              have hxp : namF [] e0 e1 = .null := nam_null (by simp) (by simp)
              refine W806.callS (y := (⟨"com/example/proof_to_token/prooftotoken/config/Sociability", "named", "(Ljava/lang/String;)Ljava/util/Optional;"⟩ : MethodName)) (wd37 hw) (wd38 hw) (wd1 hw) (wd39 hw) (by decide) (c_named l Z a0 hw hEL h807 W806.old st _ G1 av e0 e1 t0 t1 em kv SG1 hG SV AV XV FW0 FW1 S0 S1 SE EE FE S_st (by simp)) all0 (by decide) (by decide) (k' := 8) (n' := 15) rfl rfl (by decide) (by decide) (by rw [hml]; rfl) (argsL := [(.ref st)]) (rest := []) (lenOf pd_5 rfl) rfl rfl (Wt := 0) (Nat.le_of_eq rfl) (hb hby at_279) ?_
              intro v_ T808 h810 W809 hq_
              obtain ⟨ro, rfl, X2, E2, F2⟩ := hq_
              rw [hxp] at F2
              show Go p e below s Z [("java/lang/String", 7)] _ _ _ (T808.setTop (mkF m 282 #[.val (.int p0), .val (.int p1), .val (.int p2), .val (.int p3), .val (.int md), .val (.int se), .val (.int su), .val (.ref e0), .val (.int ca), .val (.ref tx), .val .null, .val (.int (0 : Int32)), .unset] [(.ref ro)]))
              refine Go.by (fun t9_ q9_ => XS.astore W809.here W809.hx rfl (hb hby at_282) rfl rfl (l' := #[.val (.int p0), .val (.int p1), .val (.int p2), .val (.int p3), .val (.int md), .val (.int se), .val (.int su), .val (.ref e0), .val (.int ca), .val (.ref tx), .val .null, .val (.ref ro), .unset]) rfl q9_) ?_
              show Go p e below s Z [("java/lang/String", 7)] _ _ _ (T808.setTop (mkF m 284 #[.val (.int p0), .val (.int p1), .val (.int p2), .val (.int p3), .val (.int md), .val (.int se), .val (.int su), .val (.ref e0), .val (.int ca), .val (.ref tx), .val .null, .val (.ref ro), .unset] []))
              refine Go.by (fun t9_ q9_ => XS.aload W809.here W809.hx rfl (hb hby at_284) rfl rfl q9_) ?_
              show Go p e below s Z [("java/lang/String", 7)] _ _ _ (T808.setTop (mkF m 286 #[.val (.int p0), .val (.int p1), .val (.int p2), .val (.int p3), .val (.int md), .val (.int se), .val (.int su), .val (.ref e0), .val (.int ca), .val (.ref tx), .val .null, .val (.ref ro), .unset] [(.ref ro)]))
              refine Go.by (fun t9_ q9_ => XS.aconstNull W809.here W809.hx rfl (hb hby at_286) q9_) ?_
              show Go p e below s Z [("java/lang/String", 7)] _ _ _ (T808.setTop (mkF m 287 #[.val (.int p0), .val (.int p1), .val (.int p2), .val (.int p3), .val (.int md), .val (.int se), .val (.int su), .val (.ref e0), .val (.int ca), .val (.ref tx), .val .null, .val (.ref ro), .unset] [.null, (.ref ro)]))
              refine W809.callVp (y := (⟨"java/util/Optional", "orElse", "(Ljava/lang/Object;)Ljava/lang/Object;"⟩ : MethodName)) (z := (⟨"java/util/Optional", "orElse", "(Ljava/lang/Object;)Ljava/lang/Object;"⟩ : MethodName)) (wd81 hw) (wd82 hw) (nf_sel rfl (wd84 hw)) (wd84 hw) (wd83 hw) (wd70 hw) (wd85 hw) (by decide) E2 (a := ro) (c_orelse l Z a0 hw hEL h810 W809.old ro _ rfl F2) all0 (by decide) (by decide) (k' := 8) (n' := 15) rfl rfl (by decide) (by decide) (by rw [hml]; rfl) (argsL := [.null]) (rest := []) (lenOf pd_6 rfl) rfl rfl (Wt := 0) (Nat.le_of_eq rfl) (hb hby at_287) ?_
              intro T811 W812
              show Go p e below s Z [("java/lang/String", 7)] _ _ _ (T811.setTop (mkF m 290 #[.val (.int p0), .val (.int p1), .val (.int p2), .val (.int p3), .val (.int md), .val (.int se), .val (.int su), .val (.ref e0), .val (.int ca), .val (.ref tx), .val .null, .val (.ref ro), .unset] [.null]))
              refine Go.by (fun t9_ q9_ => XS.aload W812.here W812.hx rfl (hb hby at_290) rfl rfl q9_) ?_
              show Go p e below s Z [("java/lang/String", 7)] _ _ _ (T811.setTop (mkF m 292 #[.val (.int p0), .val (.int p1), .val (.int p2), .val (.int p3), .val (.int md), .val (.int se), .val (.int su), .val (.ref e0), .val (.int ca), .val (.ref tx), .val .null, .val (.ref ro), .unset] [.null, .null]))
              refine Go.by (fun t9_ q9_ => acmpW W812 (g := (mkF m 292 #[.val (.int p0), .val (.int p1), .val (.int p2), .val (.int p3), .val (.int md), .val (.int se), .val (.int su), .val (.ref e0), .val (.int ca), .val (.ref tx), .val .null, .val (.ref ro), .unset] [.null, .null])) rfl rfl rfl (pc0 := 292) (pc' := 295) (same := true) rfl (hb hby at_292) rfl (decide_eq_true rfl) (by decide) (by decide) q9_) ?_
              show Go p e below s Z [("java/lang/String", 7)] _ _ _ (T811.setTop (mkF m 295 #[.val (.int p0), .val (.int p1), .val (.int p2), .val (.int p3), .val (.int md), .val (.int se), .val (.int su), .val (.ref e0), .val (.int ca), .val (.ref tx), .val .null, .val (.ref ro), .unset] []))
              refine Go.by (fun t9_ q9_ => XS.iconst W812.here W812.hx rfl (hb hby at_295) q9_) ?_
              show Go p e below s Z [("java/lang/String", 7)] _ _ _ (T811.setTop (mkF m 296 #[.val (.int p0), .val (.int p1), .val (.int p2), .val (.int p3), .val (.int md), .val (.int se), .val (.int su), .val (.ref e0), .val (.int ca), .val (.ref tx), .val .null, .val (.ref ro), .unset] [(.int (1 : Int32))]))
              refine Go.by (fun t9_ q9_ => XS.goto W812.here W812.hx rfl (pc0 := 296) (pc' := 300) rfl (hb hby at_296) (by decide) (by decide) q9_) ?_
              show Go p e below s Z [("java/lang/String", 7)] _ _ _ (T811.setTop (mkF m 300 #[.val (.int p0), .val (.int p1), .val (.int p2), .val (.int p3), .val (.int md), .val (.int se), .val (.int su), .val (.ref e0), .val (.int ca), .val (.ref tx), .val .null, .val (.ref ro), .unset] [(.int (1 : Int32))]))
              exact W812.retN (z' := (1 : Int32)) (by decide) (by decide) hret (by simp) (hb hby at_300) rfl rfl
            · rw [hn]
              show Go p e below s Z [("java/lang/String", 7)] _ _ _ (T713.setTop (mkF m 215 #[.val (.int p0), .val (.int p1), .val (.int p2), .val (.int p3), .val (.int md), .val (.int se), .val (.int su), .val (.ref e0), .val (.int ca), .unset, .unset, .val (.int (1 : Int32)), .unset] []))
              refine Go.by (fun t9_ q9_ => XS.iload W714.here W714.hx rfl (hb hby at_215) rfl q9_) ?_
              show Go p e below s Z [("java/lang/String", 7)] _ _ _ (T713.setTop (mkF m 217 #[.val (.int p0), .val (.int p1), .val (.int p2), .val (.int p3), .val (.int md), .val (.int se), .val (.int su), .val (.ref e0), .val (.int ca), .unset, .unset, .val (.int (1 : Int32)), .unset] [(.int (1 : Int32))]))
              refine W714.newp (aty := .char) (wd7 hw) (hb hby at_217) (by decide) (cap := 1) (by decide) (by decide) (k' := 1) (n' := 1) rfl rfl (by decide) (by decide) (ad := "[C") rfl ?_
              intro T813 h814 tx k_tx W815 E816 g_tx z_tx A_tx V_tx
              have V1_tx : Arv Z h814 tx k_tx .char (1 : Int32) [(.int (0 : Int32))] (.int (0 : Int32)) := V_tx.pad (pad_rep [] (.int (0 : Int32)) 1)
              show Go p e below s Z [("java/lang/String", 7)] _ _ _ (T813.setTop (mkF m 219 #[.val (.int p0), .val (.int p1), .val (.int p2), .val (.int p3), .val (.int md), .val (.int se), .val (.int su), .val (.ref e0), .val (.int ca), .unset, .unset, .val (.int (1 : Int32)), .unset] [(.ref tx)]))
              refine Go.by (fun t9_ q9_ => XS.astore W815.here W815.hx rfl (hb hby at_219) rfl rfl (l' := #[.val (.int p0), .val (.int p1), .val (.int p2), .val (.int p3), .val (.int md), .val (.int se), .val (.int su), .val (.ref e0), .val (.int ca), .val (.ref tx), .unset, .val (.int (1 : Int32)), .unset]) rfl q9_) ?_
              show Go p e below s Z [("java/lang/String", 7)] _ _ _ (T813.setTop (mkF m 221 #[.val (.int p0), .val (.int p1), .val (.int p2), .val (.int p3), .val (.int md), .val (.int se), .val (.int su), .val (.ref e0), .val (.int ca), .val (.ref tx), .unset, .val (.int (1 : Int32)), .unset] []))
              refine Go.by (fun t9_ q9_ => XS.iload W815.here W815.hx rfl (hb hby at_221) rfl q9_) ?_
              show Go p e below s Z [("java/lang/String", 7)] _ _ _ (T813.setTop (mkF m 223 #[.val (.int p0), .val (.int p1), .val (.int p2), .val (.int p3), .val (.int md), .val (.int se), .val (.int su), .val (.ref e0), .val (.int ca), .val (.ref tx), .unset, .val (.int (1 : Int32)), .unset] [(.int (1 : Int32))]))
              refine Go.by (fun t9_ q9_ => XS.ifNo W815.here W815.hx rfl (hb hby at_223) rfl ((if0 _ _).trans (tlt (by decide)).2.2.2) q9_) ?_
              show Go p e below s Z [("java/lang/String", 7)] _ _ _ (T813.setTop (mkF m 226 #[.val (.int p0), .val (.int p1), .val (.int p2), .val (.int p3), .val (.int md), .val (.int se), .val (.int su), .val (.ref e0), .val (.int ca), .val (.ref tx), .unset, .val (.int (1 : Int32)), .unset] []))
              refine Go.by (fun t9_ q9_ => XS.aload W815.here W815.hx rfl (hb hby at_226) rfl rfl q9_) ?_
              show Go p e below s Z [("java/lang/String", 7)] _ _ _ (T813.setTop (mkF m 228 #[.val (.int p0), .val (.int p1), .val (.int p2), .val (.int p3), .val (.int md), .val (.int se), .val (.int su), .val (.ref e0), .val (.int ca), .val (.ref tx), .unset, .val (.int (1 : Int32)), .unset] [(.ref tx)]))
              refine Go.by (fun t9_ q9_ => XS.iconst W815.here W815.hx rfl (hb hby at_228) q9_) ?_
              show Go p e below s Z [("java/lang/String", 7)] _ _ _ (T813.setTop (mkF m 229 #[.val (.int p0), .val (.int p1), .val (.int p2), .val (.int p3), .val (.int md), .val (.int se), .val (.int su), .val (.ref e0), .val (.int ca), .val (.ref tx), .unset, .val (.int (1 : Int32)), .unset] [(.int (0 : Int32)), (.ref tx)]))
              refine Go.by (fun t9_ q9_ => XS.iload W815.here W815.hx rfl (hb hby at_229) rfl q9_) ?_
              show Go p e below s Z [("java/lang/String", 7)] _ _ _ (T813.setTop (mkF m 231 #[.val (.int p0), .val (.int p1), .val (.int p2), .val (.int p3), .val (.int md), .val (.int se), .val (.int su), .val (.ref e0), .val (.int ca), .val (.ref tx), .unset, .val (.int (1 : Int32)), .unset] [(.int ca), (.int (0 : Int32)), (.ref tx)]))
              refine W815.cast_ V1_tx ⟨by decide, by decide⟩ (i := 0) rfl (by simp) (v' := ca) (nar_id (up16 r_ca)) z_tx (List.mem_of_getElem? (i := 0) rfl) (hb hby at_231) ?_
              intro T817 h818 W819 Wr820 V821_tx'
              have V821_tx : Arv Z h818 tx k_tx .char (1 : Int32) [(.int ca)] (.int (0 : Int32)) := V821_tx'
              show Go p e below s Z [("java/lang/String", 7)] _ _ _ (T817.setTop (mkF m 232 #[.val (.int p0), .val (.int p1), .val (.int p2), .val (.int p3), .val (.int md), .val (.int se), .val (.int su), .val (.ref e0), .val (.int ca), .val (.ref tx), .unset, .val (.int (1 : Int32)), .unset] []))
              refine Go.by (fun t9_ q9_ => XS.iload W819.here W819.hx rfl (hb hby at_232) rfl q9_) ?_
              show Go p e below s Z [("java/lang/String", 7)] _ _ _ (T817.setTop (mkF m 234 #[.val (.int p0), .val (.int p1), .val (.int p2), .val (.int p3), .val (.int md), .val (.int se), .val (.int su), .val (.ref e0), .val (.int ca), .val (.ref tx), .unset, .val (.int (1 : Int32)), .unset] [(.int (1 : Int32))]))
              refine Go.by (fun t9_ q9_ => XS.iconst W819.here W819.hx rfl (hb hby at_234) q9_) ?_
              show Go p e below s Z [("java/lang/String", 7)] _ _ _ (T817.setTop (mkF m 235 #[.val (.int p0), .val (.int p1), .val (.int p2), .val (.int p3), .val (.int md), .val (.int se), .val (.int su), .val (.ref e0), .val (.int ca), .val (.ref tx), .unset, .val (.int (1 : Int32)), .unset] [(.int (1 : Int32)), (.int (1 : Int32))]))
              refine Go.by (fun t9_ q9_ => XS.icmpYes W819.here W819.hx rfl (pc0 := 235) (pc' := 248) rfl (hb hby at_235) rfl (flt (by decide)).2.2.2 (by decide) (by decide) q9_) ?_
              show Go p e below s Z [("java/lang/String", 7)] _ _ _ (T817.setTop (mkF m 248 #[.val (.int p0), .val (.int p1), .val (.int p2), .val (.int p3), .val (.int md), .val (.int se), .val (.int su), .val (.ref e0), .val (.int ca), .val (.ref tx), .unset, .val (.int (1 : Int32)), .unset] []))
              refine Go.by (fun t9_ q9_ => XS.iload W819.here W819.hx rfl (hb hby at_248) rfl q9_) ?_
              show Go p e below s Z [("java/lang/String", 7)] _ _ _ (T817.setTop (mkF m 250 #[.val (.int p0), .val (.int p1), .val (.int p2), .val (.int p3), .val (.int md), .val (.int se), .val (.int su), .val (.ref e0), .val (.int ca), .val (.ref tx), .unset, .val (.int (1 : Int32)), .unset] [(.int (1 : Int32))]))
              refine Go.by (fun t9_ q9_ => XS.iconst W819.here W819.hx rfl (hb hby at_250) q9_) ?_
              show Go p e below s Z [("java/lang/String", 7)] _ _ _ (T817.setTop (mkF m 251 #[.val (.int p0), .val (.int p1), .val (.int p2), .val (.int p3), .val (.int md), .val (.int se), .val (.int su), .val (.ref e0), .val (.int ca), .val (.ref tx), .unset, .val (.int (1 : Int32)), .unset] [(.int (2 : Int32)), (.int (1 : Int32))]))
              refine Go.by (fun t9_ q9_ => XS.icmpYes W819.here W819.hx rfl (pc0 := 251) (pc' := 267) rfl (hb hby at_251) rfl (flt (by decide)).2.2.2 (by decide) (by decide) q9_) ?_
              show Go p e below s Z [("java/lang/String", 7)] _ _ _ (T817.setTop (mkF m 267 #[.val (.int p0), .val (.int p1), .val (.int p2), .val (.int p3), .val (.int md), .val (.int se), .val (.int su), .val (.ref e0), .val (.int ca), .val (.ref tx), .unset, .val (.int (1 : Int32)), .unset] []))
              refine Go.by (fun t9_ q9_ => XS.aconstNull W819.here W819.hx rfl (hb hby at_267) q9_) ?_
              show Go p e below s Z [("java/lang/String", 7)] _ _ _ (T817.setTop (mkF m 268 #[.val (.int p0), .val (.int p1), .val (.int p2), .val (.int p3), .val (.int md), .val (.int se), .val (.int su), .val (.ref e0), .val (.int ca), .val (.ref tx), .unset, .val (.int (1 : Int32)), .unset] [.null]))
              refine Go.by (fun t9_ q9_ => XS.astore W819.here W819.hx rfl (hb hby at_268) rfl rfl (l' := #[.val (.int p0), .val (.int p1), .val (.int p2), .val (.int p3), .val (.int md), .val (.int se), .val (.int su), .val (.ref e0), .val (.int ca), .val (.ref tx), .val .null, .val (.int (1 : Int32)), .unset]) rfl q9_) ?_
              show Go p e below s Z [("java/lang/String", 7)] _ _ _ (T817.setTop (mkF m 270 #[.val (.int p0), .val (.int p1), .val (.int p2), .val (.int p3), .val (.int md), .val (.int se), .val (.int su), .val (.ref e0), .val (.int ca), .val (.ref tx), .val .null, .val (.int (1 : Int32)), .unset] []))
              refine W819.new (wd8 hw) (wd9 hw) (wd10 hw) (hb hby at_270) (k' := 2) (n' := 5) rfl rfl (by decide) (by decide) ?_
              intro T822 h823 st W824 E825 g_st z_st A_st D_st
              have F_coder_st : Fld Z h823 st "java/lang/String" "coder" "B" (.int (0 : Int32)) := D_st (Or.inr (wd34 hw)) (ty := .byte) (by decide)
              have F_value_st : Fld Z h823 st "java/lang/String" "value" "[B" .null := D_st (Or.inr (wd36 hw)) (ty := (.array .byte)) (by decide)
              show Go p e below s Z [("java/lang/String", 7)] _ _ _ (T822.setTop (mkF m 273 #[.val (.int p0), .val (.int p1), .val (.int p2), .val (.int p3), .val (.int md), .val (.int se), .val (.int su), .val (.ref e0), .val (.int ca), .val (.ref tx), .val .null, .val (.int (1 : Int32)), .unset] [(.ref st)]))
              refine Go.by (fun t9_ q9_ => XS.dup W824.here W824.hx rfl (hb hby at_273) rfl rfl q9_) ?_
              show Go p e below s Z [("java/lang/String", 7)] _ _ _ (T822.setTop (mkF m 274 #[.val (.int p0), .val (.int p1), .val (.int p2), .val (.int p3), .val (.int md), .val (.int se), .val (.int su), .val (.ref e0), .val (.int ca), .val (.ref tx), .val .null, .val (.int (1 : Int32)), .unset] [(.ref st), (.ref st)]))
              refine Go.by (fun t9_ q9_ => XS.aload W824.here W824.hx rfl (hb hby at_274) rfl rfl q9_) ?_
              show Go p e below s Z [("java/lang/String", 7)] _ _ _ (T822.setTop (mkF m 276 #[.val (.int p0), .val (.int p1), .val (.int p2), .val (.int p3), .val (.int md), .val (.int se), .val (.int su), .val (.ref e0), .val (.int ca), .val (.ref tx), .val .null, .val (.int (1 : Int32)), .unset] [(.ref tx), (.ref st), (.ref st)]))
              refine W824.strV (cs := [ca]) (k_words hw) (wd9 hw) (wd11 hw) (wd12 hw) A_st F_value_st F_coder_st (V821_tx.ext E825) (SG1.ext W824.old) hG (q := 1) rfl rfl (by decide) (by decide) (by intro c hc; simp only [List.mem_cons, List.not_mem_nil, or_false] at hc; rcases hc with rfl <;> first | exact r_ca | exact k_mask _) z_st (List.mem_of_getElem? (i := 0) rfl) (by decide) (Wt := 1) (by decide) (k' := 3) (n' := 6) rfl rfl (by decide) (by decide) (by rw [hml]; rfl) (Nat.le_of_eq rfl) (hb hby at_276) ?_
              intro T826 h827 W828 K829 S_st
              show Go p e below s Z [("java/lang/String", 7)] _ _ _ (T826.setTop (mkF m 279 #[.val (.int p0), .val (.int p1), .val (.int p2), .val (.int p3), .val (.int md), .val (.int se), .val (.int su), .val (.ref e0), .val (.int ca), .val (.ref tx), .val .null, .val (.int (1 : Int32)), .unset] [(.ref st)]))
              have hxp : namF [ca] e0 e1 = .null := nam_null (by simp) (by simp)
              refine W828.callS (y := (⟨"com/example/proof_to_token/prooftotoken/config/Sociability", "named", "(Ljava/lang/String;)Ljava/util/Optional;"⟩ : MethodName)) (wd37 hw) (wd38 hw) (wd1 hw) (wd39 hw) (by decide) (c_named l Z a0 hw hEL h827 W828.old st _ G1 av e0 e1 t0 t1 em kv SG1 hG SV AV XV FW0 FW1 S0 S1 SE EE FE S_st (by simp)) all0 (by decide) (by decide) (k' := 5) (n' := 9) rfl rfl (by decide) (by decide) (by rw [hml]; rfl) (argsL := [(.ref st)]) (rest := []) (lenOf pd_5 rfl) rfl rfl (Wt := 0) (Nat.le_of_eq rfl) (hb hby at_279) ?_
              intro v_ T830 h832 W831 hq_
              obtain ⟨ro, rfl, X2, E2, F2⟩ := hq_
              rw [hxp] at F2
              show Go p e below s Z [("java/lang/String", 7)] _ _ _ (T830.setTop (mkF m 282 #[.val (.int p0), .val (.int p1), .val (.int p2), .val (.int p3), .val (.int md), .val (.int se), .val (.int su), .val (.ref e0), .val (.int ca), .val (.ref tx), .val .null, .val (.int (1 : Int32)), .unset] [(.ref ro)]))
              refine Go.by (fun t9_ q9_ => XS.astore W831.here W831.hx rfl (hb hby at_282) rfl rfl (l' := #[.val (.int p0), .val (.int p1), .val (.int p2), .val (.int p3), .val (.int md), .val (.int se), .val (.int su), .val (.ref e0), .val (.int ca), .val (.ref tx), .val .null, .val (.ref ro), .unset]) rfl q9_) ?_
              show Go p e below s Z [("java/lang/String", 7)] _ _ _ (T830.setTop (mkF m 284 #[.val (.int p0), .val (.int p1), .val (.int p2), .val (.int p3), .val (.int md), .val (.int se), .val (.int su), .val (.ref e0), .val (.int ca), .val (.ref tx), .val .null, .val (.ref ro), .unset] []))
              refine Go.by (fun t9_ q9_ => XS.aload W831.here W831.hx rfl (hb hby at_284) rfl rfl q9_) ?_
              show Go p e below s Z [("java/lang/String", 7)] _ _ _ (T830.setTop (mkF m 286 #[.val (.int p0), .val (.int p1), .val (.int p2), .val (.int p3), .val (.int md), .val (.int se), .val (.int su), .val (.ref e0), .val (.int ca), .val (.ref tx), .val .null, .val (.ref ro), .unset] [(.ref ro)]))
              refine Go.by (fun t9_ q9_ => XS.aconstNull W831.here W831.hx rfl (hb hby at_286) q9_) ?_
              show Go p e below s Z [("java/lang/String", 7)] _ _ _ (T830.setTop (mkF m 287 #[.val (.int p0), .val (.int p1), .val (.int p2), .val (.int p3), .val (.int md), .val (.int se), .val (.int su), .val (.ref e0), .val (.int ca), .val (.ref tx), .val .null, .val (.ref ro), .unset] [.null, (.ref ro)]))
              refine W831.callVp (y := (⟨"java/util/Optional", "orElse", "(Ljava/lang/Object;)Ljava/lang/Object;"⟩ : MethodName)) (z := (⟨"java/util/Optional", "orElse", "(Ljava/lang/Object;)Ljava/lang/Object;"⟩ : MethodName)) (wd81 hw) (wd82 hw) (nf_sel rfl (wd84 hw)) (wd84 hw) (wd83 hw) (wd70 hw) (wd85 hw) (by decide) E2 (a := ro) (c_orelse l Z a0 hw hEL h832 W831.old ro _ rfl F2) all0 (by decide) (by decide) (k' := 5) (n' := 9) rfl rfl (by decide) (by decide) (by rw [hml]; rfl) (argsL := [.null]) (rest := []) (lenOf pd_6 rfl) rfl rfl (Wt := 0) (Nat.le_of_eq rfl) (hb hby at_287) ?_
              intro T833 W834
              show Go p e below s Z [("java/lang/String", 7)] _ _ _ (T833.setTop (mkF m 290 #[.val (.int p0), .val (.int p1), .val (.int p2), .val (.int p3), .val (.int md), .val (.int se), .val (.int su), .val (.ref e0), .val (.int ca), .val (.ref tx), .val .null, .val (.ref ro), .unset] [.null]))
              refine Go.by (fun t9_ q9_ => XS.aload W834.here W834.hx rfl (hb hby at_290) rfl rfl q9_) ?_
              show Go p e below s Z [("java/lang/String", 7)] _ _ _ (T833.setTop (mkF m 292 #[.val (.int p0), .val (.int p1), .val (.int p2), .val (.int p3), .val (.int md), .val (.int se), .val (.int su), .val (.ref e0), .val (.int ca), .val (.ref tx), .val .null, .val (.ref ro), .unset] [.null, .null]))
              refine Go.by (fun t9_ q9_ => acmpW W834 (g := (mkF m 292 #[.val (.int p0), .val (.int p1), .val (.int p2), .val (.int p3), .val (.int md), .val (.int se), .val (.int su), .val (.ref e0), .val (.int ca), .val (.ref tx), .val .null, .val (.ref ro), .unset] [.null, .null])) rfl rfl rfl (pc0 := 292) (pc' := 295) (same := true) rfl (hb hby at_292) rfl (decide_eq_true rfl) (by decide) (by decide) q9_) ?_
              show Go p e below s Z [("java/lang/String", 7)] _ _ _ (T833.setTop (mkF m 295 #[.val (.int p0), .val (.int p1), .val (.int p2), .val (.int p3), .val (.int md), .val (.int se), .val (.int su), .val (.ref e0), .val (.int ca), .val (.ref tx), .val .null, .val (.ref ro), .unset] []))
              refine Go.by (fun t9_ q9_ => XS.iconst W834.here W834.hx rfl (hb hby at_295) q9_) ?_
              show Go p e below s Z [("java/lang/String", 7)] _ _ _ (T833.setTop (mkF m 296 #[.val (.int p0), .val (.int p1), .val (.int p2), .val (.int p3), .val (.int md), .val (.int se), .val (.int su), .val (.ref e0), .val (.int ca), .val (.ref tx), .val .null, .val (.ref ro), .unset] [(.int (1 : Int32))]))
              refine Go.by (fun t9_ q9_ => XS.goto W834.here W834.hx rfl (pc0 := 296) (pc' := 300) rfl (hb hby at_296) (by decide) (by decide) q9_) ?_
              show Go p e below s Z [("java/lang/String", 7)] _ _ _ (T833.setTop (mkF m 300 #[.val (.int p0), .val (.int p1), .val (.int p2), .val (.int p3), .val (.int md), .val (.int se), .val (.int su), .val (.ref e0), .val (.int ca), .val (.ref tx), .val .null, .val (.ref ro), .unset] [(.int (1 : Int32))]))
              exact W834.retN (z' := (1 : Int32)) (by decide) (by decide) hret (by simp) (hb hby at_300) rfl rfl
            · rw [hn]
              show Go p e below s Z [("java/lang/String", 7)] _ _ _ (T713.setTop (mkF m 215 #[.val (.int p0), .val (.int p1), .val (.int p2), .val (.int p3), .val (.int md), .val (.int se), .val (.int su), .val (.ref e0), .val (.int ca), .unset, .unset, .val (.int (2 : Int32)), .unset] []))
              refine Go.by (fun t9_ q9_ => XS.iload W714.here W714.hx rfl (hb hby at_215) rfl q9_) ?_
              show Go p e below s Z [("java/lang/String", 7)] _ _ _ (T713.setTop (mkF m 217 #[.val (.int p0), .val (.int p1), .val (.int p2), .val (.int p3), .val (.int md), .val (.int se), .val (.int su), .val (.ref e0), .val (.int ca), .unset, .unset, .val (.int (2 : Int32)), .unset] [(.int (2 : Int32))]))
              refine W714.newp (aty := .char) (wd7 hw) (hb hby at_217) (by decide) (cap := 2) (by decide) (by decide) (k' := 1) (n' := 2) rfl rfl (by decide) (by decide) (ad := "[C") rfl ?_
              intro T835 h836 tx k_tx W837 E838 g_tx z_tx A_tx V_tx
              have V1_tx : Arv Z h836 tx k_tx .char (2 : Int32) [(.int (0 : Int32)), (.int (0 : Int32))] (.int (0 : Int32)) := V_tx.pad (pad_rep [] (.int (0 : Int32)) 2)
              show Go p e below s Z [("java/lang/String", 7)] _ _ _ (T835.setTop (mkF m 219 #[.val (.int p0), .val (.int p1), .val (.int p2), .val (.int p3), .val (.int md), .val (.int se), .val (.int su), .val (.ref e0), .val (.int ca), .unset, .unset, .val (.int (2 : Int32)), .unset] [(.ref tx)]))
              refine Go.by (fun t9_ q9_ => XS.astore W837.here W837.hx rfl (hb hby at_219) rfl rfl (l' := #[.val (.int p0), .val (.int p1), .val (.int p2), .val (.int p3), .val (.int md), .val (.int se), .val (.int su), .val (.ref e0), .val (.int ca), .val (.ref tx), .unset, .val (.int (2 : Int32)), .unset]) rfl q9_) ?_
              show Go p e below s Z [("java/lang/String", 7)] _ _ _ (T835.setTop (mkF m 221 #[.val (.int p0), .val (.int p1), .val (.int p2), .val (.int p3), .val (.int md), .val (.int se), .val (.int su), .val (.ref e0), .val (.int ca), .val (.ref tx), .unset, .val (.int (2 : Int32)), .unset] []))
              refine Go.by (fun t9_ q9_ => XS.iload W837.here W837.hx rfl (hb hby at_221) rfl q9_) ?_
              show Go p e below s Z [("java/lang/String", 7)] _ _ _ (T835.setTop (mkF m 223 #[.val (.int p0), .val (.int p1), .val (.int p2), .val (.int p3), .val (.int md), .val (.int se), .val (.int su), .val (.ref e0), .val (.int ca), .val (.ref tx), .unset, .val (.int (2 : Int32)), .unset] [(.int (2 : Int32))]))
              refine Go.by (fun t9_ q9_ => XS.ifNo W837.here W837.hx rfl (hb hby at_223) rfl ((if0 _ _).trans (tlt (by decide)).2.2.2) q9_) ?_
              show Go p e below s Z [("java/lang/String", 7)] _ _ _ (T835.setTop (mkF m 226 #[.val (.int p0), .val (.int p1), .val (.int p2), .val (.int p3), .val (.int md), .val (.int se), .val (.int su), .val (.ref e0), .val (.int ca), .val (.ref tx), .unset, .val (.int (2 : Int32)), .unset] []))
              refine Go.by (fun t9_ q9_ => XS.aload W837.here W837.hx rfl (hb hby at_226) rfl rfl q9_) ?_
              show Go p e below s Z [("java/lang/String", 7)] _ _ _ (T835.setTop (mkF m 228 #[.val (.int p0), .val (.int p1), .val (.int p2), .val (.int p3), .val (.int md), .val (.int se), .val (.int su), .val (.ref e0), .val (.int ca), .val (.ref tx), .unset, .val (.int (2 : Int32)), .unset] [(.ref tx)]))
              refine Go.by (fun t9_ q9_ => XS.iconst W837.here W837.hx rfl (hb hby at_228) q9_) ?_
              show Go p e below s Z [("java/lang/String", 7)] _ _ _ (T835.setTop (mkF m 229 #[.val (.int p0), .val (.int p1), .val (.int p2), .val (.int p3), .val (.int md), .val (.int se), .val (.int su), .val (.ref e0), .val (.int ca), .val (.ref tx), .unset, .val (.int (2 : Int32)), .unset] [(.int (0 : Int32)), (.ref tx)]))
              refine Go.by (fun t9_ q9_ => XS.iload W837.here W837.hx rfl (hb hby at_229) rfl q9_) ?_
              show Go p e below s Z [("java/lang/String", 7)] _ _ _ (T835.setTop (mkF m 231 #[.val (.int p0), .val (.int p1), .val (.int p2), .val (.int p3), .val (.int md), .val (.int se), .val (.int su), .val (.ref e0), .val (.int ca), .val (.ref tx), .unset, .val (.int (2 : Int32)), .unset] [(.int ca), (.int (0 : Int32)), (.ref tx)]))
              refine W837.cast_ V1_tx ⟨by decide, by decide⟩ (i := 0) rfl (by simp) (v' := ca) (nar_id (up16 r_ca)) z_tx (List.mem_of_getElem? (i := 0) rfl) (hb hby at_231) ?_
              intro T839 h840 W841 Wr842 V843_tx'
              have V843_tx : Arv Z h840 tx k_tx .char (2 : Int32) [(.int ca), (.int (0 : Int32))] (.int (0 : Int32)) := V843_tx'
              show Go p e below s Z [("java/lang/String", 7)] _ _ _ (T839.setTop (mkF m 232 #[.val (.int p0), .val (.int p1), .val (.int p2), .val (.int p3), .val (.int md), .val (.int se), .val (.int su), .val (.ref e0), .val (.int ca), .val (.ref tx), .unset, .val (.int (2 : Int32)), .unset] []))
              refine Go.by (fun t9_ q9_ => XS.iload W841.here W841.hx rfl (hb hby at_232) rfl q9_) ?_
              show Go p e below s Z [("java/lang/String", 7)] _ _ _ (T839.setTop (mkF m 234 #[.val (.int p0), .val (.int p1), .val (.int p2), .val (.int p3), .val (.int md), .val (.int se), .val (.int su), .val (.ref e0), .val (.int ca), .val (.ref tx), .unset, .val (.int (2 : Int32)), .unset] [(.int (2 : Int32))]))
              refine Go.by (fun t9_ q9_ => XS.iconst W841.here W841.hx rfl (hb hby at_234) q9_) ?_
              show Go p e below s Z [("java/lang/String", 7)] _ _ _ (T839.setTop (mkF m 235 #[.val (.int p0), .val (.int p1), .val (.int p2), .val (.int p3), .val (.int md), .val (.int se), .val (.int su), .val (.ref e0), .val (.int ca), .val (.ref tx), .unset, .val (.int (2 : Int32)), .unset] [(.int (1 : Int32)), (.int (2 : Int32))]))
              refine Go.by (fun t9_ q9_ => XS.icmpNo W841.here W841.hx rfl (hb hby at_235) rfl (tlt (by decide)).2.2.2 q9_) ?_
              show Go p e below s Z [("java/lang/String", 7)] _ _ _ (T839.setTop (mkF m 238 #[.val (.int p0), .val (.int p1), .val (.int p2), .val (.int p3), .val (.int md), .val (.int se), .val (.int su), .val (.ref e0), .val (.int ca), .val (.ref tx), .unset, .val (.int (2 : Int32)), .unset] []))
              refine Go.by (fun t9_ q9_ => XS.aload W841.here W841.hx rfl (hb hby at_238) rfl rfl q9_) ?_
              show Go p e below s Z [("java/lang/String", 7)] _ _ _ (T839.setTop (mkF m 240 #[.val (.int p0), .val (.int p1), .val (.int p2), .val (.int p3), .val (.int md), .val (.int se), .val (.int su), .val (.ref e0), .val (.int ca), .val (.ref tx), .unset, .val (.int (2 : Int32)), .unset] [(.ref tx)]))
              refine Go.by (fun t9_ q9_ => XS.iconst W841.here W841.hx rfl (hb hby at_240) q9_) ?_
              show Go p e below s Z [("java/lang/String", 7)] _ _ _ (T839.setTop (mkF m 241 #[.val (.int p0), .val (.int p1), .val (.int p2), .val (.int p3), .val (.int md), .val (.int se), .val (.int su), .val (.ref e0), .val (.int ca), .val (.ref tx), .unset, .val (.int (2 : Int32)), .unset] [(.int (1 : Int32)), (.ref tx)]))
              refine Go.by (fun t9_ q9_ => XS.iloadN W841.here W841.hx rfl (hb hby at_241) rfl q9_) ?_
              show Go p e below s Z [("java/lang/String", 7)] _ _ _ (T839.setTop (mkF m 242 #[.val (.int p0), .val (.int p1), .val (.int p2), .val (.int p3), .val (.int md), .val (.int se), .val (.int su), .val (.ref e0), .val (.int ca), .val (.ref tx), .unset, .val (.int (2 : Int32)), .unset] [(.int p3), (.int (1 : Int32)), (.ref tx)]))
              refine Go.by (fun t9_ q9_ => XS.sipush W841.here W841.hx rfl (hb hby at_242) q9_) ?_
              show Go p e below s Z [("java/lang/String", 7)] _ _ _ (T839.setTop (mkF m 245 #[.val (.int p0), .val (.int p1), .val (.int p2), .val (.int p3), .val (.int md), .val (.int se), .val (.int su), .val (.ref e0), .val (.int ca), .val (.ref tx), .unset, .val (.int (2 : Int32)), .unset] [(.int (255 : Int32)), (.int p3), (.int (1 : Int32)), (.ref tx)]))
              refine Go.by (fun t9_ q9_ => XS.iand W841.here W841.hx rfl (hb hby at_245) rfl q9_) ?_
              show Go p e below s Z [("java/lang/String", 7)] _ _ _ (T839.setTop (mkF m 246 #[.val (.int p0), .val (.int p1), .val (.int p2), .val (.int p3), .val (.int md), .val (.int se), .val (.int su), .val (.ref e0), .val (.int ca), .val (.ref tx), .unset, .val (.int (2 : Int32)), .unset] [(.int (p3 &&& (255 : Int32))), (.int (1 : Int32)), (.ref tx)]))
              refine Go.by (fun t9_ q9_ => XS.i2c W841.here W841.hx rfl (hb hby at_246) rfl q9_) ?_
              show Go p e below s Z [("java/lang/String", 7)] _ _ _ (T839.setTop (mkF m 247 #[.val (.int p0), .val (.int p1), .val (.int p2), .val (.int p3), .val (.int md), .val (.int se), .val (.int su), .val (.ref e0), .val (.int ca), .val (.ref tx), .unset, .val (.int (2 : Int32)), .unset] [(.int ((p3 &&& (255 : Int32)).toUInt32.toUInt16.toUInt32.toInt32)), (.int (1 : Int32)), (.ref tx)]))
              refine W841.cast_ V843_tx ⟨by decide, by decide⟩ (i := 1) rfl (by simp) (v' := ((p3 &&& (255 : Int32)).toUInt32.toUInt16.toUInt32.toInt32)) (k_nar _) z_tx (List.mem_of_getElem? (i := 0) rfl) (hb hby at_247) ?_
              intro T844 h845 W846 Wr847 V848_tx'
              have V848_tx : Arv Z h845 tx k_tx .char (2 : Int32) [(.int ca), (.int ((p3 &&& (255 : Int32)).toUInt32.toUInt16.toUInt32.toInt32))] (.int (0 : Int32)) := V848_tx'
              show Go p e below s Z [("java/lang/String", 7)] _ _ _ (T844.setTop (mkF m 248 #[.val (.int p0), .val (.int p1), .val (.int p2), .val (.int p3), .val (.int md), .val (.int se), .val (.int su), .val (.ref e0), .val (.int ca), .val (.ref tx), .unset, .val (.int (2 : Int32)), .unset] []))
              refine Go.by (fun t9_ q9_ => XS.iload W846.here W846.hx rfl (hb hby at_248) rfl q9_) ?_
              show Go p e below s Z [("java/lang/String", 7)] _ _ _ (T844.setTop (mkF m 250 #[.val (.int p0), .val (.int p1), .val (.int p2), .val (.int p3), .val (.int md), .val (.int se), .val (.int su), .val (.ref e0), .val (.int ca), .val (.ref tx), .unset, .val (.int (2 : Int32)), .unset] [(.int (2 : Int32))]))
              refine Go.by (fun t9_ q9_ => XS.iconst W846.here W846.hx rfl (hb hby at_250) q9_) ?_
              show Go p e below s Z [("java/lang/String", 7)] _ _ _ (T844.setTop (mkF m 251 #[.val (.int p0), .val (.int p1), .val (.int p2), .val (.int p3), .val (.int md), .val (.int se), .val (.int su), .val (.ref e0), .val (.int ca), .val (.ref tx), .unset, .val (.int (2 : Int32)), .unset] [(.int (2 : Int32)), (.int (2 : Int32))]))
              refine Go.by (fun t9_ q9_ => XS.icmpYes W846.here W846.hx rfl (pc0 := 251) (pc' := 267) rfl (hb hby at_251) rfl (flt (by decide)).2.2.2 (by decide) (by decide) q9_) ?_
              show Go p e below s Z [("java/lang/String", 7)] _ _ _ (T844.setTop (mkF m 267 #[.val (.int p0), .val (.int p1), .val (.int p2), .val (.int p3), .val (.int md), .val (.int se), .val (.int su), .val (.ref e0), .val (.int ca), .val (.ref tx), .unset, .val (.int (2 : Int32)), .unset] []))
              refine Go.by (fun t9_ q9_ => XS.aconstNull W846.here W846.hx rfl (hb hby at_267) q9_) ?_
              show Go p e below s Z [("java/lang/String", 7)] _ _ _ (T844.setTop (mkF m 268 #[.val (.int p0), .val (.int p1), .val (.int p2), .val (.int p3), .val (.int md), .val (.int se), .val (.int su), .val (.ref e0), .val (.int ca), .val (.ref tx), .unset, .val (.int (2 : Int32)), .unset] [.null]))
              refine Go.by (fun t9_ q9_ => XS.astore W846.here W846.hx rfl (hb hby at_268) rfl rfl (l' := #[.val (.int p0), .val (.int p1), .val (.int p2), .val (.int p3), .val (.int md), .val (.int se), .val (.int su), .val (.ref e0), .val (.int ca), .val (.ref tx), .val .null, .val (.int (2 : Int32)), .unset]) rfl q9_) ?_
              show Go p e below s Z [("java/lang/String", 7)] _ _ _ (T844.setTop (mkF m 270 #[.val (.int p0), .val (.int p1), .val (.int p2), .val (.int p3), .val (.int md), .val (.int se), .val (.int su), .val (.ref e0), .val (.int ca), .val (.ref tx), .val .null, .val (.int (2 : Int32)), .unset] []))
              refine W846.new (wd8 hw) (wd9 hw) (wd10 hw) (hb hby at_270) (k' := 2) (n' := 6) rfl rfl (by decide) (by decide) ?_
              intro T849 h850 st W851 E852 g_st z_st A_st D_st
              have F_coder_st : Fld Z h850 st "java/lang/String" "coder" "B" (.int (0 : Int32)) := D_st (Or.inr (wd34 hw)) (ty := .byte) (by decide)
              have F_value_st : Fld Z h850 st "java/lang/String" "value" "[B" .null := D_st (Or.inr (wd36 hw)) (ty := (.array .byte)) (by decide)
              show Go p e below s Z [("java/lang/String", 7)] _ _ _ (T849.setTop (mkF m 273 #[.val (.int p0), .val (.int p1), .val (.int p2), .val (.int p3), .val (.int md), .val (.int se), .val (.int su), .val (.ref e0), .val (.int ca), .val (.ref tx), .val .null, .val (.int (2 : Int32)), .unset] [(.ref st)]))
              refine Go.by (fun t9_ q9_ => XS.dup W851.here W851.hx rfl (hb hby at_273) rfl rfl q9_) ?_
              show Go p e below s Z [("java/lang/String", 7)] _ _ _ (T849.setTop (mkF m 274 #[.val (.int p0), .val (.int p1), .val (.int p2), .val (.int p3), .val (.int md), .val (.int se), .val (.int su), .val (.ref e0), .val (.int ca), .val (.ref tx), .val .null, .val (.int (2 : Int32)), .unset] [(.ref st), (.ref st)]))
              refine Go.by (fun t9_ q9_ => XS.aload W851.here W851.hx rfl (hb hby at_274) rfl rfl q9_) ?_
              show Go p e below s Z [("java/lang/String", 7)] _ _ _ (T849.setTop (mkF m 276 #[.val (.int p0), .val (.int p1), .val (.int p2), .val (.int p3), .val (.int md), .val (.int se), .val (.int su), .val (.ref e0), .val (.int ca), .val (.ref tx), .val .null, .val (.int (2 : Int32)), .unset] [(.ref tx), (.ref st), (.ref st)]))
              refine W851.strV (cs := [ca, ((p3 &&& (255 : Int32)).toUInt32.toUInt16.toUInt32.toInt32)]) (k_words hw) (wd9 hw) (wd11 hw) (wd12 hw) A_st F_value_st F_coder_st (V848_tx.ext E852) (SG1.ext W851.old) hG (q := 2) rfl rfl (by decide) (by decide) (by intro c hc; simp only [List.mem_cons, List.not_mem_nil, or_false] at hc; rcases hc with rfl | rfl <;> first | exact r_ca | exact k_mask _) z_st (List.mem_of_getElem? (i := 0) rfl) (by decide) (Wt := 1) (by decide) (k' := 3) (n' := 8) rfl rfl (by decide) (by decide) (by rw [hml]; rfl) (Nat.le_of_eq rfl) (hb hby at_276) ?_
              intro T853 h854 W855 K856 S_st
              show Go p e below s Z [("java/lang/String", 7)] _ _ _ (T853.setTop (mkF m 279 #[.val (.int p0), .val (.int p1), .val (.int p2), .val (.int p3), .val (.int md), .val (.int se), .val (.int su), .val (.ref e0), .val (.int ca), .val (.ref tx), .val .null, .val (.int (2 : Int32)), .unset] [(.ref st)]))
              have hxp : namF [ca, ((p3 &&& (255 : Int32)).toUInt32.toUInt16.toUInt32.toInt32)] e0 e1 = .null := nam_null (by simp) (by simp)
              refine W855.callS (y := (⟨"com/example/proof_to_token/prooftotoken/config/Sociability", "named", "(Ljava/lang/String;)Ljava/util/Optional;"⟩ : MethodName)) (wd37 hw) (wd38 hw) (wd1 hw) (wd39 hw) (by decide) (c_named l Z a0 hw hEL h854 W855.old st _ G1 av e0 e1 t0 t1 em kv SG1 hG SV AV XV FW0 FW1 S0 S1 SE EE FE S_st (by simp)) all0 (by decide) (by decide) (k' := 5) (n' := 11) rfl rfl (by decide) (by decide) (by rw [hml]; rfl) (argsL := [(.ref st)]) (rest := []) (lenOf pd_5 rfl) rfl rfl (Wt := 0) (Nat.le_of_eq rfl) (hb hby at_279) ?_
              intro v_ T857 h859 W858 hq_
              obtain ⟨ro, rfl, X2, E2, F2⟩ := hq_
              rw [hxp] at F2
              show Go p e below s Z [("java/lang/String", 7)] _ _ _ (T857.setTop (mkF m 282 #[.val (.int p0), .val (.int p1), .val (.int p2), .val (.int p3), .val (.int md), .val (.int se), .val (.int su), .val (.ref e0), .val (.int ca), .val (.ref tx), .val .null, .val (.int (2 : Int32)), .unset] [(.ref ro)]))
              refine Go.by (fun t9_ q9_ => XS.astore W858.here W858.hx rfl (hb hby at_282) rfl rfl (l' := #[.val (.int p0), .val (.int p1), .val (.int p2), .val (.int p3), .val (.int md), .val (.int se), .val (.int su), .val (.ref e0), .val (.int ca), .val (.ref tx), .val .null, .val (.ref ro), .unset]) rfl q9_) ?_
              show Go p e below s Z [("java/lang/String", 7)] _ _ _ (T857.setTop (mkF m 284 #[.val (.int p0), .val (.int p1), .val (.int p2), .val (.int p3), .val (.int md), .val (.int se), .val (.int su), .val (.ref e0), .val (.int ca), .val (.ref tx), .val .null, .val (.ref ro), .unset] []))
              refine Go.by (fun t9_ q9_ => XS.aload W858.here W858.hx rfl (hb hby at_284) rfl rfl q9_) ?_
              show Go p e below s Z [("java/lang/String", 7)] _ _ _ (T857.setTop (mkF m 286 #[.val (.int p0), .val (.int p1), .val (.int p2), .val (.int p3), .val (.int md), .val (.int se), .val (.int su), .val (.ref e0), .val (.int ca), .val (.ref tx), .val .null, .val (.ref ro), .unset] [(.ref ro)]))
              refine Go.by (fun t9_ q9_ => XS.aconstNull W858.here W858.hx rfl (hb hby at_286) q9_) ?_
              show Go p e below s Z [("java/lang/String", 7)] _ _ _ (T857.setTop (mkF m 287 #[.val (.int p0), .val (.int p1), .val (.int p2), .val (.int p3), .val (.int md), .val (.int se), .val (.int su), .val (.ref e0), .val (.int ca), .val (.ref tx), .val .null, .val (.ref ro), .unset] [.null, (.ref ro)]))
              refine W858.callVp (y := (⟨"java/util/Optional", "orElse", "(Ljava/lang/Object;)Ljava/lang/Object;"⟩ : MethodName)) (z := (⟨"java/util/Optional", "orElse", "(Ljava/lang/Object;)Ljava/lang/Object;"⟩ : MethodName)) (wd81 hw) (wd82 hw) (nf_sel rfl (wd84 hw)) (wd84 hw) (wd83 hw) (wd70 hw) (wd85 hw) (by decide) E2 (a := ro) (c_orelse l Z a0 hw hEL h859 W858.old ro _ rfl F2) all0 (by decide) (by decide) (k' := 5) (n' := 11) rfl rfl (by decide) (by decide) (by rw [hml]; rfl) (argsL := [.null]) (rest := []) (lenOf pd_6 rfl) rfl rfl (Wt := 0) (Nat.le_of_eq rfl) (hb hby at_287) ?_
              intro T860 W861
              show Go p e below s Z [("java/lang/String", 7)] _ _ _ (T860.setTop (mkF m 290 #[.val (.int p0), .val (.int p1), .val (.int p2), .val (.int p3), .val (.int md), .val (.int se), .val (.int su), .val (.ref e0), .val (.int ca), .val (.ref tx), .val .null, .val (.ref ro), .unset] [.null]))
              refine Go.by (fun t9_ q9_ => XS.aload W861.here W861.hx rfl (hb hby at_290) rfl rfl q9_) ?_
              show Go p e below s Z [("java/lang/String", 7)] _ _ _ (T860.setTop (mkF m 292 #[.val (.int p0), .val (.int p1), .val (.int p2), .val (.int p3), .val (.int md), .val (.int se), .val (.int su), .val (.ref e0), .val (.int ca), .val (.ref tx), .val .null, .val (.ref ro), .unset] [.null, .null]))
              refine Go.by (fun t9_ q9_ => acmpW W861 (g := (mkF m 292 #[.val (.int p0), .val (.int p1), .val (.int p2), .val (.int p3), .val (.int md), .val (.int se), .val (.int su), .val (.ref e0), .val (.int ca), .val (.ref tx), .val .null, .val (.ref ro), .unset] [.null, .null])) rfl rfl rfl (pc0 := 292) (pc' := 295) (same := true) rfl (hb hby at_292) rfl (decide_eq_true rfl) (by decide) (by decide) q9_) ?_
              show Go p e below s Z [("java/lang/String", 7)] _ _ _ (T860.setTop (mkF m 295 #[.val (.int p0), .val (.int p1), .val (.int p2), .val (.int p3), .val (.int md), .val (.int se), .val (.int su), .val (.ref e0), .val (.int ca), .val (.ref tx), .val .null, .val (.ref ro), .unset] []))
              refine Go.by (fun t9_ q9_ => XS.iconst W861.here W861.hx rfl (hb hby at_295) q9_) ?_
              show Go p e below s Z [("java/lang/String", 7)] _ _ _ (T860.setTop (mkF m 296 #[.val (.int p0), .val (.int p1), .val (.int p2), .val (.int p3), .val (.int md), .val (.int se), .val (.int su), .val (.ref e0), .val (.int ca), .val (.ref tx), .val .null, .val (.ref ro), .unset] [(.int (1 : Int32))]))
              refine Go.by (fun t9_ q9_ => XS.goto W861.here W861.hx rfl (pc0 := 296) (pc' := 300) rfl (hb hby at_296) (by decide) (by decide) q9_) ?_
              show Go p e below s Z [("java/lang/String", 7)] _ _ _ (T860.setTop (mkF m 300 #[.val (.int p0), .val (.int p1), .val (.int p2), .val (.int p3), .val (.int md), .val (.int se), .val (.int su), .val (.ref e0), .val (.int ca), .val (.ref tx), .val .null, .val (.ref ro), .unset] [(.int (1 : Int32))]))
              exact W861.retN (z' := (1 : Int32)) (by decide) (by decide) hret (by simp) (hb hby at_300) rfl rfl
            · rw [hn]
              show Go p e below s Z [("java/lang/String", 7)] _ _ _ (T713.setTop (mkF m 215 #[.val (.int p0), .val (.int p1), .val (.int p2), .val (.int p3), .val (.int md), .val (.int se), .val (.int su), .val (.ref e0), .val (.int ca), .unset, .unset, .val (.int (3 : Int32)), .unset] []))
              refine Go.by (fun t9_ q9_ => XS.iload W714.here W714.hx rfl (hb hby at_215) rfl q9_) ?_
              show Go p e below s Z [("java/lang/String", 7)] _ _ _ (T713.setTop (mkF m 217 #[.val (.int p0), .val (.int p1), .val (.int p2), .val (.int p3), .val (.int md), .val (.int se), .val (.int su), .val (.ref e0), .val (.int ca), .unset, .unset, .val (.int (3 : Int32)), .unset] [(.int (3 : Int32))]))
              refine W714.newp (aty := .char) (wd7 hw) (hb hby at_217) (by decide) (cap := 3) (by decide) (by decide) (k' := 1) (n' := 3) rfl rfl (by decide) (by decide) (ad := "[C") rfl ?_
              intro T862 h863 tx k_tx W864 E865 g_tx z_tx A_tx V_tx
              have V1_tx : Arv Z h863 tx k_tx .char (3 : Int32) [(.int (0 : Int32)), (.int (0 : Int32)), (.int (0 : Int32))] (.int (0 : Int32)) := V_tx.pad (pad_rep [] (.int (0 : Int32)) 3)
              show Go p e below s Z [("java/lang/String", 7)] _ _ _ (T862.setTop (mkF m 219 #[.val (.int p0), .val (.int p1), .val (.int p2), .val (.int p3), .val (.int md), .val (.int se), .val (.int su), .val (.ref e0), .val (.int ca), .unset, .unset, .val (.int (3 : Int32)), .unset] [(.ref tx)]))
              refine Go.by (fun t9_ q9_ => XS.astore W864.here W864.hx rfl (hb hby at_219) rfl rfl (l' := #[.val (.int p0), .val (.int p1), .val (.int p2), .val (.int p3), .val (.int md), .val (.int se), .val (.int su), .val (.ref e0), .val (.int ca), .val (.ref tx), .unset, .val (.int (3 : Int32)), .unset]) rfl q9_) ?_
              show Go p e below s Z [("java/lang/String", 7)] _ _ _ (T862.setTop (mkF m 221 #[.val (.int p0), .val (.int p1), .val (.int p2), .val (.int p3), .val (.int md), .val (.int se), .val (.int su), .val (.ref e0), .val (.int ca), .val (.ref tx), .unset, .val (.int (3 : Int32)), .unset] []))
              refine Go.by (fun t9_ q9_ => XS.iload W864.here W864.hx rfl (hb hby at_221) rfl q9_) ?_
              show Go p e below s Z [("java/lang/String", 7)] _ _ _ (T862.setTop (mkF m 223 #[.val (.int p0), .val (.int p1), .val (.int p2), .val (.int p3), .val (.int md), .val (.int se), .val (.int su), .val (.ref e0), .val (.int ca), .val (.ref tx), .unset, .val (.int (3 : Int32)), .unset] [(.int (3 : Int32))]))
              refine Go.by (fun t9_ q9_ => XS.ifNo W864.here W864.hx rfl (hb hby at_223) rfl ((if0 _ _).trans (tlt (by decide)).2.2.2) q9_) ?_
              show Go p e below s Z [("java/lang/String", 7)] _ _ _ (T862.setTop (mkF m 226 #[.val (.int p0), .val (.int p1), .val (.int p2), .val (.int p3), .val (.int md), .val (.int se), .val (.int su), .val (.ref e0), .val (.int ca), .val (.ref tx), .unset, .val (.int (3 : Int32)), .unset] []))
              refine Go.by (fun t9_ q9_ => XS.aload W864.here W864.hx rfl (hb hby at_226) rfl rfl q9_) ?_
              show Go p e below s Z [("java/lang/String", 7)] _ _ _ (T862.setTop (mkF m 228 #[.val (.int p0), .val (.int p1), .val (.int p2), .val (.int p3), .val (.int md), .val (.int se), .val (.int su), .val (.ref e0), .val (.int ca), .val (.ref tx), .unset, .val (.int (3 : Int32)), .unset] [(.ref tx)]))
              refine Go.by (fun t9_ q9_ => XS.iconst W864.here W864.hx rfl (hb hby at_228) q9_) ?_
              show Go p e below s Z [("java/lang/String", 7)] _ _ _ (T862.setTop (mkF m 229 #[.val (.int p0), .val (.int p1), .val (.int p2), .val (.int p3), .val (.int md), .val (.int se), .val (.int su), .val (.ref e0), .val (.int ca), .val (.ref tx), .unset, .val (.int (3 : Int32)), .unset] [(.int (0 : Int32)), (.ref tx)]))
              refine Go.by (fun t9_ q9_ => XS.iload W864.here W864.hx rfl (hb hby at_229) rfl q9_) ?_
              show Go p e below s Z [("java/lang/String", 7)] _ _ _ (T862.setTop (mkF m 231 #[.val (.int p0), .val (.int p1), .val (.int p2), .val (.int p3), .val (.int md), .val (.int se), .val (.int su), .val (.ref e0), .val (.int ca), .val (.ref tx), .unset, .val (.int (3 : Int32)), .unset] [(.int ca), (.int (0 : Int32)), (.ref tx)]))
              refine W864.cast_ V1_tx ⟨by decide, by decide⟩ (i := 0) rfl (by simp) (v' := ca) (nar_id (up16 r_ca)) z_tx (List.mem_of_getElem? (i := 0) rfl) (hb hby at_231) ?_
              intro T866 h867 W868 Wr869 V870_tx'
              have V870_tx : Arv Z h867 tx k_tx .char (3 : Int32) [(.int ca), (.int (0 : Int32)), (.int (0 : Int32))] (.int (0 : Int32)) := V870_tx'
              show Go p e below s Z [("java/lang/String", 7)] _ _ _ (T866.setTop (mkF m 232 #[.val (.int p0), .val (.int p1), .val (.int p2), .val (.int p3), .val (.int md), .val (.int se), .val (.int su), .val (.ref e0), .val (.int ca), .val (.ref tx), .unset, .val (.int (3 : Int32)), .unset] []))
              refine Go.by (fun t9_ q9_ => XS.iload W868.here W868.hx rfl (hb hby at_232) rfl q9_) ?_
              show Go p e below s Z [("java/lang/String", 7)] _ _ _ (T866.setTop (mkF m 234 #[.val (.int p0), .val (.int p1), .val (.int p2), .val (.int p3), .val (.int md), .val (.int se), .val (.int su), .val (.ref e0), .val (.int ca), .val (.ref tx), .unset, .val (.int (3 : Int32)), .unset] [(.int (3 : Int32))]))
              refine Go.by (fun t9_ q9_ => XS.iconst W868.here W868.hx rfl (hb hby at_234) q9_) ?_
              show Go p e below s Z [("java/lang/String", 7)] _ _ _ (T866.setTop (mkF m 235 #[.val (.int p0), .val (.int p1), .val (.int p2), .val (.int p3), .val (.int md), .val (.int se), .val (.int su), .val (.ref e0), .val (.int ca), .val (.ref tx), .unset, .val (.int (3 : Int32)), .unset] [(.int (1 : Int32)), (.int (3 : Int32))]))
              refine Go.by (fun t9_ q9_ => XS.icmpNo W868.here W868.hx rfl (hb hby at_235) rfl (tlt (by decide)).2.2.2 q9_) ?_
              show Go p e below s Z [("java/lang/String", 7)] _ _ _ (T866.setTop (mkF m 238 #[.val (.int p0), .val (.int p1), .val (.int p2), .val (.int p3), .val (.int md), .val (.int se), .val (.int su), .val (.ref e0), .val (.int ca), .val (.ref tx), .unset, .val (.int (3 : Int32)), .unset] []))
              refine Go.by (fun t9_ q9_ => XS.aload W868.here W868.hx rfl (hb hby at_238) rfl rfl q9_) ?_
              show Go p e below s Z [("java/lang/String", 7)] _ _ _ (T866.setTop (mkF m 240 #[.val (.int p0), .val (.int p1), .val (.int p2), .val (.int p3), .val (.int md), .val (.int se), .val (.int su), .val (.ref e0), .val (.int ca), .val (.ref tx), .unset, .val (.int (3 : Int32)), .unset] [(.ref tx)]))
              refine Go.by (fun t9_ q9_ => XS.iconst W868.here W868.hx rfl (hb hby at_240) q9_) ?_
              show Go p e below s Z [("java/lang/String", 7)] _ _ _ (T866.setTop (mkF m 241 #[.val (.int p0), .val (.int p1), .val (.int p2), .val (.int p3), .val (.int md), .val (.int se), .val (.int su), .val (.ref e0), .val (.int ca), .val (.ref tx), .unset, .val (.int (3 : Int32)), .unset] [(.int (1 : Int32)), (.ref tx)]))
              refine Go.by (fun t9_ q9_ => XS.iloadN W868.here W868.hx rfl (hb hby at_241) rfl q9_) ?_
              show Go p e below s Z [("java/lang/String", 7)] _ _ _ (T866.setTop (mkF m 242 #[.val (.int p0), .val (.int p1), .val (.int p2), .val (.int p3), .val (.int md), .val (.int se), .val (.int su), .val (.ref e0), .val (.int ca), .val (.ref tx), .unset, .val (.int (3 : Int32)), .unset] [(.int p3), (.int (1 : Int32)), (.ref tx)]))
              refine Go.by (fun t9_ q9_ => XS.sipush W868.here W868.hx rfl (hb hby at_242) q9_) ?_
              show Go p e below s Z [("java/lang/String", 7)] _ _ _ (T866.setTop (mkF m 245 #[.val (.int p0), .val (.int p1), .val (.int p2), .val (.int p3), .val (.int md), .val (.int se), .val (.int su), .val (.ref e0), .val (.int ca), .val (.ref tx), .unset, .val (.int (3 : Int32)), .unset] [(.int (255 : Int32)), (.int p3), (.int (1 : Int32)), (.ref tx)]))
              refine Go.by (fun t9_ q9_ => XS.iand W868.here W868.hx rfl (hb hby at_245) rfl q9_) ?_
              show Go p e below s Z [("java/lang/String", 7)] _ _ _ (T866.setTop (mkF m 246 #[.val (.int p0), .val (.int p1), .val (.int p2), .val (.int p3), .val (.int md), .val (.int se), .val (.int su), .val (.ref e0), .val (.int ca), .val (.ref tx), .unset, .val (.int (3 : Int32)), .unset] [(.int (p3 &&& (255 : Int32))), (.int (1 : Int32)), (.ref tx)]))
              refine Go.by (fun t9_ q9_ => XS.i2c W868.here W868.hx rfl (hb hby at_246) rfl q9_) ?_
              show Go p e below s Z [("java/lang/String", 7)] _ _ _ (T866.setTop (mkF m 247 #[.val (.int p0), .val (.int p1), .val (.int p2), .val (.int p3), .val (.int md), .val (.int se), .val (.int su), .val (.ref e0), .val (.int ca), .val (.ref tx), .unset, .val (.int (3 : Int32)), .unset] [(.int ((p3 &&& (255 : Int32)).toUInt32.toUInt16.toUInt32.toInt32)), (.int (1 : Int32)), (.ref tx)]))
              refine W868.cast_ V870_tx ⟨by decide, by decide⟩ (i := 1) rfl (by simp) (v' := ((p3 &&& (255 : Int32)).toUInt32.toUInt16.toUInt32.toInt32)) (k_nar _) z_tx (List.mem_of_getElem? (i := 0) rfl) (hb hby at_247) ?_
              intro T871 h872 W873 Wr874 V875_tx'
              have V875_tx : Arv Z h872 tx k_tx .char (3 : Int32) [(.int ca), (.int ((p3 &&& (255 : Int32)).toUInt32.toUInt16.toUInt32.toInt32)), (.int (0 : Int32))] (.int (0 : Int32)) := V875_tx'
              show Go p e below s Z [("java/lang/String", 7)] _ _ _ (T871.setTop (mkF m 248 #[.val (.int p0), .val (.int p1), .val (.int p2), .val (.int p3), .val (.int md), .val (.int se), .val (.int su), .val (.ref e0), .val (.int ca), .val (.ref tx), .unset, .val (.int (3 : Int32)), .unset] []))
              refine Go.by (fun t9_ q9_ => XS.iload W873.here W873.hx rfl (hb hby at_248) rfl q9_) ?_
              show Go p e below s Z [("java/lang/String", 7)] _ _ _ (T871.setTop (mkF m 250 #[.val (.int p0), .val (.int p1), .val (.int p2), .val (.int p3), .val (.int md), .val (.int se), .val (.int su), .val (.ref e0), .val (.int ca), .val (.ref tx), .unset, .val (.int (3 : Int32)), .unset] [(.int (3 : Int32))]))
              refine Go.by (fun t9_ q9_ => XS.iconst W873.here W873.hx rfl (hb hby at_250) q9_) ?_
              show Go p e below s Z [("java/lang/String", 7)] _ _ _ (T871.setTop (mkF m 251 #[.val (.int p0), .val (.int p1), .val (.int p2), .val (.int p3), .val (.int md), .val (.int se), .val (.int su), .val (.ref e0), .val (.int ca), .val (.ref tx), .unset, .val (.int (3 : Int32)), .unset] [(.int (2 : Int32)), (.int (3 : Int32))]))
              refine Go.by (fun t9_ q9_ => XS.icmpNo W873.here W873.hx rfl (hb hby at_251) rfl (tlt (by decide)).2.2.2 q9_) ?_
              show Go p e below s Z [("java/lang/String", 7)] _ _ _ (T871.setTop (mkF m 254 #[.val (.int p0), .val (.int p1), .val (.int p2), .val (.int p3), .val (.int md), .val (.int se), .val (.int su), .val (.ref e0), .val (.int ca), .val (.ref tx), .unset, .val (.int (3 : Int32)), .unset] []))
              refine Go.by (fun t9_ q9_ => XS.aload W873.here W873.hx rfl (hb hby at_254) rfl rfl q9_) ?_
              show Go p e below s Z [("java/lang/String", 7)] _ _ _ (T871.setTop (mkF m 256 #[.val (.int p0), .val (.int p1), .val (.int p2), .val (.int p3), .val (.int md), .val (.int se), .val (.int su), .val (.ref e0), .val (.int ca), .val (.ref tx), .unset, .val (.int (3 : Int32)), .unset] [(.ref tx)]))
              refine Go.by (fun t9_ q9_ => XS.iconst W873.here W873.hx rfl (hb hby at_256) q9_) ?_
              show Go p e below s Z [("java/lang/String", 7)] _ _ _ (T871.setTop (mkF m 257 #[.val (.int p0), .val (.int p1), .val (.int p2), .val (.int p3), .val (.int md), .val (.int se), .val (.int su), .val (.ref e0), .val (.int ca), .val (.ref tx), .unset, .val (.int (3 : Int32)), .unset] [(.int (2 : Int32)), (.ref tx)]))
              refine Go.by (fun t9_ q9_ => XS.iloadN W873.here W873.hx rfl (hb hby at_257) rfl q9_) ?_
              show Go p e below s Z [("java/lang/String", 7)] _ _ _ (T871.setTop (mkF m 258 #[.val (.int p0), .val (.int p1), .val (.int p2), .val (.int p3), .val (.int md), .val (.int se), .val (.int su), .val (.ref e0), .val (.int ca), .val (.ref tx), .unset, .val (.int (3 : Int32)), .unset] [(.int p3), (.int (2 : Int32)), (.ref tx)]))
              refine Go.by (fun t9_ q9_ => XS.bipush W873.here W873.hx rfl (hb hby at_258) q9_) ?_
              show Go p e below s Z [("java/lang/String", 7)] _ _ _ (T871.setTop (mkF m 260 #[.val (.int p0), .val (.int p1), .val (.int p2), .val (.int p3), .val (.int md), .val (.int se), .val (.int su), .val (.ref e0), .val (.int ca), .val (.ref tx), .unset, .val (.int (3 : Int32)), .unset] [(.int (8 : Int32)), (.int p3), (.int (2 : Int32)), (.ref tx)]))
              refine Go.by (fun t9_ q9_ => XS.iushr W873.here W873.hx rfl (hb hby at_260) rfl q9_) ?_
              show Go p e below s Z [("java/lang/String", 7)] _ _ _ (T871.setTop (mkF m 261 #[.val (.int p0), .val (.int p1), .val (.int p2), .val (.int p3), .val (.int md), .val (.int se), .val (.int su), .val (.ref e0), .val (.int ca), .val (.ref tx), .unset, .val (.int (3 : Int32)), .unset] [(.int ((p3.toUInt32 >>> ((8 : Int32) &&& 31).toUInt32).toInt32)), (.int (2 : Int32)), (.ref tx)]))
              refine Go.by (fun t9_ q9_ => XS.sipush W873.here W873.hx rfl (hb hby at_261) q9_) ?_
              show Go p e below s Z [("java/lang/String", 7)] _ _ _ (T871.setTop (mkF m 264 #[.val (.int p0), .val (.int p1), .val (.int p2), .val (.int p3), .val (.int md), .val (.int se), .val (.int su), .val (.ref e0), .val (.int ca), .val (.ref tx), .unset, .val (.int (3 : Int32)), .unset] [(.int (255 : Int32)), (.int ((p3.toUInt32 >>> ((8 : Int32) &&& 31).toUInt32).toInt32)), (.int (2 : Int32)), (.ref tx)]))
              refine Go.by (fun t9_ q9_ => XS.iand W873.here W873.hx rfl (hb hby at_264) rfl q9_) ?_
              show Go p e below s Z [("java/lang/String", 7)] _ _ _ (T871.setTop (mkF m 265 #[.val (.int p0), .val (.int p1), .val (.int p2), .val (.int p3), .val (.int md), .val (.int se), .val (.int su), .val (.ref e0), .val (.int ca), .val (.ref tx), .unset, .val (.int (3 : Int32)), .unset] [(.int (((p3.toUInt32 >>> ((8 : Int32) &&& 31).toUInt32).toInt32) &&& (255 : Int32))), (.int (2 : Int32)), (.ref tx)]))
              refine Go.by (fun t9_ q9_ => XS.i2c W873.here W873.hx rfl (hb hby at_265) rfl q9_) ?_
              show Go p e below s Z [("java/lang/String", 7)] _ _ _ (T871.setTop (mkF m 266 #[.val (.int p0), .val (.int p1), .val (.int p2), .val (.int p3), .val (.int md), .val (.int se), .val (.int su), .val (.ref e0), .val (.int ca), .val (.ref tx), .unset, .val (.int (3 : Int32)), .unset] [(.int ((((p3.toUInt32 >>> ((8 : Int32) &&& 31).toUInt32).toInt32) &&& (255 : Int32)).toUInt32.toUInt16.toUInt32.toInt32)), (.int (2 : Int32)), (.ref tx)]))
              refine W873.cast_ V875_tx ⟨by decide, by decide⟩ (i := 2) rfl (by simp) (v' := (((p3.toUInt32 >>> ((8 : Int32) &&& 31).toUInt32).toInt32 &&& (255 : Int32)).toUInt32.toUInt16.toUInt32.toInt32)) (k_nar _) z_tx (List.mem_of_getElem? (i := 0) rfl) (hb hby at_266) ?_
              intro T876 h877 W878 Wr879 V880_tx'
              have V880_tx : Arv Z h877 tx k_tx .char (3 : Int32) [(.int ca), (.int ((p3 &&& (255 : Int32)).toUInt32.toUInt16.toUInt32.toInt32)), (.int (((p3.toUInt32 >>> ((8 : Int32) &&& 31).toUInt32).toInt32 &&& (255 : Int32)).toUInt32.toUInt16.toUInt32.toInt32))] (.int (0 : Int32)) := V880_tx'
              show Go p e below s Z [("java/lang/String", 7)] _ _ _ (T876.setTop (mkF m 267 #[.val (.int p0), .val (.int p1), .val (.int p2), .val (.int p3), .val (.int md), .val (.int se), .val (.int su), .val (.ref e0), .val (.int ca), .val (.ref tx), .unset, .val (.int (3 : Int32)), .unset] []))
              refine Go.by (fun t9_ q9_ => XS.aconstNull W878.here W878.hx rfl (hb hby at_267) q9_) ?_
              show Go p e below s Z [("java/lang/String", 7)] _ _ _ (T876.setTop (mkF m 268 #[.val (.int p0), .val (.int p1), .val (.int p2), .val (.int p3), .val (.int md), .val (.int se), .val (.int su), .val (.ref e0), .val (.int ca), .val (.ref tx), .unset, .val (.int (3 : Int32)), .unset] [.null]))
              refine Go.by (fun t9_ q9_ => XS.astore W878.here W878.hx rfl (hb hby at_268) rfl rfl (l' := #[.val (.int p0), .val (.int p1), .val (.int p2), .val (.int p3), .val (.int md), .val (.int se), .val (.int su), .val (.ref e0), .val (.int ca), .val (.ref tx), .val .null, .val (.int (3 : Int32)), .unset]) rfl q9_) ?_
              show Go p e below s Z [("java/lang/String", 7)] _ _ _ (T876.setTop (mkF m 270 #[.val (.int p0), .val (.int p1), .val (.int p2), .val (.int p3), .val (.int md), .val (.int se), .val (.int su), .val (.ref e0), .val (.int ca), .val (.ref tx), .val .null, .val (.int (3 : Int32)), .unset] []))
              refine W878.new (wd8 hw) (wd9 hw) (wd10 hw) (hb hby at_270) (k' := 2) (n' := 7) rfl rfl (by decide) (by decide) ?_
              intro T881 h882 st W883 E884 g_st z_st A_st D_st
              have F_coder_st : Fld Z h882 st "java/lang/String" "coder" "B" (.int (0 : Int32)) := D_st (Or.inr (wd34 hw)) (ty := .byte) (by decide)
              have F_value_st : Fld Z h882 st "java/lang/String" "value" "[B" .null := D_st (Or.inr (wd36 hw)) (ty := (.array .byte)) (by decide)
              show Go p e below s Z [("java/lang/String", 7)] _ _ _ (T881.setTop (mkF m 273 #[.val (.int p0), .val (.int p1), .val (.int p2), .val (.int p3), .val (.int md), .val (.int se), .val (.int su), .val (.ref e0), .val (.int ca), .val (.ref tx), .val .null, .val (.int (3 : Int32)), .unset] [(.ref st)]))
              refine Go.by (fun t9_ q9_ => XS.dup W883.here W883.hx rfl (hb hby at_273) rfl rfl q9_) ?_
              show Go p e below s Z [("java/lang/String", 7)] _ _ _ (T881.setTop (mkF m 274 #[.val (.int p0), .val (.int p1), .val (.int p2), .val (.int p3), .val (.int md), .val (.int se), .val (.int su), .val (.ref e0), .val (.int ca), .val (.ref tx), .val .null, .val (.int (3 : Int32)), .unset] [(.ref st), (.ref st)]))
              refine Go.by (fun t9_ q9_ => XS.aload W883.here W883.hx rfl (hb hby at_274) rfl rfl q9_) ?_
              show Go p e below s Z [("java/lang/String", 7)] _ _ _ (T881.setTop (mkF m 276 #[.val (.int p0), .val (.int p1), .val (.int p2), .val (.int p3), .val (.int md), .val (.int se), .val (.int su), .val (.ref e0), .val (.int ca), .val (.ref tx), .val .null, .val (.int (3 : Int32)), .unset] [(.ref tx), (.ref st), (.ref st)]))
              refine W883.strV (cs := [ca, ((p3 &&& (255 : Int32)).toUInt32.toUInt16.toUInt32.toInt32), (((p3.toUInt32 >>> ((8 : Int32) &&& 31).toUInt32).toInt32 &&& (255 : Int32)).toUInt32.toUInt16.toUInt32.toInt32)]) (k_words hw) (wd9 hw) (wd11 hw) (wd12 hw) A_st F_value_st F_coder_st (V880_tx.ext E884) (SG1.ext W883.old) hG (q := 3) rfl rfl (by decide) (by decide) (by intro c hc; simp only [List.mem_cons, List.not_mem_nil, or_false] at hc; rcases hc with rfl | rfl | rfl <;> first | exact r_ca | exact k_mask _) z_st (List.mem_of_getElem? (i := 0) rfl) (by decide) (Wt := 1) (by decide) (k' := 3) (n' := 10) rfl rfl (by decide) (by decide) (by rw [hml]; rfl) (Nat.le_of_eq rfl) (hb hby at_276) ?_
              intro T885 h886 W887 K888 S_st
              show Go p e below s Z [("java/lang/String", 7)] _ _ _ (T885.setTop (mkF m 279 #[.val (.int p0), .val (.int p1), .val (.int p2), .val (.int p3), .val (.int md), .val (.int se), .val (.int su), .val (.ref e0), .val (.int ca), .val (.ref tx), .val .null, .val (.int (3 : Int32)), .unset] [(.ref st)]))
              have hxp : namF [ca, ((p3 &&& (255 : Int32)).toUInt32.toUInt16.toUInt32.toInt32), (((p3.toUInt32 >>> ((8 : Int32) &&& 31).toUInt32).toInt32 &&& (255 : Int32)).toUInt32.toUInt16.toUInt32.toInt32)] e0 e1 = .null := nam_null (by simp) (by simp)
              refine W887.callS (y := (⟨"com/example/proof_to_token/prooftotoken/config/Sociability", "named", "(Ljava/lang/String;)Ljava/util/Optional;"⟩ : MethodName)) (wd37 hw) (wd38 hw) (wd1 hw) (wd39 hw) (by decide) (c_named l Z a0 hw hEL h886 W887.old st _ G1 av e0 e1 t0 t1 em kv SG1 hG SV AV XV FW0 FW1 S0 S1 SE EE FE S_st (by simp)) all0 (by decide) (by decide) (k' := 5) (n' := 13) rfl rfl (by decide) (by decide) (by rw [hml]; rfl) (argsL := [(.ref st)]) (rest := []) (lenOf pd_5 rfl) rfl rfl (Wt := 0) (Nat.le_of_eq rfl) (hb hby at_279) ?_
              intro v_ T889 h891 W890 hq_
              obtain ⟨ro, rfl, X2, E2, F2⟩ := hq_
              rw [hxp] at F2
              show Go p e below s Z [("java/lang/String", 7)] _ _ _ (T889.setTop (mkF m 282 #[.val (.int p0), .val (.int p1), .val (.int p2), .val (.int p3), .val (.int md), .val (.int se), .val (.int su), .val (.ref e0), .val (.int ca), .val (.ref tx), .val .null, .val (.int (3 : Int32)), .unset] [(.ref ro)]))
              refine Go.by (fun t9_ q9_ => XS.astore W890.here W890.hx rfl (hb hby at_282) rfl rfl (l' := #[.val (.int p0), .val (.int p1), .val (.int p2), .val (.int p3), .val (.int md), .val (.int se), .val (.int su), .val (.ref e0), .val (.int ca), .val (.ref tx), .val .null, .val (.ref ro), .unset]) rfl q9_) ?_
              show Go p e below s Z [("java/lang/String", 7)] _ _ _ (T889.setTop (mkF m 284 #[.val (.int p0), .val (.int p1), .val (.int p2), .val (.int p3), .val (.int md), .val (.int se), .val (.int su), .val (.ref e0), .val (.int ca), .val (.ref tx), .val .null, .val (.ref ro), .unset] []))
              refine Go.by (fun t9_ q9_ => XS.aload W890.here W890.hx rfl (hb hby at_284) rfl rfl q9_) ?_
              show Go p e below s Z [("java/lang/String", 7)] _ _ _ (T889.setTop (mkF m 286 #[.val (.int p0), .val (.int p1), .val (.int p2), .val (.int p3), .val (.int md), .val (.int se), .val (.int su), .val (.ref e0), .val (.int ca), .val (.ref tx), .val .null, .val (.ref ro), .unset] [(.ref ro)]))
              refine Go.by (fun t9_ q9_ => XS.aconstNull W890.here W890.hx rfl (hb hby at_286) q9_) ?_
              show Go p e below s Z [("java/lang/String", 7)] _ _ _ (T889.setTop (mkF m 287 #[.val (.int p0), .val (.int p1), .val (.int p2), .val (.int p3), .val (.int md), .val (.int se), .val (.int su), .val (.ref e0), .val (.int ca), .val (.ref tx), .val .null, .val (.ref ro), .unset] [.null, (.ref ro)]))
              refine W890.callVp (y := (⟨"java/util/Optional", "orElse", "(Ljava/lang/Object;)Ljava/lang/Object;"⟩ : MethodName)) (z := (⟨"java/util/Optional", "orElse", "(Ljava/lang/Object;)Ljava/lang/Object;"⟩ : MethodName)) (wd81 hw) (wd82 hw) (nf_sel rfl (wd84 hw)) (wd84 hw) (wd83 hw) (wd70 hw) (wd85 hw) (by decide) E2 (a := ro) (c_orelse l Z a0 hw hEL h891 W890.old ro _ rfl F2) all0 (by decide) (by decide) (k' := 5) (n' := 13) rfl rfl (by decide) (by decide) (by rw [hml]; rfl) (argsL := [.null]) (rest := []) (lenOf pd_6 rfl) rfl rfl (Wt := 0) (Nat.le_of_eq rfl) (hb hby at_287) ?_
              intro T892 W893
              show Go p e below s Z [("java/lang/String", 7)] _ _ _ (T892.setTop (mkF m 290 #[.val (.int p0), .val (.int p1), .val (.int p2), .val (.int p3), .val (.int md), .val (.int se), .val (.int su), .val (.ref e0), .val (.int ca), .val (.ref tx), .val .null, .val (.ref ro), .unset] [.null]))
              refine Go.by (fun t9_ q9_ => XS.aload W893.here W893.hx rfl (hb hby at_290) rfl rfl q9_) ?_
              show Go p e below s Z [("java/lang/String", 7)] _ _ _ (T892.setTop (mkF m 292 #[.val (.int p0), .val (.int p1), .val (.int p2), .val (.int p3), .val (.int md), .val (.int se), .val (.int su), .val (.ref e0), .val (.int ca), .val (.ref tx), .val .null, .val (.ref ro), .unset] [.null, .null]))
              refine Go.by (fun t9_ q9_ => acmpW W893 (g := (mkF m 292 #[.val (.int p0), .val (.int p1), .val (.int p2), .val (.int p3), .val (.int md), .val (.int se), .val (.int su), .val (.ref e0), .val (.int ca), .val (.ref tx), .val .null, .val (.ref ro), .unset] [.null, .null])) rfl rfl rfl (pc0 := 292) (pc' := 295) (same := true) rfl (hb hby at_292) rfl (decide_eq_true rfl) (by decide) (by decide) q9_) ?_
              show Go p e below s Z [("java/lang/String", 7)] _ _ _ (T892.setTop (mkF m 295 #[.val (.int p0), .val (.int p1), .val (.int p2), .val (.int p3), .val (.int md), .val (.int se), .val (.int su), .val (.ref e0), .val (.int ca), .val (.ref tx), .val .null, .val (.ref ro), .unset] []))
              refine Go.by (fun t9_ q9_ => XS.iconst W893.here W893.hx rfl (hb hby at_295) q9_) ?_
              show Go p e below s Z [("java/lang/String", 7)] _ _ _ (T892.setTop (mkF m 296 #[.val (.int p0), .val (.int p1), .val (.int p2), .val (.int p3), .val (.int md), .val (.int se), .val (.int su), .val (.ref e0), .val (.int ca), .val (.ref tx), .val .null, .val (.ref ro), .unset] [(.int (1 : Int32))]))
              refine Go.by (fun t9_ q9_ => XS.goto W893.here W893.hx rfl (pc0 := 296) (pc' := 300) rfl (hb hby at_296) (by decide) (by decide) q9_) ?_
              show Go p e below s Z [("java/lang/String", 7)] _ _ _ (T892.setTop (mkF m 300 #[.val (.int p0), .val (.int p1), .val (.int p2), .val (.int p3), .val (.int md), .val (.int se), .val (.int su), .val (.ref e0), .val (.int ca), .val (.ref tx), .val .null, .val (.ref ro), .unset] [(.int (1 : Int32))]))
              exact W893.retN (z' := (1 : Int32)) (by decide) (by decide) hret (by simp) (hb hby at_300) rfl rfl
          · refine Go.by (fun t9_ q9_ => XS.ifNo W714.here W714.hx rfl (hb hby at_185) rfl ((if0 _ _).trans (feq hsb).1) q9_) ?_
            show Go p e below s Z [("java/lang/String", 7)] _ _ _ (T713.setTop (mkF m 188 #[.val (.int p0), .val (.int p1), .val (.int p2), .val (.int p3), .val (.int md), .val (.int se), .val (.int su), .val (.ref e0), .val (.int ca), .unset, .unset, .unset, .unset] []))
            refine Go.by (fun t9_ q9_ => XS.iload W714.here W714.hx rfl (hb hby at_188) rfl q9_) ?_
            show Go p e below s Z [("java/lang/String", 7)] _ _ _ (T713.setTop (mkF m 190 #[.val (.int p0), .val (.int p1), .val (.int p2), .val (.int p3), .val (.int md), .val (.int se), .val (.int su), .val (.ref e0), .val (.int ca), .unset, .unset, .unset, .unset] [(.int se)]))
            refine Go.by (fun t9_ q9_ => XS.ifYes W714.here W714.hx rfl (pc0 := 190) (pc' := 199) rfl (hb hby at_190) rfl ((if0 _ _).trans (teq hsec).1) (by decide) (by decide) q9_) ?_
            show Go p e below s Z [("java/lang/String", 7)] _ _ _ (T713.setTop (mkF m 199 #[.val (.int p0), .val (.int p1), .val (.int p2), .val (.int p3), .val (.int md), .val (.int se), .val (.int su), .val (.ref e0), .val (.int ca), .unset, .unset, .unset, .unset] []))
            refine W714.callS (y := (⟨"com/example/proof_to_token/prooftotoken/config/SociabilityNamedPinLaw", "allOrgsShort", "()[C"⟩ : MethodName)) (wd104 hw) (wd105 hw) (wd5 hw) (wd106 hw) (by decide) (c_alls l Z a0 hw hEL h0 W714.old) all0 (by decide) (by decide) (k' := 1) (n' := 15) rfl rfl (by decide) (by decide) (by rw [hml]; rfl) (argsL := []) (rest := []) (lenOf pd_4 rfl) rfl rfl (Wt := 0) (Nat.le_of_eq rfl) (hb hby at_199) ?_
            intro v_ T781 h783 W782 hq_
            obtain ⟨tx, kx, rfl, X1, A_x, E_x, z_x⟩ := hq_
            show Go p e below s Z [("java/lang/String", 7)] _ _ _ (T781.setTop (mkF m 202 #[.val (.int p0), .val (.int p1), .val (.int p2), .val (.int p3), .val (.int md), .val (.int se), .val (.int su), .val (.ref e0), .val (.int ca), .unset, .unset, .unset, .unset] [(.ref tx)]))
            refine Go.by (fun t9_ q9_ => XS.astore W782.here W782.hx rfl (hb hby at_202) rfl rfl (l' := #[.val (.int p0), .val (.int p1), .val (.int p2), .val (.int p3), .val (.int md), .val (.int se), .val (.int su), .val (.ref e0), .val (.int ca), .val (.ref tx), .unset, .unset, .unset]) rfl q9_) ?_
            show Go p e below s Z [("java/lang/String", 7)] _ _ _ (T781.setTop (mkF m 204 #[.val (.int p0), .val (.int p1), .val (.int p2), .val (.int p3), .val (.int md), .val (.int se), .val (.int su), .val (.ref e0), .val (.int ca), .val (.ref tx), .unset, .unset, .unset] []))
            refine Go.by (fun t9_ q9_ => XS.aconstNull W782.here W782.hx rfl (hb hby at_204) q9_) ?_
            show Go p e below s Z [("java/lang/String", 7)] _ _ _ (T781.setTop (mkF m 205 #[.val (.int p0), .val (.int p1), .val (.int p2), .val (.int p3), .val (.int md), .val (.int se), .val (.int su), .val (.ref e0), .val (.int ca), .val (.ref tx), .unset, .unset, .unset] [.null]))
            refine Go.by (fun t9_ q9_ => XS.astore W782.here W782.hx rfl (hb hby at_205) rfl rfl (l' := #[.val (.int p0), .val (.int p1), .val (.int p2), .val (.int p3), .val (.int md), .val (.int se), .val (.int su), .val (.ref e0), .val (.int ca), .val (.ref tx), .val .null, .unset, .unset]) rfl q9_) ?_
            show Go p e below s Z [("java/lang/String", 7)] _ _ _ (T781.setTop (mkF m 207 #[.val (.int p0), .val (.int p1), .val (.int p2), .val (.int p3), .val (.int md), .val (.int se), .val (.int su), .val (.ref e0), .val (.int ca), .val (.ref tx), .val .null, .unset, .unset] []))
            refine Go.by (fun t9_ q9_ => XS.goto W782.here W782.hx rfl (pc0 := 207) (pc' := 270) rfl (hb hby at_207) (by decide) (by decide) q9_) ?_
            show Go p e below s Z [("java/lang/String", 7)] _ _ _ (T781.setTop (mkF m 270 #[.val (.int p0), .val (.int p1), .val (.int p2), .val (.int p3), .val (.int md), .val (.int se), .val (.int su), .val (.ref e0), .val (.int ca), .val (.ref tx), .val .null, .unset, .unset] []))
            refine W782.new (wd8 hw) (wd9 hw) (wd10 hw) (hb hby at_270) (k' := 2) (n' := 19) rfl rfl (by decide) (by decide) ?_
            intro T784 h785 st W786 E787 g_st z_st A_st D_st
            have F_coder_st : Fld Z h785 st "java/lang/String" "coder" "B" (.int (0 : Int32)) := D_st (Or.inr (wd34 hw)) (ty := .byte) (by decide)
            have F_value_st : Fld Z h785 st "java/lang/String" "value" "[B" .null := D_st (Or.inr (wd36 hw)) (ty := (.array .byte)) (by decide)
            show Go p e below s Z [("java/lang/String", 7)] _ _ _ (T784.setTop (mkF m 273 #[.val (.int p0), .val (.int p1), .val (.int p2), .val (.int p3), .val (.int md), .val (.int se), .val (.int su), .val (.ref e0), .val (.int ca), .val (.ref tx), .val .null, .unset, .unset] [(.ref st)]))
            refine Go.by (fun t9_ q9_ => XS.dup W786.here W786.hx rfl (hb hby at_273) rfl rfl q9_) ?_
            show Go p e below s Z [("java/lang/String", 7)] _ _ _ (T784.setTop (mkF m 274 #[.val (.int p0), .val (.int p1), .val (.int p2), .val (.int p3), .val (.int md), .val (.int se), .val (.int su), .val (.ref e0), .val (.int ca), .val (.ref tx), .val .null, .unset, .unset] [(.ref st), (.ref st)]))
            refine Go.by (fun t9_ q9_ => XS.aload W786.here W786.hx rfl (hb hby at_274) rfl rfl q9_) ?_
            show Go p e below s Z [("java/lang/String", 7)] _ _ _ (T784.setTop (mkF m 276 #[.val (.int p0), .val (.int p1), .val (.int p2), .val (.int p3), .val (.int md), .val (.int se), .val (.int su), .val (.ref e0), .val (.int ca), .val (.ref tx), .val .null, .unset, .unset] [(.ref tx), (.ref st), (.ref st)]))
            refine W786.strV (cs := [65, 108, 108, 79, 114, 103, 97, 110, 105, 122, 97, 116, 105, 111, 110]) (k_words hw) (wd9 hw) (wd11 hw) (wd12 hw) A_st F_value_st F_coder_st (A_x.ext E787) (SG1.ext W786.old) hG (q := 15) rfl rfl (by decide) (by decide) (by decide) z_st (List.mem_of_getElem? (i := 0) rfl) (by decide) (Wt := 1) (by decide) (k' := 3) (n' := 34) rfl rfl (by decide) (by decide) (by rw [hml]; rfl) (Nat.le_of_eq rfl) (hb hby at_276) ?_
            intro T788 h789 W790 K791 S_st
            show Go p e below s Z [("java/lang/String", 7)] _ _ _ (T788.setTop (mkF m 279 #[.val (.int p0), .val (.int p1), .val (.int p2), .val (.int p3), .val (.int md), .val (.int se), .val (.int su), .val (.ref e0), .val (.int ca), .val (.ref tx), .val .null, .unset, .unset] [(.ref st)]))
            have hxp : namF [65, 108, 108, 79, 114, 103, 97, 110, 105, 122, 97, 116, 105, 111, 110] e0 e1 = .null := nam_null (by decide) (by decide)
            refine W790.callS (y := (⟨"com/example/proof_to_token/prooftotoken/config/Sociability", "named", "(Ljava/lang/String;)Ljava/util/Optional;"⟩ : MethodName)) (wd37 hw) (wd38 hw) (wd1 hw) (wd39 hw) (by decide) (c_named l Z a0 hw hEL h789 W790.old st _ G1 av e0 e1 t0 t1 em kv SG1 hG SV AV XV FW0 FW1 S0 S1 SE EE FE S_st (by simp)) all0 (by decide) (by decide) (k' := 5) (n' := 37) rfl rfl (by decide) (by decide) (by rw [hml]; rfl) (argsL := [(.ref st)]) (rest := []) (lenOf pd_5 rfl) rfl rfl (Wt := 0) (Nat.le_of_eq rfl) (hb hby at_279) ?_
            intro v_ T792 h794 W793 hq_
            obtain ⟨ro, rfl, X2, E2, F2⟩ := hq_
            rw [hxp] at F2
            show Go p e below s Z [("java/lang/String", 7)] _ _ _ (T792.setTop (mkF m 282 #[.val (.int p0), .val (.int p1), .val (.int p2), .val (.int p3), .val (.int md), .val (.int se), .val (.int su), .val (.ref e0), .val (.int ca), .val (.ref tx), .val .null, .unset, .unset] [(.ref ro)]))
            refine Go.by (fun t9_ q9_ => XS.astore W793.here W793.hx rfl (hb hby at_282) rfl rfl (l' := #[.val (.int p0), .val (.int p1), .val (.int p2), .val (.int p3), .val (.int md), .val (.int se), .val (.int su), .val (.ref e0), .val (.int ca), .val (.ref tx), .val .null, .val (.ref ro), .unset]) rfl q9_) ?_
            show Go p e below s Z [("java/lang/String", 7)] _ _ _ (T792.setTop (mkF m 284 #[.val (.int p0), .val (.int p1), .val (.int p2), .val (.int p3), .val (.int md), .val (.int se), .val (.int su), .val (.ref e0), .val (.int ca), .val (.ref tx), .val .null, .val (.ref ro), .unset] []))
            refine Go.by (fun t9_ q9_ => XS.aload W793.here W793.hx rfl (hb hby at_284) rfl rfl q9_) ?_
            show Go p e below s Z [("java/lang/String", 7)] _ _ _ (T792.setTop (mkF m 286 #[.val (.int p0), .val (.int p1), .val (.int p2), .val (.int p3), .val (.int md), .val (.int se), .val (.int su), .val (.ref e0), .val (.int ca), .val (.ref tx), .val .null, .val (.ref ro), .unset] [(.ref ro)]))
            refine Go.by (fun t9_ q9_ => XS.aconstNull W793.here W793.hx rfl (hb hby at_286) q9_) ?_
            show Go p e below s Z [("java/lang/String", 7)] _ _ _ (T792.setTop (mkF m 287 #[.val (.int p0), .val (.int p1), .val (.int p2), .val (.int p3), .val (.int md), .val (.int se), .val (.int su), .val (.ref e0), .val (.int ca), .val (.ref tx), .val .null, .val (.ref ro), .unset] [.null, (.ref ro)]))
            refine W793.callVp (y := (⟨"java/util/Optional", "orElse", "(Ljava/lang/Object;)Ljava/lang/Object;"⟩ : MethodName)) (z := (⟨"java/util/Optional", "orElse", "(Ljava/lang/Object;)Ljava/lang/Object;"⟩ : MethodName)) (wd81 hw) (wd82 hw) (nf_sel rfl (wd84 hw)) (wd84 hw) (wd83 hw) (wd70 hw) (wd85 hw) (by decide) E2 (a := ro) (c_orelse l Z a0 hw hEL h794 W793.old ro _ rfl F2) all0 (by decide) (by decide) (k' := 5) (n' := 37) rfl rfl (by decide) (by decide) (by rw [hml]; rfl) (argsL := [.null]) (rest := []) (lenOf pd_6 rfl) rfl rfl (Wt := 0) (Nat.le_of_eq rfl) (hb hby at_287) ?_
            intro T795 W796
            show Go p e below s Z [("java/lang/String", 7)] _ _ _ (T795.setTop (mkF m 290 #[.val (.int p0), .val (.int p1), .val (.int p2), .val (.int p3), .val (.int md), .val (.int se), .val (.int su), .val (.ref e0), .val (.int ca), .val (.ref tx), .val .null, .val (.ref ro), .unset] [.null]))
            refine Go.by (fun t9_ q9_ => XS.aload W796.here W796.hx rfl (hb hby at_290) rfl rfl q9_) ?_
            show Go p e below s Z [("java/lang/String", 7)] _ _ _ (T795.setTop (mkF m 292 #[.val (.int p0), .val (.int p1), .val (.int p2), .val (.int p3), .val (.int md), .val (.int se), .val (.int su), .val (.ref e0), .val (.int ca), .val (.ref tx), .val .null, .val (.ref ro), .unset] [.null, .null]))
            refine Go.by (fun t9_ q9_ => acmpW W796 (g := (mkF m 292 #[.val (.int p0), .val (.int p1), .val (.int p2), .val (.int p3), .val (.int md), .val (.int se), .val (.int su), .val (.ref e0), .val (.int ca), .val (.ref tx), .val .null, .val (.ref ro), .unset] [.null, .null])) rfl rfl rfl (pc0 := 292) (pc' := 295) (same := true) rfl (hb hby at_292) rfl (decide_eq_true rfl) (by decide) (by decide) q9_) ?_
            show Go p e below s Z [("java/lang/String", 7)] _ _ _ (T795.setTop (mkF m 295 #[.val (.int p0), .val (.int p1), .val (.int p2), .val (.int p3), .val (.int md), .val (.int se), .val (.int su), .val (.ref e0), .val (.int ca), .val (.ref tx), .val .null, .val (.ref ro), .unset] []))
            refine Go.by (fun t9_ q9_ => XS.iconst W796.here W796.hx rfl (hb hby at_295) q9_) ?_
            show Go p e below s Z [("java/lang/String", 7)] _ _ _ (T795.setTop (mkF m 296 #[.val (.int p0), .val (.int p1), .val (.int p2), .val (.int p3), .val (.int md), .val (.int se), .val (.int su), .val (.ref e0), .val (.int ca), .val (.ref tx), .val .null, .val (.ref ro), .unset] [(.int (1 : Int32))]))
            refine Go.by (fun t9_ q9_ => XS.goto W796.here W796.hx rfl (pc0 := 296) (pc' := 300) rfl (hb hby at_296) (by decide) (by decide) q9_) ?_
            show Go p e below s Z [("java/lang/String", 7)] _ _ _ (T795.setTop (mkF m 300 #[.val (.int p0), .val (.int p1), .val (.int p2), .val (.int p3), .val (.int md), .val (.int se), .val (.int su), .val (.ref e0), .val (.int ca), .val (.ref tx), .val .null, .val (.ref ro), .unset] [(.int (1 : Int32))]))
            exact W796.retN (z' := (1 : Int32)) (by decide) (by decide) hret (by simp) (hb hby at_300) rfl rfl
  · refine Go.by (fun t9_ q9_ => XS.ifNo W0.here W0.hx rfl (hb hby at_37) rfl ((if0 _ _).trans (feq hsec).1) q9_) ?_
    show Go p e below s Z [("java/lang/String", 7)] _ _ _ (T0.setTop (mkF m 40 #[.val (.int p0), .val (.int p1), .val (.int p2), .val (.int p3), .val (.int md), .val (.int se), .val (.int su), .unset, .unset, .unset, .unset, .unset, .unset] []))
    refine W0.gets (host := "") (Or.inl (wd86 hw)) Via.refl (ST1.ext W0.old) (hb hby at_40) ?_
    intro T894 W895
    show Go p e below s Z [("java/lang/String", 7)] _ _ _ (T894.setTop (mkF m 43 #[.val (.int p0), .val (.int p1), .val (.int p2), .val (.int p3), .val (.int md), .val (.int se), .val (.int su), .unset, .unset, .unset, .unset, .unset, .unset] [(.ref e1)]))
    refine Go.by (fun t9_ q9_ => XS.goto W895.here W895.hx rfl (pc0 := 43) (pc' := 49) rfl (hb hby at_43) (by decide) (by decide) q9_) ?_
    show Go p e below s Z [("java/lang/String", 7)] _ _ _ (T894.setTop (mkF m 49 #[.val (.int p0), .val (.int p1), .val (.int p2), .val (.int p3), .val (.int md), .val (.int se), .val (.int su), .unset, .unset, .unset, .unset, .unset, .unset] [(.ref e1)]))
    refine Go.by (fun t9_ q9_ => XS.astore W895.here W895.hx rfl (hb hby at_49) rfl rfl (l' := #[.val (.int p0), .val (.int p1), .val (.int p2), .val (.int p3), .val (.int md), .val (.int se), .val (.int su), .val (.ref e1), .unset, .unset, .unset, .unset, .unset]) rfl q9_) ?_
    show Go p e below s Z [("java/lang/String", 7)] _ _ _ (T894.setTop (mkF m 51 #[.val (.int p0), .val (.int p1), .val (.int p2), .val (.int p3), .val (.int md), .val (.int se), .val (.int su), .val (.ref e1), .unset, .unset, .unset, .unset, .unset] []))
    refine Go.by (fun t9_ q9_ => XS.iloadN W895.here W895.hx rfl (hb hby at_51) rfl q9_) ?_
    show Go p e below s Z [("java/lang/String", 7)] _ _ _ (T894.setTop (mkF m 52 #[.val (.int p0), .val (.int p1), .val (.int p2), .val (.int p3), .val (.int md), .val (.int se), .val (.int su), .val (.ref e1), .unset, .unset, .unset, .unset, .unset] [(.int p2)]))
    refine Go.by (fun t9_ q9_ => XS.sipush W895.here W895.hx rfl (hb hby at_52) q9_) ?_
    show Go p e below s Z [("java/lang/String", 7)] _ _ _ (T894.setTop (mkF m 55 #[.val (.int p0), .val (.int p1), .val (.int p2), .val (.int p3), .val (.int md), .val (.int se), .val (.int su), .val (.ref e1), .unset, .unset, .unset, .unset, .unset] [(.int (255 : Int32)), (.int p2)]))
    refine Go.by (fun t9_ q9_ => XS.iand W895.here W895.hx rfl (hb hby at_55) rfl q9_) ?_
    show Go p e below s Z [("java/lang/String", 7)] _ _ _ (T894.setTop (mkF m 56 #[.val (.int p0), .val (.int p1), .val (.int p2), .val (.int p3), .val (.int md), .val (.int se), .val (.int su), .val (.ref e1), .unset, .unset, .unset, .unset, .unset] [(.int (p2 &&& (255 : Int32)))]))
    refine Go.by (fun t9_ q9_ => XS.i2c W895.here W895.hx rfl (hb hby at_56) rfl q9_) ?_
    show Go p e below s Z [("java/lang/String", 7)] _ _ _ (T894.setTop (mkF m 57 #[.val (.int p0), .val (.int p1), .val (.int p2), .val (.int p3), .val (.int md), .val (.int se), .val (.int su), .val (.ref e1), .unset, .unset, .unset, .unset, .unset] [(.int ((p2 &&& (255 : Int32)).toUInt32.toUInt16.toUInt32.toInt32))]))
    refine Go.by (fun t9_ q9_ => XS.istore W895.here W895.hx rfl (hb hby at_57) rfl (l' := #[.val (.int p0), .val (.int p1), .val (.int p2), .val (.int p3), .val (.int md), .val (.int se), .val (.int su), .val (.ref e1), .val (.int ((p2 &&& (255 : Int32)).toUInt32.toUInt16.toUInt32.toInt32)), .unset, .unset, .unset, .unset]) rfl q9_) ?_
    show Go p e below s Z [("java/lang/String", 7)] _ _ _ (T894.setTop (mkF m 59 #[.val (.int p0), .val (.int p1), .val (.int p2), .val (.int p3), .val (.int md), .val (.int se), .val (.int su), .val (.ref e1), .val (.int ((p2 &&& (255 : Int32)).toUInt32.toUInt16.toUInt32.toInt32)), .unset, .unset, .unset, .unset] []))
    obtain ⟨ca, h_ca⟩ : ∃ z : Int32, z = ((p2 &&& (255 : Int32)).toUInt32.toUInt16.toUInt32.toInt32) := ⟨_, rfl⟩
    rw [← h_ca]
    show Go p e below s Z [("java/lang/String", 7)] _ _ _ (T894.setTop (mkF m 59 #[.val (.int p0), .val (.int p1), .val (.int p2), .val (.int p3), .val (.int md), .val (.int se), .val (.int su), .val (.ref e1), .val (.int ca), .unset, .unset, .unset, .unset] []))
    have r_ca : ¬ ca < 0 ∧ ¬ (255 : Int32) < ca := by rw [h_ca]; exact k_mask _
    clear h_ca
    refine Go.by (fun t9_ q9_ => XS.iload W895.here W895.hx rfl (hb hby at_59) rfl q9_) ?_
    show Go p e below s Z [("java/lang/String", 7)] _ _ _ (T894.setTop (mkF m 61 #[.val (.int p0), .val (.int p1), .val (.int p2), .val (.int p3), .val (.int md), .val (.int se), .val (.int su), .val (.ref e1), .val (.int ca), .unset, .unset, .unset, .unset] [(.int md)]))
    by_cases hm0 : md = (0 : Int32)
    · refine Go.by (fun t9_ q9_ => XS.ifNo W895.here W895.hx rfl (hb hby at_61) rfl ((if0 _ _).trans (teq hm0).2) q9_) ?_
      show Go p e below s Z [("java/lang/String", 7)] _ _ _ (T894.setTop (mkF m 64 #[.val (.int p0), .val (.int p1), .val (.int p2), .val (.int p3), .val (.int md), .val (.int se), .val (.int su), .val (.ref e1), .val (.int ca), .unset, .unset, .unset, .unset] []))
      refine Go.by (fun t9_ q9_ => XS.iload W895.here W895.hx rfl (hb hby at_64) rfl q9_) ?_
      show Go p e below s Z [("java/lang/String", 7)] _ _ _ (T894.setTop (mkF m 66 #[.val (.int p0), .val (.int p1), .val (.int p2), .val (.int p3), .val (.int md), .val (.int se), .val (.int su), .val (.ref e1), .val (.int ca), .unset, .unset, .unset, .unset] [(.int se)]))
      refine Go.by (fun t9_ q9_ => XS.ifNo W895.here W895.hx rfl (hb hby at_66) rfl ((if0 _ _).trans (feq hsec).1) q9_) ?_
      show Go p e below s Z [("java/lang/String", 7)] _ _ _ (T894.setTop (mkF m 69 #[.val (.int p0), .val (.int p1), .val (.int p2), .val (.int p3), .val (.int md), .val (.int se), .val (.int su), .val (.ref e1), .val (.int ca), .unset, .unset, .unset, .unset] []))
      refine W895.callS (y := (⟨"com/example/proof_to_token/prooftotoken/config/SociabilityNamedPinLaw", "cntOnly", "()[C"⟩ : MethodName)) (wd87 hw) (wd88 hw) (wd5 hw) (wd89 hw) (by decide) (c_cnt l Z a0 hw hEL h0 W895.old) all0 (by decide) (by decide) (k' := 1) (n' := 17) rfl rfl (by decide) (by decide) (by rw [hml]; rfl) (argsL := []) (rest := []) (lenOf pd_4 rfl) rfl rfl (Wt := 0) (Nat.le_of_eq rfl) (hb hby at_69) ?_
      intro v_ T896 h898 W897 hq_
      obtain ⟨tx, kx, rfl, X1, A_x, E_x, z_x⟩ := hq_
      show Go p e below s Z [("java/lang/String", 7)] _ _ _ (T896.setTop (mkF m 72 #[.val (.int p0), .val (.int p1), .val (.int p2), .val (.int p3), .val (.int md), .val (.int se), .val (.int su), .val (.ref e1), .val (.int ca), .unset, .unset, .unset, .unset] [(.ref tx)]))
      refine Go.by (fun t9_ q9_ => XS.goto W897.here W897.hx rfl (pc0 := 72) (pc' := 78) rfl (hb hby at_72) (by decide) (by decide) q9_) ?_
      show Go p e below s Z [("java/lang/String", 7)] _ _ _ (T896.setTop (mkF m 78 #[.val (.int p0), .val (.int p1), .val (.int p2), .val (.int p3), .val (.int md), .val (.int se), .val (.int su), .val (.ref e1), .val (.int ca), .unset, .unset, .unset, .unset] [(.ref tx)]))
      refine Go.by (fun t9_ q9_ => XS.astore W897.here W897.hx rfl (hb hby at_78) rfl rfl (l' := #[.val (.int p0), .val (.int p1), .val (.int p2), .val (.int p3), .val (.int md), .val (.int se), .val (.int su), .val (.ref e1), .val (.int ca), .val (.ref tx), .unset, .unset, .unset]) rfl q9_) ?_
      show Go p e below s Z [("java/lang/String", 7)] _ _ _ (T896.setTop (mkF m 80 #[.val (.int p0), .val (.int p1), .val (.int p2), .val (.int p3), .val (.int md), .val (.int se), .val (.int su), .val (.ref e1), .val (.int ca), .val (.ref tx), .unset, .unset, .unset] []))
      refine Go.by (fun t9_ q9_ => XS.aload W897.here W897.hx rfl (hb hby at_80) rfl rfl q9_) ?_
      show Go p e below s Z [("java/lang/String", 7)] _ _ _ (T896.setTop (mkF m 82 #[.val (.int p0), .val (.int p1), .val (.int p2), .val (.int p3), .val (.int md), .val (.int se), .val (.int su), .val (.ref e1), .val (.int ca), .val (.ref tx), .unset, .unset, .unset] [(.ref e1)]))
      refine Go.by (fun t9_ q9_ => XS.astore W897.here W897.hx rfl (hb hby at_82) rfl rfl (l' := #[.val (.int p0), .val (.int p1), .val (.int p2), .val (.int p3), .val (.int md), .val (.int se), .val (.int su), .val (.ref e1), .val (.int ca), .val (.ref tx), .val (.ref e1), .unset, .unset]) rfl q9_) ?_
      show Go p e below s Z [("java/lang/String", 7)] _ _ _ (T896.setTop (mkF m 84 #[.val (.int p0), .val (.int p1), .val (.int p2), .val (.int p3), .val (.int md), .val (.int se), .val (.int su), .val (.ref e1), .val (.int ca), .val (.ref tx), .val (.ref e1), .unset, .unset] []))
      refine Go.by (fun t9_ q9_ => XS.goto W897.here W897.hx rfl (pc0 := 84) (pc' := 270) rfl (hb hby at_84) (by decide) (by decide) q9_) ?_
      show Go p e below s Z [("java/lang/String", 7)] _ _ _ (T896.setTop (mkF m 270 #[.val (.int p0), .val (.int p1), .val (.int p2), .val (.int p3), .val (.int md), .val (.int se), .val (.int su), .val (.ref e1), .val (.int ca), .val (.ref tx), .val (.ref e1), .unset, .unset] []))
      refine W897.new (wd8 hw) (wd9 hw) (wd10 hw) (hb hby at_270) (k' := 2) (n' := 21) rfl rfl (by decide) (by decide) ?_
      intro T899 h900 st W901 E902 g_st z_st A_st D_st
      have F_coder_st : Fld Z h900 st "java/lang/String" "coder" "B" (.int (0 : Int32)) := D_st (Or.inr (wd34 hw)) (ty := .byte) (by decide)
      have F_value_st : Fld Z h900 st "java/lang/String" "value" "[B" .null := D_st (Or.inr (wd36 hw)) (ty := (.array .byte)) (by decide)
      show Go p e below s Z [("java/lang/String", 7)] _ _ _ (T899.setTop (mkF m 273 #[.val (.int p0), .val (.int p1), .val (.int p2), .val (.int p3), .val (.int md), .val (.int se), .val (.int su), .val (.ref e1), .val (.int ca), .val (.ref tx), .val (.ref e1), .unset, .unset] [(.ref st)]))
      refine Go.by (fun t9_ q9_ => XS.dup W901.here W901.hx rfl (hb hby at_273) rfl rfl q9_) ?_
      show Go p e below s Z [("java/lang/String", 7)] _ _ _ (T899.setTop (mkF m 274 #[.val (.int p0), .val (.int p1), .val (.int p2), .val (.int p3), .val (.int md), .val (.int se), .val (.int su), .val (.ref e1), .val (.int ca), .val (.ref tx), .val (.ref e1), .unset, .unset] [(.ref st), (.ref st)]))
      refine Go.by (fun t9_ q9_ => XS.aload W901.here W901.hx rfl (hb hby at_274) rfl rfl q9_) ?_
      show Go p e below s Z [("java/lang/String", 7)] _ _ _ (T899.setTop (mkF m 276 #[.val (.int p0), .val (.int p1), .val (.int p2), .val (.int p3), .val (.int md), .val (.int se), .val (.int su), .val (.ref e1), .val (.int ca), .val (.ref tx), .val (.ref e1), .unset, .unset] [(.ref tx), (.ref st), (.ref st)]))
      refine W901.strV (cs := CNTs) (k_words hw) (wd9 hw) (wd11 hw) (wd12 hw) A_st F_value_st F_coder_st (A_x.ext E902) (SG1.ext W901.old) hG (q := 17) rfl rfl (by decide) (by decide) (by decide) z_st (List.mem_of_getElem? (i := 0) rfl) (by decide) (Wt := 1) (by decide) (k' := 3) (n' := 38) rfl rfl (by decide) (by decide) (by rw [hml]; rfl) (Nat.le_of_eq rfl) (hb hby at_276) ?_
      intro T903 h904 W905 K906 S_st
      show Go p e below s Z [("java/lang/String", 7)] _ _ _ (T903.setTop (mkF m 279 #[.val (.int p0), .val (.int p1), .val (.int p2), .val (.int p3), .val (.int md), .val (.int se), .val (.int su), .val (.ref e1), .val (.int ca), .val (.ref tx), .val (.ref e1), .unset, .unset] [(.ref st)]))
      have hxp : namF CNTs e0 e1 = (.ref e1) := nam_cnt _ _
      refine W905.callS (y := (⟨"com/example/proof_to_token/prooftotoken/config/Sociability", "named", "(Ljava/lang/String;)Ljava/util/Optional;"⟩ : MethodName)) (wd37 hw) (wd38 hw) (wd1 hw) (wd39 hw) (by decide) (c_named l Z a0 hw hEL h904 W905.old st _ G1 av e0 e1 t0 t1 em kv SG1 hG SV AV XV FW0 FW1 S0 S1 SE EE FE S_st (by simp)) all0 (by decide) (by decide) (k' := 5) (n' := 41) rfl rfl (by decide) (by decide) (by rw [hml]; rfl) (argsL := [(.ref st)]) (rest := []) (lenOf pd_5 rfl) rfl rfl (Wt := 0) (Nat.le_of_eq rfl) (hb hby at_279) ?_
      intro v_ T907 h909 W908 hq_
      obtain ⟨ro, rfl, X2, E2, F2⟩ := hq_
      rw [hxp] at F2
      show Go p e below s Z [("java/lang/String", 7)] _ _ _ (T907.setTop (mkF m 282 #[.val (.int p0), .val (.int p1), .val (.int p2), .val (.int p3), .val (.int md), .val (.int se), .val (.int su), .val (.ref e1), .val (.int ca), .val (.ref tx), .val (.ref e1), .unset, .unset] [(.ref ro)]))
      refine Go.by (fun t9_ q9_ => XS.astore W908.here W908.hx rfl (hb hby at_282) rfl rfl (l' := #[.val (.int p0), .val (.int p1), .val (.int p2), .val (.int p3), .val (.int md), .val (.int se), .val (.int su), .val (.ref e1), .val (.int ca), .val (.ref tx), .val (.ref e1), .val (.ref ro), .unset]) rfl q9_) ?_
      show Go p e below s Z [("java/lang/String", 7)] _ _ _ (T907.setTop (mkF m 284 #[.val (.int p0), .val (.int p1), .val (.int p2), .val (.int p3), .val (.int md), .val (.int se), .val (.int su), .val (.ref e1), .val (.int ca), .val (.ref tx), .val (.ref e1), .val (.ref ro), .unset] []))
      refine Go.by (fun t9_ q9_ => XS.aload W908.here W908.hx rfl (hb hby at_284) rfl rfl q9_) ?_
      show Go p e below s Z [("java/lang/String", 7)] _ _ _ (T907.setTop (mkF m 286 #[.val (.int p0), .val (.int p1), .val (.int p2), .val (.int p3), .val (.int md), .val (.int se), .val (.int su), .val (.ref e1), .val (.int ca), .val (.ref tx), .val (.ref e1), .val (.ref ro), .unset] [(.ref ro)]))
      refine Go.by (fun t9_ q9_ => XS.aconstNull W908.here W908.hx rfl (hb hby at_286) q9_) ?_
      show Go p e below s Z [("java/lang/String", 7)] _ _ _ (T907.setTop (mkF m 287 #[.val (.int p0), .val (.int p1), .val (.int p2), .val (.int p3), .val (.int md), .val (.int se), .val (.int su), .val (.ref e1), .val (.int ca), .val (.ref tx), .val (.ref e1), .val (.ref ro), .unset] [.null, (.ref ro)]))
      refine W908.callVp (y := (⟨"java/util/Optional", "orElse", "(Ljava/lang/Object;)Ljava/lang/Object;"⟩ : MethodName)) (z := (⟨"java/util/Optional", "orElse", "(Ljava/lang/Object;)Ljava/lang/Object;"⟩ : MethodName)) (wd81 hw) (wd82 hw) (nf_sel rfl (wd84 hw)) (wd84 hw) (wd83 hw) (wd70 hw) (wd85 hw) (by decide) E2 (a := ro) (c_orelse l Z a0 hw hEL h909 W908.old ro _ rfl F2) all0 (by decide) (by decide) (k' := 5) (n' := 41) rfl rfl (by decide) (by decide) (by rw [hml]; rfl) (argsL := [.null]) (rest := []) (lenOf pd_6 rfl) rfl rfl (Wt := 0) (Nat.le_of_eq rfl) (hb hby at_287) ?_
      intro T910 W911
      show Go p e below s Z [("java/lang/String", 7)] _ _ _ (T910.setTop (mkF m 290 #[.val (.int p0), .val (.int p1), .val (.int p2), .val (.int p3), .val (.int md), .val (.int se), .val (.int su), .val (.ref e1), .val (.int ca), .val (.ref tx), .val (.ref e1), .val (.ref ro), .unset] [(.ref e1)]))
      refine Go.by (fun t9_ q9_ => XS.aload W911.here W911.hx rfl (hb hby at_290) rfl rfl q9_) ?_
      show Go p e below s Z [("java/lang/String", 7)] _ _ _ (T910.setTop (mkF m 292 #[.val (.int p0), .val (.int p1), .val (.int p2), .val (.int p3), .val (.int md), .val (.int se), .val (.int su), .val (.ref e1), .val (.int ca), .val (.ref tx), .val (.ref e1), .val (.ref ro), .unset] [(.ref e1), (.ref e1)]))
      refine Go.by (fun t9_ q9_ => acmpW W911 (g := (mkF m 292 #[.val (.int p0), .val (.int p1), .val (.int p2), .val (.int p3), .val (.int md), .val (.int se), .val (.int su), .val (.ref e1), .val (.int ca), .val (.ref tx), .val (.ref e1), .val (.ref ro), .unset] [(.ref e1), (.ref e1)])) rfl rfl rfl (pc0 := 292) (pc' := 295) (same := true) rfl (hb hby at_292) rfl (decide_eq_true rfl) (by decide) (by decide) q9_) ?_
      show Go p e below s Z [("java/lang/String", 7)] _ _ _ (T910.setTop (mkF m 295 #[.val (.int p0), .val (.int p1), .val (.int p2), .val (.int p3), .val (.int md), .val (.int se), .val (.int su), .val (.ref e1), .val (.int ca), .val (.ref tx), .val (.ref e1), .val (.ref ro), .unset] []))
      refine Go.by (fun t9_ q9_ => XS.iconst W911.here W911.hx rfl (hb hby at_295) q9_) ?_
      show Go p e below s Z [("java/lang/String", 7)] _ _ _ (T910.setTop (mkF m 296 #[.val (.int p0), .val (.int p1), .val (.int p2), .val (.int p3), .val (.int md), .val (.int se), .val (.int su), .val (.ref e1), .val (.int ca), .val (.ref tx), .val (.ref e1), .val (.ref ro), .unset] [(.int (1 : Int32))]))
      refine Go.by (fun t9_ q9_ => XS.goto W911.here W911.hx rfl (pc0 := 296) (pc' := 300) rfl (hb hby at_296) (by decide) (by decide) q9_) ?_
      show Go p e below s Z [("java/lang/String", 7)] _ _ _ (T910.setTop (mkF m 300 #[.val (.int p0), .val (.int p1), .val (.int p2), .val (.int p3), .val (.int md), .val (.int se), .val (.int su), .val (.ref e1), .val (.int ca), .val (.ref tx), .val (.ref e1), .val (.ref ro), .unset] [(.int (1 : Int32))]))
      exact W911.retN (z' := (1 : Int32)) (by decide) (by decide) hret (by simp) (hb hby at_300) rfl rfl
    · refine Go.by (fun t9_ q9_ => XS.ifYes W895.here W895.hx rfl (pc0 := 61) (pc' := 87) rfl (hb hby at_61) rfl ((if0 _ _).trans (feq hm0).2) (by decide) (by decide) q9_) ?_
      show Go p e below s Z [("java/lang/String", 7)] _ _ _ (T894.setTop (mkF m 87 #[.val (.int p0), .val (.int p1), .val (.int p2), .val (.int p3), .val (.int md), .val (.int se), .val (.int su), .val (.ref e1), .val (.int ca), .unset, .unset, .unset, .unset] []))
      refine Go.by (fun t9_ q9_ => XS.iload W895.here W895.hx rfl (hb hby at_87) rfl q9_) ?_
      show Go p e below s Z [("java/lang/String", 7)] _ _ _ (T894.setTop (mkF m 89 #[.val (.int p0), .val (.int p1), .val (.int p2), .val (.int p3), .val (.int md), .val (.int se), .val (.int su), .val (.ref e1), .val (.int ca), .unset, .unset, .unset, .unset] [(.int md)]))
      refine Go.by (fun t9_ q9_ => XS.iconst W895.here W895.hx rfl (hb hby at_89) q9_) ?_
      show Go p e below s Z [("java/lang/String", 7)] _ _ _ (T894.setTop (mkF m 90 #[.val (.int p0), .val (.int p1), .val (.int p2), .val (.int p3), .val (.int md), .val (.int se), .val (.int su), .val (.ref e1), .val (.int ca), .unset, .unset, .unset, .unset] [(.int (1 : Int32)), (.int md)]))
      by_cases hm1 : md = (1 : Int32)
      · refine Go.by (fun t9_ q9_ => XS.icmpNo W895.here W895.hx rfl (hb hby at_90) rfl (teq hm1).2 q9_) ?_
        show Go p e below s Z [("java/lang/String", 7)] _ _ _ (T894.setTop (mkF m 93 #[.val (.int p0), .val (.int p1), .val (.int p2), .val (.int p3), .val (.int md), .val (.int se), .val (.int su), .val (.ref e1), .val (.int ca), .unset, .unset, .unset, .unset] []))
        refine Go.by (fun t9_ q9_ => XS.iload W895.here W895.hx rfl (hb hby at_93) rfl q9_) ?_
        show Go p e below s Z [("java/lang/String", 7)] _ _ _ (T894.setTop (mkF m 95 #[.val (.int p0), .val (.int p1), .val (.int p2), .val (.int p3), .val (.int md), .val (.int se), .val (.int su), .val (.ref e1), .val (.int ca), .unset, .unset, .unset, .unset] [(.int se)]))
        refine Go.by (fun t9_ q9_ => XS.ifNo W895.here W895.hx rfl (hb hby at_95) rfl ((if0 _ _).trans (feq hsec).1) q9_) ?_
        show Go p e below s Z [("java/lang/String", 7)] _ _ _ (T894.setTop (mkF m 98 #[.val (.int p0), .val (.int p1), .val (.int p2), .val (.int p3), .val (.int md), .val (.int se), .val (.int su), .val (.ref e1), .val (.int ca), .unset, .unset, .unset, .unset] []))
        refine W895.callS (y := (⟨"com/example/proof_to_token/prooftotoken/config/SociabilityNamedPinLaw", "cntOnly", "()[C"⟩ : MethodName)) (wd87 hw) (wd88 hw) (wd5 hw) (wd89 hw) (by decide) (c_cnt l Z a0 hw hEL h0 W895.old) all0 (by decide) (by decide) (k' := 1) (n' := 17) rfl rfl (by decide) (by decide) (by rw [hml]; rfl) (argsL := []) (rest := []) (lenOf pd_4 rfl) rfl rfl (Wt := 0) (Nat.le_of_eq rfl) (hb hby at_98) ?_
        intro v_ T912 h914 W913 hq_
        obtain ⟨tx, kx, rfl, X1, A_x, E_x, z_x⟩ := hq_
        show Go p e below s Z [("java/lang/String", 7)] _ _ _ (T912.setTop (mkF m 101 #[.val (.int p0), .val (.int p1), .val (.int p2), .val (.int p3), .val (.int md), .val (.int se), .val (.int su), .val (.ref e1), .val (.int ca), .unset, .unset, .unset, .unset] [(.ref tx)]))
        refine Go.by (fun t9_ q9_ => XS.goto W913.here W913.hx rfl (pc0 := 101) (pc' := 107) rfl (hb hby at_101) (by decide) (by decide) q9_) ?_
        show Go p e below s Z [("java/lang/String", 7)] _ _ _ (T912.setTop (mkF m 107 #[.val (.int p0), .val (.int p1), .val (.int p2), .val (.int p3), .val (.int md), .val (.int se), .val (.int su), .val (.ref e1), .val (.int ca), .unset, .unset, .unset, .unset] [(.ref tx)]))
        refine Go.by (fun t9_ q9_ => XS.astore W913.here W913.hx rfl (hb hby at_107) rfl rfl (l' := #[.val (.int p0), .val (.int p1), .val (.int p2), .val (.int p3), .val (.int md), .val (.int se), .val (.int su), .val (.ref e1), .val (.int ca), .val (.ref tx), .unset, .unset, .unset]) rfl q9_) ?_
        show Go p e below s Z [("java/lang/String", 7)] _ _ _ (T912.setTop (mkF m 109 #[.val (.int p0), .val (.int p1), .val (.int p2), .val (.int p3), .val (.int md), .val (.int se), .val (.int su), .val (.ref e1), .val (.int ca), .val (.ref tx), .unset, .unset, .unset] []))
        refine Go.by (fun t9_ q9_ => XS.iloadN W913.here W913.hx rfl (hb hby at_109) rfl q9_) ?_
        show Go p e below s Z [("java/lang/String", 7)] _ _ _ (T912.setTop (mkF m 110 #[.val (.int p0), .val (.int p1), .val (.int p2), .val (.int p3), .val (.int md), .val (.int se), .val (.int su), .val (.ref e1), .val (.int ca), .val (.ref tx), .unset, .unset, .unset] [(.int p1)]))
        refine W913.ldcI (wd97 hw) (hb hby at_110) ?_
        show Go p e below s Z [("java/lang/String", 7)] _ _ _ (T912.setTop (mkF m 112 #[.val (.int p0), .val (.int p1), .val (.int p2), .val (.int p3), .val (.int md), .val (.int se), .val (.int su), .val (.ref e1), .val (.int ca), .val (.ref tx), .unset, .unset, .unset] [(.int (2147483647 : Int32)), (.int p1)]))
        refine Go.by (fun t9_ q9_ => XS.iand W913.here W913.hx rfl (hb hby at_112) rfl q9_) ?_
        show Go p e below s Z [("java/lang/String", 7)] _ _ _ (T912.setTop (mkF m 113 #[.val (.int p0), .val (.int p1), .val (.int p2), .val (.int p3), .val (.int md), .val (.int se), .val (.int su), .val (.ref e1), .val (.int ca), .val (.ref tx), .unset, .unset, .unset] [(.int (p1 &&& (2147483647 : Int32)))]))
        refine Go.by (fun t9_ q9_ => XS.aload W913.here W913.hx rfl (hb hby at_113) rfl rfl q9_) ?_
        show Go p e below s Z [("java/lang/String", 7)] _ _ _ (T912.setTop (mkF m 115 #[.val (.int p0), .val (.int p1), .val (.int p2), .val (.int p3), .val (.int md), .val (.int se), .val (.int su), .val (.ref e1), .val (.int ca), .val (.ref tx), .unset, .unset, .unset] [(.ref tx), (.int (p1 &&& (2147483647 : Int32)))]))
        refine W913.alen A_x (hb hby at_115) ?_
        show Go p e below s Z [("java/lang/String", 7)] _ _ _ (T912.setTop (mkF m 116 #[.val (.int p0), .val (.int p1), .val (.int p2), .val (.int p3), .val (.int md), .val (.int se), .val (.int su), .val (.ref e1), .val (.int ca), .val (.ref tx), .unset, .unset, .unset] [(.int (17 : Int32)), (.int (p1 &&& (2147483647 : Int32)))]))
        refine Go.by (fun t9_ q9_ => iremW W913.here W913.hx rfl (hb hby at_116) rfl (by decide) q9_) ?_
        show Go p e below s Z [("java/lang/String", 7)] _ _ _ (T912.setTop (mkF m 117 #[.val (.int p0), .val (.int p1), .val (.int p2), .val (.int p3), .val (.int md), .val (.int se), .val (.int su), .val (.ref e1), .val (.int ca), .val (.ref tx), .unset, .unset, .unset] [(.int ((p1 &&& (2147483647 : Int32)) % (17 : Int32)))]))
        refine Go.by (fun t9_ q9_ => XS.istore W913.here W913.hx rfl (hb hby at_117) rfl (l' := #[.val (.int p0), .val (.int p1), .val (.int p2), .val (.int p3), .val (.int md), .val (.int se), .val (.int su), .val (.ref e1), .val (.int ca), .val (.ref tx), .unset, .val (.int ((p1 &&& (2147483647 : Int32)) % (17 : Int32))), .unset]) rfl q9_) ?_
        show Go p e below s Z [("java/lang/String", 7)] _ _ _ (T912.setTop (mkF m 119 #[.val (.int p0), .val (.int p1), .val (.int p2), .val (.int p3), .val (.int md), .val (.int se), .val (.int su), .val (.ref e1), .val (.int ca), .val (.ref tx), .unset, .val (.int ((p1 &&& (2147483647 : Int32)) % (17 : Int32))), .unset] []))
        obtain ⟨pp, h_pp⟩ : ∃ z : Int32, z = ((p1 &&& (2147483647 : Int32)) % (17 : Int32)) := ⟨_, rfl⟩
        rw [← h_pp]
        show Go p e below s Z [("java/lang/String", 7)] _ _ _ (T912.setTop (mkF m 119 #[.val (.int p0), .val (.int p1), .val (.int p2), .val (.int p3), .val (.int md), .val (.int se), .val (.int su), .val (.ref e1), .val (.int ca), .val (.ref tx), .unset, .val (.int pp), .unset] []))
        have r_pp : ¬ pp < 0 ∧ pp < (17 : Int32) := by rw [h_pp]; exact rem_rng p1 17 17 rfl (by decide)
        clear h_pp
        have l_pp : pp.toNatClampNeg < CNTs.length := clamp_lt (n := 17) (k := 17) rfl r_pp
        refine Go.by (fun t9_ q9_ => XS.aload W913.here W913.hx rfl (hb hby at_119) rfl rfl q9_) ?_
        show Go p e below s Z [("java/lang/String", 7)] _ _ _ (T912.setTop (mkF m 121 #[.val (.int p0), .val (.int p1), .val (.int p2), .val (.int p3), .val (.int md), .val (.int se), .val (.int su), .val (.ref e1), .val (.int ca), .val (.ref tx), .unset, .val (.int pp), .unset] [(.ref tx)]))
        refine Go.by (fun t9_ q9_ => XS.iload W913.here W913.hx rfl (hb hby at_121) rfl q9_) ?_
        show Go p e below s Z [("java/lang/String", 7)] _ _ _ (T912.setTop (mkF m 123 #[.val (.int p0), .val (.int p1), .val (.int p2), .val (.int p3), .val (.int md), .val (.int se), .val (.int su), .val (.ref e1), .val (.int ca), .val (.ref tx), .unset, .val (.int pp), .unset] [(.int pp), (.ref tx)]))
        refine W913.cald (vs := CNTs.map Value.int) (dv := .int 0) A_x r_pp (v := .int (CNTs.getD pp.toNatClampNeg 0)) (getD_mapI _ _) (hb hby at_123) ?_
        show Go p e below s Z [("java/lang/String", 7)] _ _ _ (T912.setTop (mkF m 124 #[.val (.int p0), .val (.int p1), .val (.int p2), .val (.int p3), .val (.int md), .val (.int se), .val (.int su), .val (.ref e1), .val (.int ca), .val (.ref tx), .unset, .val (.int pp), .unset] [(.int (CNTs.getD pp.toNatClampNeg 0))]))
        refine Go.by (fun t9_ q9_ => XS.istore W913.here W913.hx rfl (hb hby at_124) rfl (l' := #[.val (.int p0), .val (.int p1), .val (.int p2), .val (.int p3), .val (.int md), .val (.int se), .val (.int su), .val (.ref e1), .val (.int ca), .val (.ref tx), .unset, .val (.int pp), .val (.int (CNTs.getD pp.toNatClampNeg 0))]) rfl q9_) ?_
        show Go p e below s Z [("java/lang/String", 7)] _ _ _ (T912.setTop (mkF m 126 #[.val (.int p0), .val (.int p1), .val (.int p2), .val (.int p3), .val (.int md), .val (.int se), .val (.int su), .val (.ref e1), .val (.int ca), .val (.ref tx), .unset, .val (.int pp), .val (.int (CNTs.getD pp.toNatClampNeg 0))] []))
        obtain ⟨oc, h_oc⟩ : ∃ z : Int32, z = (CNTs.getD pp.toNatClampNeg 0) := ⟨_, rfl⟩
        rw [← h_oc]
        show Go p e below s Z [("java/lang/String", 7)] _ _ _ (T912.setTop (mkF m 126 #[.val (.int p0), .val (.int p1), .val (.int p2), .val (.int p3), .val (.int md), .val (.int se), .val (.int su), .val (.ref e1), .val (.int ca), .val (.ref tx), .unset, .val (.int pp), .val (.int oc)] []))
        refine Go.by (fun t9_ q9_ => XS.aload W913.here W913.hx rfl (hb hby at_126) rfl rfl q9_) ?_
        show Go p e below s Z [("java/lang/String", 7)] _ _ _ (T912.setTop (mkF m 128 #[.val (.int p0), .val (.int p1), .val (.int p2), .val (.int p3), .val (.int md), .val (.int se), .val (.int su), .val (.ref e1), .val (.int ca), .val (.ref tx), .unset, .val (.int pp), .val (.int oc)] [(.ref tx)]))
        refine Go.by (fun t9_ q9_ => XS.iload W913.here W913.hx rfl (hb hby at_128) rfl q9_) ?_
        show Go p e below s Z [("java/lang/String", 7)] _ _ _ (T912.setTop (mkF m 130 #[.val (.int p0), .val (.int p1), .val (.int p2), .val (.int p3), .val (.int md), .val (.int se), .val (.int su), .val (.ref e1), .val (.int ca), .val (.ref tx), .unset, .val (.int pp), .val (.int oc)] [(.int pp), (.ref tx)]))
        refine Go.by (fun t9_ q9_ => XS.iload W913.here W913.hx rfl (hb hby at_130) rfl q9_) ?_
        show Go p e below s Z [("java/lang/String", 7)] _ _ _ (T912.setTop (mkF m 132 #[.val (.int p0), .val (.int p1), .val (.int p2), .val (.int p3), .val (.int md), .val (.int se), .val (.int su), .val (.ref e1), .val (.int ca), .val (.ref tx), .unset, .val (.int pp), .val (.int oc)] [(.int ca), (.int pp), (.ref tx)]))
        have W915 := W913.safeE E_x (by decide) (by decide)
        refine W915.cast_ (vs := CNTs.map Value.int) (dv := .int 0) A_x r_pp (i := pp.toNatClampNeg) rfl (by rw [List.length_map]; exact l_pp) (v' := ca) (nar_id (up16 r_ca)) z_x (List.mem_of_getElem? (i := 0) rfl) (hb hby at_132) ?_
        intro T916 h917 W918 Wr919 V2'
        have V2 : Arv Z h917 tx kx .char (17 : Int32) ((CNTs.set pp.toNatClampNeg ca).map Value.int) (.int 0) := by rw [List.map_set]; exact V2'
        show Go p e below s Z [("java/lang/String", 7)] _ _ _ (T916.setTop (mkF m 133 #[.val (.int p0), .val (.int p1), .val (.int p2), .val (.int p3), .val (.int md), .val (.int se), .val (.int su), .val (.ref e1), .val (.int ca), .val (.ref tx), .unset, .val (.int pp), .val (.int oc)] []))
        refine Go.by (fun t9_ q9_ => XS.iload W918.here W918.hx rfl (hb hby at_133) rfl q9_) ?_
        show Go p e below s Z [("java/lang/String", 7)] _ _ _ (T916.setTop (mkF m 135 #[.val (.int p0), .val (.int p1), .val (.int p2), .val (.int p3), .val (.int md), .val (.int se), .val (.int su), .val (.ref e1), .val (.int ca), .val (.ref tx), .unset, .val (.int pp), .val (.int oc)] [(.int ca)]))
        refine Go.by (fun t9_ q9_ => XS.iload W918.here W918.hx rfl (hb hby at_135) rfl q9_) ?_
        show Go p e below s Z [("java/lang/String", 7)] _ _ _ (T916.setTop (mkF m 137 #[.val (.int p0), .val (.int p1), .val (.int p2), .val (.int p3), .val (.int md), .val (.int se), .val (.int su), .val (.ref e1), .val (.int ca), .val (.ref tx), .unset, .val (.int pp), .val (.int oc)] [(.int oc), (.int ca)]))
        by_cases hco : ca = oc
        · refine Go.by (fun t9_ q9_ => XS.icmpNo W918.here W918.hx rfl (hb hby at_137) rfl (teq hco).2 q9_) ?_
          show Go p e below s Z [("java/lang/String", 7)] _ _ _ (T916.setTop (mkF m 140 #[.val (.int p0), .val (.int p1), .val (.int p2), .val (.int p3), .val (.int md), .val (.int se), .val (.int su), .val (.ref e1), .val (.int ca), .val (.ref tx), .unset, .val (.int pp), .val (.int oc)] []))
          refine Go.by (fun t9_ q9_ => XS.aload W918.here W918.hx rfl (hb hby at_140) rfl rfl q9_) ?_
          show Go p e below s Z [("java/lang/String", 7)] _ _ _ (T916.setTop (mkF m 142 #[.val (.int p0), .val (.int p1), .val (.int p2), .val (.int p3), .val (.int md), .val (.int se), .val (.int su), .val (.ref e1), .val (.int ca), .val (.ref tx), .unset, .val (.int pp), .val (.int oc)] [(.ref e1)]))
          refine Go.by (fun t9_ q9_ => XS.goto W918.here W918.hx rfl (pc0 := 142) (pc' := 146) rfl (hb hby at_142) (by decide) (by decide) q9_) ?_
          show Go p e below s Z [("java/lang/String", 7)] _ _ _ (T916.setTop (mkF m 146 #[.val (.int p0), .val (.int p1), .val (.int p2), .val (.int p3), .val (.int md), .val (.int se), .val (.int su), .val (.ref e1), .val (.int ca), .val (.ref tx), .unset, .val (.int pp), .val (.int oc)] [(.ref e1)]))
          refine Go.by (fun t9_ q9_ => XS.astore W918.here W918.hx rfl (hb hby at_146) rfl rfl (l' := #[.val (.int p0), .val (.int p1), .val (.int p2), .val (.int p3), .val (.int md), .val (.int se), .val (.int su), .val (.ref e1), .val (.int ca), .val (.ref tx), .val (.ref e1), .val (.int pp), .val (.int oc)]) rfl q9_) ?_
          show Go p e below s Z [("java/lang/String", 7)] _ _ _ (T916.setTop (mkF m 148 #[.val (.int p0), .val (.int p1), .val (.int p2), .val (.int p3), .val (.int md), .val (.int se), .val (.int su), .val (.ref e1), .val (.int ca), .val (.ref tx), .val (.ref e1), .val (.int pp), .val (.int oc)] []))
          refine Go.by (fun t9_ q9_ => XS.goto W918.here W918.hx rfl (pc0 := 148) (pc' := 270) rfl (hb hby at_148) (by decide) (by decide) q9_) ?_
          show Go p e below s Z [("java/lang/String", 7)] _ _ _ (T916.setTop (mkF m 270 #[.val (.int p0), .val (.int p1), .val (.int p2), .val (.int p3), .val (.int md), .val (.int se), .val (.int su), .val (.ref e1), .val (.int ca), .val (.ref tx), .val (.ref e1), .val (.int pp), .val (.int oc)] []))
          refine W918.new (wd8 hw) (wd9 hw) (wd10 hw) (hb hby at_270) (k' := 2) (n' := 21) rfl rfl (by decide) (by decide) ?_
          intro T920 h921 st W922 E923 g_st z_st A_st D_st
          have F_coder_st : Fld Z h921 st "java/lang/String" "coder" "B" (.int (0 : Int32)) := D_st (Or.inr (wd34 hw)) (ty := .byte) (by decide)
          have F_value_st : Fld Z h921 st "java/lang/String" "value" "[B" .null := D_st (Or.inr (wd36 hw)) (ty := (.array .byte)) (by decide)
          show Go p e below s Z [("java/lang/String", 7)] _ _ _ (T920.setTop (mkF m 273 #[.val (.int p0), .val (.int p1), .val (.int p2), .val (.int p3), .val (.int md), .val (.int se), .val (.int su), .val (.ref e1), .val (.int ca), .val (.ref tx), .val (.ref e1), .val (.int pp), .val (.int oc)] [(.ref st)]))
          refine Go.by (fun t9_ q9_ => XS.dup W922.here W922.hx rfl (hb hby at_273) rfl rfl q9_) ?_
          show Go p e below s Z [("java/lang/String", 7)] _ _ _ (T920.setTop (mkF m 274 #[.val (.int p0), .val (.int p1), .val (.int p2), .val (.int p3), .val (.int md), .val (.int se), .val (.int su), .val (.ref e1), .val (.int ca), .val (.ref tx), .val (.ref e1), .val (.int pp), .val (.int oc)] [(.ref st), (.ref st)]))
          refine Go.by (fun t9_ q9_ => XS.aload W922.here W922.hx rfl (hb hby at_274) rfl rfl q9_) ?_
          show Go p e below s Z [("java/lang/String", 7)] _ _ _ (T920.setTop (mkF m 276 #[.val (.int p0), .val (.int p1), .val (.int p2), .val (.int p3), .val (.int md), .val (.int se), .val (.int su), .val (.ref e1), .val (.int ca), .val (.ref tx), .val (.ref e1), .val (.int pp), .val (.int oc)] [(.ref tx), (.ref st), (.ref st)]))
          refine W922.strV (cs := (CNTs.set pp.toNatClampNeg ca)) (k_words hw) (wd9 hw) (wd11 hw) (wd12 hw) A_st F_value_st F_coder_st (V2.ext E923) (SG1.ext W922.old) hG (q := 17) (by simp) rfl (by decide) (by decide) (set_rng (by decide) r_ca) z_st (List.mem_of_getElem? (i := 0) rfl) (by decide) (Wt := 1) (by decide) (k' := 3) (n' := 38) rfl rfl (by decide) (by decide) (by rw [hml]; rfl) (Nat.le_of_eq rfl) (hb hby at_276) ?_
          intro T924 h925 W926 K927 S_st
          show Go p e below s Z [("java/lang/String", 7)] _ _ _ (T924.setTop (mkF m 279 #[.val (.int p0), .val (.int p1), .val (.int p2), .val (.int p3), .val (.int md), .val (.int se), .val (.int su), .val (.ref e1), .val (.int ca), .val (.ref tx), .val (.ref e1), .val (.int pp), .val (.int oc)] [(.ref st)]))
          have hxp : namF (CNTs.set pp.toNatClampNeg ca) e0 e1 = (.ref e1) := by rw [hco, h_oc, set_self l_pp]; exact nam_cnt _ _
          refine W926.callS (y := (⟨"com/example/proof_to_token/prooftotoken/config/Sociability", "named", "(Ljava/lang/String;)Ljava/util/Optional;"⟩ : MethodName)) (wd37 hw) (wd38 hw) (wd1 hw) (wd39 hw) (by decide) (c_named l Z a0 hw hEL h925 W926.old st _ G1 av e0 e1 t0 t1 em kv SG1 hG SV AV XV FW0 FW1 S0 S1 SE EE FE S_st (by simp)) all0 (by decide) (by decide) (k' := 5) (n' := 41) rfl rfl (by decide) (by decide) (by rw [hml]; rfl) (argsL := [(.ref st)]) (rest := []) (lenOf pd_5 rfl) rfl rfl (Wt := 0) (Nat.le_of_eq rfl) (hb hby at_279) ?_
          intro v_ T928 h930 W929 hq_
          obtain ⟨ro, rfl, X2, E2, F2⟩ := hq_
          rw [hxp] at F2
          show Go p e below s Z [("java/lang/String", 7)] _ _ _ (T928.setTop (mkF m 282 #[.val (.int p0), .val (.int p1), .val (.int p2), .val (.int p3), .val (.int md), .val (.int se), .val (.int su), .val (.ref e1), .val (.int ca), .val (.ref tx), .val (.ref e1), .val (.int pp), .val (.int oc)] [(.ref ro)]))
          refine Go.by (fun t9_ q9_ => XS.astore W929.here W929.hx rfl (hb hby at_282) rfl rfl (l' := #[.val (.int p0), .val (.int p1), .val (.int p2), .val (.int p3), .val (.int md), .val (.int se), .val (.int su), .val (.ref e1), .val (.int ca), .val (.ref tx), .val (.ref e1), .val (.ref ro), .val (.int oc)]) rfl q9_) ?_
          show Go p e below s Z [("java/lang/String", 7)] _ _ _ (T928.setTop (mkF m 284 #[.val (.int p0), .val (.int p1), .val (.int p2), .val (.int p3), .val (.int md), .val (.int se), .val (.int su), .val (.ref e1), .val (.int ca), .val (.ref tx), .val (.ref e1), .val (.ref ro), .val (.int oc)] []))
          refine Go.by (fun t9_ q9_ => XS.aload W929.here W929.hx rfl (hb hby at_284) rfl rfl q9_) ?_
          show Go p e below s Z [("java/lang/String", 7)] _ _ _ (T928.setTop (mkF m 286 #[.val (.int p0), .val (.int p1), .val (.int p2), .val (.int p3), .val (.int md), .val (.int se), .val (.int su), .val (.ref e1), .val (.int ca), .val (.ref tx), .val (.ref e1), .val (.ref ro), .val (.int oc)] [(.ref ro)]))
          refine Go.by (fun t9_ q9_ => XS.aconstNull W929.here W929.hx rfl (hb hby at_286) q9_) ?_
          show Go p e below s Z [("java/lang/String", 7)] _ _ _ (T928.setTop (mkF m 287 #[.val (.int p0), .val (.int p1), .val (.int p2), .val (.int p3), .val (.int md), .val (.int se), .val (.int su), .val (.ref e1), .val (.int ca), .val (.ref tx), .val (.ref e1), .val (.ref ro), .val (.int oc)] [.null, (.ref ro)]))
          refine W929.callVp (y := (⟨"java/util/Optional", "orElse", "(Ljava/lang/Object;)Ljava/lang/Object;"⟩ : MethodName)) (z := (⟨"java/util/Optional", "orElse", "(Ljava/lang/Object;)Ljava/lang/Object;"⟩ : MethodName)) (wd81 hw) (wd82 hw) (nf_sel rfl (wd84 hw)) (wd84 hw) (wd83 hw) (wd70 hw) (wd85 hw) (by decide) E2 (a := ro) (c_orelse l Z a0 hw hEL h930 W929.old ro _ rfl F2) all0 (by decide) (by decide) (k' := 5) (n' := 41) rfl rfl (by decide) (by decide) (by rw [hml]; rfl) (argsL := [.null]) (rest := []) (lenOf pd_6 rfl) rfl rfl (Wt := 0) (Nat.le_of_eq rfl) (hb hby at_287) ?_
          intro T931 W932
          show Go p e below s Z [("java/lang/String", 7)] _ _ _ (T931.setTop (mkF m 290 #[.val (.int p0), .val (.int p1), .val (.int p2), .val (.int p3), .val (.int md), .val (.int se), .val (.int su), .val (.ref e1), .val (.int ca), .val (.ref tx), .val (.ref e1), .val (.ref ro), .val (.int oc)] [(.ref e1)]))
          refine Go.by (fun t9_ q9_ => XS.aload W932.here W932.hx rfl (hb hby at_290) rfl rfl q9_) ?_
          show Go p e below s Z [("java/lang/String", 7)] _ _ _ (T931.setTop (mkF m 292 #[.val (.int p0), .val (.int p1), .val (.int p2), .val (.int p3), .val (.int md), .val (.int se), .val (.int su), .val (.ref e1), .val (.int ca), .val (.ref tx), .val (.ref e1), .val (.ref ro), .val (.int oc)] [(.ref e1), (.ref e1)]))
          refine Go.by (fun t9_ q9_ => acmpW W932 (g := (mkF m 292 #[.val (.int p0), .val (.int p1), .val (.int p2), .val (.int p3), .val (.int md), .val (.int se), .val (.int su), .val (.ref e1), .val (.int ca), .val (.ref tx), .val (.ref e1), .val (.ref ro), .val (.int oc)] [(.ref e1), (.ref e1)])) rfl rfl rfl (pc0 := 292) (pc' := 295) (same := true) rfl (hb hby at_292) rfl (decide_eq_true rfl) (by decide) (by decide) q9_) ?_
          show Go p e below s Z [("java/lang/String", 7)] _ _ _ (T931.setTop (mkF m 295 #[.val (.int p0), .val (.int p1), .val (.int p2), .val (.int p3), .val (.int md), .val (.int se), .val (.int su), .val (.ref e1), .val (.int ca), .val (.ref tx), .val (.ref e1), .val (.ref ro), .val (.int oc)] []))
          refine Go.by (fun t9_ q9_ => XS.iconst W932.here W932.hx rfl (hb hby at_295) q9_) ?_
          show Go p e below s Z [("java/lang/String", 7)] _ _ _ (T931.setTop (mkF m 296 #[.val (.int p0), .val (.int p1), .val (.int p2), .val (.int p3), .val (.int md), .val (.int se), .val (.int su), .val (.ref e1), .val (.int ca), .val (.ref tx), .val (.ref e1), .val (.ref ro), .val (.int oc)] [(.int (1 : Int32))]))
          refine Go.by (fun t9_ q9_ => XS.goto W932.here W932.hx rfl (pc0 := 296) (pc' := 300) rfl (hb hby at_296) (by decide) (by decide) q9_) ?_
          show Go p e below s Z [("java/lang/String", 7)] _ _ _ (T931.setTop (mkF m 300 #[.val (.int p0), .val (.int p1), .val (.int p2), .val (.int p3), .val (.int md), .val (.int se), .val (.int su), .val (.ref e1), .val (.int ca), .val (.ref tx), .val (.ref e1), .val (.ref ro), .val (.int oc)] [(.int (1 : Int32))]))
          exact W932.retN (z' := (1 : Int32)) (by decide) (by decide) hret (by simp) (hb hby at_300) rfl rfl
        · refine Go.by (fun t9_ q9_ => XS.icmpYes W918.here W918.hx rfl (pc0 := 137) (pc' := 145) rfl (hb hby at_137) rfl (feq hco).2 (by decide) (by decide) q9_) ?_
          show Go p e below s Z [("java/lang/String", 7)] _ _ _ (T916.setTop (mkF m 145 #[.val (.int p0), .val (.int p1), .val (.int p2), .val (.int p3), .val (.int md), .val (.int se), .val (.int su), .val (.ref e1), .val (.int ca), .val (.ref tx), .unset, .val (.int pp), .val (.int oc)] []))
          refine Go.by (fun t9_ q9_ => XS.aconstNull W918.here W918.hx rfl (hb hby at_145) q9_) ?_
          show Go p e below s Z [("java/lang/String", 7)] _ _ _ (T916.setTop (mkF m 146 #[.val (.int p0), .val (.int p1), .val (.int p2), .val (.int p3), .val (.int md), .val (.int se), .val (.int su), .val (.ref e1), .val (.int ca), .val (.ref tx), .unset, .val (.int pp), .val (.int oc)] [.null]))
          refine Go.by (fun t9_ q9_ => XS.astore W918.here W918.hx rfl (hb hby at_146) rfl rfl (l' := #[.val (.int p0), .val (.int p1), .val (.int p2), .val (.int p3), .val (.int md), .val (.int se), .val (.int su), .val (.ref e1), .val (.int ca), .val (.ref tx), .val .null, .val (.int pp), .val (.int oc)]) rfl q9_) ?_
          show Go p e below s Z [("java/lang/String", 7)] _ _ _ (T916.setTop (mkF m 148 #[.val (.int p0), .val (.int p1), .val (.int p2), .val (.int p3), .val (.int md), .val (.int se), .val (.int su), .val (.ref e1), .val (.int ca), .val (.ref tx), .val .null, .val (.int pp), .val (.int oc)] []))
          refine Go.by (fun t9_ q9_ => XS.goto W918.here W918.hx rfl (pc0 := 148) (pc' := 270) rfl (hb hby at_148) (by decide) (by decide) q9_) ?_
          show Go p e below s Z [("java/lang/String", 7)] _ _ _ (T916.setTop (mkF m 270 #[.val (.int p0), .val (.int p1), .val (.int p2), .val (.int p3), .val (.int md), .val (.int se), .val (.int su), .val (.ref e1), .val (.int ca), .val (.ref tx), .val .null, .val (.int pp), .val (.int oc)] []))
          refine W918.new (wd8 hw) (wd9 hw) (wd10 hw) (hb hby at_270) (k' := 2) (n' := 21) rfl rfl (by decide) (by decide) ?_
          intro T933 h934 st W935 E936 g_st z_st A_st D_st
          have F_coder_st : Fld Z h934 st "java/lang/String" "coder" "B" (.int (0 : Int32)) := D_st (Or.inr (wd34 hw)) (ty := .byte) (by decide)
          have F_value_st : Fld Z h934 st "java/lang/String" "value" "[B" .null := D_st (Or.inr (wd36 hw)) (ty := (.array .byte)) (by decide)
          show Go p e below s Z [("java/lang/String", 7)] _ _ _ (T933.setTop (mkF m 273 #[.val (.int p0), .val (.int p1), .val (.int p2), .val (.int p3), .val (.int md), .val (.int se), .val (.int su), .val (.ref e1), .val (.int ca), .val (.ref tx), .val .null, .val (.int pp), .val (.int oc)] [(.ref st)]))
          refine Go.by (fun t9_ q9_ => XS.dup W935.here W935.hx rfl (hb hby at_273) rfl rfl q9_) ?_
          show Go p e below s Z [("java/lang/String", 7)] _ _ _ (T933.setTop (mkF m 274 #[.val (.int p0), .val (.int p1), .val (.int p2), .val (.int p3), .val (.int md), .val (.int se), .val (.int su), .val (.ref e1), .val (.int ca), .val (.ref tx), .val .null, .val (.int pp), .val (.int oc)] [(.ref st), (.ref st)]))
          refine Go.by (fun t9_ q9_ => XS.aload W935.here W935.hx rfl (hb hby at_274) rfl rfl q9_) ?_
          show Go p e below s Z [("java/lang/String", 7)] _ _ _ (T933.setTop (mkF m 276 #[.val (.int p0), .val (.int p1), .val (.int p2), .val (.int p3), .val (.int md), .val (.int se), .val (.int su), .val (.ref e1), .val (.int ca), .val (.ref tx), .val .null, .val (.int pp), .val (.int oc)] [(.ref tx), (.ref st), (.ref st)]))
          refine W935.strV (cs := (CNTs.set pp.toNatClampNeg ca)) (k_words hw) (wd9 hw) (wd11 hw) (wd12 hw) A_st F_value_st F_coder_st (V2.ext E936) (SG1.ext W935.old) hG (q := 17) (by simp) rfl (by decide) (by decide) (set_rng (by decide) r_ca) z_st (List.mem_of_getElem? (i := 0) rfl) (by decide) (Wt := 1) (by decide) (k' := 3) (n' := 38) rfl rfl (by decide) (by decide) (by rw [hml]; rfl) (Nat.le_of_eq rfl) (hb hby at_276) ?_
          intro T937 h938 W939 K940 S_st
          show Go p e below s Z [("java/lang/String", 7)] _ _ _ (T937.setTop (mkF m 279 #[.val (.int p0), .val (.int p1), .val (.int p2), .val (.int p3), .val (.int md), .val (.int se), .val (.int su), .val (.ref e1), .val (.int ca), .val (.ref tx), .val .null, .val (.int pp), .val (.int oc)] [(.ref st)]))
          have hxp : namF (CNTs.set pp.toNatClampNeg ca) e0 e1 = .null := nam_null (set_ne l_pp (h_oc ▸ hco)) (fun q => absurd (congrArg List.length q) (by simp))
          refine W939.callS (y := (⟨"com/example/proof_to_token/prooftotoken/config/Sociability", "named", "(Ljava/lang/String;)Ljava/util/Optional;"⟩ : MethodName)) (wd37 hw) (wd38 hw) (wd1 hw) (wd39 hw) (by decide) (c_named l Z a0 hw hEL h938 W939.old st _ G1 av e0 e1 t0 t1 em kv SG1 hG SV AV XV FW0 FW1 S0 S1 SE EE FE S_st (by simp)) all0 (by decide) (by decide) (k' := 5) (n' := 41) rfl rfl (by decide) (by decide) (by rw [hml]; rfl) (argsL := [(.ref st)]) (rest := []) (lenOf pd_5 rfl) rfl rfl (Wt := 0) (Nat.le_of_eq rfl) (hb hby at_279) ?_
          intro v_ T941 h943 W942 hq_
          obtain ⟨ro, rfl, X2, E2, F2⟩ := hq_
          rw [hxp] at F2
          show Go p e below s Z [("java/lang/String", 7)] _ _ _ (T941.setTop (mkF m 282 #[.val (.int p0), .val (.int p1), .val (.int p2), .val (.int p3), .val (.int md), .val (.int se), .val (.int su), .val (.ref e1), .val (.int ca), .val (.ref tx), .val .null, .val (.int pp), .val (.int oc)] [(.ref ro)]))
          refine Go.by (fun t9_ q9_ => XS.astore W942.here W942.hx rfl (hb hby at_282) rfl rfl (l' := #[.val (.int p0), .val (.int p1), .val (.int p2), .val (.int p3), .val (.int md), .val (.int se), .val (.int su), .val (.ref e1), .val (.int ca), .val (.ref tx), .val .null, .val (.ref ro), .val (.int oc)]) rfl q9_) ?_
          show Go p e below s Z [("java/lang/String", 7)] _ _ _ (T941.setTop (mkF m 284 #[.val (.int p0), .val (.int p1), .val (.int p2), .val (.int p3), .val (.int md), .val (.int se), .val (.int su), .val (.ref e1), .val (.int ca), .val (.ref tx), .val .null, .val (.ref ro), .val (.int oc)] []))
          refine Go.by (fun t9_ q9_ => XS.aload W942.here W942.hx rfl (hb hby at_284) rfl rfl q9_) ?_
          show Go p e below s Z [("java/lang/String", 7)] _ _ _ (T941.setTop (mkF m 286 #[.val (.int p0), .val (.int p1), .val (.int p2), .val (.int p3), .val (.int md), .val (.int se), .val (.int su), .val (.ref e1), .val (.int ca), .val (.ref tx), .val .null, .val (.ref ro), .val (.int oc)] [(.ref ro)]))
          refine Go.by (fun t9_ q9_ => XS.aconstNull W942.here W942.hx rfl (hb hby at_286) q9_) ?_
          show Go p e below s Z [("java/lang/String", 7)] _ _ _ (T941.setTop (mkF m 287 #[.val (.int p0), .val (.int p1), .val (.int p2), .val (.int p3), .val (.int md), .val (.int se), .val (.int su), .val (.ref e1), .val (.int ca), .val (.ref tx), .val .null, .val (.ref ro), .val (.int oc)] [.null, (.ref ro)]))
          refine W942.callVp (y := (⟨"java/util/Optional", "orElse", "(Ljava/lang/Object;)Ljava/lang/Object;"⟩ : MethodName)) (z := (⟨"java/util/Optional", "orElse", "(Ljava/lang/Object;)Ljava/lang/Object;"⟩ : MethodName)) (wd81 hw) (wd82 hw) (nf_sel rfl (wd84 hw)) (wd84 hw) (wd83 hw) (wd70 hw) (wd85 hw) (by decide) E2 (a := ro) (c_orelse l Z a0 hw hEL h943 W942.old ro _ rfl F2) all0 (by decide) (by decide) (k' := 5) (n' := 41) rfl rfl (by decide) (by decide) (by rw [hml]; rfl) (argsL := [.null]) (rest := []) (lenOf pd_6 rfl) rfl rfl (Wt := 0) (Nat.le_of_eq rfl) (hb hby at_287) ?_
          intro T944 W945
          show Go p e below s Z [("java/lang/String", 7)] _ _ _ (T944.setTop (mkF m 290 #[.val (.int p0), .val (.int p1), .val (.int p2), .val (.int p3), .val (.int md), .val (.int se), .val (.int su), .val (.ref e1), .val (.int ca), .val (.ref tx), .val .null, .val (.ref ro), .val (.int oc)] [.null]))
          refine Go.by (fun t9_ q9_ => XS.aload W945.here W945.hx rfl (hb hby at_290) rfl rfl q9_) ?_
          show Go p e below s Z [("java/lang/String", 7)] _ _ _ (T944.setTop (mkF m 292 #[.val (.int p0), .val (.int p1), .val (.int p2), .val (.int p3), .val (.int md), .val (.int se), .val (.int su), .val (.ref e1), .val (.int ca), .val (.ref tx), .val .null, .val (.ref ro), .val (.int oc)] [.null, .null]))
          refine Go.by (fun t9_ q9_ => acmpW W945 (g := (mkF m 292 #[.val (.int p0), .val (.int p1), .val (.int p2), .val (.int p3), .val (.int md), .val (.int se), .val (.int su), .val (.ref e1), .val (.int ca), .val (.ref tx), .val .null, .val (.ref ro), .val (.int oc)] [.null, .null])) rfl rfl rfl (pc0 := 292) (pc' := 295) (same := true) rfl (hb hby at_292) rfl (decide_eq_true rfl) (by decide) (by decide) q9_) ?_
          show Go p e below s Z [("java/lang/String", 7)] _ _ _ (T944.setTop (mkF m 295 #[.val (.int p0), .val (.int p1), .val (.int p2), .val (.int p3), .val (.int md), .val (.int se), .val (.int su), .val (.ref e1), .val (.int ca), .val (.ref tx), .val .null, .val (.ref ro), .val (.int oc)] []))
          refine Go.by (fun t9_ q9_ => XS.iconst W945.here W945.hx rfl (hb hby at_295) q9_) ?_
          show Go p e below s Z [("java/lang/String", 7)] _ _ _ (T944.setTop (mkF m 296 #[.val (.int p0), .val (.int p1), .val (.int p2), .val (.int p3), .val (.int md), .val (.int se), .val (.int su), .val (.ref e1), .val (.int ca), .val (.ref tx), .val .null, .val (.ref ro), .val (.int oc)] [(.int (1 : Int32))]))
          refine Go.by (fun t9_ q9_ => XS.goto W945.here W945.hx rfl (pc0 := 296) (pc' := 300) rfl (hb hby at_296) (by decide) (by decide) q9_) ?_
          show Go p e below s Z [("java/lang/String", 7)] _ _ _ (T944.setTop (mkF m 300 #[.val (.int p0), .val (.int p1), .val (.int p2), .val (.int p3), .val (.int md), .val (.int se), .val (.int su), .val (.ref e1), .val (.int ca), .val (.ref tx), .val .null, .val (.ref ro), .val (.int oc)] [(.int (1 : Int32))]))
          exact W945.retN (z' := (1 : Int32)) (by decide) (by decide) hret (by simp) (hb hby at_300) rfl rfl
      · refine Go.by (fun t9_ q9_ => XS.icmpYes W895.here W895.hx rfl (pc0 := 90) (pc' := 151) rfl (hb hby at_90) rfl (feq hm1).2 (by decide) (by decide) q9_) ?_
        show Go p e below s Z [("java/lang/String", 7)] _ _ _ (T894.setTop (mkF m 151 #[.val (.int p0), .val (.int p1), .val (.int p2), .val (.int p3), .val (.int md), .val (.int se), .val (.int su), .val (.ref e1), .val (.int ca), .unset, .unset, .unset, .unset] []))
        refine Go.by (fun t9_ q9_ => XS.iload W895.here W895.hx rfl (hb hby at_151) rfl q9_) ?_
        show Go p e below s Z [("java/lang/String", 7)] _ _ _ (T894.setTop (mkF m 153 #[.val (.int p0), .val (.int p1), .val (.int p2), .val (.int p3), .val (.int md), .val (.int se), .val (.int su), .val (.ref e1), .val (.int ca), .unset, .unset, .unset, .unset] [(.int md)]))
        refine Go.by (fun t9_ q9_ => XS.iconst W895.here W895.hx rfl (hb hby at_153) q9_) ?_
        show Go p e below s Z [("java/lang/String", 7)] _ _ _ (T894.setTop (mkF m 154 #[.val (.int p0), .val (.int p1), .val (.int p2), .val (.int p3), .val (.int md), .val (.int se), .val (.int su), .val (.ref e1), .val (.int ca), .unset, .unset, .unset, .unset] [(.int (2 : Int32)), (.int md)]))
        by_cases hm2 : md = (2 : Int32)
        · refine Go.by (fun t9_ q9_ => XS.icmpNo W895.here W895.hx rfl (hb hby at_154) rfl (teq hm2).2 q9_) ?_
          show Go p e below s Z [("java/lang/String", 7)] _ _ _ (T894.setTop (mkF m 157 #[.val (.int p0), .val (.int p1), .val (.int p2), .val (.int p3), .val (.int md), .val (.int se), .val (.int su), .val (.ref e1), .val (.int ca), .unset, .unset, .unset, .unset] []))
          refine Go.by (fun t9_ q9_ => XS.iload W895.here W895.hx rfl (hb hby at_157) rfl q9_) ?_
          show Go p e below s Z [("java/lang/String", 7)] _ _ _ (T894.setTop (mkF m 159 #[.val (.int p0), .val (.int p1), .val (.int p2), .val (.int p3), .val (.int md), .val (.int se), .val (.int su), .val (.ref e1), .val (.int ca), .unset, .unset, .unset, .unset] [(.int se)]))
          refine Go.by (fun t9_ q9_ => XS.ifNo W895.here W895.hx rfl (hb hby at_159) rfl ((if0 _ _).trans (feq hsec).1) q9_) ?_
          show Go p e below s Z [("java/lang/String", 7)] _ _ _ (T894.setTop (mkF m 162 #[.val (.int p0), .val (.int p1), .val (.int p2), .val (.int p3), .val (.int md), .val (.int se), .val (.int su), .val (.ref e1), .val (.int ca), .unset, .unset, .unset, .unset] []))
          refine Go.by (fun t9_ q9_ => XS.iload W895.here W895.hx rfl (hb hby at_162) rfl q9_) ?_
          show Go p e below s Z [("java/lang/String", 7)] _ _ _ (T894.setTop (mkF m 164 #[.val (.int p0), .val (.int p1), .val (.int p2), .val (.int p3), .val (.int md), .val (.int se), .val (.int su), .val (.ref e1), .val (.int ca), .unset, .unset, .unset, .unset] [(.int ca)]))
          refine W895.callS (y := (⟨"com/example/proof_to_token/prooftotoken/config/SociabilityNamedPinLaw", "cntOnlyPlus", "(C)[C"⟩ : MethodName)) (wd101 hw) (wd102 hw) (wd5 hw) (wd103 hw) (by decide) (c_cntp l Z a0 hw hEL h0 W895.old ca r_ca) all0 (by decide) (by decide) (k' := 1) (n' := 18) rfl rfl (by decide) (by decide) (by rw [hml]; rfl) (argsL := [(.int ca)]) (rest := []) (lenOf pd_7 rfl) rfl rfl (Wt := 0) (Nat.le_of_eq rfl) (hb hby at_164) ?_
          intro v_ T946 h948 W947 hq_
          obtain ⟨tx, kx, rfl, X1, A_x, E_x, z_x⟩ := hq_
          show Go p e below s Z [("java/lang/String", 7)] _ _ _ (T946.setTop (mkF m 167 #[.val (.int p0), .val (.int p1), .val (.int p2), .val (.int p3), .val (.int md), .val (.int se), .val (.int su), .val (.ref e1), .val (.int ca), .unset, .unset, .unset, .unset] [(.ref tx)]))
          refine Go.by (fun t9_ q9_ => XS.goto W947.here W947.hx rfl (pc0 := 167) (pc' := 175) rfl (hb hby at_167) (by decide) (by decide) q9_) ?_
          show Go p e below s Z [("java/lang/String", 7)] _ _ _ (T946.setTop (mkF m 175 #[.val (.int p0), .val (.int p1), .val (.int p2), .val (.int p3), .val (.int md), .val (.int se), .val (.int su), .val (.ref e1), .val (.int ca), .unset, .unset, .unset, .unset] [(.ref tx)]))
          refine Go.by (fun t9_ q9_ => XS.astore W947.here W947.hx rfl (hb hby at_175) rfl rfl (l' := #[.val (.int p0), .val (.int p1), .val (.int p2), .val (.int p3), .val (.int md), .val (.int se), .val (.int su), .val (.ref e1), .val (.int ca), .val (.ref tx), .unset, .unset, .unset]) rfl q9_) ?_
          show Go p e below s Z [("java/lang/String", 7)] _ _ _ (T946.setTop (mkF m 177 #[.val (.int p0), .val (.int p1), .val (.int p2), .val (.int p3), .val (.int md), .val (.int se), .val (.int su), .val (.ref e1), .val (.int ca), .val (.ref tx), .unset, .unset, .unset] []))
          refine Go.by (fun t9_ q9_ => XS.aconstNull W947.here W947.hx rfl (hb hby at_177) q9_) ?_
          show Go p e below s Z [("java/lang/String", 7)] _ _ _ (T946.setTop (mkF m 178 #[.val (.int p0), .val (.int p1), .val (.int p2), .val (.int p3), .val (.int md), .val (.int se), .val (.int su), .val (.ref e1), .val (.int ca), .val (.ref tx), .unset, .unset, .unset] [.null]))
          refine Go.by (fun t9_ q9_ => XS.astore W947.here W947.hx rfl (hb hby at_178) rfl rfl (l' := #[.val (.int p0), .val (.int p1), .val (.int p2), .val (.int p3), .val (.int md), .val (.int se), .val (.int su), .val (.ref e1), .val (.int ca), .val (.ref tx), .val .null, .unset, .unset]) rfl q9_) ?_
          show Go p e below s Z [("java/lang/String", 7)] _ _ _ (T946.setTop (mkF m 180 #[.val (.int p0), .val (.int p1), .val (.int p2), .val (.int p3), .val (.int md), .val (.int se), .val (.int su), .val (.ref e1), .val (.int ca), .val (.ref tx), .val .null, .unset, .unset] []))
          refine Go.by (fun t9_ q9_ => XS.goto W947.here W947.hx rfl (pc0 := 180) (pc' := 270) rfl (hb hby at_180) (by decide) (by decide) q9_) ?_
          show Go p e below s Z [("java/lang/String", 7)] _ _ _ (T946.setTop (mkF m 270 #[.val (.int p0), .val (.int p1), .val (.int p2), .val (.int p3), .val (.int md), .val (.int se), .val (.int su), .val (.ref e1), .val (.int ca), .val (.ref tx), .val .null, .unset, .unset] []))
          refine W947.new (wd8 hw) (wd9 hw) (wd10 hw) (hb hby at_270) (k' := 2) (n' := 22) rfl rfl (by decide) (by decide) ?_
          intro T949 h950 st W951 E952 g_st z_st A_st D_st
          have F_coder_st : Fld Z h950 st "java/lang/String" "coder" "B" (.int (0 : Int32)) := D_st (Or.inr (wd34 hw)) (ty := .byte) (by decide)
          have F_value_st : Fld Z h950 st "java/lang/String" "value" "[B" .null := D_st (Or.inr (wd36 hw)) (ty := (.array .byte)) (by decide)
          show Go p e below s Z [("java/lang/String", 7)] _ _ _ (T949.setTop (mkF m 273 #[.val (.int p0), .val (.int p1), .val (.int p2), .val (.int p3), .val (.int md), .val (.int se), .val (.int su), .val (.ref e1), .val (.int ca), .val (.ref tx), .val .null, .unset, .unset] [(.ref st)]))
          refine Go.by (fun t9_ q9_ => XS.dup W951.here W951.hx rfl (hb hby at_273) rfl rfl q9_) ?_
          show Go p e below s Z [("java/lang/String", 7)] _ _ _ (T949.setTop (mkF m 274 #[.val (.int p0), .val (.int p1), .val (.int p2), .val (.int p3), .val (.int md), .val (.int se), .val (.int su), .val (.ref e1), .val (.int ca), .val (.ref tx), .val .null, .unset, .unset] [(.ref st), (.ref st)]))
          refine Go.by (fun t9_ q9_ => XS.aload W951.here W951.hx rfl (hb hby at_274) rfl rfl q9_) ?_
          show Go p e below s Z [("java/lang/String", 7)] _ _ _ (T949.setTop (mkF m 276 #[.val (.int p0), .val (.int p1), .val (.int p2), .val (.int p3), .val (.int md), .val (.int se), .val (.int su), .val (.ref e1), .val (.int ca), .val (.ref tx), .val .null, .unset, .unset] [(.ref tx), (.ref st), (.ref st)]))
          refine W951.strV (cs := [67, 111, 117, 110, 116, 101, 114, 97, 103, 101, 110, 116, 115, 79, 110, 108, 121, ca]) (k_words hw) (wd9 hw) (wd11 hw) (wd12 hw) A_st F_value_st F_coder_st (A_x.ext E952) (SG1.ext W951.old) hG (q := 18) rfl rfl (by decide) (by decide) (by intro c hc; simp only [List.mem_cons, List.not_mem_nil, or_false] at hc; rcases hc with rfl | rfl | rfl | rfl | rfl | rfl | rfl | rfl | rfl | rfl | rfl | rfl | rfl | rfl | rfl | rfl | rfl | rfl <;> first | assumption | decide) z_st (List.mem_of_getElem? (i := 0) rfl) (by decide) (Wt := 1) (by decide) (k' := 3) (n' := 40) rfl rfl (by decide) (by decide) (by rw [hml]; rfl) (Nat.le_of_eq rfl) (hb hby at_276) ?_
          intro T953 h954 W955 K956 S_st
          show Go p e below s Z [("java/lang/String", 7)] _ _ _ (T953.setTop (mkF m 279 #[.val (.int p0), .val (.int p1), .val (.int p2), .val (.int p3), .val (.int md), .val (.int se), .val (.int su), .val (.ref e1), .val (.int ca), .val (.ref tx), .val .null, .unset, .unset] [(.ref st)]))
          have hxp : namF [67, 111, 117, 110, 116, 101, 114, 97, 103, 101, 110, 116, 115, 79, 110, 108, 121, ca] e0 e1 = .null := nam_null (by simp) (by simp)
          refine W955.callS (y := (⟨"com/example/proof_to_token/prooftotoken/config/Sociability", "named", "(Ljava/lang/String;)Ljava/util/Optional;"⟩ : MethodName)) (wd37 hw) (wd38 hw) (wd1 hw) (wd39 hw) (by decide) (c_named l Z a0 hw hEL h954 W955.old st _ G1 av e0 e1 t0 t1 em kv SG1 hG SV AV XV FW0 FW1 S0 S1 SE EE FE S_st (by simp)) all0 (by decide) (by decide) (k' := 5) (n' := 43) rfl rfl (by decide) (by decide) (by rw [hml]; rfl) (argsL := [(.ref st)]) (rest := []) (lenOf pd_5 rfl) rfl rfl (Wt := 0) (Nat.le_of_eq rfl) (hb hby at_279) ?_
          intro v_ T957 h959 W958 hq_
          obtain ⟨ro, rfl, X2, E2, F2⟩ := hq_
          rw [hxp] at F2
          show Go p e below s Z [("java/lang/String", 7)] _ _ _ (T957.setTop (mkF m 282 #[.val (.int p0), .val (.int p1), .val (.int p2), .val (.int p3), .val (.int md), .val (.int se), .val (.int su), .val (.ref e1), .val (.int ca), .val (.ref tx), .val .null, .unset, .unset] [(.ref ro)]))
          refine Go.by (fun t9_ q9_ => XS.astore W958.here W958.hx rfl (hb hby at_282) rfl rfl (l' := #[.val (.int p0), .val (.int p1), .val (.int p2), .val (.int p3), .val (.int md), .val (.int se), .val (.int su), .val (.ref e1), .val (.int ca), .val (.ref tx), .val .null, .val (.ref ro), .unset]) rfl q9_) ?_
          show Go p e below s Z [("java/lang/String", 7)] _ _ _ (T957.setTop (mkF m 284 #[.val (.int p0), .val (.int p1), .val (.int p2), .val (.int p3), .val (.int md), .val (.int se), .val (.int su), .val (.ref e1), .val (.int ca), .val (.ref tx), .val .null, .val (.ref ro), .unset] []))
          refine Go.by (fun t9_ q9_ => XS.aload W958.here W958.hx rfl (hb hby at_284) rfl rfl q9_) ?_
          show Go p e below s Z [("java/lang/String", 7)] _ _ _ (T957.setTop (mkF m 286 #[.val (.int p0), .val (.int p1), .val (.int p2), .val (.int p3), .val (.int md), .val (.int se), .val (.int su), .val (.ref e1), .val (.int ca), .val (.ref tx), .val .null, .val (.ref ro), .unset] [(.ref ro)]))
          refine Go.by (fun t9_ q9_ => XS.aconstNull W958.here W958.hx rfl (hb hby at_286) q9_) ?_
          show Go p e below s Z [("java/lang/String", 7)] _ _ _ (T957.setTop (mkF m 287 #[.val (.int p0), .val (.int p1), .val (.int p2), .val (.int p3), .val (.int md), .val (.int se), .val (.int su), .val (.ref e1), .val (.int ca), .val (.ref tx), .val .null, .val (.ref ro), .unset] [.null, (.ref ro)]))
          refine W958.callVp (y := (⟨"java/util/Optional", "orElse", "(Ljava/lang/Object;)Ljava/lang/Object;"⟩ : MethodName)) (z := (⟨"java/util/Optional", "orElse", "(Ljava/lang/Object;)Ljava/lang/Object;"⟩ : MethodName)) (wd81 hw) (wd82 hw) (nf_sel rfl (wd84 hw)) (wd84 hw) (wd83 hw) (wd70 hw) (wd85 hw) (by decide) E2 (a := ro) (c_orelse l Z a0 hw hEL h959 W958.old ro _ rfl F2) all0 (by decide) (by decide) (k' := 5) (n' := 43) rfl rfl (by decide) (by decide) (by rw [hml]; rfl) (argsL := [.null]) (rest := []) (lenOf pd_6 rfl) rfl rfl (Wt := 0) (Nat.le_of_eq rfl) (hb hby at_287) ?_
          intro T960 W961
          show Go p e below s Z [("java/lang/String", 7)] _ _ _ (T960.setTop (mkF m 290 #[.val (.int p0), .val (.int p1), .val (.int p2), .val (.int p3), .val (.int md), .val (.int se), .val (.int su), .val (.ref e1), .val (.int ca), .val (.ref tx), .val .null, .val (.ref ro), .unset] [.null]))
          refine Go.by (fun t9_ q9_ => XS.aload W961.here W961.hx rfl (hb hby at_290) rfl rfl q9_) ?_
          show Go p e below s Z [("java/lang/String", 7)] _ _ _ (T960.setTop (mkF m 292 #[.val (.int p0), .val (.int p1), .val (.int p2), .val (.int p3), .val (.int md), .val (.int se), .val (.int su), .val (.ref e1), .val (.int ca), .val (.ref tx), .val .null, .val (.ref ro), .unset] [.null, .null]))
          refine Go.by (fun t9_ q9_ => acmpW W961 (g := (mkF m 292 #[.val (.int p0), .val (.int p1), .val (.int p2), .val (.int p3), .val (.int md), .val (.int se), .val (.int su), .val (.ref e1), .val (.int ca), .val (.ref tx), .val .null, .val (.ref ro), .unset] [.null, .null])) rfl rfl rfl (pc0 := 292) (pc' := 295) (same := true) rfl (hb hby at_292) rfl (decide_eq_true rfl) (by decide) (by decide) q9_) ?_
          show Go p e below s Z [("java/lang/String", 7)] _ _ _ (T960.setTop (mkF m 295 #[.val (.int p0), .val (.int p1), .val (.int p2), .val (.int p3), .val (.int md), .val (.int se), .val (.int su), .val (.ref e1), .val (.int ca), .val (.ref tx), .val .null, .val (.ref ro), .unset] []))
          refine Go.by (fun t9_ q9_ => XS.iconst W961.here W961.hx rfl (hb hby at_295) q9_) ?_
          show Go p e below s Z [("java/lang/String", 7)] _ _ _ (T960.setTop (mkF m 296 #[.val (.int p0), .val (.int p1), .val (.int p2), .val (.int p3), .val (.int md), .val (.int se), .val (.int su), .val (.ref e1), .val (.int ca), .val (.ref tx), .val .null, .val (.ref ro), .unset] [(.int (1 : Int32))]))
          refine Go.by (fun t9_ q9_ => XS.goto W961.here W961.hx rfl (pc0 := 296) (pc' := 300) rfl (hb hby at_296) (by decide) (by decide) q9_) ?_
          show Go p e below s Z [("java/lang/String", 7)] _ _ _ (T960.setTop (mkF m 300 #[.val (.int p0), .val (.int p1), .val (.int p2), .val (.int p3), .val (.int md), .val (.int se), .val (.int su), .val (.ref e1), .val (.int ca), .val (.ref tx), .val .null, .val (.ref ro), .unset] [(.int (1 : Int32))]))
          exact W961.retN (z' := (1 : Int32)) (by decide) (by decide) hret (by simp) (hb hby at_300) rfl rfl
        · refine Go.by (fun t9_ q9_ => XS.icmpYes W895.here W895.hx rfl (pc0 := 154) (pc' := 183) rfl (hb hby at_154) rfl (feq hm2).2 (by decide) (by decide) q9_) ?_
          show Go p e below s Z [("java/lang/String", 7)] _ _ _ (T894.setTop (mkF m 183 #[.val (.int p0), .val (.int p1), .val (.int p2), .val (.int p3), .val (.int md), .val (.int se), .val (.int su), .val (.ref e1), .val (.int ca), .unset, .unset, .unset, .unset] []))
          refine Go.by (fun t9_ q9_ => XS.iload W895.here W895.hx rfl (hb hby at_183) rfl q9_) ?_
          show Go p e below s Z [("java/lang/String", 7)] _ _ _ (T894.setTop (mkF m 185 #[.val (.int p0), .val (.int p1), .val (.int p2), .val (.int p3), .val (.int md), .val (.int se), .val (.int su), .val (.ref e1), .val (.int ca), .unset, .unset, .unset, .unset] [(.int su)]))
          by_cases hsb : su = (0 : Int32)
          · refine Go.by (fun t9_ q9_ => XS.ifYes W895.here W895.hx rfl (pc0 := 185) (pc' := 210) rfl (hb hby at_185) rfl ((if0 _ _).trans (teq hsb).1) (by decide) (by decide) q9_) ?_
            show Go p e below s Z [("java/lang/String", 7)] _ _ _ (T894.setTop (mkF m 210 #[.val (.int p0), .val (.int p1), .val (.int p2), .val (.int p3), .val (.int md), .val (.int se), .val (.int su), .val (.ref e1), .val (.int ca), .unset, .unset, .unset, .unset] []))
            refine Go.by (fun t9_ q9_ => XS.iloadN W895.here W895.hx rfl (hb hby at_210) rfl q9_) ?_
            show Go p e below s Z [("java/lang/String", 7)] _ _ _ (T894.setTop (mkF m 211 #[.val (.int p0), .val (.int p1), .val (.int p2), .val (.int p3), .val (.int md), .val (.int se), .val (.int su), .val (.ref e1), .val (.int ca), .unset, .unset, .unset, .unset] [(.int p1)]))
            refine Go.by (fun t9_ q9_ => XS.iconst W895.here W895.hx rfl (hb hby at_211) q9_) ?_
            show Go p e below s Z [("java/lang/String", 7)] _ _ _ (T894.setTop (mkF m 212 #[.val (.int p0), .val (.int p1), .val (.int p2), .val (.int p3), .val (.int md), .val (.int se), .val (.int su), .val (.ref e1), .val (.int ca), .unset, .unset, .unset, .unset] [(.int (3 : Int32)), (.int p1)]))
            refine Go.by (fun t9_ q9_ => XS.iand W895.here W895.hx rfl (hb hby at_212) rfl q9_) ?_
            show Go p e below s Z [("java/lang/String", 7)] _ _ _ (T894.setTop (mkF m 213 #[.val (.int p0), .val (.int p1), .val (.int p2), .val (.int p3), .val (.int md), .val (.int se), .val (.int su), .val (.ref e1), .val (.int ca), .unset, .unset, .unset, .unset] [(.int (p1 &&& (3 : Int32)))]))
            refine Go.by (fun t9_ q9_ => XS.istore W895.here W895.hx rfl (hb hby at_213) rfl (l' := #[.val (.int p0), .val (.int p1), .val (.int p2), .val (.int p3), .val (.int md), .val (.int se), .val (.int su), .val (.ref e1), .val (.int ca), .unset, .unset, .val (.int (p1 &&& (3 : Int32))), .unset]) rfl q9_) ?_
            show Go p e below s Z [("java/lang/String", 7)] _ _ _ (T894.setTop (mkF m 215 #[.val (.int p0), .val (.int p1), .val (.int p2), .val (.int p3), .val (.int md), .val (.int se), .val (.int su), .val (.ref e1), .val (.int ca), .unset, .unset, .val (.int (p1 &&& (3 : Int32))), .unset] []))
            rcases and3 p1 with hn | hn | hn | hn
            · rw [hn]
              show Go p e below s Z [("java/lang/String", 7)] _ _ _ (T894.setTop (mkF m 215 #[.val (.int p0), .val (.int p1), .val (.int p2), .val (.int p3), .val (.int md), .val (.int se), .val (.int su), .val (.ref e1), .val (.int ca), .unset, .unset, .val (.int (0 : Int32)), .unset] []))
              refine Go.by (fun t9_ q9_ => XS.iload W895.here W895.hx rfl (hb hby at_215) rfl q9_) ?_
              show Go p e below s Z [("java/lang/String", 7)] _ _ _ (T894.setTop (mkF m 217 #[.val (.int p0), .val (.int p1), .val (.int p2), .val (.int p3), .val (.int md), .val (.int se), .val (.int su), .val (.ref e1), .val (.int ca), .unset, .unset, .val (.int (0 : Int32)), .unset] [(.int (0 : Int32))]))
              refine W895.newp (aty := .char) (wd7 hw) (hb hby at_217) (by decide) (cap := 0) (by decide) (by decide) (k' := 1) (n' := 0) rfl rfl (by decide) (by decide) (ad := "[C") rfl ?_
              intro T978 h979 tx k_tx W980 E981 g_tx z_tx A_tx V_tx
              have V1_tx : Arv Z h979 tx k_tx .char (0 : Int32) [] (.int (0 : Int32)) := V_tx.pad (pad_rep [] (.int (0 : Int32)) 0)
              show Go p e below s Z [("java/lang/String", 7)] _ _ _ (T978.setTop (mkF m 219 #[.val (.int p0), .val (.int p1), .val (.int p2), .val (.int p3), .val (.int md), .val (.int se), .val (.int su), .val (.ref e1), .val (.int ca), .unset, .unset, .val (.int (0 : Int32)), .unset] [(.ref tx)]))
              refine Go.by (fun t9_ q9_ => XS.astore W980.here W980.hx rfl (hb hby at_219) rfl rfl (l' := #[.val (.int p0), .val (.int p1), .val (.int p2), .val (.int p3), .val (.int md), .val (.int se), .val (.int su), .val (.ref e1), .val (.int ca), .val (.ref tx), .unset, .val (.int (0 : Int32)), .unset]) rfl q9_) ?_
              show Go p e below s Z [("java/lang/String", 7)] _ _ _ (T978.setTop (mkF m 221 #[.val (.int p0), .val (.int p1), .val (.int p2), .val (.int p3), .val (.int md), .val (.int se), .val (.int su), .val (.ref e1), .val (.int ca), .val (.ref tx), .unset, .val (.int (0 : Int32)), .unset] []))
              refine Go.by (fun t9_ q9_ => XS.iload W980.here W980.hx rfl (hb hby at_221) rfl q9_) ?_
              show Go p e below s Z [("java/lang/String", 7)] _ _ _ (T978.setTop (mkF m 223 #[.val (.int p0), .val (.int p1), .val (.int p2), .val (.int p3), .val (.int md), .val (.int se), .val (.int su), .val (.ref e1), .val (.int ca), .val (.ref tx), .unset, .val (.int (0 : Int32)), .unset] [(.int (0 : Int32))]))
              refine Go.by (fun t9_ q9_ => XS.ifYes W980.here W980.hx rfl (pc0 := 223) (pc' := 232) rfl (hb hby at_223) rfl ((if0 _ _).trans (flt (by decide)).2.2.2) (by decide) (by decide) q9_) ?_
              show Go p e below s Z [("java/lang/String", 7)] _ _ _ (T978.setTop (mkF m 232 #[.val (.int p0), .val (.int p1), .val (.int p2), .val (.int p3), .val (.int md), .val (.int se), .val (.int su), .val (.ref e1), .val (.int ca), .val (.ref tx), .unset, .val (.int (0 : Int32)), .unset] []))
              refine Go.by (fun t9_ q9_ => XS.iload W980.here W980.hx rfl (hb hby at_232) rfl q9_) ?_
              show Go p e below s Z [("java/lang/String", 7)] _ _ _ (T978.setTop (mkF m 234 #[.val (.int p0), .val (.int p1), .val (.int p2), .val (.int p3), .val (.int md), .val (.int se), .val (.int su), .val (.ref e1), .val (.int ca), .val (.ref tx), .unset, .val (.int (0 : Int32)), .unset] [(.int (0 : Int32))]))
              refine Go.by (fun t9_ q9_ => XS.iconst W980.here W980.hx rfl (hb hby at_234) q9_) ?_
              show Go p e below s Z [("java/lang/String", 7)] _ _ _ (T978.setTop (mkF m 235 #[.val (.int p0), .val (.int p1), .val (.int p2), .val (.int p3), .val (.int md), .val (.int se), .val (.int su), .val (.ref e1), .val (.int ca), .val (.ref tx), .unset, .val (.int (0 : Int32)), .unset] [(.int (1 : Int32)), (.int (0 : Int32))]))
              refine Go.by (fun t9_ q9_ => XS.icmpYes W980.here W980.hx rfl (pc0 := 235) (pc' := 248) rfl (hb hby at_235) rfl (flt (by decide)).2.2.2 (by decide) (by decide) q9_) ?_
              show Go p e below s Z [("java/lang/String", 7)] _ _ _ (T978.setTop (mkF m 248 #[.val (.int p0), .val (.int p1), .val (.int p2), .val (.int p3), .val (.int md), .val (.int se), .val (.int su), .val (.ref e1), .val (.int ca), .val (.ref tx), .unset, .val (.int (0 : Int32)), .unset] []))
              refine Go.by (fun t9_ q9_ => XS.iload W980.here W980.hx rfl (hb hby at_248) rfl q9_) ?_
              show Go p e below s Z [("java/lang/String", 7)] _ _ _ (T978.setTop (mkF m 250 #[.val (.int p0), .val (.int p1), .val (.int p2), .val (.int p3), .val (.int md), .val (.int se), .val (.int su), .val (.ref e1), .val (.int ca), .val (.ref tx), .unset, .val (.int (0 : Int32)), .unset] [(.int (0 : Int32))]))
              refine Go.by (fun t9_ q9_ => XS.iconst W980.here W980.hx rfl (hb hby at_250) q9_) ?_
              show Go p e below s Z [("java/lang/String", 7)] _ _ _ (T978.setTop (mkF m 251 #[.val (.int p0), .val (.int p1), .val (.int p2), .val (.int p3), .val (.int md), .val (.int se), .val (.int su), .val (.ref e1), .val (.int ca), .val (.ref tx), .unset, .val (.int (0 : Int32)), .unset] [(.int (2 : Int32)), (.int (0 : Int32))]))
              refine Go.by (fun t9_ q9_ => XS.icmpYes W980.here W980.hx rfl (pc0 := 251) (pc' := 267) rfl (hb hby at_251) rfl (flt (by decide)).2.2.2 (by decide) (by decide) q9_) ?_
              show Go p e below s Z [("java/lang/String", 7)] _ _ _ (T978.setTop (mkF m 267 #[.val (.int p0), .val (.int p1), .val (.int p2), .val (.int p3), .val (.int md), .val (.int se), .val (.int su), .val (.ref e1), .val (.int ca), .val (.ref tx), .unset, .val (.int (0 : Int32)), .unset] []))
              refine Go.by (fun t9_ q9_ => XS.aconstNull W980.here W980.hx rfl (hb hby at_267) q9_) ?_
              show Go p e below s Z [("java/lang/String", 7)] _ _ _ (T978.setTop (mkF m 268 #[.val (.int p0), .val (.int p1), .val (.int p2), .val (.int p3), .val (.int md), .val (.int se), .val (.int su), .val (.ref e1), .val (.int ca), .val (.ref tx), .unset, .val (.int (0 : Int32)), .unset] [.null]))
              refine Go.by (fun t9_ q9_ => XS.astore W980.here W980.hx rfl (hb hby at_268) rfl rfl (l' := #[.val (.int p0), .val (.int p1), .val (.int p2), .val (.int p3), .val (.int md), .val (.int se), .val (.int su), .val (.ref e1), .val (.int ca), .val (.ref tx), .val .null, .val (.int (0 : Int32)), .unset]) rfl q9_) ?_
              show Go p e below s Z [("java/lang/String", 7)] _ _ _ (T978.setTop (mkF m 270 #[.val (.int p0), .val (.int p1), .val (.int p2), .val (.int p3), .val (.int md), .val (.int se), .val (.int su), .val (.ref e1), .val (.int ca), .val (.ref tx), .val .null, .val (.int (0 : Int32)), .unset] []))
              refine W980.new (wd8 hw) (wd9 hw) (wd10 hw) (hb hby at_270) (k' := 2) (n' := 4) rfl rfl (by decide) (by decide) ?_
              intro T982 h983 st W984 E985 g_st z_st A_st D_st
              have F_coder_st : Fld Z h983 st "java/lang/String" "coder" "B" (.int (0 : Int32)) := D_st (Or.inr (wd34 hw)) (ty := .byte) (by decide)
              have F_value_st : Fld Z h983 st "java/lang/String" "value" "[B" .null := D_st (Or.inr (wd36 hw)) (ty := (.array .byte)) (by decide)
              show Go p e below s Z [("java/lang/String", 7)] _ _ _ (T982.setTop (mkF m 273 #[.val (.int p0), .val (.int p1), .val (.int p2), .val (.int p3), .val (.int md), .val (.int se), .val (.int su), .val (.ref e1), .val (.int ca), .val (.ref tx), .val .null, .val (.int (0 : Int32)), .unset] [(.ref st)]))
              refine Go.by (fun t9_ q9_ => XS.dup W984.here W984.hx rfl (hb hby at_273) rfl rfl q9_) ?_
              show Go p e below s Z [("java/lang/String", 7)] _ _ _ (T982.setTop (mkF m 274 #[.val (.int p0), .val (.int p1), .val (.int p2), .val (.int p3), .val (.int md), .val (.int se), .val (.int su), .val (.ref e1), .val (.int ca), .val (.ref tx), .val .null, .val (.int (0 : Int32)), .unset] [(.ref st), (.ref st)]))
              refine Go.by (fun t9_ q9_ => XS.aload W984.here W984.hx rfl (hb hby at_274) rfl rfl q9_) ?_
              show Go p e below s Z [("java/lang/String", 7)] _ _ _ (T982.setTop (mkF m 276 #[.val (.int p0), .val (.int p1), .val (.int p2), .val (.int p3), .val (.int md), .val (.int se), .val (.int su), .val (.ref e1), .val (.int ca), .val (.ref tx), .val .null, .val (.int (0 : Int32)), .unset] [(.ref tx), (.ref st), (.ref st)]))
              refine W984.callI (y := (⟨"java/lang/String", "<init>", "([C)V"⟩ : MethodName)) rfl (wd11 hw) (wd12 hw) (wd10 hw) (wd13 hw) (by decide) (a := st) (c_str1e l Z a0 hw hEL h983 W984.old st tx _ _ _ A_st F_value_st F_coder_st z_st (V1_tx.ext E985)) (allS (List.mem_of_getElem? (i := 0) rfl) all0) (by decide) (by decide) (k' := 6) (n' := 12) rfl rfl (by decide) (by decide) (by rw [hml]; rfl) (argsL := [(.ref tx)]) (rest := [(.ref st)]) (lenOf pd_8 rfl) rfl rfl (Wt := 1) (Nat.le_of_eq rfl) (hb hby at_276) ?_
              intro v_ T986 h988 W987 hq_
              obtain ⟨rfl, K1, S_st⟩ := hq_
              show Go p e below s Z [("java/lang/String", 7)] _ _ _ (T986.setTop (mkF m 279 #[.val (.int p0), .val (.int p1), .val (.int p2), .val (.int p3), .val (.int md), .val (.int se), .val (.int su), .val (.ref e1), .val (.int ca), .val (.ref tx), .val .null, .val (.int (0 : Int32)), .unset] [(.ref st)]))
              have hxp : namF [] e0 e1 = .null := nam_null (by simp) (by simp)
              refine W987.callS (y := (⟨"com/example/proof_to_token/prooftotoken/config/Sociability", "named", "(Ljava/lang/String;)Ljava/util/Optional;"⟩ : MethodName)) (wd37 hw) (wd38 hw) (wd1 hw) (wd39 hw) (by decide) (c_named l Z a0 hw hEL h988 W987.old st _ G1 av e0 e1 t0 t1 em kv SG1 hG SV AV XV FW0 FW1 S0 S1 SE EE FE S_st (by simp)) all0 (by decide) (by decide) (k' := 8) (n' := 15) rfl rfl (by decide) (by decide) (by rw [hml]; rfl) (argsL := [(.ref st)]) (rest := []) (lenOf pd_5 rfl) rfl rfl (Wt := 0) (Nat.le_of_eq rfl) (hb hby at_279) ?_
              intro v_ T989 h991 W990 hq_
              obtain ⟨ro, rfl, X2, E2, F2⟩ := hq_
              rw [hxp] at F2
              show Go p e below s Z [("java/lang/String", 7)] _ _ _ (T989.setTop (mkF m 282 #[.val (.int p0), .val (.int p1), .val (.int p2), .val (.int p3), .val (.int md), .val (.int se), .val (.int su), .val (.ref e1), .val (.int ca), .val (.ref tx), .val .null, .val (.int (0 : Int32)), .unset] [(.ref ro)]))
              refine Go.by (fun t9_ q9_ => XS.astore W990.here W990.hx rfl (hb hby at_282) rfl rfl (l' := #[.val (.int p0), .val (.int p1), .val (.int p2), .val (.int p3), .val (.int md), .val (.int se), .val (.int su), .val (.ref e1), .val (.int ca), .val (.ref tx), .val .null, .val (.ref ro), .unset]) rfl q9_) ?_
              show Go p e below s Z [("java/lang/String", 7)] _ _ _ (T989.setTop (mkF m 284 #[.val (.int p0), .val (.int p1), .val (.int p2), .val (.int p3), .val (.int md), .val (.int se), .val (.int su), .val (.ref e1), .val (.int ca), .val (.ref tx), .val .null, .val (.ref ro), .unset] []))
              refine Go.by (fun t9_ q9_ => XS.aload W990.here W990.hx rfl (hb hby at_284) rfl rfl q9_) ?_
              show Go p e below s Z [("java/lang/String", 7)] _ _ _ (T989.setTop (mkF m 286 #[.val (.int p0), .val (.int p1), .val (.int p2), .val (.int p3), .val (.int md), .val (.int se), .val (.int su), .val (.ref e1), .val (.int ca), .val (.ref tx), .val .null, .val (.ref ro), .unset] [(.ref ro)]))
              refine Go.by (fun t9_ q9_ => XS.aconstNull W990.here W990.hx rfl (hb hby at_286) q9_) ?_
              show Go p e below s Z [("java/lang/String", 7)] _ _ _ (T989.setTop (mkF m 287 #[.val (.int p0), .val (.int p1), .val (.int p2), .val (.int p3), .val (.int md), .val (.int se), .val (.int su), .val (.ref e1), .val (.int ca), .val (.ref tx), .val .null, .val (.ref ro), .unset] [.null, (.ref ro)]))
              refine W990.callVp (y := (⟨"java/util/Optional", "orElse", "(Ljava/lang/Object;)Ljava/lang/Object;"⟩ : MethodName)) (z := (⟨"java/util/Optional", "orElse", "(Ljava/lang/Object;)Ljava/lang/Object;"⟩ : MethodName)) (wd81 hw) (wd82 hw) (nf_sel rfl (wd84 hw)) (wd84 hw) (wd83 hw) (wd70 hw) (wd85 hw) (by decide) E2 (a := ro) (c_orelse l Z a0 hw hEL h991 W990.old ro _ rfl F2) all0 (by decide) (by decide) (k' := 8) (n' := 15) rfl rfl (by decide) (by decide) (by rw [hml]; rfl) (argsL := [.null]) (rest := []) (lenOf pd_6 rfl) rfl rfl (Wt := 0) (Nat.le_of_eq rfl) (hb hby at_287) ?_
              intro T992 W993
              show Go p e below s Z [("java/lang/String", 7)] _ _ _ (T992.setTop (mkF m 290 #[.val (.int p0), .val (.int p1), .val (.int p2), .val (.int p3), .val (.int md), .val (.int se), .val (.int su), .val (.ref e1), .val (.int ca), .val (.ref tx), .val .null, .val (.ref ro), .unset] [.null]))
              refine Go.by (fun t9_ q9_ => XS.aload W993.here W993.hx rfl (hb hby at_290) rfl rfl q9_) ?_
              show Go p e below s Z [("java/lang/String", 7)] _ _ _ (T992.setTop (mkF m 292 #[.val (.int p0), .val (.int p1), .val (.int p2), .val (.int p3), .val (.int md), .val (.int se), .val (.int su), .val (.ref e1), .val (.int ca), .val (.ref tx), .val .null, .val (.ref ro), .unset] [.null, .null]))
              refine Go.by (fun t9_ q9_ => acmpW W993 (g := (mkF m 292 #[.val (.int p0), .val (.int p1), .val (.int p2), .val (.int p3), .val (.int md), .val (.int se), .val (.int su), .val (.ref e1), .val (.int ca), .val (.ref tx), .val .null, .val (.ref ro), .unset] [.null, .null])) rfl rfl rfl (pc0 := 292) (pc' := 295) (same := true) rfl (hb hby at_292) rfl (decide_eq_true rfl) (by decide) (by decide) q9_) ?_
              show Go p e below s Z [("java/lang/String", 7)] _ _ _ (T992.setTop (mkF m 295 #[.val (.int p0), .val (.int p1), .val (.int p2), .val (.int p3), .val (.int md), .val (.int se), .val (.int su), .val (.ref e1), .val (.int ca), .val (.ref tx), .val .null, .val (.ref ro), .unset] []))
              refine Go.by (fun t9_ q9_ => XS.iconst W993.here W993.hx rfl (hb hby at_295) q9_) ?_
              show Go p e below s Z [("java/lang/String", 7)] _ _ _ (T992.setTop (mkF m 296 #[.val (.int p0), .val (.int p1), .val (.int p2), .val (.int p3), .val (.int md), .val (.int se), .val (.int su), .val (.ref e1), .val (.int ca), .val (.ref tx), .val .null, .val (.ref ro), .unset] [(.int (1 : Int32))]))
              refine Go.by (fun t9_ q9_ => XS.goto W993.here W993.hx rfl (pc0 := 296) (pc' := 300) rfl (hb hby at_296) (by decide) (by decide) q9_) ?_
              show Go p e below s Z [("java/lang/String", 7)] _ _ _ (T992.setTop (mkF m 300 #[.val (.int p0), .val (.int p1), .val (.int p2), .val (.int p3), .val (.int md), .val (.int se), .val (.int su), .val (.ref e1), .val (.int ca), .val (.ref tx), .val .null, .val (.ref ro), .unset] [(.int (1 : Int32))]))
              exact W993.retN (z' := (1 : Int32)) (by decide) (by decide) hret (by simp) (hb hby at_300) rfl rfl
            · rw [hn]
              show Go p e below s Z [("java/lang/String", 7)] _ _ _ (T894.setTop (mkF m 215 #[.val (.int p0), .val (.int p1), .val (.int p2), .val (.int p3), .val (.int md), .val (.int se), .val (.int su), .val (.ref e1), .val (.int ca), .unset, .unset, .val (.int (1 : Int32)), .unset] []))
              refine Go.by (fun t9_ q9_ => XS.iload W895.here W895.hx rfl (hb hby at_215) rfl q9_) ?_
              show Go p e below s Z [("java/lang/String", 7)] _ _ _ (T894.setTop (mkF m 217 #[.val (.int p0), .val (.int p1), .val (.int p2), .val (.int p3), .val (.int md), .val (.int se), .val (.int su), .val (.ref e1), .val (.int ca), .unset, .unset, .val (.int (1 : Int32)), .unset] [(.int (1 : Int32))]))
              refine W895.newp (aty := .char) (wd7 hw) (hb hby at_217) (by decide) (cap := 1) (by decide) (by decide) (k' := 1) (n' := 1) rfl rfl (by decide) (by decide) (ad := "[C") rfl ?_
              intro T994 h995 tx k_tx W996 E997 g_tx z_tx A_tx V_tx
              have V1_tx : Arv Z h995 tx k_tx .char (1 : Int32) [(.int (0 : Int32))] (.int (0 : Int32)) := V_tx.pad (pad_rep [] (.int (0 : Int32)) 1)
              show Go p e below s Z [("java/lang/String", 7)] _ _ _ (T994.setTop (mkF m 219 #[.val (.int p0), .val (.int p1), .val (.int p2), .val (.int p3), .val (.int md), .val (.int se), .val (.int su), .val (.ref e1), .val (.int ca), .unset, .unset, .val (.int (1 : Int32)), .unset] [(.ref tx)]))
              refine Go.by (fun t9_ q9_ => XS.astore W996.here W996.hx rfl (hb hby at_219) rfl rfl (l' := #[.val (.int p0), .val (.int p1), .val (.int p2), .val (.int p3), .val (.int md), .val (.int se), .val (.int su), .val (.ref e1), .val (.int ca), .val (.ref tx), .unset, .val (.int (1 : Int32)), .unset]) rfl q9_) ?_
              show Go p e below s Z [("java/lang/String", 7)] _ _ _ (T994.setTop (mkF m 221 #[.val (.int p0), .val (.int p1), .val (.int p2), .val (.int p3), .val (.int md), .val (.int se), .val (.int su), .val (.ref e1), .val (.int ca), .val (.ref tx), .unset, .val (.int (1 : Int32)), .unset] []))
              refine Go.by (fun t9_ q9_ => XS.iload W996.here W996.hx rfl (hb hby at_221) rfl q9_) ?_
              show Go p e below s Z [("java/lang/String", 7)] _ _ _ (T994.setTop (mkF m 223 #[.val (.int p0), .val (.int p1), .val (.int p2), .val (.int p3), .val (.int md), .val (.int se), .val (.int su), .val (.ref e1), .val (.int ca), .val (.ref tx), .unset, .val (.int (1 : Int32)), .unset] [(.int (1 : Int32))]))
              refine Go.by (fun t9_ q9_ => XS.ifNo W996.here W996.hx rfl (hb hby at_223) rfl ((if0 _ _).trans (tlt (by decide)).2.2.2) q9_) ?_
              show Go p e below s Z [("java/lang/String", 7)] _ _ _ (T994.setTop (mkF m 226 #[.val (.int p0), .val (.int p1), .val (.int p2), .val (.int p3), .val (.int md), .val (.int se), .val (.int su), .val (.ref e1), .val (.int ca), .val (.ref tx), .unset, .val (.int (1 : Int32)), .unset] []))
              refine Go.by (fun t9_ q9_ => XS.aload W996.here W996.hx rfl (hb hby at_226) rfl rfl q9_) ?_
              show Go p e below s Z [("java/lang/String", 7)] _ _ _ (T994.setTop (mkF m 228 #[.val (.int p0), .val (.int p1), .val (.int p2), .val (.int p3), .val (.int md), .val (.int se), .val (.int su), .val (.ref e1), .val (.int ca), .val (.ref tx), .unset, .val (.int (1 : Int32)), .unset] [(.ref tx)]))
              refine Go.by (fun t9_ q9_ => XS.iconst W996.here W996.hx rfl (hb hby at_228) q9_) ?_
              show Go p e below s Z [("java/lang/String", 7)] _ _ _ (T994.setTop (mkF m 229 #[.val (.int p0), .val (.int p1), .val (.int p2), .val (.int p3), .val (.int md), .val (.int se), .val (.int su), .val (.ref e1), .val (.int ca), .val (.ref tx), .unset, .val (.int (1 : Int32)), .unset] [(.int (0 : Int32)), (.ref tx)]))
              refine Go.by (fun t9_ q9_ => XS.iload W996.here W996.hx rfl (hb hby at_229) rfl q9_) ?_
              show Go p e below s Z [("java/lang/String", 7)] _ _ _ (T994.setTop (mkF m 231 #[.val (.int p0), .val (.int p1), .val (.int p2), .val (.int p3), .val (.int md), .val (.int se), .val (.int su), .val (.ref e1), .val (.int ca), .val (.ref tx), .unset, .val (.int (1 : Int32)), .unset] [(.int ca), (.int (0 : Int32)), (.ref tx)]))
              refine W996.cast_ V1_tx ⟨by decide, by decide⟩ (i := 0) rfl (by simp) (v' := ca) (nar_id (up16 r_ca)) z_tx (List.mem_of_getElem? (i := 0) rfl) (hb hby at_231) ?_
              intro T998 h999 W1000 Wr1001 V1002_tx'
              have V1002_tx : Arv Z h999 tx k_tx .char (1 : Int32) [(.int ca)] (.int (0 : Int32)) := V1002_tx'
              show Go p e below s Z [("java/lang/String", 7)] _ _ _ (T998.setTop (mkF m 232 #[.val (.int p0), .val (.int p1), .val (.int p2), .val (.int p3), .val (.int md), .val (.int se), .val (.int su), .val (.ref e1), .val (.int ca), .val (.ref tx), .unset, .val (.int (1 : Int32)), .unset] []))
              refine Go.by (fun t9_ q9_ => XS.iload W1000.here W1000.hx rfl (hb hby at_232) rfl q9_) ?_
              show Go p e below s Z [("java/lang/String", 7)] _ _ _ (T998.setTop (mkF m 234 #[.val (.int p0), .val (.int p1), .val (.int p2), .val (.int p3), .val (.int md), .val (.int se), .val (.int su), .val (.ref e1), .val (.int ca), .val (.ref tx), .unset, .val (.int (1 : Int32)), .unset] [(.int (1 : Int32))]))
              refine Go.by (fun t9_ q9_ => XS.iconst W1000.here W1000.hx rfl (hb hby at_234) q9_) ?_
              show Go p e below s Z [("java/lang/String", 7)] _ _ _ (T998.setTop (mkF m 235 #[.val (.int p0), .val (.int p1), .val (.int p2), .val (.int p3), .val (.int md), .val (.int se), .val (.int su), .val (.ref e1), .val (.int ca), .val (.ref tx), .unset, .val (.int (1 : Int32)), .unset] [(.int (1 : Int32)), (.int (1 : Int32))]))
              refine Go.by (fun t9_ q9_ => XS.icmpYes W1000.here W1000.hx rfl (pc0 := 235) (pc' := 248) rfl (hb hby at_235) rfl (flt (by decide)).2.2.2 (by decide) (by decide) q9_) ?_
              show Go p e below s Z [("java/lang/String", 7)] _ _ _ (T998.setTop (mkF m 248 #[.val (.int p0), .val (.int p1), .val (.int p2), .val (.int p3), .val (.int md), .val (.int se), .val (.int su), .val (.ref e1), .val (.int ca), .val (.ref tx), .unset, .val (.int (1 : Int32)), .unset] []))
              refine Go.by (fun t9_ q9_ => XS.iload W1000.here W1000.hx rfl (hb hby at_248) rfl q9_) ?_
              show Go p e below s Z [("java/lang/String", 7)] _ _ _ (T998.setTop (mkF m 250 #[.val (.int p0), .val (.int p1), .val (.int p2), .val (.int p3), .val (.int md), .val (.int se), .val (.int su), .val (.ref e1), .val (.int ca), .val (.ref tx), .unset, .val (.int (1 : Int32)), .unset] [(.int (1 : Int32))]))
              refine Go.by (fun t9_ q9_ => XS.iconst W1000.here W1000.hx rfl (hb hby at_250) q9_) ?_
              show Go p e below s Z [("java/lang/String", 7)] _ _ _ (T998.setTop (mkF m 251 #[.val (.int p0), .val (.int p1), .val (.int p2), .val (.int p3), .val (.int md), .val (.int se), .val (.int su), .val (.ref e1), .val (.int ca), .val (.ref tx), .unset, .val (.int (1 : Int32)), .unset] [(.int (2 : Int32)), (.int (1 : Int32))]))
              refine Go.by (fun t9_ q9_ => XS.icmpYes W1000.here W1000.hx rfl (pc0 := 251) (pc' := 267) rfl (hb hby at_251) rfl (flt (by decide)).2.2.2 (by decide) (by decide) q9_) ?_
              show Go p e below s Z [("java/lang/String", 7)] _ _ _ (T998.setTop (mkF m 267 #[.val (.int p0), .val (.int p1), .val (.int p2), .val (.int p3), .val (.int md), .val (.int se), .val (.int su), .val (.ref e1), .val (.int ca), .val (.ref tx), .unset, .val (.int (1 : Int32)), .unset] []))
              refine Go.by (fun t9_ q9_ => XS.aconstNull W1000.here W1000.hx rfl (hb hby at_267) q9_) ?_
              show Go p e below s Z [("java/lang/String", 7)] _ _ _ (T998.setTop (mkF m 268 #[.val (.int p0), .val (.int p1), .val (.int p2), .val (.int p3), .val (.int md), .val (.int se), .val (.int su), .val (.ref e1), .val (.int ca), .val (.ref tx), .unset, .val (.int (1 : Int32)), .unset] [.null]))
              refine Go.by (fun t9_ q9_ => XS.astore W1000.here W1000.hx rfl (hb hby at_268) rfl rfl (l' := #[.val (.int p0), .val (.int p1), .val (.int p2), .val (.int p3), .val (.int md), .val (.int se), .val (.int su), .val (.ref e1), .val (.int ca), .val (.ref tx), .val .null, .val (.int (1 : Int32)), .unset]) rfl q9_) ?_
              show Go p e below s Z [("java/lang/String", 7)] _ _ _ (T998.setTop (mkF m 270 #[.val (.int p0), .val (.int p1), .val (.int p2), .val (.int p3), .val (.int md), .val (.int se), .val (.int su), .val (.ref e1), .val (.int ca), .val (.ref tx), .val .null, .val (.int (1 : Int32)), .unset] []))
              refine W1000.new (wd8 hw) (wd9 hw) (wd10 hw) (hb hby at_270) (k' := 2) (n' := 5) rfl rfl (by decide) (by decide) ?_
              intro T1003 h1004 st W1005 E1006 g_st z_st A_st D_st
              have F_coder_st : Fld Z h1004 st "java/lang/String" "coder" "B" (.int (0 : Int32)) := D_st (Or.inr (wd34 hw)) (ty := .byte) (by decide)
              have F_value_st : Fld Z h1004 st "java/lang/String" "value" "[B" .null := D_st (Or.inr (wd36 hw)) (ty := (.array .byte)) (by decide)
              show Go p e below s Z [("java/lang/String", 7)] _ _ _ (T1003.setTop (mkF m 273 #[.val (.int p0), .val (.int p1), .val (.int p2), .val (.int p3), .val (.int md), .val (.int se), .val (.int su), .val (.ref e1), .val (.int ca), .val (.ref tx), .val .null, .val (.int (1 : Int32)), .unset] [(.ref st)]))
              refine Go.by (fun t9_ q9_ => XS.dup W1005.here W1005.hx rfl (hb hby at_273) rfl rfl q9_) ?_
              show Go p e below s Z [("java/lang/String", 7)] _ _ _ (T1003.setTop (mkF m 274 #[.val (.int p0), .val (.int p1), .val (.int p2), .val (.int p3), .val (.int md), .val (.int se), .val (.int su), .val (.ref e1), .val (.int ca), .val (.ref tx), .val .null, .val (.int (1 : Int32)), .unset] [(.ref st), (.ref st)]))
              refine Go.by (fun t9_ q9_ => XS.aload W1005.here W1005.hx rfl (hb hby at_274) rfl rfl q9_) ?_
              show Go p e below s Z [("java/lang/String", 7)] _ _ _ (T1003.setTop (mkF m 276 #[.val (.int p0), .val (.int p1), .val (.int p2), .val (.int p3), .val (.int md), .val (.int se), .val (.int su), .val (.ref e1), .val (.int ca), .val (.ref tx), .val .null, .val (.int (1 : Int32)), .unset] [(.ref tx), (.ref st), (.ref st)]))
              refine W1005.strV (cs := [ca]) (k_words hw) (wd9 hw) (wd11 hw) (wd12 hw) A_st F_value_st F_coder_st (V1002_tx.ext E1006) (SG1.ext W1005.old) hG (q := 1) rfl rfl (by decide) (by decide) (by intro c hc; simp only [List.mem_cons, List.not_mem_nil, or_false] at hc; rcases hc with rfl <;> first | exact r_ca | exact k_mask _) z_st (List.mem_of_getElem? (i := 0) rfl) (by decide) (Wt := 1) (by decide) (k' := 3) (n' := 6) rfl rfl (by decide) (by decide) (by rw [hml]; rfl) (Nat.le_of_eq rfl) (hb hby at_276) ?_
              intro T1007 h1008 W1009 K1010 S_st
              show Go p e below s Z [("java/lang/String", 7)] _ _ _ (T1007.setTop (mkF m 279 #[.val (.int p0), .val (.int p1), .val (.int p2), .val (.int p3), .val (.int md), .val (.int se), .val (.int su), .val (.ref e1), .val (.int ca), .val (.ref tx), .val .null, .val (.int (1 : Int32)), .unset] [(.ref st)]))
              have hxp : namF [ca] e0 e1 = .null := nam_null (by simp) (by simp)
              refine W1009.callS (y := (⟨"com/example/proof_to_token/prooftotoken/config/Sociability", "named", "(Ljava/lang/String;)Ljava/util/Optional;"⟩ : MethodName)) (wd37 hw) (wd38 hw) (wd1 hw) (wd39 hw) (by decide) (c_named l Z a0 hw hEL h1008 W1009.old st _ G1 av e0 e1 t0 t1 em kv SG1 hG SV AV XV FW0 FW1 S0 S1 SE EE FE S_st (by simp)) all0 (by decide) (by decide) (k' := 5) (n' := 9) rfl rfl (by decide) (by decide) (by rw [hml]; rfl) (argsL := [(.ref st)]) (rest := []) (lenOf pd_5 rfl) rfl rfl (Wt := 0) (Nat.le_of_eq rfl) (hb hby at_279) ?_
              intro v_ T1011 h1013 W1012 hq_
              obtain ⟨ro, rfl, X2, E2, F2⟩ := hq_
              rw [hxp] at F2
              show Go p e below s Z [("java/lang/String", 7)] _ _ _ (T1011.setTop (mkF m 282 #[.val (.int p0), .val (.int p1), .val (.int p2), .val (.int p3), .val (.int md), .val (.int se), .val (.int su), .val (.ref e1), .val (.int ca), .val (.ref tx), .val .null, .val (.int (1 : Int32)), .unset] [(.ref ro)]))
              refine Go.by (fun t9_ q9_ => XS.astore W1012.here W1012.hx rfl (hb hby at_282) rfl rfl (l' := #[.val (.int p0), .val (.int p1), .val (.int p2), .val (.int p3), .val (.int md), .val (.int se), .val (.int su), .val (.ref e1), .val (.int ca), .val (.ref tx), .val .null, .val (.ref ro), .unset]) rfl q9_) ?_
              show Go p e below s Z [("java/lang/String", 7)] _ _ _ (T1011.setTop (mkF m 284 #[.val (.int p0), .val (.int p1), .val (.int p2), .val (.int p3), .val (.int md), .val (.int se), .val (.int su), .val (.ref e1), .val (.int ca), .val (.ref tx), .val .null, .val (.ref ro), .unset] []))
              refine Go.by (fun t9_ q9_ => XS.aload W1012.here W1012.hx rfl (hb hby at_284) rfl rfl q9_) ?_
              show Go p e below s Z [("java/lang/String", 7)] _ _ _ (T1011.setTop (mkF m 286 #[.val (.int p0), .val (.int p1), .val (.int p2), .val (.int p3), .val (.int md), .val (.int se), .val (.int su), .val (.ref e1), .val (.int ca), .val (.ref tx), .val .null, .val (.ref ro), .unset] [(.ref ro)]))
              refine Go.by (fun t9_ q9_ => XS.aconstNull W1012.here W1012.hx rfl (hb hby at_286) q9_) ?_
              show Go p e below s Z [("java/lang/String", 7)] _ _ _ (T1011.setTop (mkF m 287 #[.val (.int p0), .val (.int p1), .val (.int p2), .val (.int p3), .val (.int md), .val (.int se), .val (.int su), .val (.ref e1), .val (.int ca), .val (.ref tx), .val .null, .val (.ref ro), .unset] [.null, (.ref ro)]))
              refine W1012.callVp (y := (⟨"java/util/Optional", "orElse", "(Ljava/lang/Object;)Ljava/lang/Object;"⟩ : MethodName)) (z := (⟨"java/util/Optional", "orElse", "(Ljava/lang/Object;)Ljava/lang/Object;"⟩ : MethodName)) (wd81 hw) (wd82 hw) (nf_sel rfl (wd84 hw)) (wd84 hw) (wd83 hw) (wd70 hw) (wd85 hw) (by decide) E2 (a := ro) (c_orelse l Z a0 hw hEL h1013 W1012.old ro _ rfl F2) all0 (by decide) (by decide) (k' := 5) (n' := 9) rfl rfl (by decide) (by decide) (by rw [hml]; rfl) (argsL := [.null]) (rest := []) (lenOf pd_6 rfl) rfl rfl (Wt := 0) (Nat.le_of_eq rfl) (hb hby at_287) ?_
              intro T1014 W1015
              show Go p e below s Z [("java/lang/String", 7)] _ _ _ (T1014.setTop (mkF m 290 #[.val (.int p0), .val (.int p1), .val (.int p2), .val (.int p3), .val (.int md), .val (.int se), .val (.int su), .val (.ref e1), .val (.int ca), .val (.ref tx), .val .null, .val (.ref ro), .unset] [.null]))
              refine Go.by (fun t9_ q9_ => XS.aload W1015.here W1015.hx rfl (hb hby at_290) rfl rfl q9_) ?_
              show Go p e below s Z [("java/lang/String", 7)] _ _ _ (T1014.setTop (mkF m 292 #[.val (.int p0), .val (.int p1), .val (.int p2), .val (.int p3), .val (.int md), .val (.int se), .val (.int su), .val (.ref e1), .val (.int ca), .val (.ref tx), .val .null, .val (.ref ro), .unset] [.null, .null]))
              refine Go.by (fun t9_ q9_ => acmpW W1015 (g := (mkF m 292 #[.val (.int p0), .val (.int p1), .val (.int p2), .val (.int p3), .val (.int md), .val (.int se), .val (.int su), .val (.ref e1), .val (.int ca), .val (.ref tx), .val .null, .val (.ref ro), .unset] [.null, .null])) rfl rfl rfl (pc0 := 292) (pc' := 295) (same := true) rfl (hb hby at_292) rfl (decide_eq_true rfl) (by decide) (by decide) q9_) ?_
              show Go p e below s Z [("java/lang/String", 7)] _ _ _ (T1014.setTop (mkF m 295 #[.val (.int p0), .val (.int p1), .val (.int p2), .val (.int p3), .val (.int md), .val (.int se), .val (.int su), .val (.ref e1), .val (.int ca), .val (.ref tx), .val .null, .val (.ref ro), .unset] []))
              refine Go.by (fun t9_ q9_ => XS.iconst W1015.here W1015.hx rfl (hb hby at_295) q9_) ?_
              show Go p e below s Z [("java/lang/String", 7)] _ _ _ (T1014.setTop (mkF m 296 #[.val (.int p0), .val (.int p1), .val (.int p2), .val (.int p3), .val (.int md), .val (.int se), .val (.int su), .val (.ref e1), .val (.int ca), .val (.ref tx), .val .null, .val (.ref ro), .unset] [(.int (1 : Int32))]))
              refine Go.by (fun t9_ q9_ => XS.goto W1015.here W1015.hx rfl (pc0 := 296) (pc' := 300) rfl (hb hby at_296) (by decide) (by decide) q9_) ?_
              show Go p e below s Z [("java/lang/String", 7)] _ _ _ (T1014.setTop (mkF m 300 #[.val (.int p0), .val (.int p1), .val (.int p2), .val (.int p3), .val (.int md), .val (.int se), .val (.int su), .val (.ref e1), .val (.int ca), .val (.ref tx), .val .null, .val (.ref ro), .unset] [(.int (1 : Int32))]))
              exact W1015.retN (z' := (1 : Int32)) (by decide) (by decide) hret (by simp) (hb hby at_300) rfl rfl
            · rw [hn]
              show Go p e below s Z [("java/lang/String", 7)] _ _ _ (T894.setTop (mkF m 215 #[.val (.int p0), .val (.int p1), .val (.int p2), .val (.int p3), .val (.int md), .val (.int se), .val (.int su), .val (.ref e1), .val (.int ca), .unset, .unset, .val (.int (2 : Int32)), .unset] []))
              refine Go.by (fun t9_ q9_ => XS.iload W895.here W895.hx rfl (hb hby at_215) rfl q9_) ?_
              show Go p e below s Z [("java/lang/String", 7)] _ _ _ (T894.setTop (mkF m 217 #[.val (.int p0), .val (.int p1), .val (.int p2), .val (.int p3), .val (.int md), .val (.int se), .val (.int su), .val (.ref e1), .val (.int ca), .unset, .unset, .val (.int (2 : Int32)), .unset] [(.int (2 : Int32))]))
              refine W895.newp (aty := .char) (wd7 hw) (hb hby at_217) (by decide) (cap := 2) (by decide) (by decide) (k' := 1) (n' := 2) rfl rfl (by decide) (by decide) (ad := "[C") rfl ?_
              intro T1016 h1017 tx k_tx W1018 E1019 g_tx z_tx A_tx V_tx
              have V1_tx : Arv Z h1017 tx k_tx .char (2 : Int32) [(.int (0 : Int32)), (.int (0 : Int32))] (.int (0 : Int32)) := V_tx.pad (pad_rep [] (.int (0 : Int32)) 2)
              show Go p e below s Z [("java/lang/String", 7)] _ _ _ (T1016.setTop (mkF m 219 #[.val (.int p0), .val (.int p1), .val (.int p2), .val (.int p3), .val (.int md), .val (.int se), .val (.int su), .val (.ref e1), .val (.int ca), .unset, .unset, .val (.int (2 : Int32)), .unset] [(.ref tx)]))
              refine Go.by (fun t9_ q9_ => XS.astore W1018.here W1018.hx rfl (hb hby at_219) rfl rfl (l' := #[.val (.int p0), .val (.int p1), .val (.int p2), .val (.int p3), .val (.int md), .val (.int se), .val (.int su), .val (.ref e1), .val (.int ca), .val (.ref tx), .unset, .val (.int (2 : Int32)), .unset]) rfl q9_) ?_
              show Go p e below s Z [("java/lang/String", 7)] _ _ _ (T1016.setTop (mkF m 221 #[.val (.int p0), .val (.int p1), .val (.int p2), .val (.int p3), .val (.int md), .val (.int se), .val (.int su), .val (.ref e1), .val (.int ca), .val (.ref tx), .unset, .val (.int (2 : Int32)), .unset] []))
              refine Go.by (fun t9_ q9_ => XS.iload W1018.here W1018.hx rfl (hb hby at_221) rfl q9_) ?_
              show Go p e below s Z [("java/lang/String", 7)] _ _ _ (T1016.setTop (mkF m 223 #[.val (.int p0), .val (.int p1), .val (.int p2), .val (.int p3), .val (.int md), .val (.int se), .val (.int su), .val (.ref e1), .val (.int ca), .val (.ref tx), .unset, .val (.int (2 : Int32)), .unset] [(.int (2 : Int32))]))
              refine Go.by (fun t9_ q9_ => XS.ifNo W1018.here W1018.hx rfl (hb hby at_223) rfl ((if0 _ _).trans (tlt (by decide)).2.2.2) q9_) ?_
              show Go p e below s Z [("java/lang/String", 7)] _ _ _ (T1016.setTop (mkF m 226 #[.val (.int p0), .val (.int p1), .val (.int p2), .val (.int p3), .val (.int md), .val (.int se), .val (.int su), .val (.ref e1), .val (.int ca), .val (.ref tx), .unset, .val (.int (2 : Int32)), .unset] []))
              refine Go.by (fun t9_ q9_ => XS.aload W1018.here W1018.hx rfl (hb hby at_226) rfl rfl q9_) ?_
              show Go p e below s Z [("java/lang/String", 7)] _ _ _ (T1016.setTop (mkF m 228 #[.val (.int p0), .val (.int p1), .val (.int p2), .val (.int p3), .val (.int md), .val (.int se), .val (.int su), .val (.ref e1), .val (.int ca), .val (.ref tx), .unset, .val (.int (2 : Int32)), .unset] [(.ref tx)]))
              refine Go.by (fun t9_ q9_ => XS.iconst W1018.here W1018.hx rfl (hb hby at_228) q9_) ?_
              show Go p e below s Z [("java/lang/String", 7)] _ _ _ (T1016.setTop (mkF m 229 #[.val (.int p0), .val (.int p1), .val (.int p2), .val (.int p3), .val (.int md), .val (.int se), .val (.int su), .val (.ref e1), .val (.int ca), .val (.ref tx), .unset, .val (.int (2 : Int32)), .unset] [(.int (0 : Int32)), (.ref tx)]))
              refine Go.by (fun t9_ q9_ => XS.iload W1018.here W1018.hx rfl (hb hby at_229) rfl q9_) ?_
              show Go p e below s Z [("java/lang/String", 7)] _ _ _ (T1016.setTop (mkF m 231 #[.val (.int p0), .val (.int p1), .val (.int p2), .val (.int p3), .val (.int md), .val (.int se), .val (.int su), .val (.ref e1), .val (.int ca), .val (.ref tx), .unset, .val (.int (2 : Int32)), .unset] [(.int ca), (.int (0 : Int32)), (.ref tx)]))
              refine W1018.cast_ V1_tx ⟨by decide, by decide⟩ (i := 0) rfl (by simp) (v' := ca) (nar_id (up16 r_ca)) z_tx (List.mem_of_getElem? (i := 0) rfl) (hb hby at_231) ?_
              intro T1020 h1021 W1022 Wr1023 V1024_tx'
              have V1024_tx : Arv Z h1021 tx k_tx .char (2 : Int32) [(.int ca), (.int (0 : Int32))] (.int (0 : Int32)) := V1024_tx'
              show Go p e below s Z [("java/lang/String", 7)] _ _ _ (T1020.setTop (mkF m 232 #[.val (.int p0), .val (.int p1), .val (.int p2), .val (.int p3), .val (.int md), .val (.int se), .val (.int su), .val (.ref e1), .val (.int ca), .val (.ref tx), .unset, .val (.int (2 : Int32)), .unset] []))
              refine Go.by (fun t9_ q9_ => XS.iload W1022.here W1022.hx rfl (hb hby at_232) rfl q9_) ?_
              show Go p e below s Z [("java/lang/String", 7)] _ _ _ (T1020.setTop (mkF m 234 #[.val (.int p0), .val (.int p1), .val (.int p2), .val (.int p3), .val (.int md), .val (.int se), .val (.int su), .val (.ref e1), .val (.int ca), .val (.ref tx), .unset, .val (.int (2 : Int32)), .unset] [(.int (2 : Int32))]))
              refine Go.by (fun t9_ q9_ => XS.iconst W1022.here W1022.hx rfl (hb hby at_234) q9_) ?_
              show Go p e below s Z [("java/lang/String", 7)] _ _ _ (T1020.setTop (mkF m 235 #[.val (.int p0), .val (.int p1), .val (.int p2), .val (.int p3), .val (.int md), .val (.int se), .val (.int su), .val (.ref e1), .val (.int ca), .val (.ref tx), .unset, .val (.int (2 : Int32)), .unset] [(.int (1 : Int32)), (.int (2 : Int32))]))
              refine Go.by (fun t9_ q9_ => XS.icmpNo W1022.here W1022.hx rfl (hb hby at_235) rfl (tlt (by decide)).2.2.2 q9_) ?_
              show Go p e below s Z [("java/lang/String", 7)] _ _ _ (T1020.setTop (mkF m 238 #[.val (.int p0), .val (.int p1), .val (.int p2), .val (.int p3), .val (.int md), .val (.int se), .val (.int su), .val (.ref e1), .val (.int ca), .val (.ref tx), .unset, .val (.int (2 : Int32)), .unset] []))
              refine Go.by (fun t9_ q9_ => XS.aload W1022.here W1022.hx rfl (hb hby at_238) rfl rfl q9_) ?_
              show Go p e below s Z [("java/lang/String", 7)] _ _ _ (T1020.setTop (mkF m 240 #[.val (.int p0), .val (.int p1), .val (.int p2), .val (.int p3), .val (.int md), .val (.int se), .val (.int su), .val (.ref e1), .val (.int ca), .val (.ref tx), .unset, .val (.int (2 : Int32)), .unset] [(.ref tx)]))
              refine Go.by (fun t9_ q9_ => XS.iconst W1022.here W1022.hx rfl (hb hby at_240) q9_) ?_
              show Go p e below s Z [("java/lang/String", 7)] _ _ _ (T1020.setTop (mkF m 241 #[.val (.int p0), .val (.int p1), .val (.int p2), .val (.int p3), .val (.int md), .val (.int se), .val (.int su), .val (.ref e1), .val (.int ca), .val (.ref tx), .unset, .val (.int (2 : Int32)), .unset] [(.int (1 : Int32)), (.ref tx)]))
              refine Go.by (fun t9_ q9_ => XS.iloadN W1022.here W1022.hx rfl (hb hby at_241) rfl q9_) ?_
              show Go p e below s Z [("java/lang/String", 7)] _ _ _ (T1020.setTop (mkF m 242 #[.val (.int p0), .val (.int p1), .val (.int p2), .val (.int p3), .val (.int md), .val (.int se), .val (.int su), .val (.ref e1), .val (.int ca), .val (.ref tx), .unset, .val (.int (2 : Int32)), .unset] [(.int p3), (.int (1 : Int32)), (.ref tx)]))
              refine Go.by (fun t9_ q9_ => XS.sipush W1022.here W1022.hx rfl (hb hby at_242) q9_) ?_
              show Go p e below s Z [("java/lang/String", 7)] _ _ _ (T1020.setTop (mkF m 245 #[.val (.int p0), .val (.int p1), .val (.int p2), .val (.int p3), .val (.int md), .val (.int se), .val (.int su), .val (.ref e1), .val (.int ca), .val (.ref tx), .unset, .val (.int (2 : Int32)), .unset] [(.int (255 : Int32)), (.int p3), (.int (1 : Int32)), (.ref tx)]))
              refine Go.by (fun t9_ q9_ => XS.iand W1022.here W1022.hx rfl (hb hby at_245) rfl q9_) ?_
              show Go p e below s Z [("java/lang/String", 7)] _ _ _ (T1020.setTop (mkF m 246 #[.val (.int p0), .val (.int p1), .val (.int p2), .val (.int p3), .val (.int md), .val (.int se), .val (.int su), .val (.ref e1), .val (.int ca), .val (.ref tx), .unset, .val (.int (2 : Int32)), .unset] [(.int (p3 &&& (255 : Int32))), (.int (1 : Int32)), (.ref tx)]))
              refine Go.by (fun t9_ q9_ => XS.i2c W1022.here W1022.hx rfl (hb hby at_246) rfl q9_) ?_
              show Go p e below s Z [("java/lang/String", 7)] _ _ _ (T1020.setTop (mkF m 247 #[.val (.int p0), .val (.int p1), .val (.int p2), .val (.int p3), .val (.int md), .val (.int se), .val (.int su), .val (.ref e1), .val (.int ca), .val (.ref tx), .unset, .val (.int (2 : Int32)), .unset] [(.int ((p3 &&& (255 : Int32)).toUInt32.toUInt16.toUInt32.toInt32)), (.int (1 : Int32)), (.ref tx)]))
              refine W1022.cast_ V1024_tx ⟨by decide, by decide⟩ (i := 1) rfl (by simp) (v' := ((p3 &&& (255 : Int32)).toUInt32.toUInt16.toUInt32.toInt32)) (k_nar _) z_tx (List.mem_of_getElem? (i := 0) rfl) (hb hby at_247) ?_
              intro T1025 h1026 W1027 Wr1028 V1029_tx'
              have V1029_tx : Arv Z h1026 tx k_tx .char (2 : Int32) [(.int ca), (.int ((p3 &&& (255 : Int32)).toUInt32.toUInt16.toUInt32.toInt32))] (.int (0 : Int32)) := V1029_tx'
              show Go p e below s Z [("java/lang/String", 7)] _ _ _ (T1025.setTop (mkF m 248 #[.val (.int p0), .val (.int p1), .val (.int p2), .val (.int p3), .val (.int md), .val (.int se), .val (.int su), .val (.ref e1), .val (.int ca), .val (.ref tx), .unset, .val (.int (2 : Int32)), .unset] []))
              refine Go.by (fun t9_ q9_ => XS.iload W1027.here W1027.hx rfl (hb hby at_248) rfl q9_) ?_
              show Go p e below s Z [("java/lang/String", 7)] _ _ _ (T1025.setTop (mkF m 250 #[.val (.int p0), .val (.int p1), .val (.int p2), .val (.int p3), .val (.int md), .val (.int se), .val (.int su), .val (.ref e1), .val (.int ca), .val (.ref tx), .unset, .val (.int (2 : Int32)), .unset] [(.int (2 : Int32))]))
              refine Go.by (fun t9_ q9_ => XS.iconst W1027.here W1027.hx rfl (hb hby at_250) q9_) ?_
              show Go p e below s Z [("java/lang/String", 7)] _ _ _ (T1025.setTop (mkF m 251 #[.val (.int p0), .val (.int p1), .val (.int p2), .val (.int p3), .val (.int md), .val (.int se), .val (.int su), .val (.ref e1), .val (.int ca), .val (.ref tx), .unset, .val (.int (2 : Int32)), .unset] [(.int (2 : Int32)), (.int (2 : Int32))]))
              refine Go.by (fun t9_ q9_ => XS.icmpYes W1027.here W1027.hx rfl (pc0 := 251) (pc' := 267) rfl (hb hby at_251) rfl (flt (by decide)).2.2.2 (by decide) (by decide) q9_) ?_
              show Go p e below s Z [("java/lang/String", 7)] _ _ _ (T1025.setTop (mkF m 267 #[.val (.int p0), .val (.int p1), .val (.int p2), .val (.int p3), .val (.int md), .val (.int se), .val (.int su), .val (.ref e1), .val (.int ca), .val (.ref tx), .unset, .val (.int (2 : Int32)), .unset] []))
              refine Go.by (fun t9_ q9_ => XS.aconstNull W1027.here W1027.hx rfl (hb hby at_267) q9_) ?_
              show Go p e below s Z [("java/lang/String", 7)] _ _ _ (T1025.setTop (mkF m 268 #[.val (.int p0), .val (.int p1), .val (.int p2), .val (.int p3), .val (.int md), .val (.int se), .val (.int su), .val (.ref e1), .val (.int ca), .val (.ref tx), .unset, .val (.int (2 : Int32)), .unset] [.null]))
              refine Go.by (fun t9_ q9_ => XS.astore W1027.here W1027.hx rfl (hb hby at_268) rfl rfl (l' := #[.val (.int p0), .val (.int p1), .val (.int p2), .val (.int p3), .val (.int md), .val (.int se), .val (.int su), .val (.ref e1), .val (.int ca), .val (.ref tx), .val .null, .val (.int (2 : Int32)), .unset]) rfl q9_) ?_
              show Go p e below s Z [("java/lang/String", 7)] _ _ _ (T1025.setTop (mkF m 270 #[.val (.int p0), .val (.int p1), .val (.int p2), .val (.int p3), .val (.int md), .val (.int se), .val (.int su), .val (.ref e1), .val (.int ca), .val (.ref tx), .val .null, .val (.int (2 : Int32)), .unset] []))
              refine W1027.new (wd8 hw) (wd9 hw) (wd10 hw) (hb hby at_270) (k' := 2) (n' := 6) rfl rfl (by decide) (by decide) ?_
              intro T1030 h1031 st W1032 E1033 g_st z_st A_st D_st
              have F_coder_st : Fld Z h1031 st "java/lang/String" "coder" "B" (.int (0 : Int32)) := D_st (Or.inr (wd34 hw)) (ty := .byte) (by decide)
              have F_value_st : Fld Z h1031 st "java/lang/String" "value" "[B" .null := D_st (Or.inr (wd36 hw)) (ty := (.array .byte)) (by decide)
              show Go p e below s Z [("java/lang/String", 7)] _ _ _ (T1030.setTop (mkF m 273 #[.val (.int p0), .val (.int p1), .val (.int p2), .val (.int p3), .val (.int md), .val (.int se), .val (.int su), .val (.ref e1), .val (.int ca), .val (.ref tx), .val .null, .val (.int (2 : Int32)), .unset] [(.ref st)]))
              refine Go.by (fun t9_ q9_ => XS.dup W1032.here W1032.hx rfl (hb hby at_273) rfl rfl q9_) ?_
              show Go p e below s Z [("java/lang/String", 7)] _ _ _ (T1030.setTop (mkF m 274 #[.val (.int p0), .val (.int p1), .val (.int p2), .val (.int p3), .val (.int md), .val (.int se), .val (.int su), .val (.ref e1), .val (.int ca), .val (.ref tx), .val .null, .val (.int (2 : Int32)), .unset] [(.ref st), (.ref st)]))
              refine Go.by (fun t9_ q9_ => XS.aload W1032.here W1032.hx rfl (hb hby at_274) rfl rfl q9_) ?_
              show Go p e below s Z [("java/lang/String", 7)] _ _ _ (T1030.setTop (mkF m 276 #[.val (.int p0), .val (.int p1), .val (.int p2), .val (.int p3), .val (.int md), .val (.int se), .val (.int su), .val (.ref e1), .val (.int ca), .val (.ref tx), .val .null, .val (.int (2 : Int32)), .unset] [(.ref tx), (.ref st), (.ref st)]))
              refine W1032.strV (cs := [ca, ((p3 &&& (255 : Int32)).toUInt32.toUInt16.toUInt32.toInt32)]) (k_words hw) (wd9 hw) (wd11 hw) (wd12 hw) A_st F_value_st F_coder_st (V1029_tx.ext E1033) (SG1.ext W1032.old) hG (q := 2) rfl rfl (by decide) (by decide) (by intro c hc; simp only [List.mem_cons, List.not_mem_nil, or_false] at hc; rcases hc with rfl | rfl <;> first | exact r_ca | exact k_mask _) z_st (List.mem_of_getElem? (i := 0) rfl) (by decide) (Wt := 1) (by decide) (k' := 3) (n' := 8) rfl rfl (by decide) (by decide) (by rw [hml]; rfl) (Nat.le_of_eq rfl) (hb hby at_276) ?_
              intro T1034 h1035 W1036 K1037 S_st
              show Go p e below s Z [("java/lang/String", 7)] _ _ _ (T1034.setTop (mkF m 279 #[.val (.int p0), .val (.int p1), .val (.int p2), .val (.int p3), .val (.int md), .val (.int se), .val (.int su), .val (.ref e1), .val (.int ca), .val (.ref tx), .val .null, .val (.int (2 : Int32)), .unset] [(.ref st)]))
              have hxp : namF [ca, ((p3 &&& (255 : Int32)).toUInt32.toUInt16.toUInt32.toInt32)] e0 e1 = .null := nam_null (by simp) (by simp)
              refine W1036.callS (y := (⟨"com/example/proof_to_token/prooftotoken/config/Sociability", "named", "(Ljava/lang/String;)Ljava/util/Optional;"⟩ : MethodName)) (wd37 hw) (wd38 hw) (wd1 hw) (wd39 hw) (by decide) (c_named l Z a0 hw hEL h1035 W1036.old st _ G1 av e0 e1 t0 t1 em kv SG1 hG SV AV XV FW0 FW1 S0 S1 SE EE FE S_st (by simp)) all0 (by decide) (by decide) (k' := 5) (n' := 11) rfl rfl (by decide) (by decide) (by rw [hml]; rfl) (argsL := [(.ref st)]) (rest := []) (lenOf pd_5 rfl) rfl rfl (Wt := 0) (Nat.le_of_eq rfl) (hb hby at_279) ?_
              intro v_ T1038 h1040 W1039 hq_
              obtain ⟨ro, rfl, X2, E2, F2⟩ := hq_
              rw [hxp] at F2
              show Go p e below s Z [("java/lang/String", 7)] _ _ _ (T1038.setTop (mkF m 282 #[.val (.int p0), .val (.int p1), .val (.int p2), .val (.int p3), .val (.int md), .val (.int se), .val (.int su), .val (.ref e1), .val (.int ca), .val (.ref tx), .val .null, .val (.int (2 : Int32)), .unset] [(.ref ro)]))
              refine Go.by (fun t9_ q9_ => XS.astore W1039.here W1039.hx rfl (hb hby at_282) rfl rfl (l' := #[.val (.int p0), .val (.int p1), .val (.int p2), .val (.int p3), .val (.int md), .val (.int se), .val (.int su), .val (.ref e1), .val (.int ca), .val (.ref tx), .val .null, .val (.ref ro), .unset]) rfl q9_) ?_
              show Go p e below s Z [("java/lang/String", 7)] _ _ _ (T1038.setTop (mkF m 284 #[.val (.int p0), .val (.int p1), .val (.int p2), .val (.int p3), .val (.int md), .val (.int se), .val (.int su), .val (.ref e1), .val (.int ca), .val (.ref tx), .val .null, .val (.ref ro), .unset] []))
              refine Go.by (fun t9_ q9_ => XS.aload W1039.here W1039.hx rfl (hb hby at_284) rfl rfl q9_) ?_
              show Go p e below s Z [("java/lang/String", 7)] _ _ _ (T1038.setTop (mkF m 286 #[.val (.int p0), .val (.int p1), .val (.int p2), .val (.int p3), .val (.int md), .val (.int se), .val (.int su), .val (.ref e1), .val (.int ca), .val (.ref tx), .val .null, .val (.ref ro), .unset] [(.ref ro)]))
              refine Go.by (fun t9_ q9_ => XS.aconstNull W1039.here W1039.hx rfl (hb hby at_286) q9_) ?_
              show Go p e below s Z [("java/lang/String", 7)] _ _ _ (T1038.setTop (mkF m 287 #[.val (.int p0), .val (.int p1), .val (.int p2), .val (.int p3), .val (.int md), .val (.int se), .val (.int su), .val (.ref e1), .val (.int ca), .val (.ref tx), .val .null, .val (.ref ro), .unset] [.null, (.ref ro)]))
              refine W1039.callVp (y := (⟨"java/util/Optional", "orElse", "(Ljava/lang/Object;)Ljava/lang/Object;"⟩ : MethodName)) (z := (⟨"java/util/Optional", "orElse", "(Ljava/lang/Object;)Ljava/lang/Object;"⟩ : MethodName)) (wd81 hw) (wd82 hw) (nf_sel rfl (wd84 hw)) (wd84 hw) (wd83 hw) (wd70 hw) (wd85 hw) (by decide) E2 (a := ro) (c_orelse l Z a0 hw hEL h1040 W1039.old ro _ rfl F2) all0 (by decide) (by decide) (k' := 5) (n' := 11) rfl rfl (by decide) (by decide) (by rw [hml]; rfl) (argsL := [.null]) (rest := []) (lenOf pd_6 rfl) rfl rfl (Wt := 0) (Nat.le_of_eq rfl) (hb hby at_287) ?_
              intro T1041 W1042
              show Go p e below s Z [("java/lang/String", 7)] _ _ _ (T1041.setTop (mkF m 290 #[.val (.int p0), .val (.int p1), .val (.int p2), .val (.int p3), .val (.int md), .val (.int se), .val (.int su), .val (.ref e1), .val (.int ca), .val (.ref tx), .val .null, .val (.ref ro), .unset] [.null]))
              refine Go.by (fun t9_ q9_ => XS.aload W1042.here W1042.hx rfl (hb hby at_290) rfl rfl q9_) ?_
              show Go p e below s Z [("java/lang/String", 7)] _ _ _ (T1041.setTop (mkF m 292 #[.val (.int p0), .val (.int p1), .val (.int p2), .val (.int p3), .val (.int md), .val (.int se), .val (.int su), .val (.ref e1), .val (.int ca), .val (.ref tx), .val .null, .val (.ref ro), .unset] [.null, .null]))
              refine Go.by (fun t9_ q9_ => acmpW W1042 (g := (mkF m 292 #[.val (.int p0), .val (.int p1), .val (.int p2), .val (.int p3), .val (.int md), .val (.int se), .val (.int su), .val (.ref e1), .val (.int ca), .val (.ref tx), .val .null, .val (.ref ro), .unset] [.null, .null])) rfl rfl rfl (pc0 := 292) (pc' := 295) (same := true) rfl (hb hby at_292) rfl (decide_eq_true rfl) (by decide) (by decide) q9_) ?_
              show Go p e below s Z [("java/lang/String", 7)] _ _ _ (T1041.setTop (mkF m 295 #[.val (.int p0), .val (.int p1), .val (.int p2), .val (.int p3), .val (.int md), .val (.int se), .val (.int su), .val (.ref e1), .val (.int ca), .val (.ref tx), .val .null, .val (.ref ro), .unset] []))
              refine Go.by (fun t9_ q9_ => XS.iconst W1042.here W1042.hx rfl (hb hby at_295) q9_) ?_
              show Go p e below s Z [("java/lang/String", 7)] _ _ _ (T1041.setTop (mkF m 296 #[.val (.int p0), .val (.int p1), .val (.int p2), .val (.int p3), .val (.int md), .val (.int se), .val (.int su), .val (.ref e1), .val (.int ca), .val (.ref tx), .val .null, .val (.ref ro), .unset] [(.int (1 : Int32))]))
              refine Go.by (fun t9_ q9_ => XS.goto W1042.here W1042.hx rfl (pc0 := 296) (pc' := 300) rfl (hb hby at_296) (by decide) (by decide) q9_) ?_
              show Go p e below s Z [("java/lang/String", 7)] _ _ _ (T1041.setTop (mkF m 300 #[.val (.int p0), .val (.int p1), .val (.int p2), .val (.int p3), .val (.int md), .val (.int se), .val (.int su), .val (.ref e1), .val (.int ca), .val (.ref tx), .val .null, .val (.ref ro), .unset] [(.int (1 : Int32))]))
              exact W1042.retN (z' := (1 : Int32)) (by decide) (by decide) hret (by simp) (hb hby at_300) rfl rfl
            · rw [hn]
              show Go p e below s Z [("java/lang/String", 7)] _ _ _ (T894.setTop (mkF m 215 #[.val (.int p0), .val (.int p1), .val (.int p2), .val (.int p3), .val (.int md), .val (.int se), .val (.int su), .val (.ref e1), .val (.int ca), .unset, .unset, .val (.int (3 : Int32)), .unset] []))
              refine Go.by (fun t9_ q9_ => XS.iload W895.here W895.hx rfl (hb hby at_215) rfl q9_) ?_
              show Go p e below s Z [("java/lang/String", 7)] _ _ _ (T894.setTop (mkF m 217 #[.val (.int p0), .val (.int p1), .val (.int p2), .val (.int p3), .val (.int md), .val (.int se), .val (.int su), .val (.ref e1), .val (.int ca), .unset, .unset, .val (.int (3 : Int32)), .unset] [(.int (3 : Int32))]))
              refine W895.newp (aty := .char) (wd7 hw) (hb hby at_217) (by decide) (cap := 3) (by decide) (by decide) (k' := 1) (n' := 3) rfl rfl (by decide) (by decide) (ad := "[C") rfl ?_
              intro T1043 h1044 tx k_tx W1045 E1046 g_tx z_tx A_tx V_tx
              have V1_tx : Arv Z h1044 tx k_tx .char (3 : Int32) [(.int (0 : Int32)), (.int (0 : Int32)), (.int (0 : Int32))] (.int (0 : Int32)) := V_tx.pad (pad_rep [] (.int (0 : Int32)) 3)
              show Go p e below s Z [("java/lang/String", 7)] _ _ _ (T1043.setTop (mkF m 219 #[.val (.int p0), .val (.int p1), .val (.int p2), .val (.int p3), .val (.int md), .val (.int se), .val (.int su), .val (.ref e1), .val (.int ca), .unset, .unset, .val (.int (3 : Int32)), .unset] [(.ref tx)]))
              refine Go.by (fun t9_ q9_ => XS.astore W1045.here W1045.hx rfl (hb hby at_219) rfl rfl (l' := #[.val (.int p0), .val (.int p1), .val (.int p2), .val (.int p3), .val (.int md), .val (.int se), .val (.int su), .val (.ref e1), .val (.int ca), .val (.ref tx), .unset, .val (.int (3 : Int32)), .unset]) rfl q9_) ?_
              show Go p e below s Z [("java/lang/String", 7)] _ _ _ (T1043.setTop (mkF m 221 #[.val (.int p0), .val (.int p1), .val (.int p2), .val (.int p3), .val (.int md), .val (.int se), .val (.int su), .val (.ref e1), .val (.int ca), .val (.ref tx), .unset, .val (.int (3 : Int32)), .unset] []))
              refine Go.by (fun t9_ q9_ => XS.iload W1045.here W1045.hx rfl (hb hby at_221) rfl q9_) ?_
              show Go p e below s Z [("java/lang/String", 7)] _ _ _ (T1043.setTop (mkF m 223 #[.val (.int p0), .val (.int p1), .val (.int p2), .val (.int p3), .val (.int md), .val (.int se), .val (.int su), .val (.ref e1), .val (.int ca), .val (.ref tx), .unset, .val (.int (3 : Int32)), .unset] [(.int (3 : Int32))]))
              refine Go.by (fun t9_ q9_ => XS.ifNo W1045.here W1045.hx rfl (hb hby at_223) rfl ((if0 _ _).trans (tlt (by decide)).2.2.2) q9_) ?_
              show Go p e below s Z [("java/lang/String", 7)] _ _ _ (T1043.setTop (mkF m 226 #[.val (.int p0), .val (.int p1), .val (.int p2), .val (.int p3), .val (.int md), .val (.int se), .val (.int su), .val (.ref e1), .val (.int ca), .val (.ref tx), .unset, .val (.int (3 : Int32)), .unset] []))
              refine Go.by (fun t9_ q9_ => XS.aload W1045.here W1045.hx rfl (hb hby at_226) rfl rfl q9_) ?_
              show Go p e below s Z [("java/lang/String", 7)] _ _ _ (T1043.setTop (mkF m 228 #[.val (.int p0), .val (.int p1), .val (.int p2), .val (.int p3), .val (.int md), .val (.int se), .val (.int su), .val (.ref e1), .val (.int ca), .val (.ref tx), .unset, .val (.int (3 : Int32)), .unset] [(.ref tx)]))
              refine Go.by (fun t9_ q9_ => XS.iconst W1045.here W1045.hx rfl (hb hby at_228) q9_) ?_
              show Go p e below s Z [("java/lang/String", 7)] _ _ _ (T1043.setTop (mkF m 229 #[.val (.int p0), .val (.int p1), .val (.int p2), .val (.int p3), .val (.int md), .val (.int se), .val (.int su), .val (.ref e1), .val (.int ca), .val (.ref tx), .unset, .val (.int (3 : Int32)), .unset] [(.int (0 : Int32)), (.ref tx)]))
              refine Go.by (fun t9_ q9_ => XS.iload W1045.here W1045.hx rfl (hb hby at_229) rfl q9_) ?_
              show Go p e below s Z [("java/lang/String", 7)] _ _ _ (T1043.setTop (mkF m 231 #[.val (.int p0), .val (.int p1), .val (.int p2), .val (.int p3), .val (.int md), .val (.int se), .val (.int su), .val (.ref e1), .val (.int ca), .val (.ref tx), .unset, .val (.int (3 : Int32)), .unset] [(.int ca), (.int (0 : Int32)), (.ref tx)]))
              refine W1045.cast_ V1_tx ⟨by decide, by decide⟩ (i := 0) rfl (by simp) (v' := ca) (nar_id (up16 r_ca)) z_tx (List.mem_of_getElem? (i := 0) rfl) (hb hby at_231) ?_
              intro T1047 h1048 W1049 Wr1050 V1051_tx'
              have V1051_tx : Arv Z h1048 tx k_tx .char (3 : Int32) [(.int ca), (.int (0 : Int32)), (.int (0 : Int32))] (.int (0 : Int32)) := V1051_tx'
              show Go p e below s Z [("java/lang/String", 7)] _ _ _ (T1047.setTop (mkF m 232 #[.val (.int p0), .val (.int p1), .val (.int p2), .val (.int p3), .val (.int md), .val (.int se), .val (.int su), .val (.ref e1), .val (.int ca), .val (.ref tx), .unset, .val (.int (3 : Int32)), .unset] []))
              refine Go.by (fun t9_ q9_ => XS.iload W1049.here W1049.hx rfl (hb hby at_232) rfl q9_) ?_
              show Go p e below s Z [("java/lang/String", 7)] _ _ _ (T1047.setTop (mkF m 234 #[.val (.int p0), .val (.int p1), .val (.int p2), .val (.int p3), .val (.int md), .val (.int se), .val (.int su), .val (.ref e1), .val (.int ca), .val (.ref tx), .unset, .val (.int (3 : Int32)), .unset] [(.int (3 : Int32))]))
              refine Go.by (fun t9_ q9_ => XS.iconst W1049.here W1049.hx rfl (hb hby at_234) q9_) ?_
              show Go p e below s Z [("java/lang/String", 7)] _ _ _ (T1047.setTop (mkF m 235 #[.val (.int p0), .val (.int p1), .val (.int p2), .val (.int p3), .val (.int md), .val (.int se), .val (.int su), .val (.ref e1), .val (.int ca), .val (.ref tx), .unset, .val (.int (3 : Int32)), .unset] [(.int (1 : Int32)), (.int (3 : Int32))]))
              refine Go.by (fun t9_ q9_ => XS.icmpNo W1049.here W1049.hx rfl (hb hby at_235) rfl (tlt (by decide)).2.2.2 q9_) ?_
              show Go p e below s Z [("java/lang/String", 7)] _ _ _ (T1047.setTop (mkF m 238 #[.val (.int p0), .val (.int p1), .val (.int p2), .val (.int p3), .val (.int md), .val (.int se), .val (.int su), .val (.ref e1), .val (.int ca), .val (.ref tx), .unset, .val (.int (3 : Int32)), .unset] []))
              refine Go.by (fun t9_ q9_ => XS.aload W1049.here W1049.hx rfl (hb hby at_238) rfl rfl q9_) ?_
              show Go p e below s Z [("java/lang/String", 7)] _ _ _ (T1047.setTop (mkF m 240 #[.val (.int p0), .val (.int p1), .val (.int p2), .val (.int p3), .val (.int md), .val (.int se), .val (.int su), .val (.ref e1), .val (.int ca), .val (.ref tx), .unset, .val (.int (3 : Int32)), .unset] [(.ref tx)]))
              refine Go.by (fun t9_ q9_ => XS.iconst W1049.here W1049.hx rfl (hb hby at_240) q9_) ?_
              show Go p e below s Z [("java/lang/String", 7)] _ _ _ (T1047.setTop (mkF m 241 #[.val (.int p0), .val (.int p1), .val (.int p2), .val (.int p3), .val (.int md), .val (.int se), .val (.int su), .val (.ref e1), .val (.int ca), .val (.ref tx), .unset, .val (.int (3 : Int32)), .unset] [(.int (1 : Int32)), (.ref tx)]))
              refine Go.by (fun t9_ q9_ => XS.iloadN W1049.here W1049.hx rfl (hb hby at_241) rfl q9_) ?_
              show Go p e below s Z [("java/lang/String", 7)] _ _ _ (T1047.setTop (mkF m 242 #[.val (.int p0), .val (.int p1), .val (.int p2), .val (.int p3), .val (.int md), .val (.int se), .val (.int su), .val (.ref e1), .val (.int ca), .val (.ref tx), .unset, .val (.int (3 : Int32)), .unset] [(.int p3), (.int (1 : Int32)), (.ref tx)]))
              refine Go.by (fun t9_ q9_ => XS.sipush W1049.here W1049.hx rfl (hb hby at_242) q9_) ?_
              show Go p e below s Z [("java/lang/String", 7)] _ _ _ (T1047.setTop (mkF m 245 #[.val (.int p0), .val (.int p1), .val (.int p2), .val (.int p3), .val (.int md), .val (.int se), .val (.int su), .val (.ref e1), .val (.int ca), .val (.ref tx), .unset, .val (.int (3 : Int32)), .unset] [(.int (255 : Int32)), (.int p3), (.int (1 : Int32)), (.ref tx)]))
              refine Go.by (fun t9_ q9_ => XS.iand W1049.here W1049.hx rfl (hb hby at_245) rfl q9_) ?_
              show Go p e below s Z [("java/lang/String", 7)] _ _ _ (T1047.setTop (mkF m 246 #[.val (.int p0), .val (.int p1), .val (.int p2), .val (.int p3), .val (.int md), .val (.int se), .val (.int su), .val (.ref e1), .val (.int ca), .val (.ref tx), .unset, .val (.int (3 : Int32)), .unset] [(.int (p3 &&& (255 : Int32))), (.int (1 : Int32)), (.ref tx)]))
              refine Go.by (fun t9_ q9_ => XS.i2c W1049.here W1049.hx rfl (hb hby at_246) rfl q9_) ?_
              show Go p e below s Z [("java/lang/String", 7)] _ _ _ (T1047.setTop (mkF m 247 #[.val (.int p0), .val (.int p1), .val (.int p2), .val (.int p3), .val (.int md), .val (.int se), .val (.int su), .val (.ref e1), .val (.int ca), .val (.ref tx), .unset, .val (.int (3 : Int32)), .unset] [(.int ((p3 &&& (255 : Int32)).toUInt32.toUInt16.toUInt32.toInt32)), (.int (1 : Int32)), (.ref tx)]))
              refine W1049.cast_ V1051_tx ⟨by decide, by decide⟩ (i := 1) rfl (by simp) (v' := ((p3 &&& (255 : Int32)).toUInt32.toUInt16.toUInt32.toInt32)) (k_nar _) z_tx (List.mem_of_getElem? (i := 0) rfl) (hb hby at_247) ?_
              intro T1052 h1053 W1054 Wr1055 V1056_tx'
              have V1056_tx : Arv Z h1053 tx k_tx .char (3 : Int32) [(.int ca), (.int ((p3 &&& (255 : Int32)).toUInt32.toUInt16.toUInt32.toInt32)), (.int (0 : Int32))] (.int (0 : Int32)) := V1056_tx'
              show Go p e below s Z [("java/lang/String", 7)] _ _ _ (T1052.setTop (mkF m 248 #[.val (.int p0), .val (.int p1), .val (.int p2), .val (.int p3), .val (.int md), .val (.int se), .val (.int su), .val (.ref e1), .val (.int ca), .val (.ref tx), .unset, .val (.int (3 : Int32)), .unset] []))
              refine Go.by (fun t9_ q9_ => XS.iload W1054.here W1054.hx rfl (hb hby at_248) rfl q9_) ?_
              show Go p e below s Z [("java/lang/String", 7)] _ _ _ (T1052.setTop (mkF m 250 #[.val (.int p0), .val (.int p1), .val (.int p2), .val (.int p3), .val (.int md), .val (.int se), .val (.int su), .val (.ref e1), .val (.int ca), .val (.ref tx), .unset, .val (.int (3 : Int32)), .unset] [(.int (3 : Int32))]))
              refine Go.by (fun t9_ q9_ => XS.iconst W1054.here W1054.hx rfl (hb hby at_250) q9_) ?_
              show Go p e below s Z [("java/lang/String", 7)] _ _ _ (T1052.setTop (mkF m 251 #[.val (.int p0), .val (.int p1), .val (.int p2), .val (.int p3), .val (.int md), .val (.int se), .val (.int su), .val (.ref e1), .val (.int ca), .val (.ref tx), .unset, .val (.int (3 : Int32)), .unset] [(.int (2 : Int32)), (.int (3 : Int32))]))
              refine Go.by (fun t9_ q9_ => XS.icmpNo W1054.here W1054.hx rfl (hb hby at_251) rfl (tlt (by decide)).2.2.2 q9_) ?_
              show Go p e below s Z [("java/lang/String", 7)] _ _ _ (T1052.setTop (mkF m 254 #[.val (.int p0), .val (.int p1), .val (.int p2), .val (.int p3), .val (.int md), .val (.int se), .val (.int su), .val (.ref e1), .val (.int ca), .val (.ref tx), .unset, .val (.int (3 : Int32)), .unset] []))
              refine Go.by (fun t9_ q9_ => XS.aload W1054.here W1054.hx rfl (hb hby at_254) rfl rfl q9_) ?_
              show Go p e below s Z [("java/lang/String", 7)] _ _ _ (T1052.setTop (mkF m 256 #[.val (.int p0), .val (.int p1), .val (.int p2), .val (.int p3), .val (.int md), .val (.int se), .val (.int su), .val (.ref e1), .val (.int ca), .val (.ref tx), .unset, .val (.int (3 : Int32)), .unset] [(.ref tx)]))
              refine Go.by (fun t9_ q9_ => XS.iconst W1054.here W1054.hx rfl (hb hby at_256) q9_) ?_
              show Go p e below s Z [("java/lang/String", 7)] _ _ _ (T1052.setTop (mkF m 257 #[.val (.int p0), .val (.int p1), .val (.int p2), .val (.int p3), .val (.int md), .val (.int se), .val (.int su), .val (.ref e1), .val (.int ca), .val (.ref tx), .unset, .val (.int (3 : Int32)), .unset] [(.int (2 : Int32)), (.ref tx)]))
              refine Go.by (fun t9_ q9_ => XS.iloadN W1054.here W1054.hx rfl (hb hby at_257) rfl q9_) ?_
              show Go p e below s Z [("java/lang/String", 7)] _ _ _ (T1052.setTop (mkF m 258 #[.val (.int p0), .val (.int p1), .val (.int p2), .val (.int p3), .val (.int md), .val (.int se), .val (.int su), .val (.ref e1), .val (.int ca), .val (.ref tx), .unset, .val (.int (3 : Int32)), .unset] [(.int p3), (.int (2 : Int32)), (.ref tx)]))
              refine Go.by (fun t9_ q9_ => XS.bipush W1054.here W1054.hx rfl (hb hby at_258) q9_) ?_
              show Go p e below s Z [("java/lang/String", 7)] _ _ _ (T1052.setTop (mkF m 260 #[.val (.int p0), .val (.int p1), .val (.int p2), .val (.int p3), .val (.int md), .val (.int se), .val (.int su), .val (.ref e1), .val (.int ca), .val (.ref tx), .unset, .val (.int (3 : Int32)), .unset] [(.int (8 : Int32)), (.int p3), (.int (2 : Int32)), (.ref tx)]))
              refine Go.by (fun t9_ q9_ => XS.iushr W1054.here W1054.hx rfl (hb hby at_260) rfl q9_) ?_
              show Go p e below s Z [("java/lang/String", 7)] _ _ _ (T1052.setTop (mkF m 261 #[.val (.int p0), .val (.int p1), .val (.int p2), .val (.int p3), .val (.int md), .val (.int se), .val (.int su), .val (.ref e1), .val (.int ca), .val (.ref tx), .unset, .val (.int (3 : Int32)), .unset] [(.int ((p3.toUInt32 >>> ((8 : Int32) &&& 31).toUInt32).toInt32)), (.int (2 : Int32)), (.ref tx)]))
              refine Go.by (fun t9_ q9_ => XS.sipush W1054.here W1054.hx rfl (hb hby at_261) q9_) ?_
              show Go p e below s Z [("java/lang/String", 7)] _ _ _ (T1052.setTop (mkF m 264 #[.val (.int p0), .val (.int p1), .val (.int p2), .val (.int p3), .val (.int md), .val (.int se), .val (.int su), .val (.ref e1), .val (.int ca), .val (.ref tx), .unset, .val (.int (3 : Int32)), .unset] [(.int (255 : Int32)), (.int ((p3.toUInt32 >>> ((8 : Int32) &&& 31).toUInt32).toInt32)), (.int (2 : Int32)), (.ref tx)]))
              refine Go.by (fun t9_ q9_ => XS.iand W1054.here W1054.hx rfl (hb hby at_264) rfl q9_) ?_
              show Go p e below s Z [("java/lang/String", 7)] _ _ _ (T1052.setTop (mkF m 265 #[.val (.int p0), .val (.int p1), .val (.int p2), .val (.int p3), .val (.int md), .val (.int se), .val (.int su), .val (.ref e1), .val (.int ca), .val (.ref tx), .unset, .val (.int (3 : Int32)), .unset] [(.int (((p3.toUInt32 >>> ((8 : Int32) &&& 31).toUInt32).toInt32) &&& (255 : Int32))), (.int (2 : Int32)), (.ref tx)]))
              refine Go.by (fun t9_ q9_ => XS.i2c W1054.here W1054.hx rfl (hb hby at_265) rfl q9_) ?_
              show Go p e below s Z [("java/lang/String", 7)] _ _ _ (T1052.setTop (mkF m 266 #[.val (.int p0), .val (.int p1), .val (.int p2), .val (.int p3), .val (.int md), .val (.int se), .val (.int su), .val (.ref e1), .val (.int ca), .val (.ref tx), .unset, .val (.int (3 : Int32)), .unset] [(.int ((((p3.toUInt32 >>> ((8 : Int32) &&& 31).toUInt32).toInt32) &&& (255 : Int32)).toUInt32.toUInt16.toUInt32.toInt32)), (.int (2 : Int32)), (.ref tx)]))
              refine W1054.cast_ V1056_tx ⟨by decide, by decide⟩ (i := 2) rfl (by simp) (v' := (((p3.toUInt32 >>> ((8 : Int32) &&& 31).toUInt32).toInt32 &&& (255 : Int32)).toUInt32.toUInt16.toUInt32.toInt32)) (k_nar _) z_tx (List.mem_of_getElem? (i := 0) rfl) (hb hby at_266) ?_
              intro T1057 h1058 W1059 Wr1060 V1061_tx'
              have V1061_tx : Arv Z h1058 tx k_tx .char (3 : Int32) [(.int ca), (.int ((p3 &&& (255 : Int32)).toUInt32.toUInt16.toUInt32.toInt32)), (.int (((p3.toUInt32 >>> ((8 : Int32) &&& 31).toUInt32).toInt32 &&& (255 : Int32)).toUInt32.toUInt16.toUInt32.toInt32))] (.int (0 : Int32)) := V1061_tx'
              show Go p e below s Z [("java/lang/String", 7)] _ _ _ (T1057.setTop (mkF m 267 #[.val (.int p0), .val (.int p1), .val (.int p2), .val (.int p3), .val (.int md), .val (.int se), .val (.int su), .val (.ref e1), .val (.int ca), .val (.ref tx), .unset, .val (.int (3 : Int32)), .unset] []))
              refine Go.by (fun t9_ q9_ => XS.aconstNull W1059.here W1059.hx rfl (hb hby at_267) q9_) ?_
              show Go p e below s Z [("java/lang/String", 7)] _ _ _ (T1057.setTop (mkF m 268 #[.val (.int p0), .val (.int p1), .val (.int p2), .val (.int p3), .val (.int md), .val (.int se), .val (.int su), .val (.ref e1), .val (.int ca), .val (.ref tx), .unset, .val (.int (3 : Int32)), .unset] [.null]))
              refine Go.by (fun t9_ q9_ => XS.astore W1059.here W1059.hx rfl (hb hby at_268) rfl rfl (l' := #[.val (.int p0), .val (.int p1), .val (.int p2), .val (.int p3), .val (.int md), .val (.int se), .val (.int su), .val (.ref e1), .val (.int ca), .val (.ref tx), .val .null, .val (.int (3 : Int32)), .unset]) rfl q9_) ?_
              show Go p e below s Z [("java/lang/String", 7)] _ _ _ (T1057.setTop (mkF m 270 #[.val (.int p0), .val (.int p1), .val (.int p2), .val (.int p3), .val (.int md), .val (.int se), .val (.int su), .val (.ref e1), .val (.int ca), .val (.ref tx), .val .null, .val (.int (3 : Int32)), .unset] []))
              refine W1059.new (wd8 hw) (wd9 hw) (wd10 hw) (hb hby at_270) (k' := 2) (n' := 7) rfl rfl (by decide) (by decide) ?_
              intro T1062 h1063 st W1064 E1065 g_st z_st A_st D_st
              have F_coder_st : Fld Z h1063 st "java/lang/String" "coder" "B" (.int (0 : Int32)) := D_st (Or.inr (wd34 hw)) (ty := .byte) (by decide)
              have F_value_st : Fld Z h1063 st "java/lang/String" "value" "[B" .null := D_st (Or.inr (wd36 hw)) (ty := (.array .byte)) (by decide)
              show Go p e below s Z [("java/lang/String", 7)] _ _ _ (T1062.setTop (mkF m 273 #[.val (.int p0), .val (.int p1), .val (.int p2), .val (.int p3), .val (.int md), .val (.int se), .val (.int su), .val (.ref e1), .val (.int ca), .val (.ref tx), .val .null, .val (.int (3 : Int32)), .unset] [(.ref st)]))
              refine Go.by (fun t9_ q9_ => XS.dup W1064.here W1064.hx rfl (hb hby at_273) rfl rfl q9_) ?_
              show Go p e below s Z [("java/lang/String", 7)] _ _ _ (T1062.setTop (mkF m 274 #[.val (.int p0), .val (.int p1), .val (.int p2), .val (.int p3), .val (.int md), .val (.int se), .val (.int su), .val (.ref e1), .val (.int ca), .val (.ref tx), .val .null, .val (.int (3 : Int32)), .unset] [(.ref st), (.ref st)]))
              refine Go.by (fun t9_ q9_ => XS.aload W1064.here W1064.hx rfl (hb hby at_274) rfl rfl q9_) ?_
              show Go p e below s Z [("java/lang/String", 7)] _ _ _ (T1062.setTop (mkF m 276 #[.val (.int p0), .val (.int p1), .val (.int p2), .val (.int p3), .val (.int md), .val (.int se), .val (.int su), .val (.ref e1), .val (.int ca), .val (.ref tx), .val .null, .val (.int (3 : Int32)), .unset] [(.ref tx), (.ref st), (.ref st)]))
              refine W1064.strV (cs := [ca, ((p3 &&& (255 : Int32)).toUInt32.toUInt16.toUInt32.toInt32), (((p3.toUInt32 >>> ((8 : Int32) &&& 31).toUInt32).toInt32 &&& (255 : Int32)).toUInt32.toUInt16.toUInt32.toInt32)]) (k_words hw) (wd9 hw) (wd11 hw) (wd12 hw) A_st F_value_st F_coder_st (V1061_tx.ext E1065) (SG1.ext W1064.old) hG (q := 3) rfl rfl (by decide) (by decide) (by intro c hc; simp only [List.mem_cons, List.not_mem_nil, or_false] at hc; rcases hc with rfl | rfl | rfl <;> first | exact r_ca | exact k_mask _) z_st (List.mem_of_getElem? (i := 0) rfl) (by decide) (Wt := 1) (by decide) (k' := 3) (n' := 10) rfl rfl (by decide) (by decide) (by rw [hml]; rfl) (Nat.le_of_eq rfl) (hb hby at_276) ?_
              intro T1066 h1067 W1068 K1069 S_st
              show Go p e below s Z [("java/lang/String", 7)] _ _ _ (T1066.setTop (mkF m 279 #[.val (.int p0), .val (.int p1), .val (.int p2), .val (.int p3), .val (.int md), .val (.int se), .val (.int su), .val (.ref e1), .val (.int ca), .val (.ref tx), .val .null, .val (.int (3 : Int32)), .unset] [(.ref st)]))
              have hxp : namF [ca, ((p3 &&& (255 : Int32)).toUInt32.toUInt16.toUInt32.toInt32), (((p3.toUInt32 >>> ((8 : Int32) &&& 31).toUInt32).toInt32 &&& (255 : Int32)).toUInt32.toUInt16.toUInt32.toInt32)] e0 e1 = .null := nam_null (by simp) (by simp)
              refine W1068.callS (y := (⟨"com/example/proof_to_token/prooftotoken/config/Sociability", "named", "(Ljava/lang/String;)Ljava/util/Optional;"⟩ : MethodName)) (wd37 hw) (wd38 hw) (wd1 hw) (wd39 hw) (by decide) (c_named l Z a0 hw hEL h1067 W1068.old st _ G1 av e0 e1 t0 t1 em kv SG1 hG SV AV XV FW0 FW1 S0 S1 SE EE FE S_st (by simp)) all0 (by decide) (by decide) (k' := 5) (n' := 13) rfl rfl (by decide) (by decide) (by rw [hml]; rfl) (argsL := [(.ref st)]) (rest := []) (lenOf pd_5 rfl) rfl rfl (Wt := 0) (Nat.le_of_eq rfl) (hb hby at_279) ?_
              intro v_ T1070 h1072 W1071 hq_
              obtain ⟨ro, rfl, X2, E2, F2⟩ := hq_
              rw [hxp] at F2
              show Go p e below s Z [("java/lang/String", 7)] _ _ _ (T1070.setTop (mkF m 282 #[.val (.int p0), .val (.int p1), .val (.int p2), .val (.int p3), .val (.int md), .val (.int se), .val (.int su), .val (.ref e1), .val (.int ca), .val (.ref tx), .val .null, .val (.int (3 : Int32)), .unset] [(.ref ro)]))
              refine Go.by (fun t9_ q9_ => XS.astore W1071.here W1071.hx rfl (hb hby at_282) rfl rfl (l' := #[.val (.int p0), .val (.int p1), .val (.int p2), .val (.int p3), .val (.int md), .val (.int se), .val (.int su), .val (.ref e1), .val (.int ca), .val (.ref tx), .val .null, .val (.ref ro), .unset]) rfl q9_) ?_
              show Go p e below s Z [("java/lang/String", 7)] _ _ _ (T1070.setTop (mkF m 284 #[.val (.int p0), .val (.int p1), .val (.int p2), .val (.int p3), .val (.int md), .val (.int se), .val (.int su), .val (.ref e1), .val (.int ca), .val (.ref tx), .val .null, .val (.ref ro), .unset] []))
              refine Go.by (fun t9_ q9_ => XS.aload W1071.here W1071.hx rfl (hb hby at_284) rfl rfl q9_) ?_
              show Go p e below s Z [("java/lang/String", 7)] _ _ _ (T1070.setTop (mkF m 286 #[.val (.int p0), .val (.int p1), .val (.int p2), .val (.int p3), .val (.int md), .val (.int se), .val (.int su), .val (.ref e1), .val (.int ca), .val (.ref tx), .val .null, .val (.ref ro), .unset] [(.ref ro)]))
              refine Go.by (fun t9_ q9_ => XS.aconstNull W1071.here W1071.hx rfl (hb hby at_286) q9_) ?_
              show Go p e below s Z [("java/lang/String", 7)] _ _ _ (T1070.setTop (mkF m 287 #[.val (.int p0), .val (.int p1), .val (.int p2), .val (.int p3), .val (.int md), .val (.int se), .val (.int su), .val (.ref e1), .val (.int ca), .val (.ref tx), .val .null, .val (.ref ro), .unset] [.null, (.ref ro)]))
              refine W1071.callVp (y := (⟨"java/util/Optional", "orElse", "(Ljava/lang/Object;)Ljava/lang/Object;"⟩ : MethodName)) (z := (⟨"java/util/Optional", "orElse", "(Ljava/lang/Object;)Ljava/lang/Object;"⟩ : MethodName)) (wd81 hw) (wd82 hw) (nf_sel rfl (wd84 hw)) (wd84 hw) (wd83 hw) (wd70 hw) (wd85 hw) (by decide) E2 (a := ro) (c_orelse l Z a0 hw hEL h1072 W1071.old ro _ rfl F2) all0 (by decide) (by decide) (k' := 5) (n' := 13) rfl rfl (by decide) (by decide) (by rw [hml]; rfl) (argsL := [.null]) (rest := []) (lenOf pd_6 rfl) rfl rfl (Wt := 0) (Nat.le_of_eq rfl) (hb hby at_287) ?_
              intro T1073 W1074
              show Go p e below s Z [("java/lang/String", 7)] _ _ _ (T1073.setTop (mkF m 290 #[.val (.int p0), .val (.int p1), .val (.int p2), .val (.int p3), .val (.int md), .val (.int se), .val (.int su), .val (.ref e1), .val (.int ca), .val (.ref tx), .val .null, .val (.ref ro), .unset] [.null]))
              refine Go.by (fun t9_ q9_ => XS.aload W1074.here W1074.hx rfl (hb hby at_290) rfl rfl q9_) ?_
              show Go p e below s Z [("java/lang/String", 7)] _ _ _ (T1073.setTop (mkF m 292 #[.val (.int p0), .val (.int p1), .val (.int p2), .val (.int p3), .val (.int md), .val (.int se), .val (.int su), .val (.ref e1), .val (.int ca), .val (.ref tx), .val .null, .val (.ref ro), .unset] [.null, .null]))
              refine Go.by (fun t9_ q9_ => acmpW W1074 (g := (mkF m 292 #[.val (.int p0), .val (.int p1), .val (.int p2), .val (.int p3), .val (.int md), .val (.int se), .val (.int su), .val (.ref e1), .val (.int ca), .val (.ref tx), .val .null, .val (.ref ro), .unset] [.null, .null])) rfl rfl rfl (pc0 := 292) (pc' := 295) (same := true) rfl (hb hby at_292) rfl (decide_eq_true rfl) (by decide) (by decide) q9_) ?_
              show Go p e below s Z [("java/lang/String", 7)] _ _ _ (T1073.setTop (mkF m 295 #[.val (.int p0), .val (.int p1), .val (.int p2), .val (.int p3), .val (.int md), .val (.int se), .val (.int su), .val (.ref e1), .val (.int ca), .val (.ref tx), .val .null, .val (.ref ro), .unset] []))
              refine Go.by (fun t9_ q9_ => XS.iconst W1074.here W1074.hx rfl (hb hby at_295) q9_) ?_
              show Go p e below s Z [("java/lang/String", 7)] _ _ _ (T1073.setTop (mkF m 296 #[.val (.int p0), .val (.int p1), .val (.int p2), .val (.int p3), .val (.int md), .val (.int se), .val (.int su), .val (.ref e1), .val (.int ca), .val (.ref tx), .val .null, .val (.ref ro), .unset] [(.int (1 : Int32))]))
              refine Go.by (fun t9_ q9_ => XS.goto W1074.here W1074.hx rfl (pc0 := 296) (pc' := 300) rfl (hb hby at_296) (by decide) (by decide) q9_) ?_
              show Go p e below s Z [("java/lang/String", 7)] _ _ _ (T1073.setTop (mkF m 300 #[.val (.int p0), .val (.int p1), .val (.int p2), .val (.int p3), .val (.int md), .val (.int se), .val (.int su), .val (.ref e1), .val (.int ca), .val (.ref tx), .val .null, .val (.ref ro), .unset] [(.int (1 : Int32))]))
              exact W1074.retN (z' := (1 : Int32)) (by decide) (by decide) hret (by simp) (hb hby at_300) rfl rfl
          · refine Go.by (fun t9_ q9_ => XS.ifNo W895.here W895.hx rfl (hb hby at_185) rfl ((if0 _ _).trans (feq hsb).1) q9_) ?_
            show Go p e below s Z [("java/lang/String", 7)] _ _ _ (T894.setTop (mkF m 188 #[.val (.int p0), .val (.int p1), .val (.int p2), .val (.int p3), .val (.int md), .val (.int se), .val (.int su), .val (.ref e1), .val (.int ca), .unset, .unset, .unset, .unset] []))
            refine Go.by (fun t9_ q9_ => XS.iload W895.here W895.hx rfl (hb hby at_188) rfl q9_) ?_
            show Go p e below s Z [("java/lang/String", 7)] _ _ _ (T894.setTop (mkF m 190 #[.val (.int p0), .val (.int p1), .val (.int p2), .val (.int p3), .val (.int md), .val (.int se), .val (.int su), .val (.ref e1), .val (.int ca), .unset, .unset, .unset, .unset] [(.int se)]))
            refine Go.by (fun t9_ q9_ => XS.ifNo W895.here W895.hx rfl (hb hby at_190) rfl ((if0 _ _).trans (feq hsec).1) q9_) ?_
            show Go p e below s Z [("java/lang/String", 7)] _ _ _ (T894.setTop (mkF m 193 #[.val (.int p0), .val (.int p1), .val (.int p2), .val (.int p3), .val (.int md), .val (.int se), .val (.int su), .val (.ref e1), .val (.int ca), .unset, .unset, .unset, .unset] []))
            refine W895.callS (y := (⟨"com/example/proof_to_token/prooftotoken/config/SociabilityNamedPinLaw", "cntOnlyShort", "()[C"⟩ : MethodName)) (wd90 hw) (wd91 hw) (wd5 hw) (wd92 hw) (by decide) (c_cnts l Z a0 hw hEL h0 W895.old) all0 (by decide) (by decide) (k' := 1) (n' := 16) rfl rfl (by decide) (by decide) (by rw [hml]; rfl) (argsL := []) (rest := []) (lenOf pd_4 rfl) rfl rfl (Wt := 0) (Nat.le_of_eq rfl) (hb hby at_193) ?_
            intro v_ T962 h964 W963 hq_
            obtain ⟨tx, kx, rfl, X1, A_x, E_x, z_x⟩ := hq_
            show Go p e below s Z [("java/lang/String", 7)] _ _ _ (T962.setTop (mkF m 196 #[.val (.int p0), .val (.int p1), .val (.int p2), .val (.int p3), .val (.int md), .val (.int se), .val (.int su), .val (.ref e1), .val (.int ca), .unset, .unset, .unset, .unset] [(.ref tx)]))
            refine Go.by (fun t9_ q9_ => XS.goto W963.here W963.hx rfl (pc0 := 196) (pc' := 202) rfl (hb hby at_196) (by decide) (by decide) q9_) ?_
            show Go p e below s Z [("java/lang/String", 7)] _ _ _ (T962.setTop (mkF m 202 #[.val (.int p0), .val (.int p1), .val (.int p2), .val (.int p3), .val (.int md), .val (.int se), .val (.int su), .val (.ref e1), .val (.int ca), .unset, .unset, .unset, .unset] [(.ref tx)]))
            refine Go.by (fun t9_ q9_ => XS.astore W963.here W963.hx rfl (hb hby at_202) rfl rfl (l' := #[.val (.int p0), .val (.int p1), .val (.int p2), .val (.int p3), .val (.int md), .val (.int se), .val (.int su), .val (.ref e1), .val (.int ca), .val (.ref tx), .unset, .unset, .unset]) rfl q9_) ?_
            show Go p e below s Z [("java/lang/String", 7)] _ _ _ (T962.setTop (mkF m 204 #[.val (.int p0), .val (.int p1), .val (.int p2), .val (.int p3), .val (.int md), .val (.int se), .val (.int su), .val (.ref e1), .val (.int ca), .val (.ref tx), .unset, .unset, .unset] []))
            refine Go.by (fun t9_ q9_ => XS.aconstNull W963.here W963.hx rfl (hb hby at_204) q9_) ?_
            show Go p e below s Z [("java/lang/String", 7)] _ _ _ (T962.setTop (mkF m 205 #[.val (.int p0), .val (.int p1), .val (.int p2), .val (.int p3), .val (.int md), .val (.int se), .val (.int su), .val (.ref e1), .val (.int ca), .val (.ref tx), .unset, .unset, .unset] [.null]))
            refine Go.by (fun t9_ q9_ => XS.astore W963.here W963.hx rfl (hb hby at_205) rfl rfl (l' := #[.val (.int p0), .val (.int p1), .val (.int p2), .val (.int p3), .val (.int md), .val (.int se), .val (.int su), .val (.ref e1), .val (.int ca), .val (.ref tx), .val .null, .unset, .unset]) rfl q9_) ?_
            show Go p e below s Z [("java/lang/String", 7)] _ _ _ (T962.setTop (mkF m 207 #[.val (.int p0), .val (.int p1), .val (.int p2), .val (.int p3), .val (.int md), .val (.int se), .val (.int su), .val (.ref e1), .val (.int ca), .val (.ref tx), .val .null, .unset, .unset] []))
            refine Go.by (fun t9_ q9_ => XS.goto W963.here W963.hx rfl (pc0 := 207) (pc' := 270) rfl (hb hby at_207) (by decide) (by decide) q9_) ?_
            show Go p e below s Z [("java/lang/String", 7)] _ _ _ (T962.setTop (mkF m 270 #[.val (.int p0), .val (.int p1), .val (.int p2), .val (.int p3), .val (.int md), .val (.int se), .val (.int su), .val (.ref e1), .val (.int ca), .val (.ref tx), .val .null, .unset, .unset] []))
            refine W963.new (wd8 hw) (wd9 hw) (wd10 hw) (hb hby at_270) (k' := 2) (n' := 20) rfl rfl (by decide) (by decide) ?_
            intro T965 h966 st W967 E968 g_st z_st A_st D_st
            have F_coder_st : Fld Z h966 st "java/lang/String" "coder" "B" (.int (0 : Int32)) := D_st (Or.inr (wd34 hw)) (ty := .byte) (by decide)
            have F_value_st : Fld Z h966 st "java/lang/String" "value" "[B" .null := D_st (Or.inr (wd36 hw)) (ty := (.array .byte)) (by decide)
            show Go p e below s Z [("java/lang/String", 7)] _ _ _ (T965.setTop (mkF m 273 #[.val (.int p0), .val (.int p1), .val (.int p2), .val (.int p3), .val (.int md), .val (.int se), .val (.int su), .val (.ref e1), .val (.int ca), .val (.ref tx), .val .null, .unset, .unset] [(.ref st)]))
            refine Go.by (fun t9_ q9_ => XS.dup W967.here W967.hx rfl (hb hby at_273) rfl rfl q9_) ?_
            show Go p e below s Z [("java/lang/String", 7)] _ _ _ (T965.setTop (mkF m 274 #[.val (.int p0), .val (.int p1), .val (.int p2), .val (.int p3), .val (.int md), .val (.int se), .val (.int su), .val (.ref e1), .val (.int ca), .val (.ref tx), .val .null, .unset, .unset] [(.ref st), (.ref st)]))
            refine Go.by (fun t9_ q9_ => XS.aload W967.here W967.hx rfl (hb hby at_274) rfl rfl q9_) ?_
            show Go p e below s Z [("java/lang/String", 7)] _ _ _ (T965.setTop (mkF m 276 #[.val (.int p0), .val (.int p1), .val (.int p2), .val (.int p3), .val (.int md), .val (.int se), .val (.int su), .val (.ref e1), .val (.int ca), .val (.ref tx), .val .null, .unset, .unset] [(.ref tx), (.ref st), (.ref st)]))
            refine W967.strV (cs := [67, 111, 117, 110, 116, 101, 114, 97, 103, 101, 110, 116, 115, 79, 110, 108]) (k_words hw) (wd9 hw) (wd11 hw) (wd12 hw) A_st F_value_st F_coder_st (A_x.ext E968) (SG1.ext W967.old) hG (q := 16) rfl rfl (by decide) (by decide) (by decide) z_st (List.mem_of_getElem? (i := 0) rfl) (by decide) (Wt := 1) (by decide) (k' := 3) (n' := 36) rfl rfl (by decide) (by decide) (by rw [hml]; rfl) (Nat.le_of_eq rfl) (hb hby at_276) ?_
            intro T969 h970 W971 K972 S_st
            show Go p e below s Z [("java/lang/String", 7)] _ _ _ (T969.setTop (mkF m 279 #[.val (.int p0), .val (.int p1), .val (.int p2), .val (.int p3), .val (.int md), .val (.int se), .val (.int su), .val (.ref e1), .val (.int ca), .val (.ref tx), .val .null, .unset, .unset] [(.ref st)]))
            have hxp : namF [67, 111, 117, 110, 116, 101, 114, 97, 103, 101, 110, 116, 115, 79, 110, 108] e0 e1 = .null := nam_null (by decide) (by decide)
            refine W971.callS (y := (⟨"com/example/proof_to_token/prooftotoken/config/Sociability", "named", "(Ljava/lang/String;)Ljava/util/Optional;"⟩ : MethodName)) (wd37 hw) (wd38 hw) (wd1 hw) (wd39 hw) (by decide) (c_named l Z a0 hw hEL h970 W971.old st _ G1 av e0 e1 t0 t1 em kv SG1 hG SV AV XV FW0 FW1 S0 S1 SE EE FE S_st (by simp)) all0 (by decide) (by decide) (k' := 5) (n' := 39) rfl rfl (by decide) (by decide) (by rw [hml]; rfl) (argsL := [(.ref st)]) (rest := []) (lenOf pd_5 rfl) rfl rfl (Wt := 0) (Nat.le_of_eq rfl) (hb hby at_279) ?_
            intro v_ T973 h975 W974 hq_
            obtain ⟨ro, rfl, X2, E2, F2⟩ := hq_
            rw [hxp] at F2
            show Go p e below s Z [("java/lang/String", 7)] _ _ _ (T973.setTop (mkF m 282 #[.val (.int p0), .val (.int p1), .val (.int p2), .val (.int p3), .val (.int md), .val (.int se), .val (.int su), .val (.ref e1), .val (.int ca), .val (.ref tx), .val .null, .unset, .unset] [(.ref ro)]))
            refine Go.by (fun t9_ q9_ => XS.astore W974.here W974.hx rfl (hb hby at_282) rfl rfl (l' := #[.val (.int p0), .val (.int p1), .val (.int p2), .val (.int p3), .val (.int md), .val (.int se), .val (.int su), .val (.ref e1), .val (.int ca), .val (.ref tx), .val .null, .val (.ref ro), .unset]) rfl q9_) ?_
            show Go p e below s Z [("java/lang/String", 7)] _ _ _ (T973.setTop (mkF m 284 #[.val (.int p0), .val (.int p1), .val (.int p2), .val (.int p3), .val (.int md), .val (.int se), .val (.int su), .val (.ref e1), .val (.int ca), .val (.ref tx), .val .null, .val (.ref ro), .unset] []))
            refine Go.by (fun t9_ q9_ => XS.aload W974.here W974.hx rfl (hb hby at_284) rfl rfl q9_) ?_
            show Go p e below s Z [("java/lang/String", 7)] _ _ _ (T973.setTop (mkF m 286 #[.val (.int p0), .val (.int p1), .val (.int p2), .val (.int p3), .val (.int md), .val (.int se), .val (.int su), .val (.ref e1), .val (.int ca), .val (.ref tx), .val .null, .val (.ref ro), .unset] [(.ref ro)]))
            refine Go.by (fun t9_ q9_ => XS.aconstNull W974.here W974.hx rfl (hb hby at_286) q9_) ?_
            show Go p e below s Z [("java/lang/String", 7)] _ _ _ (T973.setTop (mkF m 287 #[.val (.int p0), .val (.int p1), .val (.int p2), .val (.int p3), .val (.int md), .val (.int se), .val (.int su), .val (.ref e1), .val (.int ca), .val (.ref tx), .val .null, .val (.ref ro), .unset] [.null, (.ref ro)]))
            refine W974.callVp (y := (⟨"java/util/Optional", "orElse", "(Ljava/lang/Object;)Ljava/lang/Object;"⟩ : MethodName)) (z := (⟨"java/util/Optional", "orElse", "(Ljava/lang/Object;)Ljava/lang/Object;"⟩ : MethodName)) (wd81 hw) (wd82 hw) (nf_sel rfl (wd84 hw)) (wd84 hw) (wd83 hw) (wd70 hw) (wd85 hw) (by decide) E2 (a := ro) (c_orelse l Z a0 hw hEL h975 W974.old ro _ rfl F2) all0 (by decide) (by decide) (k' := 5) (n' := 39) rfl rfl (by decide) (by decide) (by rw [hml]; rfl) (argsL := [.null]) (rest := []) (lenOf pd_6 rfl) rfl rfl (Wt := 0) (Nat.le_of_eq rfl) (hb hby at_287) ?_
            intro T976 W977
            show Go p e below s Z [("java/lang/String", 7)] _ _ _ (T976.setTop (mkF m 290 #[.val (.int p0), .val (.int p1), .val (.int p2), .val (.int p3), .val (.int md), .val (.int se), .val (.int su), .val (.ref e1), .val (.int ca), .val (.ref tx), .val .null, .val (.ref ro), .unset] [.null]))
            refine Go.by (fun t9_ q9_ => XS.aload W977.here W977.hx rfl (hb hby at_290) rfl rfl q9_) ?_
            show Go p e below s Z [("java/lang/String", 7)] _ _ _ (T976.setTop (mkF m 292 #[.val (.int p0), .val (.int p1), .val (.int p2), .val (.int p3), .val (.int md), .val (.int se), .val (.int su), .val (.ref e1), .val (.int ca), .val (.ref tx), .val .null, .val (.ref ro), .unset] [.null, .null]))
            refine Go.by (fun t9_ q9_ => acmpW W977 (g := (mkF m 292 #[.val (.int p0), .val (.int p1), .val (.int p2), .val (.int p3), .val (.int md), .val (.int se), .val (.int su), .val (.ref e1), .val (.int ca), .val (.ref tx), .val .null, .val (.ref ro), .unset] [.null, .null])) rfl rfl rfl (pc0 := 292) (pc' := 295) (same := true) rfl (hb hby at_292) rfl (decide_eq_true rfl) (by decide) (by decide) q9_) ?_
            show Go p e below s Z [("java/lang/String", 7)] _ _ _ (T976.setTop (mkF m 295 #[.val (.int p0), .val (.int p1), .val (.int p2), .val (.int p3), .val (.int md), .val (.int se), .val (.int su), .val (.ref e1), .val (.int ca), .val (.ref tx), .val .null, .val (.ref ro), .unset] []))
            refine Go.by (fun t9_ q9_ => XS.iconst W977.here W977.hx rfl (hb hby at_295) q9_) ?_
            show Go p e below s Z [("java/lang/String", 7)] _ _ _ (T976.setTop (mkF m 296 #[.val (.int p0), .val (.int p1), .val (.int p2), .val (.int p3), .val (.int md), .val (.int se), .val (.int su), .val (.ref e1), .val (.int ca), .val (.ref tx), .val .null, .val (.ref ro), .unset] [(.int (1 : Int32))]))
            refine Go.by (fun t9_ q9_ => XS.goto W977.here W977.hx rfl (pc0 := 296) (pc' := 300) rfl (hb hby at_296) (by decide) (by decide) q9_) ?_
            show Go p e below s Z [("java/lang/String", 7)] _ _ _ (T976.setTop (mkF m 300 #[.val (.int p0), .val (.int p1), .val (.int p2), .val (.int p3), .val (.int md), .val (.int se), .val (.int su), .val (.ref e1), .val (.int ca), .val (.ref tx), .val .null, .val (.ref ro), .unset] [(.int (1 : Int32))]))
            exact W977.retN (z' := (1 : Int32)) (by decide) (by decide) hret (by simp) (hb hby at_300) rfl rfl
set_option maxRecDepth 65536 in
set_option maxHeartbeats 40000000 in
theorem comes_1 {Post : Tables → Env → Array Value → State → Outcome → State → Prop} (hpost : ∀ tb e args s v u, (limb_1_1.after args s (.returned v) u = true ∧ limb_1_2.after args s (.returned v) u = true ∧ True) → FramedW s (.returned v) u (Jvm.fieldLocs frame_1_writes args s ++ Jvm.arrayLocs frame_1_arrays args s ++ Jvm.staticLocs frame_1_statics s) 24 1216 → Post tb e args s (.returned v) u) :
    ArmFor flags0 classFile x code maxLocals ret World_1 tables_1 room_1 Calls_1 rest_1 Pre_1 Post := by
  intro l hfl _ _ p e ha hc hk s m args below hf hA hF happ hP
  obtain ⟨hcalls, hrest, hpre⟩ := hP
  obtain ⟨-, -, -, hnamed, -, -, -, hat⟩ := (Spec.applies_iff hf).mp happ
  obtain ⟨hg, hn⟩ := and_e (Cond.before_iff.mp (show (Jvm.Cond.and given_1 narrow_1).before args s = true from hpre))
  obtain ⟨h1, hg0⟩ := and_e hg
  obtain ⟨ga0, hg1⟩ := and_e hg0
  obtain ⟨ga1, hg2⟩ := and_e hg1
  obtain ⟨ga2, hg3⟩ := and_e hg2
  have ga3 := hg3
  obtain ⟨w0, w1, w2, w3, rfl⟩ : ∃ w0 w1 w2 w3 : Value, args = #[w0, w1, w2, w3] := by
    have hs : args.size = 4 := by simpa [Cond.value, given_1] using h1
    obtain ⟨L⟩ := args
    match L, hs with
    | [w0, w1, w2, w3], _ => exact ⟨w0, w1, w2, w3, rfl⟩
  have hw := fun d (hd : d ∈ tables_1) => atoms_spec (ws := Jvm.Cond.code x code maxLocals ret :: tables_1) hat d (List.mem_cons_of_mem _ hd)
  obtain ⟨hsets, hown0⟩ := atoms_of _ (rest_1_c_eq ▸ (show rest_1_c.before _ s = true from hrest))
  have hfit : Fit s := fun {y c} hc i hi => by
    obtain ⟨ha, rfl⟩ := Array.getElem?_eq_some_iff.mp hc
    have q := List.all_eq_true.mp ((Array.all_eq_true_iff_forall_mem.mp hF) _ (Array.getElem_mem ha)) i (List.mem_range.mpr hi)
    simpa [Array.getElem?_eq_getElem hi] using q
  obtain ⟨p0, ea0⟩ := is_v ga0
  obtain rfl : w0 = (.int p0) := Option.some.inj ea0
  obtain ⟨p1, ea1⟩ := is_v ga1
  obtain rfl : w1 = (.int p1) := Option.some.inj ea1
  obtain ⟨p2, ea2⟩ := is_v ga2
  obtain rfl : w2 = (.int p2) := Option.some.inj ea2
  obtain ⟨p3, ea3⟩ := is_v ga3
  obtain rfl : w3 = (.int p3) := Option.some.inj ea3
  have hcw := hsets _ (List.mem_of_getElem? (i := 2) rfl)
  have nG := not_v (Cond.before_iff.mp hcw)
  obtain ⟨G1, eG⟩ := is_v (Cond.before_iff.mp (hsets _ (List.mem_of_getElem? (i := 1) rfl)))
  have SG1 : Sta s s.heap "java/lang/String" "COMPACT_STRINGS" "Z" (.int G1) := Sta.start eG (Or.inl (hsets _ (List.mem_of_getElem? (i := 0) rfl)))
  have hG : ¬ (G1 = (0 : Int32)) := gotF (Cond.eq_ints eG (Term.int_eval (0))) nG
  obtain ⟨nc0, hx0⟩ := and_e hn
  obtain ⟨nc1, hx1⟩ := and_e hx0
  obtain ⟨nc2, hx2⟩ := and_e hx1
  obtain ⟨nc3, hx3⟩ := and_e hx2
  obtain ⟨nc4, hx4⟩ := and_e hx3
  obtain ⟨nc5, hx5⟩ := and_e hx4
  obtain ⟨nc6, hx6⟩ := and_e hx5
  obtain ⟨nc7, hx7⟩ := and_e hx6
  obtain ⟨nc8, hx8⟩ := and_e hx7
  obtain ⟨nc9, hx9⟩ := and_e hx8
  obtain ⟨nc10, hx10⟩ := and_e hx9
  obtain ⟨nc11, hx11⟩ := and_e hx10
  obtain ⟨nc12, hx12⟩ := and_e hx11
  obtain ⟨nc13, hx13⟩ := and_e hx12
  obtain ⟨nc14, hx14⟩ := and_e hx13
  obtain ⟨nc15, hx15⟩ := and_e hx14
  obtain ⟨nc16, hx16⟩ := and_e hx15
  obtain ⟨nc17, hx17⟩ := and_e hx16
  obtain ⟨nc18, hx18⟩ := and_e hx17
  obtain ⟨nc19, hx19⟩ := and_e hx18
  obtain ⟨nc20, hx20⟩ := and_e hx19
  obtain ⟨nc21, hx21⟩ := and_e hx20
  obtain ⟨nc22, hx22⟩ := and_e hx21
  obtain ⟨nc23, hx23⟩ := and_e hx22
  obtain ⟨nc24, hx24⟩ := and_e hx23
  obtain ⟨nc25, hx25⟩ := and_e hx24
  obtain ⟨nc26, hx26⟩ := and_e hx25
  obtain ⟨nc27, hx27⟩ := and_e hx26
  obtain ⟨nc28, hx28⟩ := and_e hx27
  obtain ⟨nc29, hx29⟩ := and_e hx28
  obtain ⟨nc30, hx30⟩ := and_e hx29
  obtain ⟨nc31, hx31⟩ := and_e hx30
  obtain ⟨nc32, hx32⟩ := and_e hx31
  obtain ⟨nc33, hx33⟩ := and_e hx32
  obtain ⟨nc34, hx34⟩ := and_e hx33
  obtain ⟨nc35, hx35⟩ := and_e hx34
  obtain ⟨nc36, hx36⟩ := and_e hx35
  obtain ⟨nc37, hx37⟩ := and_e hx36
  obtain ⟨nc38, hx38⟩ := and_e hx37
  obtain ⟨nc39, hx39⟩ := and_e hx38
  obtain ⟨nc40, hx40⟩ := and_e hx39
  obtain ⟨nc41, hx41⟩ := and_e hx40
  obtain ⟨nc42, hx42⟩ := and_e hx41
  obtain ⟨nc43, hx43⟩ := and_e hx42
  obtain ⟨nc44, hx44⟩ := and_e hx43
  obtain ⟨nc45, hx45⟩ := and_e hx44
  obtain ⟨nc46, hx46⟩ := and_e hx45
  have nc47 := hx46
  obtain ⟨av, SV, XV, eV⟩ := sta_exa nc2 (Or.inr ⟨(wd1 hw), (wd44 hw)⟩)
  obtain ⟨e0, ST0, Xe0, ee0⟩ := sta_exa nc0 (Or.inr ⟨(wd1 hw), (wd2 hw)⟩)
  obtain ⟨e1, ST1, Xe1, ee1⟩ := sta_exa nc5 (Or.inr ⟨(wd1 hw), (wd52 hw)⟩)
  obtain ⟨kv, AV⟩ := arv_of (z := 2) (vs := [(.ref e0), (.ref e1)]) (dv := .null) hfit eV nc1 (Cond.eq_int (Cond.before_iff.mpr nc3) rfl) (by decide) (by rfl) (by simp) ⟨Cond.eq_refs (Cond.before_iff.mpr nc4) ee0 rfl, Cond.eq_refs (Cond.before_iff.mpr nc6) ee1 rfl, trivial⟩
  obtain ⟨t0, et0, S0⟩ := str_of (cs := [65, 108, 108, 79, 114, 103, 97, 110, 105, 122, 97, 116, 105, 111, 110, 115]) hfit nc7 nc8 nc9 nc10 (by simp) ⟨Cond.eq_int (Cond.before_iff.mpr nc15) rfl, Cond.eq_int (Cond.before_iff.mpr nc16) rfl, Cond.eq_int (Cond.before_iff.mpr nc17) rfl, Cond.eq_int (Cond.before_iff.mpr nc18) rfl, Cond.eq_int (Cond.before_iff.mpr nc19) rfl, Cond.eq_int (Cond.before_iff.mpr nc20) rfl, Cond.eq_int (Cond.before_iff.mpr nc21) rfl, Cond.eq_int (Cond.before_iff.mpr nc22) rfl, Cond.eq_int (Cond.before_iff.mpr nc23) rfl, Cond.eq_int (Cond.before_iff.mpr nc24) rfl, Cond.eq_int (Cond.before_iff.mpr nc25) rfl, Cond.eq_int (Cond.before_iff.mpr nc26) rfl, Cond.eq_int (Cond.before_iff.mpr nc27) rfl, Cond.eq_int (Cond.before_iff.mpr nc28) rfl, Cond.eq_int (Cond.before_iff.mpr nc29) rfl, Cond.eq_int (Cond.before_iff.mpr nc30) rfl, trivial⟩ (by decide)
  have FW0 : Fld s s.heap e0 "com/example/proof_to_token/prooftotoken/config/Sociability" "publishedName" "Ljava/lang/String;" (.ref t0) := Fld.start (by rw [← fld_at ee0]; exact et0)
  obtain ⟨t1, et1, S1⟩ := str_of (cs := [67, 111, 117, 110, 116, 101, 114, 97, 103, 101, 110, 116, 115, 79, 110, 108, 121]) hfit nc11 nc12 nc13 nc14 (by simp) ⟨Cond.eq_int (Cond.before_iff.mpr nc31) rfl, Cond.eq_int (Cond.before_iff.mpr nc32) rfl, Cond.eq_int (Cond.before_iff.mpr nc33) rfl, Cond.eq_int (Cond.before_iff.mpr nc34) rfl, Cond.eq_int (Cond.before_iff.mpr nc35) rfl, Cond.eq_int (Cond.before_iff.mpr nc36) rfl, Cond.eq_int (Cond.before_iff.mpr nc37) rfl, Cond.eq_int (Cond.before_iff.mpr nc38) rfl, Cond.eq_int (Cond.before_iff.mpr nc39) rfl, Cond.eq_int (Cond.before_iff.mpr nc40) rfl, Cond.eq_int (Cond.before_iff.mpr nc41) rfl, Cond.eq_int (Cond.before_iff.mpr nc42) rfl, Cond.eq_int (Cond.before_iff.mpr nc43) rfl, Cond.eq_int (Cond.before_iff.mpr nc44) rfl, Cond.eq_int (Cond.before_iff.mpr nc45) rfl, Cond.eq_int (Cond.before_iff.mpr nc46) rfl, Cond.eq_int (Cond.before_iff.mpr nc47) rfl, trivial⟩ (by decide)
  have FW1 : Fld s s.heap e1 "com/example/proof_to_token/prooftotoken/config/Sociability" "publishedName" "Ljava/lang/String;" (.ref t1) := Fld.start (by rw [← fld_at ee1]; exact et1)
  obtain ⟨em, SE, EE, eE⟩ := sta_exa (Cond.before_iff.mp (hsets _ (List.mem_of_getElem? (i := 11) rfl))) (Or.inl (hsets _ (List.mem_of_getElem? (i := 10) rfl)))
  have FE : Fld s s.heap em "java/util/Optional" "value" "Ljava/lang/Object;" .null := Fld.start (by rw [← fld_at eE]; exact null_v (Cond.before_iff.mp (hsets _ (List.mem_of_getElem? (i := 12) rfl))))
  have hEL : EW s #[(.int p0), (.int p1), (.int p2), (.int p3)] [("java/lang/String", 7)] := (EW.cons (wd98 hw) (by decide +kernel) EW.nil)
  have hCH : CHv s [("java/lang/String", 7)] s.vm s.heap := CHv.start hEL (fun p hp => hcalls.1 p hp) hcw (wd26 hw) (wd9 hw)
  obtain ⟨n, o, h1, h2, h3, _, L, rfl, ⟨rfl, N⟩, -, hq⟩ := c_law l s _ hw hEL s.heap (Ext.refl' _) p0 p1 p2 p3 G1 av e0 e1 t0 t1 em kv SG1 hG SV AV XV FW0 FW1 S0 S1 SE EE FE ST0 ST1 p e ha hc hk s m _ below hf ((Spec.applies_iff_loose hf).mp happ).1 ⟨rfl, State.Warmed39.refl s, rfl, hCH, all0⟩ trivial
  exact ⟨n, _, h1, h2, h3, hpost _ _ _ _ _ _ ⟨Cond.after_iff.mpr rfl, Cond.after_iff.mpr (eq_i res_at (Term.int_eval (1)) rfl), trivial⟩ ⟨hq.1, hq.2.1, hq.2.2.1, (hq.2.2.2.sift fun y hy => Or.inr (N y hy)).mono (by decide) (by decide)⟩⟩
theorem main_1_1 : Claimed_1_1 := comes_1 fun _ _ _ _ _ _ h hF => ⟨h.1, hF⟩
theorem main_1_2 : Claimed_1_2 := comes_1 fun _ _ _ _ _ _ h hF => ⟨h.2.1, hF⟩
end Jvm.Pilot.@@N@@
namespace Jvm.Pilot.@@N@@
open Jvm Jvm.ClassFile Sem Op Lib Jvm.Free Jvm.Stand Jvm.Pilot.@@N@@.Jvm.D
/-! MADE BY PROGRAM (witnessworld.py) out of the Statement's table words and the real class files: 23 classes; the members and pool entries that the words name. The judged class is class 1, her method 7. -/
namespace start1
open Jvm.ClassFile
def u (s : String) : CpInfo := .utf8 (stringToUtf16 s)
/-- a pool by its gaps: so many unusable entries, then the entry; so many at the end -/
def gap : Nat → List CpInfo → List CpInfo
  | 0, r => r
  | n + 1, r => .unusable :: gap n r
def poolList (es : List (Nat × CpInfo)) (last : Nat) : List CpInfo := es.foldr (fun e r => gap e.1 (e.2 :: r)) (gap last [])
def pool (es : List (Nat × CpInfo)) (last : Nat) : Array CpInfo := ⟨poolList es last⟩
def fileOf (pool : Array CpInfo) (this : Nat) (attrs : Array Attribute := #[]) (ms : Array MethodInfo := #[]) (fl : Nat := 33) (sup : Nat := 0) (ifs : Array Nat := #[]) (fds : Array FieldInfo := #[]) : ClassFile where
  minorVersion := 0
  majorVersion := 65
  constantPool := pool
  accessFlags := fl
  thisClass := this
  superClass := sup
  interfaces := ifs
  fields := fds
  methods := ms
  attributes := attrs
def plain (name : String) (sup : Option ClassId) : Class where
  name := name
  kind := .ordinary
  loader := none
  accessFlags := 33
  super := sup
  interfaces := #[]
  cf := none
  fields := #[]
  methods := #[]
  instanceTypes := #[]
  staticTypes := #[]
  resolved := #[]
  callSites := []
  init := .initialized
  statics := none
  mirror := none

def pool0 : Array CpInfo := pool [(5, u "<init>"), (0, u "()V"), (1, .class_ 10), (1, u "java/lang/Object"), (85, u "clone"), (0, u "()Ljava/lang/Object;")] 26

def k0c0 : Code := { maxStack := 0, maxLocals := 1, code := object_method_1_code, exceptionTable := #[], attributes := #[] }
def k0m0 : Method := { name := "<init>", desc := "()V", sig := { parameters := [], returnType := none }, accessFlags := 1, code := some k0c0 }
def k0m1 : Method := { name := "clone", desc := "()Ljava/lang/Object;", sig := { parameters := [], returnType := some (.object "java/lang/Object") }, accessFlags := 260, code := none }
/-- java/lang/Object -/
def k0 : Class := { plain "java/lang/Object" none with
  accessFlags := 33
  interfaces := #[]
  cf := some (fileOf pool0 8 #[] #[{ accessFlags := 1, nameIndex := 5, descriptorIndex := 6, attributes := #[] }, { accessFlags := 260, nameIndex := 96, descriptorIndex := 97, attributes := #[] }] 33 0 #[] #[])
  fields := #[]
  methods := #[k0m0, k0m1]
  instanceTypes := #[]
  staticTypes := #[]
  resolved := Array.replicate 124 none
  statics := none }

def pool1 : Array CpInfo := pool [(2, .class_ 4), (1, u "java/lang/Object"), (0, u "<init>"), (0, u "()V"), (0, .fieldref 8 9), (0, .class_ 10), (0, .nameAndType 11 12), (0, u "com/example/proof_to_token/prooftotoken/config/Sociability"), (0, u "COUNTERAGENTS_ONLY"), (0, u "Lcom/example/proof_to_token/prooftotoken/config/Sociability;"), (0, .fieldref 8 14), (0, .nameAndType 15 12), (0, u "ALL_ORGANIZATIONS"), (0, .methodref 17 18), (0, .class_ 19), (0, .nameAndType 20 21), (0, u "com/example/proof_to_token/prooftotoken/config/SociabilityNamedPinLaw"), (0, u "cntOnly"), (0, u "()[C"), (0, .methodref 17 23), (0, .nameAndType 24 21), (0, u "allOrgs"), (0, .integer 2147483647), (0, .methodref 17 27), (0, .nameAndType 28 29), (0, u "cntOnlyPlus"), (0, u "(C)[C"), (0, .methodref 17 31), (0, .nameAndType 32 29), (0, u "allOrgsPlus"), (0, .methodref 17 34), (0, .nameAndType 35 21), (0, u "cntOnlyShort"), (0, .methodref 17 37), (0, .nameAndType 38 21), (0, u "allOrgsShort"), (0, .class_ 40), (0, u "java/lang/String"), (0, .methodref 39 42), (0, .nameAndType 5 43), (0, u "([C)V"), (0, .methodref 8 45), (0, .nameAndType 46 47), (0, u "named"), (0, u "(Ljava/lang/String;)Ljava/util/Optional;"), (0, .methodref 49 50), (0, .class_ 51), (0, .nameAndType 52 53), (0, u "java/util/Optional"), (0, u "orElse"), (0, u "(Ljava/lang/Object;)Ljava/lang/Object;"), (2, u "law"), (0, u "(IIII)Z")] 5

def k1m0 : Method := { name := "<init>", desc := "()V", sig := { parameters := [], returnType := none }, accessFlags := 1, code := none }
def k1c1 : Code := { maxStack := 4, maxLocals := 0, code := method_2_code, exceptionTable := #[], attributes := #[] }
def k1m1 : Method := { name := "allOrgs", desc := "()[C", sig := { parameters := [], returnType := some (.array .char) }, accessFlags := 10, code := some k1c1 }
def k1c2 : Code := { maxStack := 4, maxLocals := 0, code := method_3_code, exceptionTable := #[], attributes := #[] }
def k1m2 : Method := { name := "cntOnly", desc := "()[C", sig := { parameters := [], returnType := some (.array .char) }, accessFlags := 10, code := some k1c2 }
def k1c3 : Code := { maxStack := 4, maxLocals := 1, code := method_4_code, exceptionTable := #[], attributes := #[] }
def k1m3 : Method := { name := "allOrgsPlus", desc := "(C)[C", sig := { parameters := [.char], returnType := some (.array .char) }, accessFlags := 10, code := some k1c3 }
def k1c4 : Code := { maxStack := 4, maxLocals := 1, code := method_5_code, exceptionTable := #[], attributes := #[] }
def k1m4 : Method := { name := "cntOnlyPlus", desc := "(C)[C", sig := { parameters := [.char], returnType := some (.array .char) }, accessFlags := 10, code := some k1c4 }
def k1c5 : Code := { maxStack := 4, maxLocals := 0, code := method_6_code, exceptionTable := #[], attributes := #[] }
def k1m5 : Method := { name := "allOrgsShort", desc := "()[C", sig := { parameters := [], returnType := some (.array .char) }, accessFlags := 10, code := some k1c5 }
def k1c6 : Code := { maxStack := 4, maxLocals := 0, code := method_7_code, exceptionTable := #[], attributes := #[] }
def k1m6 : Method := { name := "cntOnlyShort", desc := "()[C", sig := { parameters := [], returnType := some (.array .char) }, accessFlags := 10, code := some k1c6 }
def k1c7 : Code := { maxStack := 4, maxLocals := 13, code := code, exceptionTable := #[], attributes := #[] }
def k1m7 : Method := { name := "law", desc := "(IIII)Z", sig := { parameters := [.int, .int, .int, .int], returnType := some .boolean }, accessFlags := 9, code := some k1c7 }
/-- com/example/proof_to_token/prooftotoken/config/SociabilityNamedPinLaw -/
def k1 : Class := { plain "com/example/proof_to_token/prooftotoken/config/SociabilityNamedPinLaw" (some 0) with
  accessFlags := 49
  interfaces := #[]
  cf := some (fileOf pool1 17 #[] #[{ accessFlags := 1, nameIndex := 5, descriptorIndex := 6, attributes := #[] }, { accessFlags := 10, nameIndex := 24, descriptorIndex := 21, attributes := #[] }, { accessFlags := 10, nameIndex := 20, descriptorIndex := 21, attributes := #[] }, { accessFlags := 10, nameIndex := 32, descriptorIndex := 29, attributes := #[] }, { accessFlags := 10, nameIndex := 28, descriptorIndex := 29, attributes := #[] }, { accessFlags := 10, nameIndex := 38, descriptorIndex := 21, attributes := #[] }, { accessFlags := 10, nameIndex := 35, descriptorIndex := 21, attributes := #[] }, { accessFlags := 9, nameIndex := 56, descriptorIndex := 57, attributes := #[] }] 49 2 #[] #[])
  fields := #[]
  methods := #[k1m0, k1m1, k1m2, k1m3, k1m4, k1m5, k1m6, k1m7]
  instanceTypes := #[]
  staticTypes := #[]
  resolved := Array.replicate 63 none
  statics := none }

def pool2 : Array CpInfo := pool [(1, .class_ 2), (0, u "java/lang/constant/Constable"), (0, .class_ 4), (0, u "java/lang/Object")] 6

/-- java/lang/constant/Constable -/
def k2 : Class := { plain "java/lang/constant/Constable" (some 0) with
  accessFlags := 1537
  interfaces := #[]
  cf := some (fileOf pool2 1 #[] #[] 1537 3 #[] #[])
  fields := #[]
  methods := #[]
  instanceTypes := #[]
  staticTypes := #[]
  resolved := Array.replicate 11 none
  statics := none }

def pool3 : Array CpInfo := pool [(1, .class_ 2), (0, u "java/lang/Comparable"), (0, .class_ 4), (0, u "java/lang/Object")] 7

/-- java/lang/Comparable -/
def k3 : Class := { plain "java/lang/Comparable" (some 0) with
  accessFlags := 1537
  interfaces := #[]
  cf := some (fileOf pool3 1 #[] #[] 1537 3 #[] #[])
  fields := #[]
  methods := #[]
  instanceTypes := #[]
  staticTypes := #[]
  resolved := Array.replicate 12 none
  statics := none }

def pool4 : Array CpInfo := pool [(1, .class_ 2), (0, u "java/io/Serializable"), (0, .class_ 4), (0, u "java/lang/Object")] 2

/-- java/io/Serializable -/
def k4 : Class := { plain "java/io/Serializable" (some 0) with
  accessFlags := 1537
  interfaces := #[]
  cf := some (fileOf pool4 1 #[] #[] 1537 3 #[] #[])
  fields := #[]
  methods := #[]
  instanceTypes := #[]
  staticTypes := #[]
  resolved := Array.replicate 7 none
  statics := none }

def pool5 : Array CpInfo := pool [(2, .class_ 4), (1, u "java/lang/Enum"), (0, u "name"), (0, u "Ljava/lang/String;"), (2, u "ordinal"), (0, u "I"), (1, .class_ 14), (1, u "java/lang/Object"), (4, u "hash"), (86, .class_ 108), (1, u "java/lang/Enum$EnumDesc"), (2, .class_ 112), (0, u "java/lang/constant/Constable"), (0, .class_ 114), (0, u "java/lang/Comparable"), (0, .class_ 116), (0, u "java/io/Serializable")] 87

/-- java/lang/Enum -/
def k5 : Class := { plain "java/lang/Enum" (some 0) with
  accessFlags := 1057
  interfaces := #[2, 3, 4]
  cf := some (fileOf pool5 2 #[.nestMembers #[106]] #[] 1057 12 #[111, 113, 115] #[{ accessFlags := 18, nameIndex := 5, descriptorIndex := 6, attributes := #[] }, { accessFlags := 18, nameIndex := 9, descriptorIndex := 10, attributes := #[] }, { accessFlags := 2, nameIndex := 19, descriptorIndex := 10, attributes := #[] }])
  fields := #[{ name := "name", type := (.object "java/lang/String"), accessFlags := 18, slot := 0, constantValue := 0 }, { name := "ordinal", type := .int, accessFlags := 18, slot := 1, constantValue := 0 }, { name := "hash", type := .int, accessFlags := 2, slot := 2, constantValue := 0 }]
  methods := #[]
  instanceTypes := #[(.object "java/lang/String"), .int, .int]
  staticTypes := #[]
  resolved := Array.replicate 204 none
  statics := none }

def pool6 : Array CpInfo := pool [(1, .class_ 2), (0, u "com/example/proof_to_token/prooftotoken/config/Sociability"), (2, u "ALL_ORGANIZATIONS"), (0, u "Lcom/example/proof_to_token/prooftotoken/config/Sociability;"), (2, u "COUNTERAGENTS_ONLY"), (0, .fieldref 1 11), (0, .nameAndType 12 13), (0, u "$VALUES"), (0, u "[Lcom/example/proof_to_token/prooftotoken/config/Sociability;"), (0, .methodref 15 16), (0, .class_ 13), (0, .nameAndType 17 18), (0, u "clone"), (0, u "()Ljava/lang/Object;"), (1, .class_ 22), (1, u "java/lang/Enum"), (6, .fieldref 1 30), (0, .nameAndType 31 32), (0, u "publishedName"), (0, u "Ljava/lang/String;"), (2, u "number"), (0, u "I"), (0, .methodref 1 38), (0, .nameAndType 39 40), (0, u "values"), (0, u "()[Lcom/example/proof_to_token/prooftotoken/config/Sociability;"), (0, .methodref 42 43), (0, .class_ 44), (0, .nameAndType 45 46), (0, u "java/lang/String"), (0, u "equals"), (0, u "(Ljava/lang/Object;)Z"), (0, .methodref 48 49), (0, .class_ 50), (0, .nameAndType 51 52), (0, u "java/util/Optional"), (0, u "ofNullable"), (0, u "(Ljava/lang/Object;)Ljava/util/Optional;"), (19, u "named"), (0, u "(Ljava/lang/String;)Ljava/util/Optional;")] 7

def k6c0 : Code := { maxStack := 1, maxLocals := 0, code := prog_7_method_1_code, exceptionTable := #[], attributes := #[] }
def k6m0 : Method := { name := "values", desc := "()[Lcom/example/proof_to_token/prooftotoken/config/Sociability;", sig := { parameters := [], returnType := some (.array (.object "com/example/proof_to_token/prooftotoken/config/Sociability")) }, accessFlags := 9, code := some k6c0 }
def k6c1 : Code := { maxStack := 2, maxLocals := 6, code := prog_7_method_6_code, exceptionTable := #[], attributes := #[] }
def k6m1 : Method := { name := "named", desc := "(Ljava/lang/String;)Ljava/util/Optional;", sig := { parameters := [(.object "java/lang/String")], returnType := some (.object "java/util/Optional") }, accessFlags := 9, code := some k6c1 }
/-- com/example/proof_to_token/prooftotoken/config/Sociability -/
def k6 : Class := { plain "com/example/proof_to_token/prooftotoken/config/Sociability" (some 5) with
  accessFlags := 16433
  interfaces := #[]
  cf := some (fileOf pool6 1 #[] #[{ accessFlags := 9, nameIndex := 39, descriptorIndex := 40, attributes := #[] }, { accessFlags := 9, nameIndex := 72, descriptorIndex := 73, attributes := #[] }] 16433 20 #[] #[{ accessFlags := 16409, nameIndex := 5, descriptorIndex := 6, attributes := #[] }, { accessFlags := 16409, nameIndex := 9, descriptorIndex := 6, attributes := #[] }, { accessFlags := 18, nameIndex := 31, descriptorIndex := 32, attributes := #[] }, { accessFlags := 18, nameIndex := 35, descriptorIndex := 36, attributes := #[] }, { accessFlags := 4122, nameIndex := 12, descriptorIndex := 13, attributes := #[] }])
  fields := #[{ name := "ALL_ORGANIZATIONS", type := (.object "com/example/proof_to_token/prooftotoken/config/Sociability"), accessFlags := 16409, slot := 0, constantValue := 0 }, { name := "COUNTERAGENTS_ONLY", type := (.object "com/example/proof_to_token/prooftotoken/config/Sociability"), accessFlags := 16409, slot := 1, constantValue := 0 }, { name := "publishedName", type := (.object "java/lang/String"), accessFlags := 18, slot := 3, constantValue := 0 }, { name := "number", type := .int, accessFlags := 18, slot := 4, constantValue := 0 }, { name := "$VALUES", type := (.array (.object "com/example/proof_to_token/prooftotoken/config/Sociability")), accessFlags := 4122, slot := 2, constantValue := 0 }]
  methods := #[k6m0, k6m1]
  instanceTypes := #[(.object "java/lang/String"), .int, .int, (.object "java/lang/String"), .int]
  staticTypes := #[(.object "com/example/proof_to_token/prooftotoken/config/Sociability"), (.object "com/example/proof_to_token/prooftotoken/config/Sociability"), (.array (.object "com/example/proof_to_token/prooftotoken/config/Sociability"))]
  resolved := Array.replicate 81 none
  statics := some 0 }

def pool7 : Array CpInfo := pool [(2, .class_ 4), (1, u "java/lang/CharSequence"), (42, .class_ 48), (0, u "java/lang/CharSequence$1CodePointIterator"), (10, .class_ 60), (0, u "java/lang/CharSequence$1CharIterator"), (5, .class_ 67), (0, u "java/lang/Object")] 63

/-- java/lang/CharSequence -/
def k7 : Class := { plain "java/lang/CharSequence" (some 0) with
  accessFlags := 1537
  interfaces := #[]
  cf := some (fileOf pool7 2 #[.nestMembers #[47, 59]] #[] 1537 66 #[] #[])
  fields := #[]
  methods := #[]
  instanceTypes := #[]
  staticTypes := #[]
  resolved := Array.replicate 131 none
  statics := none }

def pool8 : Array CpInfo := pool [(1, .class_ 2), (0, u "java/lang/constant/ConstantDesc"), (0, .class_ 4), (0, u "java/lang/Object")] 32

/-- java/lang/constant/ConstantDesc -/
def k8 : Class := { plain "java/lang/constant/ConstantDesc" (some 0) with
  accessFlags := 1537
  interfaces := #[]
  cf := some (fileOf pool8 1 #[] #[] 1537 3 #[] #[])
  fields := #[]
  methods := #[]
  instanceTypes := #[]
  staticTypes := #[]
  resolved := Array.replicate 37 none
  statics := none }

def pool9 : Array CpInfo := pool [(1, .methodref 2 3), (0, .class_ 4), (0, .nameAndType 5 6), (0, u "java/lang/Object"), (0, u "<init>"), (0, u "()V"), (0, .string 8), (0, u ""), (0, .fieldref 10 11), (0, .class_ 12), (0, .nameAndType 13 14), (0, u "java/lang/String"), (0, u "value"), (0, u "[B"), (0, .fieldref 10 16), (0, .nameAndType 17 18), (0, u "coder"), (0, u "B"), (2, u "hash"), (0, u "I"), (2, u "hashIsZero"), (0, u "Z"), (0, .methodref 10 28), (0, .nameAndType 5 29), (0, u "([CIILjava/lang/Void;)V"), (8, .fieldref 10 39), (0, .nameAndType 40 26), (0, u "COMPACT_STRINGS"), (1, .class_ 44), (1, u "java/lang/StringUTF16"), (0, u "compress"), (1, .methodref 42 48), (0, .nameAndType 49 50), (0, u "coderFromArrayLen"), (0, u "([BI)B"), (56, .class_ 109), (1, u "java/lang/StringLatin1"), (67, .methodref 42 178), (0, .nameAndType 45 179), (0, u "([CII)[B"), (361, .methodref 107 542), (0, .nameAndType 543 544), (0, u "equals"), (0, u "([B[B)Z"), (28, u "(Ljava/lang/Object;)Z"), (1, .class_ 576), (0, u "java/lang/CharSequence"), (22, u "CASE_INSENSITIVE_ORDER"), (0, u "Ljava/util/Comparator;"), (409, u "([C)V"), (90, u "serialPersistentFields"), (0, u "[Ljava/io/ObjectStreamField;"), (0, .class_ 1104), (0, u "java/lang/String$CaseInsensitiveComparator"), (1, .class_ 1107), (0, u "java/io/Serializable"), (0, .class_ 1109), (0, u "java/lang/Comparable"), (0, .class_ 1111), (0, u "java/lang/constant/Constable"), (0, .class_ 1113), (0, u "java/lang/constant/ConstantDesc"), (2, u "serialVersionUID"), (0, u "J"), (3, u "REPL"), (0, u "C"), (2, u "LATIN1"), (1, u "UTF16")] 323

def k9m0 : Method := { name := "<init>", desc := "()V", sig := { parameters := [], returnType := none }, accessFlags := 1, code := none }
def k9c1 : Code := { maxStack := 5, maxLocals := 2, code := jdk_42_method_3_code, exceptionTable := #[], attributes := #[] }
def k9m1 : Method := { name := "<init>", desc := "([C)V", sig := { parameters := [(.array .char)], returnType := none }, accessFlags := 1, code := some k9c1 }
def k9c2 : Code := { maxStack := 2, maxLocals := 3, code := jdk_42_method_66_code, exceptionTable := #[], attributes := #[] }
def k9m2 : Method := { name := "equals", desc := "(Ljava/lang/Object;)Z", sig := { parameters := [(.object "java/lang/Object")], returnType := some .boolean }, accessFlags := 1, code := some k9c2 }
def k9c3 : Code := { maxStack := 4, maxLocals := 6, code := jdk_42_method_149_code, exceptionTable := #[], attributes := #[] }
def k9m3 : Method := { name := "<init>", desc := "([CIILjava/lang/Void;)V", sig := { parameters := [(.array .char), .int, .int, (.object "java/lang/Void")], returnType := none }, accessFlags := 2, code := some k9c3 }
/-- java/lang/String -/
def k9 : Class := { plain "java/lang/String" (some 0) with
  accessFlags := 49
  interfaces := #[4, 3, 7, 2, 8]
  cf := some (fileOf pool9 10 #[.nestMembers #[1103]] #[{ accessFlags := 1, nameIndex := 5, descriptorIndex := 6, attributes := #[] }, { accessFlags := 1, nameIndex := 5, descriptorIndex := 1010, attributes := #[] }, { accessFlags := 1, nameIndex := 543, descriptorIndex := 573, attributes := #[] }, { accessFlags := 2, nameIndex := 5, descriptorIndex := 29, attributes := #[] }] 49 2 #[1106, 1108, 575, 1110, 1112] #[{ accessFlags := 18, nameIndex := 13, descriptorIndex := 14, attributes := #[] }, { accessFlags := 18, nameIndex := 17, descriptorIndex := 18, attributes := #[] }, { accessFlags := 2, nameIndex := 21, descriptorIndex := 22, attributes := #[] }, { accessFlags := 2, nameIndex := 25, descriptorIndex := 26, attributes := #[] }, { accessFlags := 26, nameIndex := 1116, descriptorIndex := 1117, attributes := #[] }, { accessFlags := 24, nameIndex := 40, descriptorIndex := 26, attributes := #[] }, { accessFlags := 26, nameIndex := 1101, descriptorIndex := 1102, attributes := #[] }, { accessFlags := 26, nameIndex := 1121, descriptorIndex := 1122, attributes := #[] }, { accessFlags := 25, nameIndex := 599, descriptorIndex := 600, attributes := #[] }, { accessFlags := 24, nameIndex := 1125, descriptorIndex := 18, attributes := #[] }, { accessFlags := 24, nameIndex := 1127, descriptorIndex := 18, attributes := #[] }])
  fields := #[{ name := "value", type := (.array .byte), accessFlags := 18, slot := 0, constantValue := 0 }, { name := "coder", type := .byte, accessFlags := 18, slot := 1, constantValue := 0 }, { name := "hash", type := .int, accessFlags := 2, slot := 2, constantValue := 0 }, { name := "hashIsZero", type := .boolean, accessFlags := 2, slot := 3, constantValue := 0 }, { name := "serialVersionUID", type := .long, accessFlags := 26, slot := 0, constantValue := 0 }, { name := "COMPACT_STRINGS", type := .boolean, accessFlags := 24, slot := 1, constantValue := 0 }, { name := "serialPersistentFields", type := (.array (.object "java/io/ObjectStreamField")), accessFlags := 26, slot := 2, constantValue := 0 }, { name := "REPL", type := .char, accessFlags := 26, slot := 3, constantValue := 0 }, { name := "CASE_INSENSITIVE_ORDER", type := (.object "java/util/Comparator"), accessFlags := 25, slot := 4, constantValue := 0 }, { name := "LATIN1", type := .byte, accessFlags := 24, slot := 5, constantValue := 0 }, { name := "UTF16", type := .byte, accessFlags := 24, slot := 6, constantValue := 0 }]
  methods := #[k9m0, k9m1, k9m2, k9m3]
  instanceTypes := #[(.array .byte), .byte, .int, .boolean]
  staticTypes := #[.long, .boolean, (.array (.object "java/io/ObjectStreamField")), .char, (.object "java/util/Comparator"), .byte, .byte]
  resolved := Array.replicate 1451 none
  statics := some 1 }

def pool10 : Array CpInfo := pool [(6, .class_ 8), (1, u "java/lang/Object"), (0, u "<init>"), (0, u "()V"), (1, .class_ 14), (1, u "java/lang/StringUTF16"), (31, u "$assertionsDisabled"), (0, u "Z"), (13, u "HI_BYTE_SHIFT"), (0, u "I"), (2, u "LO_BYTE_SHIFT"), (49, .methodref 12 116), (0, .nameAndType 117 118), (0, u "compress"), (0, u "([CI[BII)I"), (3, u "([CII)[B"), (138, u "coderFromArrayLen"), (0, u "([BI)B"), (106, .class_ 371), (1, u "java/lang/StringUTF16$LinesSpliterator"), (58, u "MAX_LENGTH"), (196, .class_ 628), (0, u "java/lang/StringUTF16$CodePointsSpliterator"), (0, .class_ 630), (0, u "java/lang/StringUTF16$CharsSpliterator")] 4

def k10m0 : Method := { name := "<init>", desc := "()V", sig := { parameters := [], returnType := none }, accessFlags := 0, code := none }
def k10c1 : Code := { maxStack := 2, maxLocals := 2, code := jdk_52_method_15_code, exceptionTable := #[], attributes := #[] }
def k10m1 : Method := { name := "coderFromArrayLen", desc := "([BI)B", sig := { parameters := [(.array .byte), .int], returnType := some .byte }, accessFlags := 8, code := some k10c1 }
def k10c2 : Code := { maxStack := 5, maxLocals := 6, code := jdk_52_method_16_code, exceptionTable := #[], attributes := #[] }
def k10m2 : Method := { name := "compress", desc := "([CII)[B", sig := { parameters := [(.array .char), .int, .int], returnType := some (.array .byte) }, accessFlags := 9, code := some k10c2 }
def k10c3 : Code := { maxStack := 3, maxLocals := 7, code := jdk_52_method_21_code, exceptionTable := #[], attributes := #[] }
def k10m3 : Method := { name := "compress", desc := "([CI[BII)I", sig := { parameters := [(.array .char), .int, (.array .byte), .int, .int], returnType := some .int }, accessFlags := 9, code := some k10c3 }
/-- java/lang/StringUTF16 -/
def k10 : Class := { plain "java/lang/StringUTF16" (some 0) with
  accessFlags := 48
  interfaces := #[]
  cf := some (fileOf pool10 12 #[.nestMembers #[627, 629, 369]] #[{ accessFlags := 0, nameIndex := 9, descriptorIndex := 10, attributes := #[] }, { accessFlags := 8, nameIndex := 261, descriptorIndex := 262, attributes := #[] }, { accessFlags := 9, nameIndex := 117, descriptorIndex := 122, attributes := #[] }, { accessFlags := 9, nameIndex := 117, descriptorIndex := 118, attributes := #[] }] 48 6 #[] #[{ accessFlags := 26, nameIndex := 61, descriptorIndex := 62, attributes := #[] }, { accessFlags := 26, nameIndex := 65, descriptorIndex := 62, attributes := #[] }, { accessFlags := 24, nameIndex := 430, descriptorIndex := 62, attributes := #[] }, { accessFlags := 4120, nameIndex := 46, descriptorIndex := 47, attributes := #[] }])
  fields := #[{ name := "HI_BYTE_SHIFT", type := .int, accessFlags := 26, slot := 0, constantValue := 0 }, { name := "LO_BYTE_SHIFT", type := .int, accessFlags := 26, slot := 1, constantValue := 0 }, { name := "MAX_LENGTH", type := .int, accessFlags := 24, slot := 2, constantValue := 0 }, { name := "$assertionsDisabled", type := .boolean, accessFlags := 4120, slot := 3, constantValue := 0 }]
  methods := #[k10m0, k10m1, k10m2, k10m3]
  instanceTypes := #[]
  staticTypes := #[.int, .int, .int, .boolean]
  resolved := Array.replicate 635 none
  statics := none }

def pool11 : Array CpInfo := pool [(1, .class_ 2), (0, u "java/lang/Cloneable"), (0, .class_ 4), (0, u "java/lang/Object")] 2

/-- java/lang/Cloneable -/
def k11 : Class := { plain "java/lang/Cloneable" (some 0) with
  accessFlags := 1537
  interfaces := #[]
  cf := some (fileOf pool11 1 #[] #[] 1537 3 #[] #[])
  fields := #[]
  methods := #[]
  instanceTypes := #[]
  staticTypes := #[]
  resolved := Array.replicate 7 none
  statics := none }

def pool12 : Array CpInfo := pool [(4, .class_ 6), (1, u "java/lang/Object"), (0, u "<init>"), (0, u "()V"), (5, .class_ 16), (1, u "java/lang/StringLatin1"), (104, u "$assertionsDisabled"), (0, u "Z"), (98, .class_ 223), (1, u "java/lang/StringLatin1$LinesSpliterator"), (57, u "equals"), (0, u "([B[B)Z"), (107, .class_ 391), (0, u "java/lang/StringLatin1$CharsSpliterator")] 3

def k12m0 : Method := { name := "<init>", desc := "()V", sig := { parameters := [], returnType := none }, accessFlags := 0, code := none }
def k12c1 : Code := { maxStack := 3, maxLocals := 3, code := jdk_43_method_13_code, exceptionTable := #[], attributes := #[] }
def k12m1 : Method := { name := "equals", desc := "([B[B)Z", sig := { parameters := [(.array .byte), (.array .byte)], returnType := some .boolean }, accessFlags := 9, code := some k12c1 }
/-- java/lang/StringLatin1 -/
def k12 : Class := { plain "java/lang/StringLatin1" (some 0) with
  accessFlags := 48
  interfaces := #[]
  cf := some (fileOf pool12 14 #[.nestMembers #[390, 221]] #[{ accessFlags := 0, nameIndex := 7, descriptorIndex := 8, attributes := #[] }, { accessFlags := 9, nameIndex := 281, descriptorIndex := 282, attributes := #[] }] 48 4 #[] #[{ accessFlags := 4120, nameIndex := 121, descriptorIndex := 122, attributes := #[] }])
  fields := #[{ name := "$assertionsDisabled", type := .boolean, accessFlags := 4120, slot := 0, constantValue := 0 }]
  methods := #[k12m0, k12m1]
  instanceTypes := #[]
  staticTypes := #[.boolean]
  resolved := Array.replicate 395 none
  statics := none }

def pool13 : Array CpInfo := pool [(1, .fieldref 2 3), (0, .class_ 4), (0, .nameAndType 5 6), (0, u "java/util/Optional"), (0, u "EMPTY"), (0, u "Ljava/util/Optional;"), (0, .methodref 8 9), (0, .class_ 10), (0, .nameAndType 11 12), (0, u "java/lang/Object"), (0, u "<init>"), (0, u "()V"), (0, .fieldref 2 14), (0, .nameAndType 15 16), (0, u "value"), (0, u "Ljava/lang/Object;"), (5, u "(Ljava/lang/Object;)Ljava/lang/Object;"), (0, .methodref 2 24), (0, .nameAndType 11 25), (0, u "(Ljava/lang/Object;)V"), (38, u "ofNullable"), (0, u "(Ljava/lang/Object;)Ljava/util/Optional;"), (99, u "orElse")] 21

def k13c0 : Code := { maxStack := 2, maxLocals := 2, code := jdk_32_method_2_code, exceptionTable := #[], attributes := #[] }
def k13m0 : Method := { name := "<init>", desc := "(Ljava/lang/Object;)V", sig := { parameters := [(.object "java/lang/Object")], returnType := none }, accessFlags := 2, code := some k13c0 }
def k13c1 : Code := { maxStack := 3, maxLocals := 1, code := jdk_32_method_4_code, exceptionTable := #[], attributes := #[] }
def k13m1 : Method := { name := "ofNullable", desc := "(Ljava/lang/Object;)Ljava/util/Optional;", sig := { parameters := [(.object "java/lang/Object")], returnType := some (.object "java/util/Optional") }, accessFlags := 9, code := some k13c1 }
def k13c2 : Code := { maxStack := 1, maxLocals := 2, code := jdk_32_method_15_code, exceptionTable := #[], attributes := #[] }
def k13m2 : Method := { name := "orElse", desc := "(Ljava/lang/Object;)Ljava/lang/Object;", sig := { parameters := [(.object "java/lang/Object")], returnType := some (.object "java/lang/Object") }, accessFlags := 1, code := some k13c2 }
/-- java/util/Optional -/
def k13 : Class := { plain "java/util/Optional" (some 0) with
  accessFlags := 49
  interfaces := #[]
  cf := some (fileOf pool13 2 #[] #[{ accessFlags := 2, nameIndex := 11, descriptorIndex := 25, attributes := #[] }, { accessFlags := 9, nameIndex := 64, descriptorIndex := 65, attributes := #[] }, { accessFlags := 1, nameIndex := 165, descriptorIndex := 22, attributes := #[] }] 49 8 #[] #[{ accessFlags := 26, nameIndex := 5, descriptorIndex := 6, attributes := #[] }, { accessFlags := 18, nameIndex := 15, descriptorIndex := 16, attributes := #[] }])
  fields := #[{ name := "EMPTY", type := (.object "java/util/Optional"), accessFlags := 26, slot := 0, constantValue := 0 }, { name := "value", type := (.object "java/lang/Object"), accessFlags := 18, slot := 0, constantValue := 0 }]
  methods := #[k13m0, k13m1, k13m2]
  instanceTypes := #[(.object "java/lang/Object")]
  staticTypes := #[(.object "java/util/Optional")]
  resolved := Array.replicate 187 none
  statics := some 2 }

def pool14 : Array CpInfo := pool [(2, .class_ 4), (1, u "java/lang/Object"), (0, u "<init>"), (0, u "()V"), (17, .class_ 26), (1, u "jdk/internal/util/Preconditions"), (28, .class_ 56), (0, u "jdk/internal/util/Preconditions$4"), (57, .class_ 115), (0, u "jdk/internal/util/Preconditions$1"), (7, u "SIOOBE_FORMATTER"), (0, u "Ljava/util/function/BiFunction;"), (0, .class_ 126), (0, u "jdk/internal/util/Preconditions$2"), (3, u "AIOOBE_FORMATTER"), (0, .class_ 132), (0, u "jdk/internal/util/Preconditions$3"), (3, u "IOOBE_FORMATTER")] 57

def k14m0 : Method := { name := "<init>", desc := "()V", sig := { parameters := [], returnType := none }, accessFlags := 1, code := none }
/-- jdk/internal/util/Preconditions -/
def k14 : Class := { plain "jdk/internal/util/Preconditions" (some 0) with
  accessFlags := 33
  interfaces := #[]
  cf := some (fileOf pool14 24 #[.nestMembers #[55, 131, 125, 114]] #[{ accessFlags := 1, nameIndex := 5, descriptorIndex := 6, attributes := #[] }] 33 2 #[] #[{ accessFlags := 25, nameIndex := 123, descriptorIndex := 124, attributes := #[] }, { accessFlags := 25, nameIndex := 130, descriptorIndex := 124, attributes := #[] }, { accessFlags := 25, nameIndex := 136, descriptorIndex := 124, attributes := #[] }])
  fields := #[{ name := "SIOOBE_FORMATTER", type := (.object "java/util/function/BiFunction"), accessFlags := 25, slot := 0, constantValue := 0 }, { name := "AIOOBE_FORMATTER", type := (.object "java/util/function/BiFunction"), accessFlags := 25, slot := 1, constantValue := 0 }, { name := "IOOBE_FORMATTER", type := (.object "java/util/function/BiFunction"), accessFlags := 25, slot := 2, constantValue := 0 }]
  methods := #[k14m0]
  instanceTypes := #[]
  staticTypes := #[(.object "java/util/function/BiFunction"), (.object "java/util/function/BiFunction"), (.object "java/util/function/BiFunction")]
  resolved := Array.replicate 194 none
  statics := some 3 }

def pool15 : Array CpInfo := pool [(9, u "<init>"), (6, .class_ 18), (1, u "java/lang/Object"), (0, u "()V"), (1, .class_ 23), (1, u "jdk/internal/util/ArraysSupport"), (0, u "LOG2_ARRAY_LONG_INDEX_SCALE"), (0, u "I"), (2, u "U"), (0, u "Ljdk/internal/misc/Unsafe;"), (8, u "BIG_ENDIAN"), (0, u "Z"), (8, u "LOG2_BYTE_BIT_SIZE"), (4, u "LOG2_ARRAY_INT_INDEX_SCALE"), (54, u "JLA"), (0, u "Ljdk/internal/access/JavaLangAccess;"), (11, u "LOG2_ARRAY_BOOLEAN_INDEX_SCALE"), (9, u "LOG2_ARRAY_BYTE_INDEX_SCALE"), (5, u "LOG2_ARRAY_CHAR_INDEX_SCALE"), (5, u "LOG2_ARRAY_SHORT_INDEX_SCALE"), (18, u "LOG2_ARRAY_FLOAT_INDEX_SCALE"), (24, u "LOG2_ARRAY_DOUBLE_INDEX_SCALE"), (89, u "T_BOOLEAN"), (2, u "T_CHAR"), (1, u "T_FLOAT"), (1, u "T_DOUBLE"), (1, u "T_BYTE"), (1, u "T_SHORT"), (1, u "T_INT"), (1, u "T_LONG"), (1, u "SOFT_MAX_ARRAY_LENGTH")] 83

def k15m0 : Method := { name := "<init>", desc := "()V", sig := { parameters := [], returnType := none }, accessFlags := 2, code := none }
/-- jdk/internal/util/ArraysSupport -/
def k15 : Class := { plain "jdk/internal/util/ArraysSupport" (some 0) with
  accessFlags := 33
  interfaces := #[]
  cf := some (fileOf pool15 21 #[] #[{ accessFlags := 2, nameIndex := 9, descriptorIndex := 19, attributes := #[] }] 33 16 #[] #[{ accessFlags := 24, nameIndex := 28, descriptorIndex := 29, attributes := #[] }, { accessFlags := 26, nameIndex := 38, descriptorIndex := 39, attributes := #[] }, { accessFlags := 25, nameIndex := 121, descriptorIndex := 25, attributes := #[] }, { accessFlags := 25, nameIndex := 131, descriptorIndex := 25, attributes := #[] }, { accessFlags := 25, nameIndex := 137, descriptorIndex := 25, attributes := #[] }, { accessFlags := 25, nameIndex := 143, descriptorIndex := 25, attributes := #[] }, { accessFlags := 25, nameIndex := 53, descriptorIndex := 25, attributes := #[] }, { accessFlags := 25, nameIndex := 24, descriptorIndex := 25, attributes := #[] }, { accessFlags := 25, nameIndex := 162, descriptorIndex := 25, attributes := #[] }, { accessFlags := 25, nameIndex := 187, descriptorIndex := 25, attributes := #[] }, { accessFlags := 26, nameIndex := 48, descriptorIndex := 25, attributes := #[] }, { accessFlags := 25, nameIndex := 277, descriptorIndex := 25, attributes := #[] }, { accessFlags := 25, nameIndex := 280, descriptorIndex := 25, attributes := #[] }, { accessFlags := 25, nameIndex := 282, descriptorIndex := 25, attributes := #[] }, { accessFlags := 25, nameIndex := 284, descriptorIndex := 25, attributes := #[] }, { accessFlags := 25, nameIndex := 286, descriptorIndex := 25, attributes := #[] }, { accessFlags := 25, nameIndex := 288, descriptorIndex := 25, attributes := #[] }, { accessFlags := 25, nameIndex := 290, descriptorIndex := 25, attributes := #[] }, { accessFlags := 25, nameIndex := 292, descriptorIndex := 25, attributes := #[] }, { accessFlags := 26, nameIndex := 108, descriptorIndex := 109, attributes := #[] }, { accessFlags := 25, nameIndex := 294, descriptorIndex := 25, attributes := #[] }])
  fields := #[{ name := "U", type := (.object "jdk/internal/misc/Unsafe"), accessFlags := 24, slot := 0, constantValue := 0 }, { name := "BIG_ENDIAN", type := .boolean, accessFlags := 26, slot := 1, constantValue := 0 }, { name := "LOG2_ARRAY_BOOLEAN_INDEX_SCALE", type := .int, accessFlags := 25, slot := 2, constantValue := 0 }, { name := "LOG2_ARRAY_BYTE_INDEX_SCALE", type := .int, accessFlags := 25, slot := 3, constantValue := 0 }, { name := "LOG2_ARRAY_CHAR_INDEX_SCALE", type := .int, accessFlags := 25, slot := 4, constantValue := 0 }, { name := "LOG2_ARRAY_SHORT_INDEX_SCALE", type := .int, accessFlags := 25, slot := 5, constantValue := 0 }, { name := "LOG2_ARRAY_INT_INDEX_SCALE", type := .int, accessFlags := 25, slot := 6, constantValue := 0 }, { name := "LOG2_ARRAY_LONG_INDEX_SCALE", type := .int, accessFlags := 25, slot := 7, constantValue := 0 }, { name := "LOG2_ARRAY_FLOAT_INDEX_SCALE", type := .int, accessFlags := 25, slot := 8, constantValue := 0 }, { name := "LOG2_ARRAY_DOUBLE_INDEX_SCALE", type := .int, accessFlags := 25, slot := 9, constantValue := 0 }, { name := "LOG2_BYTE_BIT_SIZE", type := .int, accessFlags := 26, slot := 10, constantValue := 0 }, { name := "T_BOOLEAN", type := .int, accessFlags := 25, slot := 11, constantValue := 0 }, { name := "T_CHAR", type := .int, accessFlags := 25, slot := 12, constantValue := 0 }, { name := "T_FLOAT", type := .int, accessFlags := 25, slot := 13, constantValue := 0 }, { name := "T_DOUBLE", type := .int, accessFlags := 25, slot := 14, constantValue := 0 }, { name := "T_BYTE", type := .int, accessFlags := 25, slot := 15, constantValue := 0 }, { name := "T_SHORT", type := .int, accessFlags := 25, slot := 16, constantValue := 0 }, { name := "T_INT", type := .int, accessFlags := 25, slot := 17, constantValue := 0 }, { name := "T_LONG", type := .int, accessFlags := 25, slot := 18, constantValue := 0 }, { name := "JLA", type := (.object "jdk/internal/access/JavaLangAccess"), accessFlags := 26, slot := 19, constantValue := 0 }, { name := "SOFT_MAX_ARRAY_LENGTH", type := .int, accessFlags := 25, slot := 20, constantValue := 0 }]
  methods := #[k15m0]
  instanceTypes := #[]
  staticTypes := #[(.object "jdk/internal/misc/Unsafe"), .boolean, .int, .int, .int, .int, .int, .int, .int, .int, .int, .int, .int, .int, .int, .int, .int, .int, .int, (.object "jdk/internal/access/JavaLangAccess"), .int]
  resolved := Array.replicate 378 none
  statics := none }

/-- the primitive byte -/
def k16 : Class := { plain "byte" none with kind := .primitive 'B', accessFlags := 0x411 }
/-- [B -/
def k17 : Class := { plain "[B" (some 0) with kind := .array 16 .byte, interfaces := #[11, 4], accessFlags := 1041 }

/-- the primitive char -/
def k18 : Class := { plain "char" none with kind := .primitive 'C', accessFlags := 0x411 }
/-- [C -/
def k19 : Class := { plain "[C" (some 0) with kind := .array 18 .char, interfaces := #[11, 4], accessFlags := 1041 }

/-- the primitive int -/
def k20 : Class := { plain "int" none with kind := .primitive 'I', accessFlags := 0x411 }
/-- [I -/
def k21 : Class := { plain "[I" (some 0) with kind := .array 20 .int, interfaces := #[11, 4], accessFlags := 1041 }

/-- [Lcom/example/proof_to_token/prooftotoken/config/Sociability; -/
def k22 : Class := { plain "[Lcom/example/proof_to_token/prooftotoken/config/Sociability;" (some 0) with kind := .array 6 (.object "com/example/proof_to_token/prooftotoken/config/Sociability"), interfaces := #[11, 4], accessFlags := 1041 }

def heap : Heap := #[{ cls := 6, slots := #[.ref 5, .ref 6, .ref 4], vm := .statics 6 },
  { cls := 9, slots := #[.long 0, .int 1, .null, .int 0, .null, .int 0, .int 0], vm := .statics 9 },
  { cls := 13, slots := #[.ref 11], vm := .statics 13 },
  { cls := 14, slots := #[.null, .null, .null], vm := .statics 14 },
  { cls := 22, slots := #[.ref 5, .ref 6], vm := .none },
  { cls := 6, slots := #[.null, .int 0, .int 0, .ref 7, .int 0], vm := .none },
  { cls := 6, slots := #[.null, .int 1, .int 0, .ref 8, .int 1], vm := .none },
  { cls := 9, slots := #[.ref 9, .int 0, .int 0, .int 0], vm := .none },
  { cls := 9, slots := #[.ref 10, .int 0, .int 0, .int 0], vm := .none },
  { cls := 17, slots := #[.int 65, .int 108, .int 108, .int 79, .int 114, .int 103, .int 97, .int 110, .int 105, .int 122, .int 97, .int 116, .int 105, .int 111, .int 110, .int 115], vm := .none },
  { cls := 17, slots := #[.int 67, .int 111, .int 117, .int 110, .int 116, .int 101, .int 114, .int 97, .int 103, .int 101, .int 110, .int 116, .int 115, .int 79, .int 110, .int 108, .int 121], vm := .none },
  { cls := 13, slots := #[.null], vm := .none }]
def classes : Array Class := #[k0, k1, k2, k3, k4, k5, k6, k7, k8, k9, k10, k11, k12, k13, k14, k15, k16, k17, k18, k19, k20, k21, k22]
def interned : List (Array UInt16 × Addr) := []
def slotsUsed : Nat := 68
def theMethod : MethodId := ⟨1, 7⟩
def args0 : Array Value := #[.int 3, .int 5, .int 5, .int 5]
def aboutOver (below : List Frame) : State where
  vm := { classes := classes, interned := interned.toArray }
  heap := heap
  slotsUsed := slotsUsed
  threads := #[{ frames := .invoking theMethod args0 :: below }]
def below0 : List Frame := [.native { method := ⟨0, 0⟩, args := #[] }]
def about1 : State := aboutOver below0
def p0 : Program := .bare "" "" ""
def e0 : Env := launch0.env 0 0 0
theorem w_frames : about1.frames = Frame.invoking theMethod args0 :: below0 := rfl
set_option maxRecDepth 65536 in
theorem w_args : argsFit about1.vm theMethod args0 = true := by decide +kernel
set_option maxRecDepth 65536 in
theorem w_heap : heapFits about1 = true := by decide +kernel
set_option maxRecDepth 65536 in
theorem w_runnable : about1.curStatus? = some .runnable := by decide +kernel
set_option maxRecDepth 65536 in
theorem w_alone : about1.alone = true := by decide +kernel
set_option maxRecDepth 65536 in
theorem w_named : about1.methodNamed? x = some theMethod := by decide +kernel
set_option maxRecDepth 65536 in
theorem w_hears : about1.hears theMethod below0 = true := by decide +kernel
set_option maxRecDepth 65536 in
theorem w_ripe : about1.ripe theMethod args0 below0 = true := by decide +kernel
theorem w_running : about1.status = .running := rfl
set_option maxRecDepth 65536 in
theorem w_room : about1.hasRoom e0.platform room_1 = true :=
  launch0.hasRoom_least _ room_1 (by decide +kernel) (by decide +kernel) (by decide +kernel) (by decide +kernel) (by decide +kernel) (by decide +kernel)
theorem allAtoms_all (ts : List Jvm.Cond) (a : Array Jvm.Value) (st : Jvm.State) : (allAtoms ts).before a st = ts.all (fun c => c.before a st) := by
  induction ts with
  | nil => rfl
  | cons c t ih =>
    show (Jvm.Cond.and c (allAtoms t)).before a st = _
    rw [Jvm.Cond.before_and, ih, List.all_cons]
def words1 : List Jvm.Cond := Jvm.Cond.code x code maxLocals ret :: tables_1
/-- a 'code' word, met by the world's own term for the bytes: nothing is compared byte by byte -/
theorem code_word {y : MethodName} {bytes : ByteArray} {mx : Nat} {rt : Option FieldType} {a : Array Value} {s : State} {m : MethodId} {meth : Method} {c : Code} (h1 : s.methodNamed? y = some m) (h2 : s.vm.method? m = some meth) (h3 : meth.code = some c) (h4 : c.code = bytes)
    (h5 : (c.maxLocals == mx && c.exceptionTable.isEmpty && decide (c.maxStack ≤ mostOperands) && decide (meth.sig.returnType = rt) && !meth.locks && decide (parseMethodDescriptor y.desc = some meth.sig)) = true) : (Jvm.Cond.code y bytes mx rt).before a s = true := by
  simp only [Bool.and_eq_true, beq_iff_eq, Bool.not_eq_true', decide_eq_true_eq] at h5
  obtain ⟨⟨⟨⟨⟨g1, g2⟩, g3⟩, g4⟩, g5⟩, g6⟩ := h5
  simp [Cond.before, Cond.holds, Cond.value, h1, h2, h3, h4, g1, g2, g3, g4, g5, g6]
def isCode : Jvm.Cond → Bool
  | .code _ _ _ _ => true
  | _ => false
theorem all_split {L : List Jvm.Cond} {P : Jvm.Cond → Bool} (h1 : L.all (fun c => isCode c || P c) = true) (h2 : ∀ c ∈ L.filter isCode, P c = true) : L.all P = true := by
  refine List.all_eq_true.mpr fun c hc => ?_
  have h := List.all_eq_true.mp h1 c hc
  rcases Bool.eq_false_or_eq_true (isCode c) with hi | hi
  · exact h2 c (List.mem_filter.mpr ⟨hc, hi⟩)
  · simpa [hi] using h
set_option maxRecDepth 65536 in
theorem w_c0 : (Jvm.Cond.code x code maxLocals ret).before args0 about1 = true := code_word (m := ⟨1, 7⟩) (meth := k1m7) (c := k1c7) (by decide +kernel) rfl rfl rfl (by decide +kernel)
set_option maxRecDepth 65536 in
theorem w_c1 : (Jvm.Cond.code ({ cls := "com/example/proof_to_token/prooftotoken/config/SociabilityNamedPinLaw", name := "allOrgs", desc := "()[C" } : Jvm.MethodName) method_2_code (0 : Nat) (Option.some (Jvm.ClassFile.FieldType.array Jvm.ClassFile.FieldType.char))).before args0 about1 = true := code_word (m := ⟨1, 1⟩) (meth := k1m1) (c := k1c1) (by decide +kernel) rfl rfl rfl (by decide +kernel)
set_option maxRecDepth 65536 in
theorem w_c2 : (Jvm.Cond.code ({ cls := "java/lang/String", name := "<init>", desc := "([C)V" } : Jvm.MethodName) jdk_42_method_3_code (2 : Nat) (Option.none : Option Jvm.ClassFile.FieldType)).before args0 about1 = true := code_word (m := ⟨9, 1⟩) (meth := k9m1) (c := k9c1) (by decide +kernel) rfl rfl rfl (by decide +kernel)
set_option maxRecDepth 65536 in
theorem w_c3 : (Jvm.Cond.code ({ cls := "java/lang/String", name := "<init>", desc := "([CIILjava/lang/Void;)V" } : Jvm.MethodName) jdk_42_method_149_code (6 : Nat) (Option.none : Option Jvm.ClassFile.FieldType)).before args0 about1 = true := code_word (m := ⟨9, 3⟩) (meth := k9m3) (c := k9c3) (by decide +kernel) rfl rfl rfl (by decide +kernel)
set_option maxRecDepth 65536 in
theorem w_c4 : (Jvm.Cond.code ({ cls := "java/lang/Object", name := "<init>", desc := "()V" } : Jvm.MethodName) object_method_1_code (1 : Nat) (Option.none : Option Jvm.ClassFile.FieldType)).before args0 about1 = true := code_word (m := ⟨0, 0⟩) (meth := k0m0) (c := k0c0) (by decide +kernel) rfl rfl rfl (by decide +kernel)
set_option maxRecDepth 65536 in
theorem w_c5 : (Jvm.Cond.code ({ cls := "java/lang/StringUTF16", name := "compress", desc := "([CII)[B" } : Jvm.MethodName) jdk_52_method_16_code (6 : Nat) (Option.some (Jvm.ClassFile.FieldType.array Jvm.ClassFile.FieldType.byte))).before args0 about1 = true := code_word (m := ⟨10, 2⟩) (meth := k10m2) (c := k10c2) (by decide +kernel) rfl rfl rfl (by decide +kernel)
set_option maxRecDepth 65536 in
theorem w_c6 : (Jvm.Cond.code ({ cls := "java/lang/StringUTF16", name := "compress", desc := "([CI[BII)I" } : Jvm.MethodName) jdk_52_method_21_code (7 : Nat) (Option.some Jvm.ClassFile.FieldType.int)).before args0 about1 = true := code_word (m := ⟨10, 3⟩) (meth := k10m3) (c := k10c3) (by decide +kernel) rfl rfl rfl (by decide +kernel)
set_option maxRecDepth 65536 in
theorem w_c7 : (Jvm.Cond.code ({ cls := "java/lang/StringUTF16", name := "coderFromArrayLen", desc := "([BI)B" } : Jvm.MethodName) jdk_52_method_15_code (2 : Nat) (Option.some Jvm.ClassFile.FieldType.byte)).before args0 about1 = true := code_word (m := ⟨10, 1⟩) (meth := k10m1) (c := k10c1) (by decide +kernel) rfl rfl rfl (by decide +kernel)
set_option maxRecDepth 65536 in
theorem w_c8 : (Jvm.Cond.code ({ cls := "com/example/proof_to_token/prooftotoken/config/Sociability", name := "named", desc := "(Ljava/lang/String;)Ljava/util/Optional;" } : Jvm.MethodName) prog_7_method_6_code (6 : Nat) (Option.some (Jvm.ClassFile.FieldType.object "java/util/Optional"))).before args0 about1 = true := code_word (m := ⟨6, 1⟩) (meth := k6m1) (c := k6c1) (by decide +kernel) rfl rfl rfl (by decide +kernel)
set_option maxRecDepth 65536 in
theorem w_c9 : (Jvm.Cond.code ({ cls := "com/example/proof_to_token/prooftotoken/config/Sociability", name := "values", desc := "()[Lcom/example/proof_to_token/prooftotoken/config/Sociability;" } : Jvm.MethodName) prog_7_method_1_code (0 : Nat) (Option.some (Jvm.ClassFile.FieldType.array (Jvm.ClassFile.FieldType.object "com/example/proof_to_token/prooftotoken/config/Sociability")))).before args0 about1 = true := code_word (m := ⟨6, 0⟩) (meth := k6m0) (c := k6c0) (by decide +kernel) rfl rfl rfl (by decide +kernel)
set_option maxRecDepth 65536 in
theorem w_c10 : (Jvm.Cond.code ({ cls := "java/lang/String", name := "equals", desc := "(Ljava/lang/Object;)Z" } : Jvm.MethodName) jdk_42_method_66_code (3 : Nat) (Option.some Jvm.ClassFile.FieldType.boolean)).before args0 about1 = true := code_word (m := ⟨9, 2⟩) (meth := k9m2) (c := k9c2) (by decide +kernel) rfl rfl rfl (by decide +kernel)
set_option maxRecDepth 65536 in
theorem w_c11 : (Jvm.Cond.code ({ cls := "java/lang/StringLatin1", name := "equals", desc := "([B[B)Z" } : Jvm.MethodName) jdk_43_method_13_code (3 : Nat) (Option.some Jvm.ClassFile.FieldType.boolean)).before args0 about1 = true := code_word (m := ⟨12, 1⟩) (meth := k12m1) (c := k12c1) (by decide +kernel) rfl rfl rfl (by decide +kernel)
set_option maxRecDepth 65536 in
theorem w_c12 : (Jvm.Cond.code ({ cls := "java/util/Optional", name := "ofNullable", desc := "(Ljava/lang/Object;)Ljava/util/Optional;" } : Jvm.MethodName) jdk_32_method_4_code (1 : Nat) (Option.some (Jvm.ClassFile.FieldType.object "java/util/Optional"))).before args0 about1 = true := code_word (m := ⟨13, 1⟩) (meth := k13m1) (c := k13c1) (by decide +kernel) rfl rfl rfl (by decide +kernel)
set_option maxRecDepth 65536 in
theorem w_c13 : (Jvm.Cond.code ({ cls := "java/util/Optional", name := "<init>", desc := "(Ljava/lang/Object;)V" } : Jvm.MethodName) jdk_32_method_2_code (2 : Nat) (Option.none : Option Jvm.ClassFile.FieldType)).before args0 about1 = true := code_word (m := ⟨13, 0⟩) (meth := k13m0) (c := k13c0) (by decide +kernel) rfl rfl rfl (by decide +kernel)
set_option maxRecDepth 65536 in
theorem w_c14 : (Jvm.Cond.code ({ cls := "java/util/Optional", name := "orElse", desc := "(Ljava/lang/Object;)Ljava/lang/Object;" } : Jvm.MethodName) jdk_32_method_15_code (2 : Nat) (Option.some (Jvm.ClassFile.FieldType.object "java/lang/Object"))).before args0 about1 = true := code_word (m := ⟨13, 2⟩) (meth := k13m2) (c := k13c2) (by decide +kernel) rfl rfl rfl (by decide +kernel)
set_option maxRecDepth 65536 in
theorem w_c15 : (Jvm.Cond.code ({ cls := "com/example/proof_to_token/prooftotoken/config/SociabilityNamedPinLaw", name := "cntOnly", desc := "()[C" } : Jvm.MethodName) method_3_code (0 : Nat) (Option.some (Jvm.ClassFile.FieldType.array Jvm.ClassFile.FieldType.char))).before args0 about1 = true := code_word (m := ⟨1, 2⟩) (meth := k1m2) (c := k1c2) (by decide +kernel) rfl rfl rfl (by decide +kernel)
set_option maxRecDepth 65536 in
theorem w_c16 : (Jvm.Cond.code ({ cls := "com/example/proof_to_token/prooftotoken/config/SociabilityNamedPinLaw", name := "cntOnlyShort", desc := "()[C" } : Jvm.MethodName) method_7_code (0 : Nat) (Option.some (Jvm.ClassFile.FieldType.array Jvm.ClassFile.FieldType.char))).before args0 about1 = true := code_word (m := ⟨1, 6⟩) (meth := k1m6) (c := k1c6) (by decide +kernel) rfl rfl rfl (by decide +kernel)
set_option maxRecDepth 65536 in
theorem w_c17 : (Jvm.Cond.code ({ cls := "com/example/proof_to_token/prooftotoken/config/SociabilityNamedPinLaw", name := "allOrgsPlus", desc := "(C)[C" } : Jvm.MethodName) method_4_code (1 : Nat) (Option.some (Jvm.ClassFile.FieldType.array Jvm.ClassFile.FieldType.char))).before args0 about1 = true := code_word (m := ⟨1, 3⟩) (meth := k1m3) (c := k1c3) (by decide +kernel) rfl rfl rfl (by decide +kernel)
set_option maxRecDepth 65536 in
theorem w_c18 : (Jvm.Cond.code ({ cls := "com/example/proof_to_token/prooftotoken/config/SociabilityNamedPinLaw", name := "cntOnlyPlus", desc := "(C)[C" } : Jvm.MethodName) method_5_code (1 : Nat) (Option.some (Jvm.ClassFile.FieldType.array Jvm.ClassFile.FieldType.char))).before args0 about1 = true := code_word (m := ⟨1, 4⟩) (meth := k1m4) (c := k1c4) (by decide +kernel) rfl rfl rfl (by decide +kernel)
set_option maxRecDepth 65536 in
theorem w_c19 : (Jvm.Cond.code ({ cls := "com/example/proof_to_token/prooftotoken/config/SociabilityNamedPinLaw", name := "allOrgsShort", desc := "()[C" } : Jvm.MethodName) method_6_code (0 : Nat) (Option.some (Jvm.ClassFile.FieldType.array Jvm.ClassFile.FieldType.char))).before args0 about1 = true := code_word (m := ⟨1, 5⟩) (meth := k1m5) (c := k1c5) (by decide +kernel) rfl rfl rfl (by decide +kernel)
def codes1 : List Jvm.Cond := [Jvm.Cond.code x code maxLocals ret, Jvm.Cond.code ({ cls := "com/example/proof_to_token/prooftotoken/config/SociabilityNamedPinLaw", name := "allOrgs", desc := "()[C" } : Jvm.MethodName) method_2_code (0 : Nat) (Option.some (Jvm.ClassFile.FieldType.array Jvm.ClassFile.FieldType.char)), Jvm.Cond.code ({ cls := "java/lang/String", name := "<init>", desc := "([C)V" } : Jvm.MethodName) jdk_42_method_3_code (2 : Nat) (Option.none : Option Jvm.ClassFile.FieldType), Jvm.Cond.code ({ cls := "java/lang/String", name := "<init>", desc := "([CIILjava/lang/Void;)V" } : Jvm.MethodName) jdk_42_method_149_code (6 : Nat) (Option.none : Option Jvm.ClassFile.FieldType), Jvm.Cond.code ({ cls := "java/lang/Object", name := "<init>", desc := "()V" } : Jvm.MethodName) object_method_1_code (1 : Nat) (Option.none : Option Jvm.ClassFile.FieldType), Jvm.Cond.code ({ cls := "java/lang/StringUTF16", name := "compress", desc := "([CII)[B" } : Jvm.MethodName) jdk_52_method_16_code (6 : Nat) (Option.some (Jvm.ClassFile.FieldType.array Jvm.ClassFile.FieldType.byte)), Jvm.Cond.code ({ cls := "java/lang/StringUTF16", name := "compress", desc := "([CI[BII)I" } : Jvm.MethodName) jdk_52_method_21_code (7 : Nat) (Option.some Jvm.ClassFile.FieldType.int), Jvm.Cond.code ({ cls := "java/lang/StringUTF16", name := "coderFromArrayLen", desc := "([BI)B" } : Jvm.MethodName) jdk_52_method_15_code (2 : Nat) (Option.some Jvm.ClassFile.FieldType.byte), Jvm.Cond.code ({ cls := "com/example/proof_to_token/prooftotoken/config/Sociability", name := "named", desc := "(Ljava/lang/String;)Ljava/util/Optional;" } : Jvm.MethodName) prog_7_method_6_code (6 : Nat) (Option.some (Jvm.ClassFile.FieldType.object "java/util/Optional")), Jvm.Cond.code ({ cls := "com/example/proof_to_token/prooftotoken/config/Sociability", name := "values", desc := "()[Lcom/example/proof_to_token/prooftotoken/config/Sociability;" } : Jvm.MethodName) prog_7_method_1_code (0 : Nat) (Option.some (Jvm.ClassFile.FieldType.array (Jvm.ClassFile.FieldType.object "com/example/proof_to_token/prooftotoken/config/Sociability"))), Jvm.Cond.code ({ cls := "java/lang/String", name := "equals", desc := "(Ljava/lang/Object;)Z" } : Jvm.MethodName) jdk_42_method_66_code (3 : Nat) (Option.some Jvm.ClassFile.FieldType.boolean), Jvm.Cond.code ({ cls := "java/lang/StringLatin1", name := "equals", desc := "([B[B)Z" } : Jvm.MethodName) jdk_43_method_13_code (3 : Nat) (Option.some Jvm.ClassFile.FieldType.boolean), Jvm.Cond.code ({ cls := "java/util/Optional", name := "ofNullable", desc := "(Ljava/lang/Object;)Ljava/util/Optional;" } : Jvm.MethodName) jdk_32_method_4_code (1 : Nat) (Option.some (Jvm.ClassFile.FieldType.object "java/util/Optional")), Jvm.Cond.code ({ cls := "java/util/Optional", name := "<init>", desc := "(Ljava/lang/Object;)V" } : Jvm.MethodName) jdk_32_method_2_code (2 : Nat) (Option.none : Option Jvm.ClassFile.FieldType), Jvm.Cond.code ({ cls := "java/util/Optional", name := "orElse", desc := "(Ljava/lang/Object;)Ljava/lang/Object;" } : Jvm.MethodName) jdk_32_method_15_code (2 : Nat) (Option.some (Jvm.ClassFile.FieldType.object "java/lang/Object")), Jvm.Cond.code ({ cls := "com/example/proof_to_token/prooftotoken/config/SociabilityNamedPinLaw", name := "cntOnly", desc := "()[C" } : Jvm.MethodName) method_3_code (0 : Nat) (Option.some (Jvm.ClassFile.FieldType.array Jvm.ClassFile.FieldType.char)), Jvm.Cond.code ({ cls := "com/example/proof_to_token/prooftotoken/config/SociabilityNamedPinLaw", name := "cntOnlyShort", desc := "()[C" } : Jvm.MethodName) method_7_code (0 : Nat) (Option.some (Jvm.ClassFile.FieldType.array Jvm.ClassFile.FieldType.char)), Jvm.Cond.code ({ cls := "com/example/proof_to_token/prooftotoken/config/SociabilityNamedPinLaw", name := "allOrgsPlus", desc := "(C)[C" } : Jvm.MethodName) method_4_code (1 : Nat) (Option.some (Jvm.ClassFile.FieldType.array Jvm.ClassFile.FieldType.char)), Jvm.Cond.code ({ cls := "com/example/proof_to_token/prooftotoken/config/SociabilityNamedPinLaw", name := "cntOnlyPlus", desc := "(C)[C" } : Jvm.MethodName) method_5_code (1 : Nat) (Option.some (Jvm.ClassFile.FieldType.array Jvm.ClassFile.FieldType.char)), Jvm.Cond.code ({ cls := "com/example/proof_to_token/prooftotoken/config/SociabilityNamedPinLaw", name := "allOrgsShort", desc := "()[C" } : Jvm.MethodName) method_6_code (0 : Nat) (Option.some (Jvm.ClassFile.FieldType.array Jvm.ClassFile.FieldType.char))]
set_option maxRecDepth 65536 in
theorem codes_eq : words1.filter isCode = codes1 := rfl
theorem w_codes : ∀ c ∈ words1.filter isCode, c.before args0 about1 = true := by
  rw [codes_eq]
  intro c hc
  simp only [codes1, List.mem_cons, List.not_mem_nil, or_false] at hc
  rcases hc with rfl | rfl | rfl | rfl | rfl | rfl | rfl | rfl | rfl | rfl | rfl | rfl | rfl | rfl | rfl | rfl | rfl | rfl | rfl | rfl
  · exact w_c0
  · exact w_c1
  · exact w_c2
  · exact w_c3
  · exact w_c4
  · exact w_c5
  · exact w_c6
  · exact w_c7
  · exact w_c8
  · exact w_c9
  · exact w_c10
  · exact w_c11
  · exact w_c12
  · exact w_c13
  · exact w_c14
  · exact w_c15
  · exact w_c16
  · exact w_c17
  · exact w_c18
  · exact w_c19
set_option maxRecDepth 65536 in
theorem w_t1 : (words1.take 24).all (fun c => isCode c || c.before args0 about1) = true := by decide +kernel
set_option maxRecDepth 65536 in
theorem w_t2 : ((words1.drop 24).take 24).all (fun c => isCode c || c.before args0 about1) = true := by decide +kernel
set_option maxRecDepth 65536 in
theorem w_t3 : (((words1.drop 24).drop 24).take 24).all (fun c => isCode c || c.before args0 about1) = true := by decide +kernel
set_option maxRecDepth 65536 in
theorem w_t4 : ((((words1.drop 24).drop 24).drop 24).take 24).all (fun c => isCode c || c.before args0 about1) = true := by decide +kernel
set_option maxRecDepth 65536 in
theorem w_t5 : ((((words1.drop 24).drop 24).drop 24).drop 24).all (fun c => isCode c || c.before args0 about1) = true := by decide +kernel
theorem w_tables : (allAtoms (Jvm.Cond.code x code maxLocals ret :: tables_1)).before args0 about1 = true := by
  rw [allAtoms_all]
  show words1.all (fun c => c.before args0 about1) = true
  refine all_split ?_ w_codes
  rw [← List.take_append_drop 24 words1, List.all_append, w_t1, ← List.take_append_drop 24 (words1.drop 24), List.all_append, w_t2, ← List.take_append_drop 24 ((words1.drop 24).drop 24), List.all_append, w_t3, ← List.take_append_drop 24 (((words1.drop 24).drop 24).drop 24), List.all_append, w_t4, w_t5]
  rfl
set_option maxRecDepth 65536 in
theorem w_rest : rest_1_c.before args0 about1 = true := by decide +kernel
set_option maxRecDepth 65536 in
theorem w_case : (Jvm.Cond.and given_1 narrow_1).before args0 about1 = true := by decide +kernel
set_option maxRecDepth 65536 in
theorem w_consts : constsHeld consts_1 about1 := Jvm.Lit.constsHeldB_iff.mp (by decide +kernel)
theorem w_applies : (headSpec (Jvm.Cond.code x code maxLocals ret :: tables_1) room_1).applies x e0.platform about1 = true :=
  (Spec.applies_iff w_frames).mpr ⟨w_running, w_runnable, w_alone, w_named, w_hears, w_ripe, w_room, w_tables⟩
theorem atStart : AtStart classFile x code maxLocals ret World_1 tables_1 room_1 Calls_1 rest_1 Pre_1 launch0 p0 e0 about1 theMethod args0 below0 :=
  ⟨lists_1, trivial, launch0.admits_env _ _ _, launch0.least_env, fairChoices_fair.cas, fairChoices_fair.clock, w_frames, w_args, w_heap, w_applies, ⟨w_consts, trivial⟩, w_rest, w_case⟩
end start1
theorem witness_1 : WitnessClaimed_1 := ⟨start1.p0, start1.e0, start1.about1, start1.theMethod, start1.args0, start1.below0, start1.atStart⟩
end Jvm.Pilot.@@N@@
