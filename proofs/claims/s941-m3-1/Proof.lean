import JvmDerived
import JvmDerived.Pilot.@@N@@Statement
import JvmDerived.Pilot.@@N@@Code
set_option linter.unusedVariables false
set_option linter.unusedSimpArgs false
/- laws to paste: Road.backV, Road.codOf, Road.eqW, Road.lenW, Road.chN (cut by pick.py; bodies as the Statement names them) -/
namespace Jvm.Pilot.@@N@@
namespace StrChars
open Jvm Sem ClassFile Op Lib Jvm.Stand Jvm.Free.XT Jvm.Free.ALB Jvm.Free.JM Jvm.Free
open Jvm.Lib.Cold (StaticIs)
/-- a char array whose places are chars -/
def Ch (a : Addr) (A : Cell) (U : State) : Prop := Arr .char a A U ∧ Typed .char A
theorem Ch.mv {a : Addr} {A : Cell} {U U' : State} (h : Ch a A U) (hal : U.vm.Alike U'.vm) (hh : U'.heap = U.heap) : Ch a A U' := ⟨h.1.mv hal hh, h.2⟩
theorem Ch.keep {a : Addr} {A : Cell} {U U' : State} (h : Ch a A U) (hal : U.vm.Alike U'.vm) (hk : U'.heap[a]? = some A) : Ch a A U' := ⟨h.1.keep hal hk, h.2⟩
/-- what place i of a char[]'s cell holds -/
def cv (A : Cell) (i : Nat) : Int32 := match A.slots[i]? with | some (.int x) => x | _ => 0
theorem Ch.get {a : Addr} {A : Cell} {U : State} (h : Ch a A U) {i : Nat} (hi : i < A.slots.size) : A.slots[i]? = some (.int (cv A i)) := by
  have e := Array.getElem?_eq_getElem hi
  have f := h.2 i _ e
  unfold cv; rw [e]
  generalize A.slots[i] = v at f
  cases v <;> simp [fits] at f ⊢
/-- the byte that i2b leaves of a char -/
def lo8 (x : Int32) : Int32 := x.toInt8.toInt32
theorem fits_lo8 (y : Int32) : fits .byte (.int (lo8 y)) = true := by
  have h1 := y.toInt8.le_toInt
  have h2 := y.toInt8.toInt_lt
  simp only [lo8, fits, Bool.and_eq_true, decide_eq_true_eq, Int32.le_iff_toInt_le, Int8.toInt_toInt32, show (-128 : Int32).toInt = -128 from by decide, show (127 : Int32).toInt = 127 from by decide]
  omega
/-- A' is A but that each place j of lo .. hi - 1 holds f j -/
def Laid (A A' : Cell) (lo hi : Nat) (f : Nat → Value) : Prop := A'.cls = A.cls ∧ A'.vm = A.vm ∧ A'.slots.size = A.slots.size ∧ ∀ i, A'.slots[i]? = if lo ≤ i ∧ i < hi then some (f i) else A.slots[i]?
theorem Laid.zero (A : Cell) (lo : Nat) (f : Nat → Value) : Laid A A lo (lo + 0) f := ⟨rfl, rfl, rfl, fun i => by rw [if_neg (by omega)]⟩
theorem Laid.step {A Ak : Cell} {lo k : Nat} {f : Nat → Value} {v : Value} (h : Laid A Ak lo k f) (hlo : lo ≤ k) (hk : k < Ak.slots.size) (hv : v = f k) : Laid A (Ak.setSlot k v) lo (k + 1) f := by
  refine ⟨h.1, h.2.1, by simpa [Cell.setSlot] using h.2.2.1, fun i => ?_⟩
  by_cases e : k = i
  · subst e; rw [Cell.slots_setSlot_self v hk, if_pos (by omega), hv]
  · rw [Cell.slots_setSlot_ne v e, h.2.2.2 i]
    by_cases q : lo ≤ i ∧ i < k
    · rw [if_pos q, if_pos (by omega)]
    · rw [if_neg q, if_neg (by omega)]
def U16 : String := "java/lang/StringUTF16"
namespace Cmp5
def yN : MethodName := ⟨"java/lang/StringUTF16", "compress", "([CI[BII)I"⟩
abbrev yB : ByteArray := jdk_52_method_21_code
theorem d0 : decode yB 0 = .ok (.iconst 0, 1) := by decide +kernel
theorem d1 : decode yB 1 = .ok (.istore 5, 2) := by decide +kernel
theorem d3 : decode yB 3 = .ok (.iload 5, 2) := by decide +kernel
theorem d5 : decode yB 5 = .ok (.iload 4, 2) := by decide +kernel
theorem d7 : decode yB 7 = .ok (.if_icmp (.ge) 37, 3) := by decide +kernel
theorem d10 : decode yB 10 = .ok (.aload_n 0, 1) := by decide +kernel
theorem d11 : decode yB 11 = .ok (.iload_n 1, 1) := by decide +kernel
theorem d12 : decode yB 12 = .ok (.caload, 1) := by decide +kernel
theorem d13 : decode yB 13 = .ok (.istore 6, 2) := by decide +kernel
theorem d15 : decode yB 15 = .ok (.iload 6, 2) := by decide +kernel
theorem d17 : decode yB 17 = .ok (.sipush 255, 3) := by decide +kernel
theorem d20 : decode yB 20 = .ok (.if_icmp (.le) 6, 3) := by decide +kernel
theorem d26 : decode yB 26 = .ok (.aload_n 2, 1) := by decide +kernel
theorem d27 : decode yB 27 = .ok (.iload_n 3, 1) := by decide +kernel
theorem d28 : decode yB 28 = .ok (.iload 6, 2) := by decide +kernel
theorem d30 : decode yB 30 = .ok (.i2b, 1) := by decide +kernel
theorem d31 : decode yB 31 = .ok (.bastore, 1) := by decide +kernel
theorem d32 : decode yB 32 = .ok (.iinc 1 1, 3) := by decide +kernel
theorem d35 : decode yB 35 = .ok (.iinc 3 1, 3) := by decide +kernel
theorem d38 : decode yB 38 = .ok (.iinc 5 1, 3) := by decide +kernel
theorem d41 : decode yB 41 = .ok (.goto (-38), 3) := by decide +kernel
theorem d44 : decode yB 44 = .ok (.iload 4, 2) := by decide +kernel
theorem d46 : decode yB 46 = .ok (.ireturn, 1) := by decide +kernel
def site : List Cond := []
def tab : Cond := tabOf yN yB 7 (some .int) site
def P (b : Addr) (A : Cell) (d : Addr) (B : Cell) (o q len : Nat) (args : Array Value) (s : State) : Prop := args = #[.ref b, .int (Int32.ofNat o), .ref d, .int (Int32.ofNat q), .int (Int32.ofNat len)] ∧ Ch b A s ∧ Arr .byte d B s ∧ b ≠ d ∧ o + len ≤ A.slots.size ∧ q + len ≤ B.slots.size ∧ ∀ i, i < len → ¬ 255 < cv A (o + i)
def E (b : Addr) (A : Cell) (d : Addr) (B : Cell) (o q len : Nat) (r : Option Value) (s u : State) : Prop := r = some (.int (Int32.ofNat len)) ∧ ∃ B', Put d B' s u ∧ Laid B B' q (q + len) (fun j => Value.int (lo8 (cv A (o + (j - q)))))
/-- no char of the range above 255: len; the places written hold each char's low byte -/
theorem law (l : Launch) (b : Addr) (A : Cell) (d : Addr) (B : Cell) (o q len : Nat) : Law l yN 5 5 0 0 yB 7 (some .int) site (P b A d B o q len) (E b A d B o q len) (copyLocs d q len) 0 0 := by
  refine Law.of_walk (plainFor_of_name (by decide +kernel)) (by decide +kernel) (by decide +kernel) (by decide) (fun _ _ h => by rw [h.1]; rfl) (fun _ U U' hal hh h => ⟨h.1, h.2.1.mv hal hh, h.2.2.1.mv hal hh, h.2.2.2⟩) (fun r U U' V V' h1 hal h2 h => ⟨h.1, h.2.elim fun B' q => ⟨B', q.1.mv h1 h2, q.2⟩⟩) ?_
  intro p e s m args below meth c s₁ X0 hexec hbytes hml hret hlk hnm hown hh0 W hP
  obtain ⟨rfl, hA, hB, hne, l1, l2, hp⟩ := hP
  have c1 : Steps p.tables e below (s₁.setTop (entryFrame m #[.ref b, .int (Int32.ofNat o), .ref d, .int (Int32.ofNat q), .int (Int32.ofNat len)] 7)) (s₁.setTop (mkF m 0 #[.val (.ref b), .val (.int (Int32.ofNat o)), .val (.ref d), .val (.int (Int32.ofNat q)), .val (.int (Int32.ofNat len)), .unset, .unset] [])) := entry rfl
  have hA0 := hA.1.mv X0.warmed.alike hh0
  have hB0 := hB.mv X0.warmed.alike hh0
  have a31 := hA.1.2.2.2
  have c2 : Steps p.tables e below (s₁.setTop (entryFrame m #[.ref b, .int (Int32.ofNat o), .ref d, .int (Int32.ofNat q), .int (Int32.ofNat len)] 7)) (s₁.setTop (mkF m 3 #[.val (.ref b), .val (.int (Int32.ofNat o)), .val (.ref d), .val (.int (Int32.ofNat q)), .val (.int (Int32.ofNat len)), .val (.int 0), .unset] [])) := c1.trans (by
    refine iconstV X0.here hexec rfl 0 (hb hbytes d0) (by decide) ?_
    refine XS.istore X0.here hexec rfl (hb hbytes d1) rfl rfl ?_
    exact Steps.refl _)
  have loop : ∀ (r i : Nat), i + r = len → ∀ (z : Slot), (z = .unset ∨ ∃ w, z = .val w ∧ w.category = 1) → ∀ (Tl : State) (Bk : Cell), Stand p l e { frames := 0, locals := 0, cells := 0, slots := 0 } s m #[.ref b, .int (Int32.ofNat o), .ref d, .int (Int32.ofNat q), .int (Int32.ofNat len)] below meth c Tl ([] ++ copyLocs d q i) 0 0 → Put d Bk s₁ Tl → Laid B Bk q (q + i) (fun j => Value.int (lo8 (cv A (o + (j - q))))) →
      Steps p.tables e below (s₁.setTop (entryFrame m #[.ref b, .int (Int32.ofNat o), .ref d, .int (Int32.ofNat q), .int (Int32.ofNat len)] 7)) (Tl.setTop (mkF m 3 #[.val (.ref b), .val (.int (Int32.ofNat (o + i))), .val (.ref d), .val (.int (Int32.ofNat (q + i))), .val (.int (Int32.ofNat len)), .val (.int (Int32.ofNat i)), z] [])) → ∃ (T' : State) (B' : Cell) (z' : Slot), Stand p l e { frames := 0, locals := 0, cells := 0, slots := 0 } s m #[.ref b, .int (Int32.ofNat o), .ref d, .int (Int32.ofNat q), .int (Int32.ofNat len)] below meth c T' ([] ++ copyLocs d q len) 0 0 ∧ Put d B' s₁ T' ∧ Laid B B' q (q + len) (fun j => Value.int (lo8 (cv A (o + (j - q))))) ∧
      Steps p.tables e below (s₁.setTop (entryFrame m #[.ref b, .int (Int32.ofNat o), .ref d, .int (Int32.ofNat q), .int (Int32.ofNat len)] 7)) (T'.setTop (mkF m 3 #[.val (.ref b), .val (.int (Int32.ofNat (o + len))), .val (.ref d), .val (.int (Int32.ofNat (q + len))), .val (.int (Int32.ofNat len)), .val (.int (Int32.ofNat len)), z'] [])) := by
    intro r
    induction r with
    | zero =>
      intro i hi z hz Tl Bk Xl pl fl cl
      have hil : i = len := by omega
      rw [hil] at Xl fl cl
      exact ⟨Tl, Bk, z, Xl, pl, fl, cl⟩
    | succ r ih =>
      intro i hi z hz Tl Bk Xl pl fl cl
      have all := X0.warmed.alike.symm.trans Xl.warmed.alike
      have hAl := hA0.keep all (pl.other hne hA0.1)
      have hBk := hB0.like all pl.1 fl.1 fl.2.1 fl.2.2.1
      have hlt : q + i < Bk.slots.size := by rw [fl.2.2.1]; omega
      have c3 : Steps p.tables e below (s₁.setTop (entryFrame m #[.ref b, .int (Int32.ofNat o), .ref d, .int (Int32.ofNat q), .int (Int32.ofNat len)] 7)) (Tl.setTop (mkF m 12 #[.val (.ref b), .val (.int (Int32.ofNat (o + i))), .val (.ref d), .val (.int (Int32.ofNat (q + i))), .val (.int (Int32.ofNat len)), .val (.int (Int32.ofNat i)), z] [.int (Int32.ofNat (o + i)), .ref b])) := cl.trans (by
        refine XS.iload Xl.here hexec rfl (hb hbytes d3) rfl ?_
        refine XS.iload Xl.here hexec rfl (hb hbytes d5) rfl ?_
        refine XS.icmpNo Xl.here hexec rfl (hb hbytes d7) rfl (ii_ge_f (lt32 (by omega) (by omega))) ?_
        refine XS.aloadN Xl.here hexec rfl (hb hbytes d10) rfl rfl ?_
        refine XS.iloadN Xl.here hexec rfl (hb hbytes d11) rfl ?_
        exact Steps.refl _)
      have c4 : Steps p.tables e below (s₁.setTop (entryFrame m #[.ref b, .int (Int32.ofNat o), .ref d, .int (Int32.ofNat q), .int (Int32.ofNat len)] 7)) (Tl.setTop (mkF m 13 #[.val (.ref b), .val (.int (Int32.ofNat (o + i))), .val (.ref d), .val (.int (Int32.ofNat (q + i))), .val (.int (Int32.ofNat len)), .val (.int (Int32.ofNat i)), z] [.int (cv A (o + i))])) := c3.trans (by
        refine Xl.aget hexec hAl rfl (hA.get (i := o + i) (by omega)) rfl rfl (hb hbytes d12) ?_
        exact Steps.refl _)
      have c5 : Steps p.tables e below (s₁.setTop (entryFrame m #[.ref b, .int (Int32.ofNat o), .ref d, .int (Int32.ofNat q), .int (Int32.ofNat len)] 7)) (Tl.setTop (mkF m 15 #[.val (.ref b), .val (.int (Int32.ofNat (o + i))), .val (.ref d), .val (.int (Int32.ofNat (q + i))), .val (.int (Int32.ofNat len)), .val (.int (Int32.ofNat i)), .val (.int (cv A (o + i)))] [])) := c4.trans (by
        refine XS.istoreS Xl.here hexec rfl (hb hbytes d13) rfl rfl hz ?_
        exact Steps.refl _)
      have c6 : Steps p.tables e below (s₁.setTop (entryFrame m #[.ref b, .int (Int32.ofNat o), .ref d, .int (Int32.ofNat q), .int (Int32.ofNat len)] 7)) (Tl.setTop (mkF m 31 #[.val (.ref b), .val (.int (Int32.ofNat (o + i))), .val (.ref d), .val (.int (Int32.ofNat (q + i))), .val (.int (Int32.ofNat len)), .val (.int (Int32.ofNat i)), .val (.int (cv A (o + i)))] [.int (lo8 (cv A (o + i))), .int (Int32.ofNat (q + i)), .ref d])) := c5.trans (by
        refine XS.iload Xl.here hexec rfl (hb hbytes d15) rfl ?_
        refine sipushV Xl.here hexec rfl 255 (hb hbytes d17) (by decide) ?_
        refine XS.icmpYes Xl.here hexec rfl (pc0 := 20) rfl (hb hbytes d20) rfl (ii_le_t (hp i (by omega))) (by decide) rfl ?_
        refine XS.aloadN Xl.here hexec rfl (hb hbytes d26) rfl rfl ?_
        refine XS.iloadN Xl.here hexec rfl (hb hbytes d27) rfl ?_
        refine XS.iload Xl.here hexec rfl (hb hbytes d28) rfl ?_
        refine i2b Xl.here hexec rfl (hb hbytes d30) rfl ?_
        exact Steps.refl _)
      obtain ⟨T7, X7, p7, st7⟩ := Xl.aput hexec hBk rfl hlt rfl (fits_lo8 (cv A (o + i))) (g := (mkF m 31 #[.val (.ref b), .val (.int (Int32.ofNat (o + i))), .val (.ref d), .val (.int (Int32.ofNat (q + i))), .val (.int (Int32.ofNat len)), .val (.int (Int32.ofNat i)), .val (.int (cv A (o + i)))] [.int (lo8 (cv A (o + i))), .int (Int32.ofNat (q + i)), .ref d])) rfl (rest := []) rfl (hb hbytes d31)
      have c8 : Steps p.tables e below (s₁.setTop (entryFrame m #[.ref b, .int (Int32.ofNat o), .ref d, .int (Int32.ofNat q), .int (Int32.ofNat len)] 7)) (T7.setTop (mkF m 32 #[.val (.ref b), .val (.int (Int32.ofNat (o + i))), .val (.ref d), .val (.int (Int32.ofNat (q + i))), .val (.int (Int32.ofNat len)), .val (.int (Int32.ofNat i)), .val (.int (cv A (o + i)))] [])) := c6.trans (st7 _ (Steps.refl _))
      have c9 : Steps p.tables e below (s₁.setTop (entryFrame m #[.ref b, .int (Int32.ofNat o), .ref d, .int (Int32.ofNat q), .int (Int32.ofNat len)] 7)) (T7.setTop (mkF m 3 #[.val (.ref b), .val (.int (Int32.ofNat (o + i) + 1)), .val (.ref d), .val (.int (Int32.ofNat (q + i) + 1)), .val (.int (Int32.ofNat len)), .val (.int (Int32.ofNat i + 1)), .val (.int (cv A (o + i)))] [])) := c8.trans (by
        refine iincV X7.here hexec rfl 1 (hb hbytes d32) (by decide) rfl rfl ?_
        refine iincV X7.here hexec rfl 1 (hb hbytes d35) (by decide) rfl rfl ?_
        refine iincV X7.here hexec rfl 1 (hb hbytes d38) (by decide) rfl rfl ?_
        refine XS.goto X7.here hexec rfl (pc0 := 41) rfl (hb hbytes d41) (by decide) rfl ?_
        exact Steps.refl _)
      have c10 : Steps p.tables e below (s₁.setTop (entryFrame m #[.ref b, .int (Int32.ofNat o), .ref d, .int (Int32.ofNat q), .int (Int32.ofNat len)] 7)) (T7.setTop (mkF m 3 #[.val (.ref b), .val (.int (Int32.ofNat (o + (i + 1)))), .val (.ref d), .val (.int (Int32.ofNat (q + (i + 1)))), .val (.int (Int32.ofNat len)), .val (.int (Int32.ofNat (i + 1))), .val (.int (cv A (o + i)))] [])) := by
        have := c9
        rw [succ32, succ32, succ32] at this
        exact this
      exact ih (i + 1) (by omega) _ (Or.inr ⟨_, rfl, rfl⟩) T7 _ (by rw [copyLocs_step, ← List.append_assoc]; exact X7) (pl.trans p7) (fl.step (by omega) hlt (by simp)) c10
  obtain ⟨T9, B9, z9, X9, p9, f9, g9⟩ := loop len 0 (by omega) .unset (Or.inl rfl) s₁ B (by simpa [copyLocs] using X0) ⟨hB0.1, fun _ _ => rfl, rfl⟩ (Laid.zero _ _ _) c2
  have c11 : Steps p.tables e below (s₁.setTop (entryFrame m #[.ref b, .int (Int32.ofNat o), .ref d, .int (Int32.ofNat q), .int (Int32.ofNat len)] 7)) (T9.setTop (mkF m 46 #[.val (.ref b), .val (.int (Int32.ofNat (o + len))), .val (.ref d), .val (.int (Int32.ofNat (q + len))), .val (.int (Int32.ofNat len)), .val (.int (Int32.ofNat len)), z9] [.int (Int32.ofNat len)])) := g9.trans (by
    refine XS.iload X9.here hexec rfl (hb hbytes d3) rfl ?_
    refine XS.iload X9.here hexec rfl (hb hbytes d5) rfl ?_
    refine XS.icmpYes X9.here hexec rfl (pc0 := 7) rfl (hb hbytes d7) rfl (ii_ge_t (nlt32 (by omega) (Nat.le_refl _))) (by decide) rfl ?_
    refine XS.iload X9.here hexec rfl (hb hbytes d44) rfl ?_
    exact Steps.refl _)
  exact ⟨T9, some (.int (Int32.ofNat len)), _, _, _, X9, by simp, rfl, rfl, (fun h => by cases h), ⟨rfl, B9, p9.from hh0, f9⟩, fun fs hl => c11.trans (X9.ireturnOut hexec hret rfl (Or.inl rfl) (hb hbytes d46) hl)⟩
end Cmp5
namespace Cmp3
def yN : MethodName := ⟨"java/lang/StringUTF16", "compress", "([CII)[B"⟩
abbrev yB : ByteArray := jdk_52_method_16_code
theorem d0 : decode yB 0 = .ok (.iload_n 2, 1) := by decide +kernel
theorem d1 : decode yB 1 = .ok (.newarray .byte, 2) := by decide +kernel
theorem d3 : decode yB 3 = .ok (.astore_n 3, 1) := by decide +kernel
theorem d4 : decode yB 4 = .ok (.aload_n 0, 1) := by decide +kernel
theorem d5 : decode yB 5 = .ok (.iload_n 1, 1) := by decide +kernel
theorem d6 : decode yB 6 = .ok (.aload_n 3, 1) := by decide +kernel
theorem d7 : decode yB 7 = .ok (.iconst 0, 1) := by decide +kernel
theorem d8 : decode yB 8 = .ok (.iload_n 2, 1) := by decide +kernel
theorem d9 : decode yB 9 = .ok (.invokestatic 115, 3) := by decide +kernel
theorem d12 : decode yB 12 = .ok (.istore 4, 2) := by decide +kernel
theorem d14 : decode yB 14 = .ok (.iload 4, 2) := by decide +kernel
theorem d16 : decode yB 16 = .ok (.iload_n 2, 1) := by decide +kernel
theorem d17 : decode yB 17 = .ok (.if_icmp (.eq) 40, 3) := by decide +kernel
theorem d57 : decode yB 57 = .ok (.aload_n 3, 1) := by decide +kernel
theorem d58 : decode yB 58 = .ok (.areturn, 1) := by decide +kernel
def site : List Cond := [.arrayClass .byte, Cmp5.tab] ++ staticW U16 115 Cmp5.yN
def tab : Cond := tabOf yN yB 6 (some (.array .byte)) site
def P (b : Addr) (A : Cell) (o len : Nat) (args : Array Value) (s : State) : Prop := args = #[.ref b, .int (Int32.ofNat o), .int (Int32.ofNat len)] ∧ Ch b A s ∧ o + len ≤ A.slots.size ∧ len ≤ 536870912 ∧ ∀ i, i < len → ¬ 255 < cv A (o + i)
def E (b : Addr) (A : Cell) (o len : Nat) (r : Option Value) (s u : State) : Prop := NewArr .byte "[B" len (fun j => .int (lo8 (cv A (o + j)))) r s u ∧ u.heap.size = s.heap.size + 1
/-- no char of the range above 255: a new byte[] of their low bytes -/
theorem law (l : Launch) (b : Addr) (A : Cell) (o len : Nat) : Law l yN 3 3 1 18 yB 6 (some (.array .byte)) site (P b A o len) (E b A o len) [] 1 len := by
  refine Law.of_walk (plainFor_of_name (by decide +kernel)) (by decide +kernel) (by decide +kernel) (by decide) (fun _ _ h => by rw [h.1]; rfl) (fun _ U U' hal hh h => ⟨h.1, h.2.1.mv hal hh, h.2.2⟩) (fun r U U' V V' h1 hal h2 h => ⟨NewArr.mv r U U' V V' h1 hal h2 h.1, by rw [h1, h2]; exact h.2⟩) ?_
  intro p e s m args below meth c s₁ X0 hexec hbytes hml hret hlk hnm hown hh0 W hP
  obtain ⟨rfl, hA, l1, l2, hp⟩ := hP
  have a31 := hA.1.2.2.2
  have c1 : Steps p.tables e below (s₁.setTop (entryFrame m #[.ref b, .int (Int32.ofNat o), .int (Int32.ofNat len)] 6)) (s₁.setTop (mkF m 0 #[.val (.ref b), .val (.int (Int32.ofNat o)), .val (.int (Int32.ofNat len)), .unset, .unset, .unset] [])) := entry rfl
  have c2 : Steps p.tables e below (s₁.setTop (entryFrame m #[.ref b, .int (Int32.ofNat o), .int (Int32.ofNat len)] 6)) (s₁.setTop (mkF m 1 #[.val (.ref b), .val (.int (Int32.ofNat o)), .val (.int (Int32.ofNat len)), .unset, .unset, .unset] [.int (Int32.ofNat len)])) := c1.trans (by
    refine XS.iloadN X0.here hexec rfl (hb hbytes d0) rfl ?_
    exact Steps.refl _)
  obtain ⟨T3, B3, X3, ba3, bs3, bv3, bh3, bf3, st3⟩ := X0.anew hexec (atype := .byte) (wk W (.arrayClass .byte)) rfl (by show len * 1 ≤ _; omega) (by omega) (g := (mkF m 1 #[.val (.ref b), .val (.int (Int32.ofNat o)), .val (.int (Int32.ofNat len)), .unset, .unset, .unset] [.int (Int32.ofNat len)])) rfl (hb hbytes d1) (rest := []) rfl (Nat.le_refl _) (by show 0 + len ≤ len; omega)
  rw [hh0] at ba3 st3
  have kp3 : XT.Kept s T3 := (XT.Kept.of_eq hh0).push bh3
  have hA3 := hA.keep X3.warmed.alike (kp3 _ _ hA.1.1)
  have hne : b ≠ s.heap.size := hA.1.ne
  have c4 : Steps p.tables e below (s₁.setTop (entryFrame m #[.ref b, .int (Int32.ofNat o), .int (Int32.ofNat len)] 6)) (T3.setTop (mkF m 3 #[.val (.ref b), .val (.int (Int32.ofNat o)), .val (.int (Int32.ofNat len)), .unset, .unset, .unset] [.ref s.heap.size])) := c2.trans (st3 _ (Steps.refl _))
  have c5 : Steps p.tables e below (s₁.setTop (entryFrame m #[.ref b, .int (Int32.ofNat o), .int (Int32.ofNat len)] 6)) (T3.setTop (mkF m 9 #[.val (.ref b), .val (.int (Int32.ofNat o)), .val (.int (Int32.ofNat len)), .val (.ref s.heap.size), .unset, .unset] [.int (Int32.ofNat len), .int 0, .ref s.heap.size, .int (Int32.ofNat o), .ref b])) := c4.trans (by
    refine XS.astoreN X3.here hexec rfl (hb hbytes d3) rfl rfl rfl ?_
    refine XS.aloadN X3.here hexec rfl (hb hbytes d4) rfl rfl ?_
    refine XS.iloadN X3.here hexec rfl (hb hbytes d5) rfl ?_
    refine XS.aloadN X3.here hexec rfl (hb hbytes d6) rfl rfl ?_
    refine iconstV X3.here hexec rfl 0 (hb hbytes d7) (by decide) ?_
    refine XS.iloadN X3.here hexec rfl (hb hbytes d8) rfl ?_
    exact Steps.refl _)
  obtain ⟨v6, T6, X6, E6, g6⟩ := X3.callS hexec (Cmp5.law l b A s.heap.size B3 o 0 len) hown (wks W (staticW U16 115 Cmp5.yN)) (wk W Cmp5.tab) (W := 0) (Nat.le_of_ble_eq_true rfl) (Nat.le_of_ble_eq_true rfl) (Nat.le_refl _) (by show 0 + len + 0 ≤ len; omega) (g := (mkF m 9 #[.val (.ref b), .val (.int (Int32.ofNat o)), .val (.int (Int32.ofNat len)), .val (.ref s.heap.size), .unset, .unset] [.int (Int32.ofNat len), .int (Int32.ofNat 0), .ref s.heap.size, .int (Int32.ofNat o), .ref b])) rfl (by rw [hml]; rfl) c5 (argsL := [.ref b, .int (Int32.ofNat o), .ref s.heap.size, .int (Int32.ofNat 0), .int (Int32.ofNat len)]) (rest := []) rfl rfl (by show 2 * 0 + 0 ≤ _; decide) (hb hbytes d9) (⟨rfl, hA3, ba3, hne, l1, by rw [bs3]; simp, hp⟩)
  obtain ⟨rfl, B6, p6, f6⟩ := E6
  have c7 : Steps p.tables e below (s₁.setTop (entryFrame m #[.ref b, .int (Int32.ofNat o), .int (Int32.ofNat len)] 6)) (T6.setTop (mkF m 12 #[.val (.ref b), .val (.int (Int32.ofNat o)), .val (.int (Int32.ofNat len)), .val (.ref s.heap.size), .unset, .unset] [.int (Int32.ofNat len)])) := g6
  have c8 : Steps p.tables e below (s₁.setTop (entryFrame m #[.ref b, .int (Int32.ofNat o), .int (Int32.ofNat len)] 6)) (T6.setTop (mkF m 58 #[.val (.ref b), .val (.int (Int32.ofNat o)), .val (.int (Int32.ofNat len)), .val (.ref s.heap.size), .val (.int (Int32.ofNat len)), .unset] [.ref s.heap.size])) := c7.trans (by
    refine XS.istore X6.here hexec rfl (hb hbytes d12) rfl rfl ?_
    refine XS.iload X6.here hexec rfl (hb hbytes d14) rfl ?_
    refine XS.iloadN X6.here hexec rfl (hb hbytes d16) rfl ?_
    refine XS.icmpYes X6.here hexec rfl (pc0 := 17) rfl (hb hbytes d17) rfl (ii_eq_t rfl) (by decide) rfl ?_
    refine XS.aloadN X6.here hexec rfl (hb hbytes d57) rfl rfl ?_
    exact Steps.refl _)
  have X8 := X6.wide (L' := []) (cells' := 1) (slots' := len) (fun x hx hlt => by
    simp only [List.nil_append, copyLocs, List.mem_map, List.mem_range] at hx
    obtain ⟨i, -, rfl⟩ := hx
    exact absurd hlt (Nat.lt_irrefl _)) (Nat.le_refl _) (by omega)
  exact ⟨T6, some (.ref s.heap.size), _, _, _, X8, rfl, rfl, rfl, (fun h => by cases h), ⟨⟨rfl, B6, ba3.like (X3.warmed.alike.symm.trans X6.warmed.alike) p6.1 f6.1 f6.2.1 f6.2.2.1, f6.2.1.trans bv3, by rw [X6.warmed.alike.findClass, f6.1]; exact bf3, by rw [f6.2.2.1, bs3]; simp, fun j hj => by rw [f6.2.2.2 j, if_pos (by omega)]; rfl, kp3.put p6 (Nat.le_refl _)⟩, by rw [p6.2.2, bh3, hh0]; simp⟩, fun fs hl => c8.trans (X8.areturnOut hexec rfl hret rfl (hb hbytes d58) hl)⟩
end Cmp3
namespace CodL
def yN : MethodName := ⟨"java/lang/StringUTF16", "coderFromArrayLen", "([BI)B"⟩
abbrev yB : ByteArray := jdk_52_method_15_code
theorem d0 : decode yB 0 = .ok (.iload_n 1, 1) := by decide +kernel
theorem d1 : decode yB 1 = .ok (.aload_n 0, 1) := by decide +kernel
theorem d2 : decode yB 2 = .ok (.arraylength, 1) := by decide +kernel
theorem d3 : decode yB 3 = .ok (.isub, 1) := by decide +kernel
theorem d4 : decode yB 4 = .ok (.bipush 31, 2) := by decide +kernel
theorem d6 : decode yB 6 = .ok (.iushr, 1) := by decide +kernel
theorem d7 : decode yB 7 = .ok (.i2b, 1) := by decide +kernel
theorem d8 : decode yB 8 = .ok (.ireturn, 1) := by decide +kernel
def site : List Cond := []
def tab : Cond := tabOf yN yB 2 (some .byte) site
def P (d : Addr) (B : Cell) (args : Array Value) (s : State) : Prop := args = #[.ref d, .int (Int32.ofNat B.slots.size)] ∧ Arr .byte d B s
def E (r : Option Value) (s u : State) : Prop := XT.PureE (some (.int 0)) r s u
/-- an array as long as the number of chars: LATIN1 -/
theorem law (l : Launch) (d : Addr) (B : Cell) : Law l yN 2 2 0 0 yB 2 (some .byte) site (P d B) E [] 0 0 := by
  refine Law.of_walk (plainFor_of_name (by decide +kernel)) (by decide +kernel) (by decide +kernel) (by decide) (fun _ _ h => by rw [h.1]; rfl) (fun _ U U' hal hh h => ⟨h.1, h.2.mv hal hh⟩) (fun r U U' V V' h1 hal h2 h => XT.PureE.mv r U U' V V' h1 hal h2 h) ?_
  intro p e s m args below meth c s₁ X0 hexec hbytes hml hret hlk hnm hown hh0 W hP
  obtain ⟨rfl, hB⟩ := hP
  have hB0 := hB.mv X0.warmed.alike hh0
  have c1 : Steps p.tables e below (s₁.setTop (entryFrame m #[.ref d, .int (Int32.ofNat B.slots.size)] 2)) (s₁.setTop (mkF m 0 #[.val (.ref d), .val (.int (Int32.ofNat B.slots.size))] [])) := entry rfl
  have c2 : Steps p.tables e below (s₁.setTop (entryFrame m #[.ref d, .int (Int32.ofNat B.slots.size)] 2)) (s₁.setTop (mkF m 2 #[.val (.ref d), .val (.int (Int32.ofNat B.slots.size))] [.ref d, .int (Int32.ofNat B.slots.size)])) := c1.trans (by
    refine XS.iloadN X0.here hexec rfl (hb hbytes d0) rfl ?_
    refine XS.aloadN X0.here hexec rfl (hb hbytes d1) rfl rfl ?_
    exact Steps.refl _)
  have c3 : Steps p.tables e below (s₁.setTop (entryFrame m #[.ref d, .int (Int32.ofNat B.slots.size)] 2)) (s₁.setTop (mkF m 8 #[.val (.ref d), .val (.int (Int32.ofNat B.slots.size))] [.int (lo8 (ushr (Int32.ofNat B.slots.size - Int32.ofNat B.slots.size) 31))])) := c2.trans (by
    refine X0.alen hexec hB0 rfl rfl (hb hbytes d2) ?_
    refine XS.isub X0.here hexec rfl (hb hbytes d3) rfl ?_
    refine bipushV X0.here hexec rfl 31 (hb hbytes d4) (by decide) ?_
    refine iushr X0.here hexec rfl (hb hbytes d6) rfl ?_
    refine i2b X0.here hexec rfl (hb hbytes d7) rfl ?_
    exact Steps.refl _)
  have e0 : lo8 (ushr (Int32.ofNat B.slots.size - Int32.ofNat B.slots.size) 31) = 0 := by rw [Int32.sub_self]; decide
  rw [e0] at c3
  exact ⟨s₁, some (.int 0), _, _, _, X0, rfl, rfl, rfl, (fun h => by cases h), ⟨rfl, hh0⟩, fun fs hl => c3.trans (X0.ireturnOut hexec hret rfl (Or.inr (Or.inr (Or.inl rfl))) (hb hbytes d8) hl)⟩
end CodL
/-- the String at a is Latin-1 over a new byte[] (the heap's one new cell): the low bytes of the len chars of A from o on; every cell but a is kept -/
def Got (a : Addr) (D : Cell) (fV fC : Field) (A : Cell) (o len : Nat) (r : Option Value) (s u : State) : Prop := r = none ∧ ∃ D' V : Cell, Blank "java/lang/String" a D' u ∧ Same D D' [fV.slot, fC.slot] ∧ D'.slots[fV.slot]? = some (.ref s.heap.size) ∧ D'.slots[fC.slot]? = some (.int 0) ∧ Arr .byte s.heap.size V u ∧ V.vm = .none ∧ u.vm.findClass "[B" = some V.cls ∧ V.slots.size = len ∧ (∀ j, j < len → V.slots[j]? = some (.int (lo8 (cv A (o + j))))) ∧ (∀ (y : Addr) (c : Cell), y ≠ a → s.heap[y]? = some c → u.heap[y]? = some c) ∧ u.heap.size = s.heap.size + 1
theorem Got.mv {a : Addr} {D A : Cell} {fV fC : Field} {o len : Nat} : ∀ r (U U' V V' : State), U'.heap = U.heap → V.vm.Alike V'.vm → V'.heap = V.heap → Got a D fV fC A o len r U V → Got a D fV fC A o len r U' V' :=
  fun r U U' V V' h1 hal h2 ⟨e0, D', X, a1, a2, a3, a4, a5, a6, a7, a8, a9, a10, a11⟩ => ⟨e0, D', X, a1.mv hal h2, a2, by rw [h1]; exact a3, a4, by rw [h1]; exact a5.mv hal h2, a6, by rw [hal.findClass]; exact a7, a8, a9, by rw [h1, h2]; exact a10, by rw [h1, h2]; exact a11⟩
namespace New4
def yN : MethodName := ⟨"java/lang/String", "<init>", "([CIILjava/lang/Void;)V"⟩
abbrev yB : ByteArray := jdk_42_method_149_code
theorem d0 : decode yB 0 = .ok (.aload_n 0, 1) := by decide +kernel
theorem d1 : decode yB 1 = .ok (.invokespecial 1, 3) := by decide +kernel
theorem d4 : decode yB 4 = .ok (.iload_n 3, 1) := by decide +kernel
theorem d5 : decode yB 5 = .ok (.ifCond (.ne) 22, 3) := by decide +kernel
theorem d27 : decode yB 27 = .ok (.getstatic 38, 3) := by decide +kernel
theorem d30 : decode yB 30 = .ok (.ifCond (.eq) 28, 3) := by decide +kernel
theorem d33 : decode yB 33 = .ok (.aload_n 1, 1) := by decide +kernel
theorem d34 : decode yB 34 = .ok (.iload_n 2, 1) := by decide +kernel
theorem d35 : decode yB 35 = .ok (.iload_n 3, 1) := by decide +kernel
theorem d36 : decode yB 36 = .ok (.invokestatic 177, 3) := by decide +kernel
theorem d39 : decode yB 39 = .ok (.astore 5, 2) := by decide +kernel
theorem d41 : decode yB 41 = .ok (.aload_n 0, 1) := by decide +kernel
theorem d42 : decode yB 42 = .ok (.aload 5, 2) := by decide +kernel
theorem d44 : decode yB 44 = .ok (.iload_n 3, 1) := by decide +kernel
theorem d45 : decode yB 45 = .ok (.invokestatic 47, 3) := by decide +kernel
theorem d48 : decode yB 48 = .ok (.putfield 15, 3) := by decide +kernel
theorem d51 : decode yB 51 = .ok (.aload_n 0, 1) := by decide +kernel
theorem d52 : decode yB 52 = .ok (.aload 5, 2) := by decide +kernel
theorem d54 : decode yB 54 = .ok (.putfield 9, 3) := by decide +kernel
theorem d57 : decode yB 57 = .ok (.return_, 1) := by decide +kernel
def site : List Cond := [.fieldLink "java/lang/String" 38 "java/lang/String" "COMPACT_STRINGS" "Z", Cmp3.tab, CodL.tab, .laysFinal "java/lang/String" "java/lang/String" "value" "[B", .fieldLink "java/lang/String" 9 "java/lang/String" "value" "[B", .laysFinal "java/lang/String" "java/lang/String" "coder" "B", .fieldLink "java/lang/String" 15 "java/lang/String" "coder" "B"] ++ objW "java/lang/String" 1 ++ staticW "java/lang/String" 177 Cmp3.yN ++ staticW "java/lang/String" 47 CodL.yN
def tab : Cond := tabOf yN yB 6 none site
def P (a : Addr) (D : Cell) (fV fC : Field) (b : Addr) (A : Cell) (z : Int32) (o len : Nat) (args : Array Value) (s : State) : Prop := args = #[.ref a, .ref b, .int (Int32.ofNat o), .int (Int32.ofNat len), .null] ∧ Blank "java/lang/String" a D s ∧ Found "java/lang/String" "value" "[B" fV s ∧ Found "java/lang/String" "coder" "B" fC s ∧ Ch b A s ∧ StaticIs s "java/lang/String" "COMPACT_STRINGS" "Z" (.int z) ∧ ¬ z = 0 ∧ 0 < len ∧ o + len ≤ A.slots.size ∧ len ≤ 536870912 ∧ ∀ i, i < len → ¬ 255 < cv A (o + i)
def E (a : Addr) (D : Cell) (fV fC : Field) (A : Cell) (o len : Nat) (r : Option Value) (s u : State) : Prop := Got a D fV fC A o len r s u
/-- len > 0, no char of the range above 255: a Latin-1 String of their low bytes -/
theorem law (l : Launch) (a : Addr) (D : Cell) (fV fC : Field) (b : Addr) (A : Cell) (z : Int32) (o len : Nat) : Law l yN 5 4 2 35 yB 6 none site (P a D fV fC b A z o len) (E a D fV fC A o len) [⟨a, fC.slot⟩, ⟨a, fV.slot⟩] 1 len := by
  refine Law.of_walk (plainFor_of_name (by decide +kernel)) (by decide +kernel) (by decide +kernel) (by decide) (fun _ _ h => by rw [h.1]; rfl) (fun _ U U' hal hh h => ⟨h.1, h.2.1.mv hal hh, h.2.2.1.al hal, h.2.2.2.1.al hal, h.2.2.2.2.1.mv hal hh, h.2.2.2.2.2.1.there hal hh, h.2.2.2.2.2.2⟩) (fun r U U' V V' h1 hal h2 h => Got.mv r U U' V V' h1 hal h2 h) ?_
  intro p e s m args below meth c s₁ X0 hexec hbytes hml hret hlk hnm hown hh0 W hP
  obtain ⟨rfl, hB, f1, f2, hA, s1, hz, l0, l1, l2, hp⟩ := hP
  have a31 := hA.1.2.2.2
  have c1 : Steps p.tables e below (s₁.setTop (entryFrame m #[.ref a, .ref b, .int (Int32.ofNat o), .int (Int32.ofNat len), .null] 6)) (s₁.setTop (mkF m 0 #[.val (.ref a), .val (.ref b), .val (.int (Int32.ofNat o)), .val (.int (Int32.ofNat len)), .val .null, .unset] [])) := entry rfl
  have c2 : Steps p.tables e below (s₁.setTop (entryFrame m #[.ref a, .ref b, .int (Int32.ofNat o), .int (Int32.ofNat len), .null] 6)) (s₁.setTop (mkF m 1 #[.val (.ref a), .val (.ref b), .val (.int (Int32.ofNat o)), .val (.int (Int32.ofNat len)), .val .null, .unset] [.ref a])) := c1.trans (by
    refine XS.aloadN X0.here hexec rfl (hb hbytes d0) rfl rfl ?_
    exact Steps.refl _)
  obtain ⟨T3, X3, q3, st3⟩ := X0.oinit hexec hown (wks W (objW "java/lang/String" 1)) (g := (mkF m 1 #[.val (.ref a), .val (.ref b), .val (.int (Int32.ofNat o)), .val (.int (Int32.ofNat len)), .val .null, .unset] [.ref a])) rfl (by rw [hml]; rfl) (rest := []) rfl (hb hbytes d1) (W := 0) (by show 2 * 0 + 0 ≤ _; decide) (Nat.le_of_ble_eq_true rfl) (Nat.le_of_ble_eq_true rfl)
  have hh3 := q3.trans hh0
  have c4 : Steps p.tables e below (s₁.setTop (entryFrame m #[.ref a, .ref b, .int (Int32.ofNat o), .int (Int32.ofNat len), .null] 6)) (T3.setTop (mkF m 27 #[.val (.ref a), .val (.ref b), .val (.int (Int32.ofNat o)), .val (.int (Int32.ofNat len)), .val .null, .unset] [])) := (c2.trans (st3 _ (Steps.refl _))).trans (by
    refine XS.iloadN X3.here hexec rfl (hb hbytes d4) rfl ?_
    refine XS.ifYes X3.here hexec rfl (pc0 := 5) rfl (hb hbytes d5) rfl (i0_ne_t (nz32 (by omega) l0)) (by decide) rfl ?_
    exact Steps.refl _)
  obtain ⟨T5, X5, q5, st5⟩ := X3.sget hexec hown (wk W (.fieldLink "java/lang/String" 38 "java/lang/String" "COMPACT_STRINGS" "Z")) s1 (fun _ _ h => by rw [hh3]; exact h) (g := (mkF m 27 #[.val (.ref a), .val (.ref b), .val (.int (Int32.ofNat o)), .val (.int (Int32.ofNat len)), .val .null, .unset] [])) rfl (hb hbytes d27)
  have hh5 := q5.trans hh3
  have c6 : Steps p.tables e below (s₁.setTop (entryFrame m #[.ref a, .ref b, .int (Int32.ofNat o), .int (Int32.ofNat len), .null] 6)) (T5.setTop (mkF m 30 #[.val (.ref a), .val (.ref b), .val (.int (Int32.ofNat o)), .val (.int (Int32.ofNat len)), .val .null, .unset] [.int z])) := c4.trans (st5 _ (Steps.refl _))
  have c7 : Steps p.tables e below (s₁.setTop (entryFrame m #[.ref a, .ref b, .int (Int32.ofNat o), .int (Int32.ofNat len), .null] 6)) (T5.setTop (mkF m 36 #[.val (.ref a), .val (.ref b), .val (.int (Int32.ofNat o)), .val (.int (Int32.ofNat len)), .val .null, .unset] [.int (Int32.ofNat len), .int (Int32.ofNat o), .ref b])) := c6.trans (by
    refine XS.ifNo X5.here hexec rfl (hb hbytes d30) rfl (i0_eq_f hz) ?_
    refine XS.aloadN X5.here hexec rfl (hb hbytes d33) rfl rfl ?_
    refine XS.iloadN X5.here hexec rfl (hb hbytes d34) rfl ?_
    refine XS.iloadN X5.here hexec rfl (hb hbytes d35) rfl ?_
    exact Steps.refl _)
  obtain ⟨v8, T8, X8, E8, g8⟩ := X5.callS hexec (Cmp3.law l b A o len) hown (wks W (staticW "java/lang/String" 177 Cmp3.yN)) (wk W Cmp3.tab) (W := 0) (Nat.le_of_ble_eq_true rfl) (Nat.le_of_ble_eq_true rfl) (Nat.le_refl _) (by show 0 + len ≤ len; omega) (g := (mkF m 36 #[.val (.ref a), .val (.ref b), .val (.int (Int32.ofNat o)), .val (.int (Int32.ofNat len)), .val .null, .unset] [.int (Int32.ofNat len), .int (Int32.ofNat o), .ref b])) rfl (by rw [hml]; rfl) c7 (argsL := [.ref b, .int (Int32.ofNat o), .int (Int32.ofNat len)]) (rest := []) rfl rfl (by show 2 * 0 + 0 ≤ _; decide) (hb hbytes d36) (⟨rfl, hA.mv X5.warmed.alike hh5, l1, l2, hp⟩)
  obtain ⟨e8, z8⟩ := E8
  obtain ⟨rfl, N, n1, n2, n3, n4, n5, n6⟩ := NewArr.mv _ T5 s _ _ hh5.symm (Vm.Alike.refl _) rfl e8
  rw [hh5] at z8
  have hB1 := hB.keep X8.warmed.alike (n6 _ _ hB.1)
  have hne : s.heap.size ≠ a := (Nat.ne_of_lt (Array.getElem?_eq_some_iff.mp hB.1).1).symm
  have c9 : Steps p.tables e below (s₁.setTop (entryFrame m #[.ref a, .ref b, .int (Int32.ofNat o), .int (Int32.ofNat len), .null] 6)) (T8.setTop (mkF m 39 #[.val (.ref a), .val (.ref b), .val (.int (Int32.ofNat o)), .val (.int (Int32.ofNat len)), .val .null, .unset] [.ref s.heap.size])) := g8
  have c10 : Steps p.tables e below (s₁.setTop (entryFrame m #[.ref a, .ref b, .int (Int32.ofNat o), .int (Int32.ofNat len), .null] 6)) (T8.setTop (mkF m 45 #[.val (.ref a), .val (.ref b), .val (.int (Int32.ofNat o)), .val (.int (Int32.ofNat len)), .val .null, .val (.ref s.heap.size)] [.int (Int32.ofNat N.slots.size), .ref s.heap.size, .ref a])) := by
    have hc : Steps p.tables e below (s₁.setTop (entryFrame m #[.ref a, .ref b, .int (Int32.ofNat o), .int (Int32.ofNat len), .null] 6)) (T8.setTop (mkF m 45 #[.val (.ref a), .val (.ref b), .val (.int (Int32.ofNat o)), .val (.int (Int32.ofNat len)), .val .null, .val (.ref s.heap.size)] [.int (Int32.ofNat len), .ref s.heap.size, .ref a])) := c9.trans (by
      refine XS.astore X8.here hexec rfl (hb hbytes d39) rfl rfl rfl ?_
      refine XS.aloadN X8.here hexec rfl (hb hbytes d41) rfl rfl ?_
      refine XS.aload X8.here hexec rfl (hb hbytes d42) rfl rfl ?_
      refine XS.iloadN X8.here hexec rfl (hb hbytes d44) rfl ?_
      exact Steps.refl _)
    rw [n4]; exact hc
  obtain ⟨v11, T11, X11, E11, g11⟩ := X8.callS hexec (CodL.law l s.heap.size N) hown (wks W (staticW "java/lang/String" 47 CodL.yN)) (wk W CodL.tab) (W := 1) (Nat.le_of_ble_eq_true rfl) (Nat.le_of_ble_eq_true rfl) (Nat.le_refl _) (by show 0 + len + 0 ≤ len; omega) (g := (mkF m 45 #[.val (.ref a), .val (.ref b), .val (.int (Int32.ofNat o)), .val (.int (Int32.ofNat len)), .val .null, .val (.ref s.heap.size)] [.int (Int32.ofNat N.slots.size), .ref s.heap.size, .ref a])) rfl (by rw [hml]; rfl) c10 (argsL := [.ref s.heap.size, .int (Int32.ofNat N.slots.size)]) (rest := [.ref a]) rfl rfl (by show 2 * 0 + (1 + 0) ≤ _; decide) (hb hbytes d45) (⟨rfl, n1⟩)
  obtain ⟨rfl, q11⟩ := E11
  have hB11 := hB1.mv (X8.warmed.alike.symm.trans X11.warmed.alike) q11
  have c12 : Steps p.tables e below (s₁.setTop (entryFrame m #[.ref a, .ref b, .int (Int32.ofNat o), .int (Int32.ofNat len), .null] 6)) (T11.setTop (mkF m 48 #[.val (.ref a), .val (.ref b), .val (.int (Int32.ofNat o)), .val (.int (Int32.ofNat len)), .val .null, .val (.ref s.heap.size)] [.int 0, .ref a])) := g11
  obtain ⟨T13, X13, p13, bl13, sl13, st13⟩ := X11.finit hexec hown (wk W (.fieldLink "java/lang/String" 15 "java/lang/String" "coder" "B")) (Or.inr ⟨_, (wk W (.laysFinal "java/lang/String" "java/lang/String" "coder" "B"))⟩) (Or.inl ⟨rfl, hnm⟩) f2 (Or.inl rfl) hB11 (t := .byte) (by decide +kernel) rfl (g := (mkF m 48 #[.val (.ref a), .val (.ref b), .val (.int (Int32.ofNat o)), .val (.int (Int32.ofNat len)), .val .null, .val (.ref s.heap.size)] [.int 0, .ref a])) rfl (rest := []) rfl (hb hbytes d48)
  have c14 : Steps p.tables e below (s₁.setTop (entryFrame m #[.ref a, .ref b, .int (Int32.ofNat o), .int (Int32.ofNat len), .null] 6)) (T13.setTop (mkF m 54 #[.val (.ref a), .val (.ref b), .val (.int (Int32.ofNat o)), .val (.int (Int32.ofNat len)), .val .null, .val (.ref s.heap.size)] [.ref s.heap.size, .ref a])) := (c12.trans (st13 _ (Steps.refl _))).trans (by
    refine XS.aloadN X13.here hexec rfl (hb hbytes d51) rfl rfl ?_
    refine XS.aload X13.here hexec rfl (hb hbytes d52) rfl rfl ?_
    exact Steps.refl _)
  obtain ⟨T15, X15, p15, bl15, sl15, st15⟩ := X13.finit hexec hown (wk W (.fieldLink "java/lang/String" 9 "java/lang/String" "value" "[B")) (Or.inr ⟨_, (wk W (.laysFinal "java/lang/String" "java/lang/String" "value" "[B"))⟩) (Or.inl ⟨rfl, hnm⟩) f1 (Or.inl rfl) bl13 (t := (.array .byte)) (by decide +kernel) rfl (g := (mkF m 54 #[.val (.ref a), .val (.ref b), .val (.int (Int32.ofNat o)), .val (.int (Int32.ofNat len)), .val .null, .val (.ref s.heap.size)] [.ref s.heap.size, .ref a])) rfl (rest := []) rfl (hb hbytes d54)
  have c16 : Steps p.tables e below (s₁.setTop (entryFrame m #[.ref a, .ref b, .int (Int32.ofNat o), .int (Int32.ofNat len), .null] 6)) (T15.setTop (mkF m 57 #[.val (.ref a), .val (.ref b), .val (.int (Int32.ofNat o)), .val (.int (Int32.ofNat len)), .val .null, .val (.ref s.heap.size)] [])) := c14.trans (st15 _ (Steps.refl _))
  have ap := apart (Or.inr ⟨_, (wk W (.laysFinal "java/lang/String" "java/lang/String" "value" "[B"))⟩) (Or.inr ⟨_, (wk W (.laysFinal "java/lang/String" "java/lang/String" "coder" "B"))⟩) f1 f2 (t₁ := .array .byte) (t₂ := .byte) (by decide +kernel) (by decide +kernel) (by decide)
  have al := X8.warmed.alike.symm.trans X15.warmed.alike
  have n7 : T11.heap[s.heap.size]? = some N := by rw [q11]; exact n1.1
  exact ⟨T15, none, _, _, _, X15, by simp, rfl, by omega, (fun _ => rfl), ⟨rfl, _, N, bl15, ((Same.refl D _).set _ (by simp)).set _ (by simp), sl15, (Cell.slots_setSlot_ne _ ap).trans sl13, n1.keep al (p15.other hne (p13.other hne n7)), n2, by rw [al.findClass]; exact n3, n4, n5, fun y c h1 h2 => p15.other h1 (p13.other h1 (by rw [q11]; exact n6 y c h2)), by rw [p15.2.2, p13.2.2, q11]; exact z8⟩, fun fs hl => c16.trans (X15.returnOut hexec hret (hb hbytes d57) hl)⟩
end New4
namespace New1
def yN : MethodName := ⟨"java/lang/String", "<init>", "([C)V"⟩
abbrev yB : ByteArray := jdk_42_method_3_code
theorem d0 : decode yB 0 = .ok (.aload_n 0, 1) := by decide +kernel
theorem d1 : decode yB 1 = .ok (.aload_n 1, 1) := by decide +kernel
theorem d2 : decode yB 2 = .ok (.iconst 0, 1) := by decide +kernel
theorem d3 : decode yB 3 = .ok (.aload_n 1, 1) := by decide +kernel
theorem d4 : decode yB 4 = .ok (.arraylength, 1) := by decide +kernel
theorem d5 : decode yB 5 = .ok (.aconst_null, 1) := by decide +kernel
theorem d6 : decode yB 6 = .ok (.invokespecial 27, 3) := by decide +kernel
theorem d9 : decode yB 9 = .ok (.return_, 1) := by decide +kernel
def site : List Cond := [New4.tab] ++ initW "java/lang/String" 27 New4.yN
def tab : Cond := tabOf yN yB 2 none site
def P (a : Addr) (D : Cell) (fV fC : Field) (b : Addr) (A : Cell) (z : Int32) (args : Array Value) (s : State) : Prop := args = #[.ref a, .ref b] ∧ Blank "java/lang/String" a D s ∧ Found "java/lang/String" "value" "[B" fV s ∧ Found "java/lang/String" "coder" "B" fC s ∧ Ch b A s ∧ StaticIs s "java/lang/String" "COMPACT_STRINGS" "Z" (.int z) ∧ ¬ z = 0 ∧ 0 < A.slots.size ∧ A.slots.size ≤ 536870912 ∧ ∀ i, i < A.slots.size → ¬ 255 < cv A i
def E (a : Addr) (D : Cell) (fV fC : Field) (A : Cell) (r : Option Value) (s u : State) : Prop := Got a D fV fC A 0 A.slots.size r s u
/-- new String(chars), not empty, no char above 255: a Latin-1 String of their low bytes -/
theorem law (l : Launch) (a : Addr) (D : Cell) (fV fC : Field) (b : Addr) (A : Cell) (z : Int32) : Law l yN 2 1 3 52 yB 2 none site (P a D fV fC b A z) (E a D fV fC A) [⟨a, fC.slot⟩, ⟨a, fV.slot⟩] 1 A.slots.size := by
  refine Law.of_walk (plainFor_of_name (by decide +kernel)) (by decide +kernel) (by decide +kernel) (by decide) (fun _ _ h => by rw [h.1]; rfl) (fun _ U U' hal hh h => ⟨h.1, h.2.1.mv hal hh, h.2.2.1.al hal, h.2.2.2.1.al hal, h.2.2.2.2.1.mv hal hh, h.2.2.2.2.2.1.there hal hh, h.2.2.2.2.2.2⟩) (fun r U U' V V' h1 hal h2 h => Got.mv r U U' V V' h1 hal h2 h) ?_
  intro p e s m args below meth c s₁ X0 hexec hbytes hml hret hlk hnm hown hh0 W hP
  obtain ⟨rfl, hB, f1, f2, hA, s1, hz, l0, l2, hp⟩ := hP
  have c1 : Steps p.tables e below (s₁.setTop (entryFrame m #[.ref a, .ref b] 2)) (s₁.setTop (mkF m 0 #[.val (.ref a), .val (.ref b)] [])) := entry rfl
  have c2 : Steps p.tables e below (s₁.setTop (entryFrame m #[.ref a, .ref b] 2)) (s₁.setTop (mkF m 6 #[.val (.ref a), .val (.ref b)] [.null, .int (Int32.ofNat A.slots.size), .int 0, .ref b, .ref a])) := c1.trans (by
    refine XS.aloadN X0.here hexec rfl (hb hbytes d0) rfl rfl ?_
    refine XS.aloadN X0.here hexec rfl (hb hbytes d1) rfl rfl ?_
    refine iconstV X0.here hexec rfl 0 (hb hbytes d2) (by decide) ?_
    refine XS.aloadN X0.here hexec rfl (hb hbytes d3) rfl rfl ?_
    refine X0.alen hexec (hA.1.mv X0.warmed.alike hh0) rfl rfl (hb hbytes d4) ?_
    refine XS.aconstNull X0.here hexec rfl (hb hbytes d5) ?_
    exact Steps.refl _)
  obtain ⟨v3, T3, X3, E3, g3⟩ := X0.callN hexec (New4.law l a D fV fC b A z 0 A.slots.size) rfl hown (wks W (initW "java/lang/String" 27 New4.yN)) (W New4.tab (by simp only [site, List.mem_cons, List.mem_append, true_or, or_true])) (W := 0) (Nat.le_of_ble_eq_true rfl) (Nat.le_of_ble_eq_true rfl) (Nat.le_refl _) (by show 0 + A.slots.size ≤ A.slots.size; omega) (g := (mkF m 6 #[.val (.ref a), .val (.ref b)] [.null, .int (Int32.ofNat A.slots.size), .int (Int32.ofNat 0), .ref b, .ref a])) rfl (by rw [hml]; rfl) c2 (argsL := [.ref b, .int (Int32.ofNat 0), .int (Int32.ofNat A.slots.size), .null]) (rest := []) rfl rfl (by show 2 * 0 + 0 ≤ _; decide) (hb hbytes d6) (⟨rfl, hB.mv X0.warmed.alike hh0, f1.al X0.warmed.alike, f2.al X0.warmed.alike, hA.mv X0.warmed.alike hh0, s1.there X0.warmed.alike hh0, hz, l0, by omega, l2, fun i hi => by rw [Nat.zero_add]; exact hp i hi⟩)
  have e0 := Got.mv _ s₁ s _ _ hh0.symm (Vm.Alike.refl _) rfl E3
  obtain rfl := e0.1
  have c4 : Steps p.tables e below (s₁.setTop (entryFrame m #[.ref a, .ref b] 2)) (T3.setTop (mkF m 9 #[.val (.ref a), .val (.ref b)] [])) := g3
  exact ⟨T3, none, _, _, _, X3, by simp, rfl, by omega, (fun _ => rfl), e0, fun fs hl => c4.trans (X3.returnOut hexec hret (hb hbytes d9) hl)⟩
theorem pays {l : Launch} {R : Room} {p : Program} {e : Env} {below : List Frame} {s : State} {sargs : Array Value} {len W : Nat} (a : Addr) (D : Cell) (fV fC : Field) (b : Addr) (A : Cell) (z : Int32) (htab : tab.before sargs s = true) (hfr : 4 ≤ R.frames) (hlo : W + 65 ≤ R.locals) :
    Back l R p e below s sargs yN len W (fun A₁ a₁ => A₁.cells + 1 ≤ R.cells ∧ A₁.slots + A.slots.size ≤ R.slots ∧ P a D fV fC b A z a₁ A₁.U) (fun A₁ _ v₁ B₁ => E a D fV fC A v₁ A₁.U B₁.U ∧ B₁.locs = A₁.locs ++ [⟨a, fC.slot⟩, ⟨a, fV.slot⟩] ∧ B₁.cells = A₁.cells + 1 ∧ B₁.slots = A₁.slots + A.slots.size) :=
  (law l a D fV fC b A z).pays htab hfr (by omega)
end New1
/-- the byte, read back as charAt reads it, is the char -/
theorem lo8_mask {x : Int32} (h0 : ¬ x < 0) (h1 : ¬ 255 < x) : lo8 x &&& 255 = x := by
  have t : ∀ k : Fin 256, lo8 (Int32.ofNat k.val) &&& 255 = Int32.ofNat k.val := by decide +kernel
  rw [Int32.lt_iff_toInt_lt] at h0 h1
  have e0 : (0 : Int32).toInt = 0 := rfl
  have e1 : (255 : Int32).toInt = 255 := rfl
  obtain ⟨k, hk⟩ : ∃ k : Nat, x.toInt = k := ⟨x.toInt.toNat, by omega⟩
  have hx : x = Int32.ofNat k := Int32.toInt_inj.mp (by rw [hk, Int32.toInt_ofNat_small (by omega)])
  rw [hx]
  exact t ⟨k, by omega⟩
end StrChars
namespace StrChars.Road
open Jvm Sem ClassFile Op Lib Jvm.Stand Jvm.Free Jvm.Free.XT
open Jvm.Lib.Cold (StaticIs)
abbrev ST : String := "java/lang/String"
/-- every table word that New1's law asks, flat -/
abbrev words : List Jvm.Cond := [.code New1.yN New1.yB 2 none, .initialized ST, .methodLink ST 27 New4.yN, .instanceMethod New4.yN,
  .code New4.yN New4.yB 6 none, .fieldLink ST 38 ST "COMPACT_STRINGS" "Z", .laysFinal ST ST "value" "[B", .fieldLink ST 9 ST "value" "[B", .laysFinal ST ST "coder" "B", .fieldLink ST 15 ST "coder" "B",
  .methodLink ST 1 Lib.objectInit, .instanceMethod Lib.objectInit, .code Lib.objectInit ⟨#[0xb1]⟩ 1 none, .methodLink ST 177 Cmp3.yN, .static Cmp3.yN, .methodLink ST 47 CodL.yN, .static CodL.yN,
  .code Cmp3.yN Cmp3.yB 6 (some (.array .byte)), .initialized U16, .arrayClass .byte, .methodLink U16 115 Cmp5.yN, .static Cmp5.yN, .code Cmp5.yN Cmp5.yB 7 (some .int), .code CodL.yN CodL.yB 2 (some .byte)]
theorem tab_of {a : Array Value} {s : State} (h : ∀ w ∈ words, w.before a s = true) : New1.tab.before a s = true := by
  have h5 : Cmp5.tab.before a s = true := unparts (wk h (.code Cmp5.yN Cmp5.yB 7 (some .int))) (wks h (.initialized Cmp5.yN.cls :: Cmp5.site))
  have hc : CodL.tab.before a s = true := unparts (wk h (.code CodL.yN CodL.yB 2 (some .byte))) (wks h (.initialized CodL.yN.cls :: CodL.site))
  have q5 : ∀ w ∈ Cmp5.tab :: words, w.before a s = true := fun w hw => (List.mem_cons.mp hw).elim (fun e => e ▸ h5) (h w)
  have h3 : Cmp3.tab.before a s = true := unparts (wk q5 (.code Cmp3.yN Cmp3.yB 6 (some (.array .byte)))) (wks q5 (.initialized Cmp3.yN.cls :: Cmp3.site))
  have q3 : ∀ w ∈ Cmp3.tab :: CodL.tab :: words, w.before a s = true := fun w hw => (List.mem_cons.mp hw).elim (fun e => e ▸ h3) fun hw => (List.mem_cons.mp hw).elim (fun e => e ▸ hc) (h w)
  have h4 : New4.tab.before a s = true := unparts (wk q3 (.code New4.yN New4.yB 6 none)) (wks q3 (.initialized New4.yN.cls :: New4.site))
  have q4 : ∀ w ∈ New4.tab :: words, w.before a s = true := fun w hw => (List.mem_cons.mp hw).elim (fun e => e ▸ h4) (h w)
  exact unparts (wk q4 (.code New1.yN New1.yB 2 none)) (wks q4 (.initialized New1.yN.cls :: New1.site))
/-- the words ride from the start Z to the walk's own state -/
theorem moved {Z s : State} {a0 args : Array Value} (hZ : Z.Warmed39 s.vm) (hw : ∀ d ∈ words, d.before a0 Z = true) : ∀ d ∈ words, d.before args s = true := fun d hd => by
  have q := hw d hd
  have t : ∀ d ∈ words, d = .arrayClass .byte ∨ (d.onTables && d.keepsFace) = true := by decide +kernel
  rcases t d hd with rfl | t
  · exact RoadKit.mvA hZ q
  · exact RoadKit.mv hZ q t
/-- WHAT COMES BACK, over the tables of the start Z: h the heap at the call, h' behind it -/
def Q (Z : State) (x : Addr) (A : Cell) (h : Heap) (v : Option Value) (h' : Heap) (L : List Loc) : Prop := v = none ∧ (∀ y ∈ L, y.base = x) ∧ RoadKit.Keep h h' [x] ∧ h'.size = h.size + 1 ∧ RoadKit.Exa Z h' x ST ∧ RoadKit.Fld Z h' x ST "value" "[B" (.ref h.size) ∧ RoadKit.Fld Z h' x ST "coder" "B" (.int 0) ∧
  (∃ V : Cell, RoadKit.Arr Z h' h.size V .byte ∧ V.vm = .none ∧ Z.vm.findClass "[B" = some V.cls ∧ V.slots.size = A.slots.size ∧ ∀ j, j < A.slots.size → V.slots[j]? = some (.int (lo8 (cv A j)))) ∧
  ∀ (O n d : String) (w : Value), RoadKit.Fld Z h x O n d w → RoadKit.slotOf Z O n d ≠ RoadKit.slotOf Z ST "value" "[B" → RoadKit.slotOf Z O n d ≠ RoadKit.slotOf Z ST "coder" "B" → RoadKit.Fld Z h' x O n d w
/-- **new String(chars) AT A CALL, IN THE ROAD'S FORM**: for specialBack behind newO: x the fresh String, b the char[] with the cell A -/
theorem back {p : Program} {l : Launch} {e : Env} {R : Room} {s : State} {args : Array Value} {below : List Frame} {len W : Nat} {Z : State} {a0 : Array Value} {h : Heap} (hZ : Z.Warmed39 s.vm) (hw : ∀ d ∈ words, d.before a0 Z = true) {kI : Nat} (wi : (Jvm.Cond.instantiable ST kI).before a0 Z = true)
    {x b : Addr} {A : Cell} {z : Int32} {v0 c0 : Value} (E : RoadKit.Exa Z h x ST) (V : RoadKit.Fld Z h x ST "value" "[B" v0) (C : RoadKit.Fld Z h x ST "coder" "B" c0) (K : RoadKit.Arr Z h b A .char) (hty : Typed .char A) (S : RoadKit.Sta Z h ST "COMPACT_STRINGS" "Z" (.int z)) (hz : ¬ z = 0)
    (l0 : 0 < A.slots.size) (l2 : A.slots.size ≤ 536870912) (hp : ∀ i, i < A.slots.size → ¬ 255 < cv A i) (hfr : 4 ≤ R.frames) (hlo : W + 65 ≤ R.locals) :
    Back l R p e below s args New1.yN len W (fun P a => a = #[.ref x, .ref b] ∧ P.U.heap = h ∧ P.cells + 1 ≤ R.cells ∧ P.slots + A.slots.size ≤ R.slots)
      (fun P _ v B => ∃ L, Q Z x A h v B.U.heap L ∧ B.locs = P.locs ++ L ∧ B.cells = P.cells + 1 ∧ B.slots = P.slots + A.slots.size) := by
  intro m meth c P g ig mk a X hg hsize hdg hW hn hp'
  obtain ⟨rfl, rfl, r1, r2⟩ := hp'
  have al : Z.vm.Alike P.U.vm := hZ.alike.trans X.warmed.alike
  obtain ⟨D, cfV, kV, iV, fV, hD, gV, stV, knV, obV, asV, slV⟩ := id V
  obtain ⟨D', cfC, kC, iC, fC, hD', gC, stC, -, -, asC, slC⟩ := id C
  cases hD.symm.trans hD'
  obtain ⟨D2, kD, e1, e2, e3, e4, e5⟩ := id E
  cases hD.symm.trans e1
  obtain ⟨c2, k2, i1, i2, i3, -⟩ := Cond.instantiable_spec wi
  cases e2.symm.trans i1
  cases e3.symm.trans i2
  obtain ⟨kU, u1, u2⟩ := al.2.2 _ _ e3
  have hB : Blank ST x D P.U := ⟨hD, ⟨knV, fun q hq => by rw [hq] at obV; cases obV⟩, by rw [al.findClass]; exact e2, kU, u1, by rw [u2]; exact i3, by rw [u2]; exact e5 i3⟩
  have F1 : Found ST "value" "[B" fV P.U := ⟨SBG.found_only al ⟨cfV, kV, iV, gV⟩, stV⟩
  have F2 : Found ST "coder" "B" fC P.U := ⟨SBG.found_only al ⟨cfC, kC, iC, gC⟩, stC⟩
  have hA : Ch b A P.U := ⟨⟨K.1, State.isArrayOf_alike al K.2.1, K.2.2, by omega⟩, hty⟩
  have hS : StaticIs P.U ST "COMPACT_STRINGS" "Z" (.int z) := by
    obtain ⟨cfS, iS, kS, fS, st, cS, t1, t2, t3, t4, t5, t6, t7⟩ := S
    exact StaticIs.there (s := { Z with heap := P.U.heap }) ⟨cfS, iS, kS, fS, st, cS, t1, t2, t3, t4, t5, (fun q => by rw [q] at t6; cases t6), t7⟩ al rfl
  obtain ⟨v, B, X', ⟨⟨hv, E', V', q1, q2, q3, q4, q5, q6, q7, q8, q9, q10, q11⟩, hl, hc, hs⟩, st⟩ := New1.pays x D fV fC b A z (tab_of (moved hZ hw)) hfr hlo m meth c P g ig mk _ X hg hsize hdg hW hn ⟨r1, r2, rfl, hB, F1, F2, hA, hS, hz, l0, l2, hp⟩
  have al' : Z.vm.Alike B.U.vm := hZ.alike.trans X'.warmed.alike
  have hsz : E'.slots.size = D.slots.size := by
    obtain ⟨-, -, -, kB, w1, w2, w3⟩ := q1
    obtain ⟨kB', y1, y2⟩ := al'.2.2 _ _ e3
    rw [q2.2.1] at w1
    cases w1.symm.trans y1
    rw [w3, e5 i3, y2]
  refine ⟨v, B, X', ⟨_, ⟨hv, ?_, ⟨by omega, fun y cy hy hn' => q10 y cy (by simpa using hn') hy, fun y cy hy => ?_⟩, q11, ⟨E', _, q1.1, by rw [q2.2.1]; exact e2, by rw [q2.2.1]; exact e3, by rw [q2.1]; exact obV, fun _ => by rw [hsz]; exact e5 i3⟩,
    ⟨E', cfV, kV, iV, fV, q1.1, gV, stV, by rw [q2.1]; exact knV, by rw [q2.1]; exact obV, by rw [q2.2.1]; exact asV, q3⟩, ⟨E', cfC, kC, iC, fC, q1.1, gC, stC, by rw [q2.1]; exact knV, by rw [q2.1]; exact obV, by rw [q2.2.1]; exact asC, q4⟩,
    ⟨V', ⟨q5.1, State.isArrayOf_alike al'.symm q5.2.1, q5.2.2.1⟩, q6, by rw [← al'.findClass]; exact q7, q8, fun j hj => by have := q9 j hj; rwa [Nat.zero_add] at this⟩, fun O n d w F n1 n2 => ?_⟩, hl, hc, hs⟩, st⟩
  · intro y hy
    simp only [List.mem_cons, List.not_mem_nil, or_false] at hy
    rcases hy with rfl | rfl <;> rfl
  · by_cases q : y = x
    · subst q
      cases hD.symm.trans hy
      exact ⟨E', q1.1, q2.2.1, q2.1, hsz⟩
    · exact ⟨cy, q10 y cy q hy, rfl, rfl, rfl⟩
  · obtain ⟨D3, cf, k, i, f, g1, g2, g3, g4, g5, g6, g7⟩ := F
    cases hD.symm.trans g1
    simp only [RoadKit.slotOf, g2, gV, gC, Option.map_some, Option.getD_some] at n1 n2
    exact ⟨E', cf, k, i, f, q1.1, g2, g3, by rw [q2.1]; exact g4, by rw [q2.1]; exact g5, by rw [q2.2.1]; exact g6, by rw [q2.2.2 f.slot (by simp [n1, n2])]; exact g7⟩
end StrChars.Road
namespace StrChars.Road
open Jvm Sem ClassFile Op Lib Jvm.Stand Jvm.Free Jvm.Free.XT
/-- WHAT COMES BACK, the byte[] as a list of values -/
def QA (Z : State) (x : Addr) (zn : Int32) (cs : List Int32) (h : Heap) (v : Option Value) (h' : Heap) (L : List Loc) : Prop := v = none ∧ (∀ y ∈ L, y.base = x) ∧ RoadKit.Keep h h' [x] ∧ h'.size = h.size + 1 ∧ RoadKit.Exa Z h' x ST ∧ RoadKit.Fld Z h' x ST "value" "[B" (.ref h.size) ∧ RoadKit.Fld Z h' x ST "coder" "B" (.int 0) ∧
  (∃ kb, Z.vm.findClass "[B" = some kb ∧ RoadKit.Arv Z h' h.size kb .byte zn (cs.map fun c => .int (lo8 c)) (.int 0)) ∧
  ∀ (O n d : String) (w : Value), RoadKit.Fld Z h x O n d w → RoadKit.slotOf Z O n d ≠ RoadKit.slotOf Z ST "value" "[B" → RoadKit.slotOf Z O n d ≠ RoadKit.slotOf Z ST "coder" "B" → RoadKit.Fld Z h' x O n d w
/-- **new String(chars) AT A CALL, THE ARRAYS AS LISTS**: the char[] at b holds cs, not empty, no char above 255 -/
theorem backArv {p : Program} {l : Launch} {e : Env} {R : Room} {s : State} {args : Array Value} {below : List Frame} {len W : Nat} {Z : State} {a0 : Array Value} {h : Heap} (hZ : Z.Warmed39 s.vm) (hw : ∀ d ∈ words, d.before a0 Z = true) {kI : Nat} (wi : (Jvm.Cond.instantiable ST kI).before a0 Z = true)
    {x b : Addr} {k : ClassId} {zn z : Int32} {cs : List Int32} {dv v0 c0 : Value} (E : RoadKit.Exa Z h x ST) (V : RoadKit.Fld Z h x ST "value" "[B" v0) (C : RoadKit.Fld Z h x ST "coder" "B" c0) (K : RoadKit.Arv Z h b k .char zn (cs.map Value.int) dv) (S : RoadKit.Sta Z h ST "COMPACT_STRINGS" "Z" (.int z)) (hz : ¬ z = 0)
    (hlen : zn.toNatClampNeg = cs.length) (h0 : 0 < cs.length) (hbig : cs.length ≤ 536870912) (hall : ∀ c ∈ cs, ¬ 255 < c) (hfr : 4 ≤ R.frames) (hlo : W + 65 ≤ R.locals) :
    Back l R p e below s args New1.yN len W (fun P a => a = #[.ref x, .ref b] ∧ P.U.heap = h ∧ P.cells + 1 ≤ R.cells ∧ P.slots + cs.length ≤ R.slots)
      (fun P _ v B => ∃ L, QA Z x zn cs h v B.U.heap L ∧ B.locs = P.locs ++ L ∧ B.cells = P.cells + 1 ∧ B.slots = P.slots + cs.length) := by
  obtain ⟨A, K1, K2, K3, K4, K5, K6⟩ := K
  have e : A.slots.size = cs.length := K3.trans hlen
  have hat : ∀ (i : Nat) (hi : i < cs.length), A.slots[i]? = some (.int cs[i]) := fun i hi => by rw [K5 i (by omega)]; simp [List.getD_eq_getElem?_getD, hi]
  have hcv : ∀ (i : Nat) (hi : i < cs.length), cv A i = cs[i] := fun i hi => by unfold cv; rw [hat i hi]
  have hty : Typed .char A := fun i v hv => by
    have hi : i < A.slots.size := (Array.getElem?_eq_some_iff.mp hv).1
    have q := K5 i hi
    rw [hv] at q
    rw [Option.some.inj q]
    exact K6 i hi
  refine Back.mono (back hZ hw wi E V C K1 hty S hz (by omega) (by omega) (fun i hi => by rw [hcv i (by omega)]; exact hall _ (List.getElem_mem _)) hfr hlo) (fun P a hp => ⟨hp.1, hp.2.1, hp.2.2.1, by rw [e]; exact hp.2.2.2⟩) (fun P a v B hp hq => ?_)
  obtain ⟨L, ⟨q1, q2, q3, q4, q5, q6, q7, ⟨V', v1, v2, v3, v4, v5⟩, q9⟩, hl, hc, hs⟩ := hq
  refine ⟨L, ⟨q1, q2, q3, q4, q5, q6, q7, ⟨V'.cls, v3, V', v1, rfl, by rw [v4, e, hlen], K4, fun i hi => ?_, fun i hi => ?_⟩, q9⟩, hl, hc, by rw [hs, e]⟩
  · have hi' : i < cs.length := by omega
    rw [v5 i (by omega), hcv i hi']; simp [List.getD_eq_getElem?_getD, hi']
  · have hi' : i < cs.length := by omega
    simp only [List.getD_eq_getElem?_getD, List.getElem?_map, List.getElem?_eq_getElem hi', Option.map_some, Option.getD_some]
    exact fits_lo8 _
end StrChars.Road
namespace StrChars.Road
open Jvm Sem ClassFile Op Lib Jvm.Stand Jvm.Free Jvm.Free.XT
/-- WHAT COMES BACK, in the writer's own shape -/
def QV (Z : State) (x : Addr) (N : Int32) (bs : List Int32) (h : Heap) (n0 : Nat) (v : Option Value) (h' : Heap) (L : List Loc) : Prop := v = none ∧ RoadKit.Fr n0 L ∧ RoadKit.Keep h h' [x] ∧ RoadKit.Exa Z h' x ST ∧ RoadKit.Fld Z h' x ST "coder" "B" (.int 0) ∧
  ∃ (t : Addr) (kb : ClassId), n0 ≤ t ∧ h.size ≤ t ∧ ¬ t = x ∧ RoadKit.Fld Z h' x ST "value" "[B" (.ref t) ∧ RoadKit.Arv Z h' t kb .byte N (bs.map Value.int) (.int 0)
/-- **new String(chars) AT A CALL, FOR THE WRITER**: a char[] of n known ints, each 0 to 255 -/
theorem backV {p : Program} {l : Launch} {e : Env} {R : Room} {s : State} {args : Array Value} {below : List Frame} {len W : Nat} {Z : State} {a0 : Array Value} {h : Heap} (hZ : Z.Warmed39 s.vm) (hw : ∀ d ∈ words, d.before a0 Z = true) {kI : Nat} (wi : (Jvm.Cond.instantiable ST kI).before a0 Z = true)
    {x b : Addr} {kC : ClassId} {cs bs : List Int32} {d v0 c0 : Value} {z N : Int32} {n n0 : Nat} (hx0 : n0 ≤ x) (hh0 : n0 ≤ h.size) (E : RoadKit.Exa Z h x ST) (V : RoadKit.Fld Z h x ST "value" "[B" v0) (C : RoadKit.Fld Z h x ST "coder" "B" c0) (K : RoadKit.Arv Z h b kC .char N (cs.map Value.int) d) (S : RoadKit.Sta Z h ST "COMPACT_STRINGS" "Z" (.int z)) (hz : ¬ z = 0)
    (hn : cs.length = n) (hN : N = Int32.ofNat n) (l0 : 0 < n) (l2 : n ≤ 4000) (hp : ∀ c ∈ cs, ¬ c < 0 ∧ ¬ (255 : Int32) < c) (hb : bs = cs.map (fun c => c.toInt8.toInt32)) (hfr : 4 ≤ R.frames) (hlo : W + 65 ≤ R.locals) :
    Back l R p e below s args (⟨"java/lang/String", "<init>", "([C)V"⟩ : MethodName) len W (fun P a => a = #[.ref x, .ref b] ∧ P.U.heap = h ∧ P.cells + 1 ≤ R.cells ∧ P.slots + n ≤ R.slots)
      (fun P _ v B => ∃ L, QV Z x N bs h n0 v B.U.heap L ∧ B.locs = P.locs ++ L ∧ B.cells = P.cells + 1 ∧ B.slots = P.slots + n) := by
  subst hn hN hb
  refine Back.mono (backArv hZ hw wi E V C K S hz (n32 (by omega)) l0 (by omega) (fun c hc => (hp c hc).2) hfr hlo) (fun P a hp => hp) (fun P a v B hp hq => ?_)
  obtain ⟨L, ⟨q1, q2, q3, q4, q5, q6, q7, ⟨kb, v1, v2⟩, q9⟩, hl, hc, hs⟩ := hq
  exact ⟨L, ⟨q1, fun y hy => by rw [q2 y hy]; exact hx0, q3, q5, q7, h.size, kb, hh0, Nat.le_refl _, Nat.ne_of_gt E.lt, q6, by rw [List.map_map]; exact v2⟩, hl, hc, hs⟩
end StrChars.Road
namespace StrChars
open Jvm Sem ClassFile Op Lib Jvm.Stand Jvm.Free.XT Jvm.Free.ALB Jvm.Free.JM Jvm.Free
open Jvm.Lib.Cold (StaticIs)
def hi8 (x : Int32) : Int32 := lo8 (x >>> ((8 : Int32) &&& 31))
/-- what StringUTF16.getChar makes of two bytes -/
def pairCh (u v : Int32) : Int32 := (((u &&& 255) <<< ((0 : Int32) &&& 31)) ||| ((v &&& 255) <<< ((8 : Int32) &&& 31))).toUInt32.toUInt16.toUInt32.toInt32
theorem shr0 (c : Int32) : c >>> ((0 : Int32) &&& 31) = c := by
  have e : ((0 : Int32) &&& 31) = 0 := by decide
  rw [e]
  apply Int32.toBitVec_inj.mp
  rw [Int32.toBitVec_shiftRight]
  have e1 : ((0 : Int32).toBitVec.smod 32) = 0#32 := by decide
  rw [e1, BitVec.sshiftRight_eq']
  exact BitVec.sshiftRight_zero
theorem lo8_and (x : Int32) : (lo8 x &&& 255).toBitVec.toNat = x.toBitVec.toNat % 256 := by
  have h : (lo8 x).toBitVec = (x.toBitVec.signExtend 8).signExtend 32 := by rw [lo8, Int8.toBitVec_toInt32, Int32.toBitVec_toInt8]
  rw [Int32.toBitVec_and, BitVec.toNat_and, h]
  have e : ((x.toBitVec.signExtend 8).signExtend 32).toNat % 256 = x.toBitVec.toNat % 256 := by
    rw [BitVec.toNat_signExtend]
    have hlt := x.toBitVec.isLt
    simp only [BitVec.toNat_setWidth, BitVec.toNat_signExtend]
    split <;> split <;> omega
  rw [← e]
  exact Nat.and_two_pow_sub_one_eq_mod _ 8
theorem pair_says {c : Int32} (h0 : ¬ c < 0) (h1 : ¬ 65535 < c) : pairCh (lo8 c) (hi8 c) = c := by
  rw [Int32.lt_iff_toInt_lt] at h0 h1
  have e0 : (0 : Int32).toInt = 0 := rfl
  have e1 : (65535 : Int32).toInt = 65535 := rfl
  have hc : c.toInt = c.toBitVec.toNat := by
    have := c.toBitVec.isLt
    have e : c.toInt = c.toBitVec.toInt := rfl
    rw [e] at h0 h1
    rw [e]
    rw [BitVec.toInt_eq_toNat_cond] at h0 h1 ⊢
    split at h0 <;> split <;> omega
  have hn : c.toBitVec.toNat < 65536 := by omega
  have a1 := lo8_and c
  have a2 : (hi8 c &&& 255).toBitVec.toNat = c.toBitVec.toNat / 256 := by
    rw [hi8, lo8_and]
    have e : ((8 : Int32) &&& 31) = 8 := by decide
    rw [e, Int32.toBitVec_shiftRight]
    have e2 : ((8 : Int32).toBitVec.smod 32) = 8#32 := by decide
    rw [e2, BitVec.sshiftRight_eq', BitVec.toNat_sshiftRight_of_msb_false (by rw [BitVec.msb_eq_false_iff_two_mul_lt]; omega)]
    show c.toBitVec.toNat >>> 8 % 256 = _
    rw [Nat.shiftRight_eq_div_pow]
    omega
  unfold pairCh
  apply Int32.toBitVec_inj.mp
  apply BitVec.eq_of_toNat_eq
  have f0 : ((0 : Int32) &&& 31) = 0 := by decide
  have f8 : ((8 : Int32) &&& 31) = 8 := by decide
  rw [f0, f8]
  have g : (((lo8 c &&& 255) <<< (0 : Int32)) ||| ((hi8 c &&& 255) <<< (8 : Int32))).toBitVec.toNat = c.toBitVec.toNat := by
    rw [Int32.toBitVec_or, Int32.toBitVec_shiftLeft, Int32.toBitVec_shiftLeft]
    have s0 : ((0 : Int32).toBitVec.smod 32) = 0#32 := by decide
    have s8 : ((8 : Int32).toBitVec.smod 32) = 8#32 := by decide
    rw [s0, s8, BitVec.toNat_or]
    simp only [BitVec.shiftLeft_eq', BitVec.toNat_shiftLeft, a1, a2]
    show (c.toBitVec.toNat % 256) <<< 0 % 2 ^ 32 ||| (c.toBitVec.toNat / 256) <<< 8 % 2 ^ 32 = _
    rw [Nat.shiftLeft_zero, Nat.mod_eq_of_lt (show c.toBitVec.toNat % 256 < 2 ^ 32 by omega), Nat.mod_eq_of_lt (show (c.toBitVec.toNat / 256) <<< 8 < 2 ^ 32 by rw [Nat.shiftLeft_eq]; omega), Nat.or_comm, ← Nat.shiftLeft_add_eq_or_of_lt (by omega), Nat.shiftLeft_eq]
    omega
  show BitVec.toNat (((((lo8 c &&& 255) <<< (0 : Int32)) ||| ((hi8 c &&& 255) <<< (8 : Int32))).toBitVec.setWidth 16).setWidth 32) = _
  rw [BitVec.toNat_setWidth, BitVec.toNat_setWidth, g]
  omega
end StrChars
namespace StrChars
open Jvm Sem ClassFile Op Lib Jvm.Stand Jvm.Free.XT Jvm.Free.ALB Jvm.Free.JM Jvm.Free
open Jvm.Lib.Cold (StaticIs)
theorem shr1 {n : Nat} (h : 2 * n < 2 ^ 31) : Int32.ofNat (2 * n) >>> ((1 : Int32) &&& 31) = Int32.ofNat n := by
  have e : ((1 : Int32) &&& 31) = 1 := by decide
  rw [e]
  apply Int32.toBitVec_inj.mp
  rw [Int32.toBitVec_shiftRight]
  have e1 : ((1 : Int32).toBitVec.smod 32) = 1#32 := by decide
  have hm : (BitVec.ofNat 32 (2 * n)).toNat = 2 * n := by rw [BitVec.toNat_ofNat, Nat.mod_eq_of_lt (by omega)]
  rw [e1, BitVec.sshiftRight_eq']
  apply BitVec.eq_of_toNat_eq
  show ((BitVec.ofNat 32 (2 * n)).sshiftRight 1).toNat = (BitVec.ofNat 32 n).toNat
  rw [BitVec.toNat_sshiftRight_of_msb_false (by rw [BitVec.msb_eq_false_iff_two_mul_lt, hm]; omega), hm, BitVec.toNat_ofNat, Nat.shiftRight_eq_div_pow]
  omega
/-- charAt's cast of a byte read back -/
def chr8 (u : Int32) : Int32 := (u &&& 255).toUInt32.toUInt16.toUInt32.toInt32
theorem chr8_lo8 {c : Int32} (h0 : ¬ c < 0) (h1 : ¬ 255 < c) : chr8 (lo8 c) = c := by
  have t : ∀ k : Fin 256, (Int32.ofNat k.val).toUInt32.toUInt16.toUInt32.toInt32 = Int32.ofNat k.val := by decide +kernel
  unfold chr8
  rw [lo8_mask h0 h1]
  rw [Int32.lt_iff_toInt_lt] at h0 h1
  have e0 : (0 : Int32).toInt = 0 := rfl
  have e1 : (255 : Int32).toInt = 255 := rfl
  obtain ⟨k, hk⟩ : ∃ k : Nat, c.toInt = k := ⟨c.toInt.toNat, by omega⟩
  have hx : c = Int32.ofNat k := Int32.toInt_inj.mp (by rw [hk, Int32.toInt_ofNat_small (by omega)])
  rw [hx]
  exact t ⟨k, by omega⟩
theorem narrow_ch {c : Int32} (h0 : ¬ c < 0) (h1 : ¬ 65535 < c) : narrow .char (.int c) = .int c := by
  have q : narrow .char (.int (pairCh (lo8 c) (hi8 c))) = .int (pairCh (lo8 c) (hi8 c)) := narrow_c _
  rwa [pair_says h0 h1] at q
/-- the array's cell V codes the n chars f 0 .. f (n - 1) by the coder cd, as the JDK does: coder 1 just where some char is above 255 -/
def Cod (cd : Int32) (n : Nat) (f : Nat → Int32) (V : Cell) : Prop := (cd = 0 ∧ V.slots.size = n ∧ ∀ j, j < n → V.slots[j]? = some (.int (lo8 (f j))) ∧ ¬ 255 < f j) ∨ (cd = 1 ∧ V.slots.size = 2 * n ∧ (∀ j, j < n → V.slots[2 * j]? = some (.int (lo8 (f j))) ∧ V.slots[2 * j + 1]? = some (.int (hi8 (f j)))) ∧ ∃ j, j < n ∧ 255 < f j)
theorem Cod.cd {cd : Int32} {n : Nat} {f : Nat → Int32} {V : Cell} (h : Cod cd n f V) : cd = 0 ∨ cd = 1 := h.imp (fun q => q.1) fun q => q.1
theorem Cod.len {cd : Int32} {n : Nat} {f : Nat → Int32} {V : Cell} (h : Cod cd n f V) (hs : V.slots.size < 2 ^ 31) : Int32.ofNat V.slots.size >>> (cd &&& 31) = Int32.ofNat n := by
  rcases h with ⟨rfl, h, -⟩ | ⟨rfl, h, -⟩
  · rw [shr0, h]
  · rw [h, shr1 (by omega)]
/-- **x is a String of the n chars f 0 .. f (n - 1)**, Latin-1 or UTF-16; its array at t has the cell V -/
def Txt (x t : Addr) (V : Cell) (cd : Int32) (n : Nat) (f : Nat → Int32) (U : State) : Prop := Exact "java/lang/String" x U ∧ Has x "java/lang/String" "value" "[B" (.ref t) U ∧ Has x "java/lang/String" "coder" "B" (.int cd) U ∧ XT.Arr .byte t V U ∧ Cod cd n f V ∧ ∀ j, j < n → ¬ f j < 0 ∧ ¬ 65535 < f j
theorem Txt.mv {x t : Addr} {V : Cell} {cd : Int32} {n : Nat} {f : Nat → Int32} {U U' : State} (h : Txt x t V cd n f U) (hal : U.vm.Alike U'.vm) (hh : U'.heap = U.heap) : Txt x t V cd n f U' := ⟨h.1.mv hal hh, h.2.1.mv hal hh, h.2.2.1.mv hal hh, h.2.2.2.1.mv hal hh, h.2.2.2.2⟩
namespace Cdr
def yN : MethodName := ⟨"java/lang/String", "coder", "()B"⟩
abbrev yB : ByteArray := jdk_42_method_152_code
theorem d0 : decode yB 0 = .ok (.getstatic 38, 3) := by decide +kernel
theorem d3 : decode yB 3 = .ok (.ifCond (.eq) 10, 3) := by decide +kernel
theorem d6 : decode yB 6 = .ok (.aload_n 0, 1) := by decide +kernel
theorem d7 : decode yB 7 = .ok (.getfield 15, 3) := by decide +kernel
theorem d10 : decode yB 10 = .ok (.goto 4, 3) := by decide +kernel
theorem d14 : decode yB 14 = .ok (.ireturn, 1) := by decide +kernel
def site : List Cond := [.fieldLink "java/lang/String" 38 "java/lang/String" "COMPACT_STRINGS" "Z", .fieldLink "java/lang/String" 15 "java/lang/String" "coder" "B"]
def tab : Cond := tabOf yN yB 1 (some .byte) site
def P (x : Addr) (cd z : Int32) (args : Array Value) (s : State) : Prop := args = #[.ref x] ∧ Has x "java/lang/String" "coder" "B" (.int cd) s ∧ (cd = 0 ∨ cd = 1) ∧ StaticIs s "java/lang/String" "COMPACT_STRINGS" "Z" (.int z) ∧ ¬ z = 0
def E (cd : Int32) (r : Option Value) (s u : State) : Prop := XT.PureE (some (.int cd)) r s u
theorem law (l : Launch) (x : Addr) (cd z : Int32) : Law l yN 1 0 0 0 yB 1 (some .byte) site (P x cd z) (E cd) [] 0 0 := by
  refine Law.of_walk (plainFor_of_name (by decide +kernel)) (by decide +kernel) (by decide +kernel) (by decide) (fun _ _ h => by rw [h.1]; rfl) (fun _ U U' hal hh h => ⟨h.1, h.2.1.mv hal hh, h.2.2.1, h.2.2.2.1.there hal hh, h.2.2.2.2⟩) (fun r U U' V V' h1 hal h2 h => XT.PureE.mv r U U' V V' h1 hal h2 h) ?_
  intro p e s m args below meth c s₁ X0 hexec hbytes hml hret hlk hnm hown hh0 W hP
  obtain ⟨rfl, hx, hc, s1, hz⟩ := hP
  have c1 : Steps p.tables e below (s₁.setTop (entryFrame m #[.ref x] 1)) (s₁.setTop (mkF m 0 #[.val (.ref x)] [])) := entry rfl
  obtain ⟨T2, X2, q2, st2⟩ := X0.sget hexec hown (wk W (.fieldLink "java/lang/String" 38 "java/lang/String" "COMPACT_STRINGS" "Z")) s1 (fun _ _ h => by rw [hh0]; exact h) (g := (mkF m 0 #[.val (.ref x)] [])) rfl (hb hbytes d0)
  have hh2 := q2.trans hh0
  have c3 : Steps p.tables e below (s₁.setTop (entryFrame m #[.ref x] 1)) (T2.setTop (mkF m 7 #[.val (.ref x)] [.ref x])) := (c1.trans (st2 _ (Steps.refl _))).trans (by
    refine XS.ifNo X2.here hexec rfl (hb hbytes d3) rfl (i0_eq_f hz) ?_
    refine XS.aloadN X2.here hexec rfl (hb hbytes d6) rfl rfl ?_
    exact Steps.refl _)
  obtain ⟨T4, X4, q4, st4⟩ := X2.hget hexec hown (wk W (.fieldLink "java/lang/String" 15 "java/lang/String" "coder" "B")) (hx.mv X2.warmed.alike hh2) (g := (mkF m 7 #[.val (.ref x)] [.ref x])) rfl (rest := []) rfl (hb hbytes d7)
  have c5 : Steps p.tables e below (s₁.setTop (entryFrame m #[.ref x] 1)) (T4.setTop (mkF m 14 #[.val (.ref x)] [.int cd])) := (c3.trans (st4 _ (Steps.refl _))).trans (by
    refine XS.goto X4.here hexec rfl (pc0 := 10) rfl (hb hbytes d10) (by decide) rfl ?_
    exact Steps.refl _)
  exact ⟨T4, some (.int cd), _, _, _, X4, rfl, rfl, rfl, (fun h => by cases h), ⟨rfl, q4.trans hh2⟩, fun fs hl => c5.trans (X4.ireturnOut hexec hret (by rcases hc with rfl | rfl <;> rfl) (Or.inr (Or.inr (Or.inl rfl))) (hb hbytes d14) hl)⟩
end Cdr
namespace Len
def yN : MethodName := ⟨"java/lang/String", "length", "()I"⟩
abbrev yB : ByteArray := jdk_42_method_54_code
theorem d0 : decode yB 0 = .ok (.aload_n 0, 1) := by decide +kernel
theorem d1 : decode yB 1 = .ok (.getfield 9, 3) := by decide +kernel
theorem d4 : decode yB 4 = .ok (.arraylength, 1) := by decide +kernel
theorem d5 : decode yB 5 = .ok (.aload_n 0, 1) := by decide +kernel
theorem d6 : decode yB 6 = .ok (.invokevirtual 335, 3) := by decide +kernel
theorem d9 : decode yB 9 = .ok (.ishr, 1) := by decide +kernel
theorem d10 : decode yB 10 = .ok (.ireturn, 1) := by decide +kernel
def site : List Cond := [.fieldLink "java/lang/String" 9 "java/lang/String" "value" "[B", Cdr.tab] ++ virtW "java/lang/String" 335 "java/lang/String" Cdr.yN Cdr.yN
def tab : Cond := tabOf yN yB 1 (some .int) site
def P (x t : Addr) (V : Cell) (cd : Int32) (n : Nat) (f : Nat → Int32) (z : Int32) (args : Array Value) (s : State) : Prop := args = #[.ref x] ∧ Txt x t V cd n f s ∧ StaticIs s "java/lang/String" "COMPACT_STRINGS" "Z" (.int z) ∧ ¬ z = 0
def E (n : Nat) (r : Option Value) (s u : State) : Prop := XT.PureE (some (.int (Int32.ofNat n))) r s u
/-- length() of a String of n chars, in either coding -/
theorem law (l : Launch) (x t : Addr) (V : Cell) (cd : Int32) (n : Nat) (f : Nat → Int32) (z : Int32) : Law l yN 1 0 1 13 yB 1 (some .int) site (P x t V cd n f z) (E n) [] 0 0 := by
  refine Law.of_walk (plainFor_of_name (by decide +kernel)) (by decide +kernel) (by decide +kernel) (by decide) (fun _ _ h => by rw [h.1]; rfl) (fun _ U U' hal hh h => ⟨h.1, h.2.1.mv hal hh, h.2.2.1.there hal hh, h.2.2.2⟩) (fun r U U' V V' h1 hal h2 h => XT.PureE.mv r U U' V V' h1 hal h2 h) ?_
  intro p e s m args below meth c s₁ X0 hexec hbytes hml hret hlk hnm hown hh0 W hP
  obtain ⟨rfl, hx, s1, hz⟩ := hP
  have v31 := hx.2.2.2.1.2.2.2
  have c1 : Steps p.tables e below (s₁.setTop (entryFrame m #[.ref x] 1)) (s₁.setTop (mkF m 1 #[.val (.ref x)] [.ref x])) := Steps.trans (entry rfl) (by
    show Steps p.tables e below (s₁.setTop (mkF m 0 #[.val (.ref x)] [])) _
    refine XS.aloadN X0.here hexec rfl (hb hbytes d0) rfl rfl ?_
    exact Steps.refl _)
  obtain ⟨T2, X2, q2, st2⟩ := X0.hget hexec hown (wk W (.fieldLink "java/lang/String" 9 "java/lang/String" "value" "[B")) (hx.mv X0.warmed.alike hh0).2.1 (g := (mkF m 1 #[.val (.ref x)] [.ref x])) rfl (rest := []) rfl (hb hbytes d1)
  have hh2 := q2.trans hh0
  have hx2 := hx.mv X2.warmed.alike hh2
  have c3 : Steps p.tables e below (s₁.setTop (entryFrame m #[.ref x] 1)) (T2.setTop (mkF m 6 #[.val (.ref x)] [.ref x, .int (Int32.ofNat V.slots.size)])) := (c1.trans (st2 _ (Steps.refl _))).trans (by
    refine X2.alen hexec hx2.2.2.2.1 rfl rfl (hb hbytes d4) ?_
    refine XS.aloadN X2.here hexec rfl (hb hbytes d5) rfl rfl ?_
    exact Steps.refl _)
  obtain ⟨v4, T4, X4, E4, g4⟩ := X2.callV hexec (Cdr.law l x cd z) hown (wks W (virtW "java/lang/String" 335 "java/lang/String" Cdr.yN Cdr.yN)) rfl (by decide) (wk W Cdr.tab) (W := 1) (Nat.le_of_ble_eq_true rfl) (Nat.le_of_ble_eq_true rfl) (Nat.le_refl _) (Nat.le_refl _) (hx2.1.fc X2.warmed.alike) hx2.1.is (g := (mkF m 6 #[.val (.ref x)] [.ref x, .int (Int32.ofNat V.slots.size)])) rfl (by rw [hml]; rfl) c3 (argsL := []) (rest := [.int (Int32.ofNat V.slots.size)]) rfl rfl (by show 2 * 0 + (1 + 0) ≤ _; decide) (hb hbytes d6) (⟨rfl, hx2.2.2.1, hx.2.2.2.2.1.cd, s1.there X2.warmed.alike hh2, hz⟩)
  obtain ⟨rfl, q4⟩ := E4
  have c5 : Steps p.tables e below (s₁.setTop (entryFrame m #[.ref x] 1)) (T4.setTop (mkF m 10 #[.val (.ref x)] [.int (Int32.ofNat V.slots.size >>> (cd &&& 31))])) := Steps.trans g4 (by
    refine ishr X4.here hexec rfl (hb hbytes d9) rfl ?_
    exact Steps.refl _)
  rw [hx.2.2.2.2.1.len v31] at c5
  exact ⟨T4, some (.int (Int32.ofNat n)), _, _, _, X4, rfl, rfl, rfl, (fun h => by cases h), ⟨rfl, q4.trans hh2⟩, fun fs hl => c5.trans (X4.ireturnOut hexec hret rfl (Or.inl rfl) (hb hbytes d10) hl)⟩
theorem pays {l : Launch} {R : Room} {p : Program} {e : Env} {below : List Frame} {s : State} {sargs : Array Value} {len W : Nat} (x t : Addr) (V : Cell) (cd : Int32) (n : Nat) (f : Nat → Int32) (z : Int32) (htab : tab.before sargs s = true) (hfr : 2 ≤ R.frames) (hlo : W + 25 ≤ R.locals) :
    Back l R p e below s sargs yN len W (fun A₁ a₁ => A₁.cells + 0 ≤ R.cells ∧ A₁.slots + 0 ≤ R.slots ∧ P x t V cd n f z a₁ A₁.U) (fun A₁ _ v₁ B₁ => E n v₁ A₁.U B₁.U ∧ B₁.locs = A₁.locs ++ [] ∧ B₁.cells = A₁.cells + 0 ∧ B₁.slots = A₁.slots + 0) :=
  (law l x t V cd n f z).pays htab hfr (by omega)
end Len
namespace IsL
def yN : MethodName := ⟨"java/lang/String", "isLatin1", "()Z"⟩
abbrev yB : ByteArray := jdk_42_method_154_code
theorem d0 : decode yB 0 = .ok (.getstatic 38, 3) := by decide +kernel
theorem d3 : decode yB 3 = .ok (.ifCond (.eq) 14, 3) := by decide +kernel
theorem d6 : decode yB 6 = .ok (.aload_n 0, 1) := by decide +kernel
theorem d7 : decode yB 7 = .ok (.getfield 15, 3) := by decide +kernel
theorem d10 : decode yB 10 = .ok (.ifCond (.ne) 7, 3) := by decide +kernel
theorem d13 : decode yB 13 = .ok (.iconst 1, 1) := by decide +kernel
theorem d14 : decode yB 14 = .ok (.goto 4, 3) := by decide +kernel
theorem d17 : decode yB 17 = .ok (.iconst 0, 1) := by decide +kernel
theorem d18 : decode yB 18 = .ok (.ireturn, 1) := by decide +kernel
def site : List Cond := [.fieldLink "java/lang/String" 38 "java/lang/String" "COMPACT_STRINGS" "Z", .fieldLink "java/lang/String" 15 "java/lang/String" "coder" "B"]
def tab : Cond := tabOf yN yB 1 (some .boolean) site
def P (x : Addr) (cd z : Int32) (args : Array Value) (s : State) : Prop := args = #[.ref x] ∧ Has x "java/lang/String" "coder" "B" (.int cd) s ∧ (cd = 0 ∨ cd = 1) ∧ StaticIs s "java/lang/String" "COMPACT_STRINGS" "Z" (.int z) ∧ ¬ z = 0
def E (cd : Int32) (r : Option Value) (s u : State) : Prop := XT.PureE (some (.int (1 - cd))) r s u
theorem law (l : Launch) (x : Addr) (cd z : Int32) : Law l yN 1 0 0 0 yB 1 (some .boolean) site (P x cd z) (E cd) [] 0 0 := by
  refine Law.of_walk (plainFor_of_name (by decide +kernel)) (by decide +kernel) (by decide +kernel) (by decide) (fun _ _ h => by rw [h.1]; rfl) (fun _ U U' hal hh h => ⟨h.1, h.2.1.mv hal hh, h.2.2.1, h.2.2.2.1.there hal hh, h.2.2.2.2⟩) (fun r U U' V V' h1 hal h2 h => XT.PureE.mv r U U' V V' h1 hal h2 h) ?_
  intro p e s m args below meth c s₁ X0 hexec hbytes hml hret hlk hnm hown hh0 W hP
  obtain ⟨rfl, hx, hc, s1, hz⟩ := hP
  have c1 : Steps p.tables e below (s₁.setTop (entryFrame m #[.ref x] 1)) (s₁.setTop (mkF m 0 #[.val (.ref x)] [])) := entry rfl
  obtain ⟨T2, X2, q2, st2⟩ := X0.sget hexec hown (wk W (.fieldLink "java/lang/String" 38 "java/lang/String" "COMPACT_STRINGS" "Z")) s1 (fun _ _ h => by rw [hh0]; exact h) (g := (mkF m 0 #[.val (.ref x)] [])) rfl (hb hbytes d0)
  have hh2 := q2.trans hh0
  have c3 : Steps p.tables e below (s₁.setTop (entryFrame m #[.ref x] 1)) (T2.setTop (mkF m 7 #[.val (.ref x)] [.ref x])) := (c1.trans (st2 _ (Steps.refl _))).trans (by
    refine XS.ifNo X2.here hexec rfl (hb hbytes d3) rfl (i0_eq_f hz) ?_
    refine XS.aloadN X2.here hexec rfl (hb hbytes d6) rfl rfl ?_
    exact Steps.refl _)
  obtain ⟨T4, X4, q4, st4⟩ := X2.hget hexec hown (wk W (.fieldLink "java/lang/String" 15 "java/lang/String" "coder" "B")) (hx.mv X2.warmed.alike hh2) (g := (mkF m 7 #[.val (.ref x)] [.ref x])) rfl (rest := []) rfl (hb hbytes d7)
  have c5 : Steps p.tables e below (s₁.setTop (entryFrame m #[.ref x] 1)) (T4.setTop (mkF m 10 #[.val (.ref x)] [.int cd])) := c3.trans (st4 _ (Steps.refl _))
  have c6 : Steps p.tables e below (s₁.setTop (entryFrame m #[.ref x] 1)) (T4.setTop (mkF m 18 #[.val (.ref x)] [.int (1 - cd)])) := by
    rcases hc with rfl | rfl
    · exact c5.trans (by
        refine XS.ifNo X4.here hexec rfl (hb hbytes d10) rfl (i0_ne_f rfl) ?_
        refine iconstV X4.here hexec rfl 1 (hb hbytes d13) (by decide) ?_
        refine XS.goto X4.here hexec rfl (pc0 := 14) rfl (hb hbytes d14) (by decide) rfl ?_
        exact Steps.refl _)
    · exact c5.trans (by
        refine XS.ifYes X4.here hexec rfl (pc0 := 10) rfl (hb hbytes d10) rfl (i0_ne_t (by decide)) (by decide) rfl ?_
        refine iconstV X4.here hexec rfl 0 (hb hbytes d17) (by decide) ?_
        exact Steps.refl _)
  exact ⟨T4, some (.int (1 - cd)), _, _, _, X4, rfl, rfl, rfl, (fun h => by cases h), ⟨rfl, q4.trans hh2⟩, fun fs hl => c6.trans (X4.ireturnOut hexec hret (by rcases hc with rfl | rfl <;> rfl) (Or.inr (Or.inl rfl)) (hb hbytes d18) hl)⟩
end IsL
namespace LChA
def yN : MethodName := ⟨"java/lang/StringLatin1", "charAt", "([BI)C"⟩
abbrev yB : ByteArray := jdk_43_method_2_code
theorem d0 : decode yB 0 = .ok (.iload_n 1, 1) := by decide +kernel
theorem d1 : decode yB 1 = .ok (.aload_n 0, 1) := by decide +kernel
theorem d2 : decode yB 2 = .ok (.arraylength, 1) := by decide +kernel
theorem d3 : decode yB 3 = .ok (.invokestatic 9, 3) := by decide +kernel
theorem d6 : decode yB 6 = .ok (.aload_n 0, 1) := by decide +kernel
theorem d7 : decode yB 7 = .ok (.iload_n 1, 1) := by decide +kernel
theorem d8 : decode yB 8 = .ok (.baload, 1) := by decide +kernel
theorem d9 : decode yB 9 = .ok (.sipush 255, 3) := by decide +kernel
theorem d12 : decode yB 12 = .ok (.iand, 1) := by decide +kernel
theorem d13 : decode yB 13 = .ok (.i2c, 1) := by decide +kernel
theorem d14 : decode yB 14 = .ok (.ireturn, 1) := by decide +kernel
def site : List Cond := [JO.Str_checkIndex.tab] ++ staticW "java/lang/StringLatin1" 9 JO.Str_checkIndex.yN
def tab : Cond := tabOf yN yB 2 (some .char) site
def P (t : Addr) (V : Cell) (i : Nat) (u : Int32) (fm : Value) (args : Array Value) (s : State) : Prop := args = #[.ref t, .int (Int32.ofNat i)] ∧ XT.Arr .byte t V s ∧ V.slots[i]? = some (.int u) ∧ (StaticIs s "jdk/internal/util/Preconditions" "SIOOBE_FORMATTER" "Ljava/util/function/BiFunction;" fm ∧ fm.isRef = true)
def E (u : Int32) (r : Option Value) (s w : State) : Prop := XT.PureE (some (.int (chr8 u))) r s w
theorem law (l : Launch) (t : Addr) (V : Cell) (i : Nat) (u : Int32) (fm : Value) : Law l yN 2 2 2 27 yB 2 (some .char) site (P t V i u fm) (E u) [] 0 0 := by
  refine Law.of_walk (plainFor_of_name (by decide +kernel)) (by decide +kernel) (by decide +kernel) (by decide) (fun _ _ h => by rw [h.1]; rfl) (fun _ U U' hal hh h => ⟨h.1, h.2.1.mv hal hh, h.2.2.1, h.2.2.2.1.there hal hh, h.2.2.2.2⟩) (fun r U U' V V' h1 hal h2 h => XT.PureE.mv r U U' V V' h1 hal h2 h) ?_
  intro p e s m args below meth c s₁ X0 hexec hbytes hml hret hlk hnm hown hh0 W hP
  obtain ⟨rfl, hV, hu, s1, rf⟩ := hP
  have v31 := hV.2.2.2
  have hi : i < V.slots.size := (Array.getElem?_eq_some_iff.mp hu).1
  have c1 : Steps p.tables e below (s₁.setTop (entryFrame m #[.ref t, .int (Int32.ofNat i)] 2)) (s₁.setTop (mkF m 0 #[.val (.ref t), .val (.int (Int32.ofNat i))] [])) := entry rfl
  have c2 : Steps p.tables e below (s₁.setTop (entryFrame m #[.ref t, .int (Int32.ofNat i)] 2)) (s₁.setTop (mkF m 3 #[.val (.ref t), .val (.int (Int32.ofNat i))] [.int (Int32.ofNat V.slots.size), .int (Int32.ofNat i)])) := c1.trans (by
    refine XS.iloadN X0.here hexec rfl (hb hbytes d0) rfl ?_
    refine XS.aloadN X0.here hexec rfl (hb hbytes d1) rfl rfl ?_
    refine X0.alen hexec (hV.mv X0.warmed.alike hh0) rfl rfl (hb hbytes d2) ?_
    exact Steps.refl _)
  obtain ⟨v3, T3, X3, E3, g3⟩ := X0.callS hexec (JO.Str_checkIndex.law l (Int32.ofNat i) (Int32.ofNat V.slots.size) fm) hown (wks W (staticW "java/lang/StringLatin1" 9 JO.Str_checkIndex.yN)) (wk W JO.Str_checkIndex.tab) (W := 0) (Nat.le_of_ble_eq_true rfl) (Nat.le_of_ble_eq_true rfl) (Nat.le_refl _) (Nat.le_refl _) (g := (mkF m 3 #[.val (.ref t), .val (.int (Int32.ofNat i))] [.int (Int32.ofNat V.slots.size), .int (Int32.ofNat i)])) rfl (by rw [hml]; rfl) c2 (argsL := [.int (Int32.ofNat i), .int (Int32.ofNat V.slots.size)]) (rest := []) rfl rfl (by show 2 * 0 + 0 ≤ _; decide) (hb hbytes d3) (⟨rfl, rf, s1.there X0.warmed.alike hh0, Int32.ofNat_not_neg (by omega), lt32 v31 hi⟩)
  obtain ⟨rfl, q3⟩ := E3
  have hh3 := q3.trans hh0
  have c4 : Steps p.tables e below (s₁.setTop (entryFrame m #[.ref t, .int (Int32.ofNat i)] 2)) (T3.setTop (mkF m 14 #[.val (.ref t), .val (.int (Int32.ofNat i))] [.int (chr8 u)])) := Steps.trans g3 (by
    refine XS.aloadN X3.here hexec rfl (hb hbytes d6) rfl rfl ?_
    refine XS.iloadN X3.here hexec rfl (hb hbytes d7) rfl ?_
    refine X3.aget hexec (hV.mv X3.warmed.alike hh3) rfl hu rfl rfl (hb hbytes d8) ?_
    refine sipushV X3.here hexec rfl 255 (hb hbytes d9) (by decide) ?_
    refine XS.iand X3.here hexec rfl (hb hbytes d12) rfl ?_
    refine i2c X3.here hexec rfl (hb hbytes d13) rfl ?_
    exact Steps.refl _)
  exact ⟨T3, some (.int (chr8 u)), _, _, _, X3, rfl, rfl, rfl, (fun h => by cases h), ⟨rfl, hh3⟩, fun fs hl => c4.trans (X3.ireturnOut hexec hret (narrow_c _) (Or.inr (Or.inr (Or.inr (Or.inl rfl)))) (hb hbytes d14) hl)⟩
end LChA
end StrChars
namespace StrChars.Road
open Jvm Sem ClassFile Op Lib Jvm.Stand Jvm.Free Jvm.Free.XT
open Jvm.Lib.Cold (StaticIs)
theorem consq {a : Array Value} {s : State} {c : Jvm.Cond} {L : List Jvm.Cond} (h0 : c.before a s = true) (h : ∀ w ∈ L, w.before a s = true) : ∀ w ∈ c :: L, w.before a s = true := fun w hw => (List.mem_cons.mp hw).elim (fun e => e ▸ h0) (h w)
/-- the words of String.length(), either coding -/
abbrev wordsLen : List Jvm.Cond := [.code Len.yN Len.yB 1 (some .int), .initialized ST, .fieldLink ST 9 ST "value" "[B", .fieldLink ST 38 ST "COMPACT_STRINGS" "Z", .fieldLink ST 15 ST "coder" "B", .code Cdr.yN Cdr.yB 1 (some .byte), .methodLink ST 335 Cdr.yN, .declares Cdr.yN, .selects ST Cdr.yN Cdr.yN, .instanceMethod Cdr.yN]
theorem tabLen_of {a : Array Value} {s : State} (h : ∀ w ∈ wordsLen, w.before a s = true) : Len.tab.before a s = true := by
  have hc : Cdr.tab.before a s = true := unparts (wk h (.code Cdr.yN Cdr.yB 1 (some .byte))) (wks h (.initialized Cdr.yN.cls :: Cdr.site))
  have q := consq hc h
  exact unparts (wk q (.code Len.yN Len.yB 1 (some .int))) (wks q (.initialized Len.yN.cls :: Len.site))
theorem movedLen {Z s : State} {a0 args : Array Value} (hZ : Z.Warmed39 s.vm) (hw : ∀ d ∈ wordsLen, d.before a0 Z = true) : ∀ d ∈ wordsLen, d.before args s = true := fun d hd => by
  have q := hw d hd
  have t : ∀ d ∈ wordsLen, d = .arrayClass .byte ∨ (d.onTables && d.keepsFace) = true := by decide +kernel
  rcases t d hd with rfl | t
  · exact RoadKit.mvA hZ q
  · exact RoadKit.mv hZ q t
/-- the bytes of the chars cs, low before high -/
def wideBytes : List Int32 → List Value
  | [] => []
  | c :: cs => .int (lo8 c) :: .int (hi8 c) :: wideBytes cs
theorem wide_lo (d : Value) : ∀ (cs : List Int32) (j : Nat), j < cs.length → (wideBytes cs).getD (2 * j) d = .int (lo8 (cs.getD j 0))
  | [], j, h => absurd h (Nat.not_lt_zero j)
  | c :: cs, 0, _ => rfl
  | c :: cs, j + 1, h => by
    have q := wide_lo d cs j (by simpa using h)
    rw [show 2 * (j + 1) = 2 * j + 1 + 1 from by omega]
    simpa [wideBytes] using q
theorem wide_hi (d : Value) : ∀ (cs : List Int32) (j : Nat), j < cs.length → (wideBytes cs).getD (2 * j + 1) d = .int (hi8 (cs.getD j 0))
  | [], j, h => absurd h (Nat.not_lt_zero j)
  | c :: cs, 0, _ => rfl
  | c :: cs, j + 1, h => by
    have q := wide_hi d cs j (by simpa using h)
    rw [show 2 * (j + 1) + 1 = 2 * j + 1 + 1 + 1 from by omega]
    simpa [wideBytes] using q
theorem low_at (d : Value) (cs : List Int32) (j : Nat) (h : j < cs.length) : (cs.map fun c => Value.int (lo8 c)).getD j d = .int (lo8 (cs.getD j 0)) := by
  simp [List.getD_eq_getElem?_getD, h]
/-- an array of N2 bytes vs codes the chars cs by the coder cd -/
def CodA (cs : List Int32) (cd N2 : Int32) (vs : List Value) : Prop := (cd = 0 ∧ N2 = Int32.ofNat cs.length ∧ vs = (cs.map fun c => Value.int (lo8 c)) ∧ ∀ c ∈ cs, ¬ 255 < c) ∨ (cd = 1 ∧ N2 = Int32.ofNat (2 * cs.length) ∧ vs = wideBytes cs ∧ ∃ c ∈ cs, 255 < c)
theorem CodA.cod {cs : List Int32} {cd N2 : Int32} {vs : List Value} {V : Cell} (h : CodA cs cd N2 vs) (hn : 2 * cs.length < 2 ^ 31) (hs : V.slots.size = N2.toNatClampNeg) (hv : RoadKit.Has V vs (.int 0)) : Cod cd cs.length (fun j => cs.getD j 0) V := by
  rcases h with ⟨rfl, rfl, rfl, h⟩ | ⟨rfl, rfl, rfl, c, hc, hw⟩
  · rw [n32 (by omega)] at hs
    exact Or.inl ⟨rfl, hs, fun j hj => ⟨by rw [hv j (by omega), low_at _ _ _ hj], by
      have e : cs.getD j 0 = cs[j] := by simp [List.getD_eq_getElem?_getD, hj]
      show ¬ 255 < cs.getD j 0
      rw [e]; exact h _ (List.getElem_mem _)⟩⟩
  · rw [n32 (by omega)] at hs
    obtain ⟨j, hj, rfl⟩ := List.getElem_of_mem hc
    exact Or.inr ⟨rfl, hs, fun j hj => ⟨by rw [hv _ (by omega), wide_lo _ _ _ hj], by rw [hv _ (by omega), wide_hi _ _ _ hj]⟩, j, hj, by
      have e : cs.getD j 0 = cs[j] := by simp [List.getD_eq_getElem?_getD, hj]
      show 255 < cs.getD j 0
      rw [e]; exact hw⟩
/-- an object of exactly java/lang/String, its two fields found: as the laws ask it -/
theorem strObj {Z U : State} {a0 : Array Value} {kI : Nat} (wi : (Jvm.Cond.instantiable ST kI).before a0 Z = true) (al : Z.vm.Alike U.vm) {x : Addr} {v0 c0 : Value} (E : RoadKit.Exa Z U.heap x ST) (V : RoadKit.Fld Z U.heap x ST "value" "[B" v0) (C : RoadKit.Fld Z U.heap x ST "coder" "B" c0) :
    ∃ (D : Cell) (fV fC : Field), Blank ST x D U ∧ Found ST "value" "[B" fV U ∧ Found ST "coder" "B" fC U ∧ D.slots[fV.slot]? = some v0 ∧ D.slots[fC.slot]? = some c0 ∧ RoadKit.slotOf Z ST "value" "[B" = fV.slot ∧ RoadKit.slotOf Z ST "coder" "B" = fC.slot := by
  obtain ⟨D, cfV, kV, iV, fV, hD, gV, stV, knV, obV, asV, slV⟩ := V
  obtain ⟨D', cfC, kC, iC, fC, hD', gC, stC, -, -, asC, slC⟩ := C
  cases hD.symm.trans hD'
  obtain ⟨D2, kD, e1, e2, e3, e4, e5⟩ := E
  cases hD.symm.trans e1
  obtain ⟨c2, k2, i1, i2, i3, -⟩ := Cond.instantiable_spec wi
  cases e2.symm.trans i1
  cases e3.symm.trans i2
  obtain ⟨kU, u1, u2⟩ := al.2.2 _ _ e3
  exact ⟨D, fV, fC, ⟨hD, ⟨knV, fun q hq => by rw [hq] at obV; cases obV⟩, by rw [al.findClass]; exact e2, kU, u1, by rw [u2]; exact i3, by rw [u2]; exact e5 i3⟩, ⟨SBG.found_only al ⟨cfV, kV, iV, gV⟩, stV⟩, ⟨SBG.found_only al ⟨cfC, kC, iC, gC⟩, stC⟩, slV, slC, by simp [RoadKit.slotOf, gV], by simp [RoadKit.slotOf, gC]⟩
theorem sta_is {Z U : State} (al : Z.vm.Alike U.vm) {C n d : String} {v : Value} (S : RoadKit.Sta Z U.heap C n d v) : StaticIs U C n d v := by
  obtain ⟨cfS, iS, kS, fS, st, cS, t1, t2, t3, t4, t5, t6, t7⟩ := S
  exact StaticIs.there (s := { Z with heap := U.heap }) ⟨cfS, iS, kS, fS, st, cS, t1, t2, t3, t4, t5, (fun q => by rw [q] at t6; cases t6), t7⟩ al rfl
/-- **length() OF SUCH A STRING** -/
theorem lenW {p : Program} {l : Launch} {e : Env} {R : Room} {s : State} {args : Array Value} {below : List Frame} {len W : Nat} {Z : State} {a0 : Array Value} {h : Heap} (hZ : Z.Warmed39 s.vm) (hw : ∀ d ∈ wordsLen, d.before a0 Z = true) {kI : Nat} (wi : (Jvm.Cond.instantiable ST kI).before a0 Z = true)
    {x t : Addr} {kb : ClassId} {cs : List Int32} {cd N2 z : Int32} {vs : List Value} (E : RoadKit.Exa Z h x ST) (V : RoadKit.Fld Z h x ST "value" "[B" (.ref t)) (C : RoadKit.Fld Z h x ST "coder" "B" (.int cd)) (K : RoadKit.Arv Z h t kb .byte N2 vs (.int 0)) (hc : CodA cs cd N2 vs) (hb : ∀ c ∈ cs, ¬ c < 0 ∧ ¬ (65535 : Int32) < c)
    (S : RoadKit.Sta Z h ST "COMPACT_STRINGS" "Z" (.int z)) (hz : ¬ z = 0) (l2 : cs.length ≤ 4000) (hfr : 2 ≤ R.frames) (hlo : W + 25 ≤ R.locals) :
    Back l R p e below s args (⟨"java/lang/String", "length", "()I"⟩ : MethodName) len W (fun P a => a = #[.ref x] ∧ P.U.heap = h ∧ P.cells + 0 ≤ R.cells ∧ P.slots + 0 ≤ R.slots)
      (fun P _ v B => ∃ L, (v = some (.int (Int32.ofNat cs.length)) ∧ L = [] ∧ B.U.heap = h) ∧ B.locs = P.locs ++ L ∧ B.cells = P.cells + 0 ∧ B.slots = P.slots + 0) := by
  obtain ⟨A, K1, K2, K3, K4, K5, K6⟩ := K
  have hcod := hc.cod (by omega) K3 K5
  intro m meth c P g ig mk a X hg hsize hdg hW hn hp'
  obtain ⟨rfl, rfl, r1, r2⟩ := hp'
  have al : Z.vm.Alike P.U.vm := hZ.alike.trans X.warmed.alike
  obtain ⟨D, fV, fC, hB, F1, F2, g1, g2, -, -⟩ := strObj wi al E V C
  have hx : Txt x t A cd cs.length (fun j => cs.getD j 0) P.U := ⟨⟨_, hB.2.2.1, D, hB.1, rfl, by cases q : D.vm <;> first | rfl | exact absurd q (hB.2.1.2 _)⟩, Has.of hB F1 g1, Has.of hB F2 g2, ⟨K1.1, State.isArrayOf_alike al K1.2.1, K1.2.2, by rcases hcod with ⟨-, q, -⟩ | ⟨-, q, -⟩ <;> omega⟩, hcod, fun j hj => by
    have e : cs.getD j 0 = cs[j] := by simp [List.getD_eq_getElem?_getD, hj]
    show ¬ cs.getD j 0 < 0 ∧ ¬ 65535 < cs.getD j 0
    rw [e]; exact hb _ (List.getElem_mem _)⟩
  obtain ⟨v, B, X', ⟨⟨hv, hh⟩, hl, hk, hs⟩, st⟩ := Len.pays x t A cd cs.length (fun j => cs.getD j 0) z (tabLen_of (movedLen hZ hw)) hfr hlo m meth c P g ig mk _ X hg hsize hdg hW hn ⟨r1, r2, rfl, hx, sta_is al S, hz⟩
  exact ⟨v, B, X', ⟨[], ⟨hv, rfl, hh⟩, hl, hk, hs⟩, st⟩
end StrChars.Road
namespace StrChars
open Jvm Sem ClassFile Op Lib Jvm.Stand Jvm.Free.XT Jvm.Free.ALB Jvm.Free.JM Jvm.Free
open Jvm.Lib.Cold (StaticIs)
/-- what place i of a byte[]'s cell holds -/
def yv (A : Cell) (i : Nat) : Int32 := match A.slots[i]? with | some (.int x) => x | _ => 0
theorem yv_get {a : Addr} {A : Cell} {U : State} (h : XT.Arr .byte a A U) (ht : Typed .byte A) {i : Nat} (hi : i < A.slots.size) : A.slots[i]? = some (.int (yv A i)) := by
  have e := Array.getElem?_eq_getElem hi
  have f := ht i _ e
  unfold yv; rw [e]
  generalize A.slots[i] = v at f
  cases v <;> simp [fits] at f ⊢
/-- the two arrays are equal, place for place -/
def EqC (A B : Cell) : Prop := A.slots.size = B.slots.size ∧ ∀ i, i < A.slots.size → yv A i = yv B i
/-- a boolean that says whether p -/
def Says01 (q : Prop) (r : Option Value) (s u : State) : Prop := ∃ v : Int32, r = some (.int v) ∧ u.heap = s.heap ∧ ((v = 1 ∧ q) ∨ (v = 0 ∧ ¬ q))
theorem Says01.mv {q : Prop} : ∀ r (U U' V V' : State), U'.heap = U.heap → V.vm.Alike V'.vm → V'.heap = V.heap → Says01 q r U V → Says01 q r U' V' :=
  fun r U U' V V' h1 _ h2 ⟨v, a, b, c⟩ => ⟨v, a, by rw [h1, h2]; exact b, c⟩
namespace LEq
def yN : MethodName := ⟨"java/lang/StringLatin1", "equals", "([B[B)Z"⟩
abbrev yB : ByteArray := jdk_43_method_13_code
theorem d0 : decode yB 0 = .ok (.aload_n 0, 1) := by decide +kernel
theorem d1 : decode yB 1 = .ok (.arraylength, 1) := by decide +kernel
theorem d2 : decode yB 2 = .ok (.aload_n 1, 1) := by decide +kernel
theorem d3 : decode yB 3 = .ok (.arraylength, 1) := by decide +kernel
theorem d4 : decode yB 4 = .ok (.if_icmp (.ne) 30, 3) := by decide +kernel
theorem d7 : decode yB 7 = .ok (.iconst 0, 1) := by decide +kernel
theorem d8 : decode yB 8 = .ok (.istore_n 2, 1) := by decide +kernel
theorem d9 : decode yB 9 = .ok (.iload_n 2, 1) := by decide +kernel
theorem d10 : decode yB 10 = .ok (.aload_n 0, 1) := by decide +kernel
theorem d11 : decode yB 11 = .ok (.arraylength, 1) := by decide +kernel
theorem d12 : decode yB 12 = .ok (.if_icmp (.ge) 20, 3) := by decide +kernel
theorem d15 : decode yB 15 = .ok (.aload_n 0, 1) := by decide +kernel
theorem d16 : decode yB 16 = .ok (.iload_n 2, 1) := by decide +kernel
theorem d17 : decode yB 17 = .ok (.baload, 1) := by decide +kernel
theorem d18 : decode yB 18 = .ok (.aload_n 1, 1) := by decide +kernel
theorem d19 : decode yB 19 = .ok (.iload_n 2, 1) := by decide +kernel
theorem d20 : decode yB 20 = .ok (.baload, 1) := by decide +kernel
theorem d21 : decode yB 21 = .ok (.if_icmp (.eq) 5, 3) := by decide +kernel
theorem d24 : decode yB 24 = .ok (.iconst 0, 1) := by decide +kernel
theorem d25 : decode yB 25 = .ok (.ireturn, 1) := by decide +kernel
theorem d26 : decode yB 26 = .ok (.iinc 2 1, 3) := by decide +kernel
theorem d29 : decode yB 29 = .ok (.goto (-20), 3) := by decide +kernel
theorem d32 : decode yB 32 = .ok (.iconst 1, 1) := by decide +kernel
theorem d33 : decode yB 33 = .ok (.ireturn, 1) := by decide +kernel
theorem d34 : decode yB 34 = .ok (.iconst 0, 1) := by decide +kernel
theorem d35 : decode yB 35 = .ok (.ireturn, 1) := by decide +kernel
def site : List Cond := []
def tab : Cond := tabOf yN yB 3 (some .boolean) site
def P (a : Addr) (A : Cell) (b : Addr) (B : Cell) (args : Array Value) (s : State) : Prop := args = #[.ref a, .ref b] ∧ XT.Arr .byte a A s ∧ Typed .byte A ∧ XT.Arr .byte b B s ∧ Typed .byte B
/-- whether two byte[] are equal, place for place -/
theorem law (l : Launch) (a : Addr) (A : Cell) (b : Addr) (B : Cell) : Law l yN 2 2 0 0 yB 3 (some .boolean) site (P a A b B) (Says01 (EqC A B)) [] 0 0 := by
  refine Law.of_walk (plainFor_of_name (by decide +kernel)) (by decide +kernel) (by decide +kernel) (by decide) (fun _ _ h => by rw [h.1]; rfl) (fun _ U U' hal hh h => ⟨h.1, h.2.1.mv hal hh, h.2.2.1, h.2.2.2.1.mv hal hh, h.2.2.2.2⟩) (fun r U U' V V' h1 hal h2 h => Says01.mv r U U' V V' h1 hal h2 h) ?_
  intro p e s m args below meth c s₁ X0 hexec hbytes hml hret hlk hnm hown hh0 W hP
  obtain ⟨rfl, hA, tA, hB, tB⟩ := hP
  have a31 := hA.2.2.2
  have b31 := hB.2.2.2
  have hA0 := hA.mv X0.warmed.alike hh0
  have hB0 := hB.mv X0.warmed.alike hh0
  have c1 : Steps p.tables e below (s₁.setTop (entryFrame m #[.ref a, .ref b] 3)) (s₁.setTop (mkF m 0 #[.val (.ref a), .val (.ref b), .unset] [])) := entry rfl
  have c2 : Steps p.tables e below (s₁.setTop (entryFrame m #[.ref a, .ref b] 3)) (s₁.setTop (mkF m 4 #[.val (.ref a), .val (.ref b), .unset] [.int (Int32.ofNat B.slots.size), .int (Int32.ofNat A.slots.size)])) := c1.trans (by
    refine XS.aloadN X0.here hexec rfl (hb hbytes d0) rfl rfl ?_
    refine X0.alen hexec hA0 rfl rfl (hb hbytes d1) ?_
    refine XS.aloadN X0.here hexec rfl (hb hbytes d2) rfl rfl ?_
    refine X0.alen hexec hB0 rfl rfl (hb hbytes d3) ?_
    exact Steps.refl _)
  by_cases hs : A.slots.size = B.slots.size
  · have c3 : Steps p.tables e below (s₁.setTop (entryFrame m #[.ref a, .ref b] 3)) (s₁.setTop (mkF m 9 #[.val (.ref a), .val (.ref b), .val (.int 0)] [])) := c2.trans (by
      refine XS.icmpNo X0.here hexec rfl (hb hbytes d4) rfl (ii_ne_f (by rw [hs])) ?_
      refine iconstV X0.here hexec rfl 0 (hb hbytes d7) (by decide) ?_
      refine XS.istoreN X0.here hexec rfl (hb hbytes d8) rfl rfl ?_
      exact Steps.refl _)
    have loop : ∀ (r i : Nat), i + r = A.slots.size → (∀ j, j < i → yv A j = yv B j) → Steps p.tables e below (s₁.setTop (entryFrame m #[.ref a, .ref b] 3)) (s₁.setTop (mkF m 9 #[.val (.ref a), .val (.ref b), .val (.int (Int32.ofNat i))] [])) → ∃ (pc : Nat) (Ls : Array Slot) (v : Int32), (pc = 25 ∨ pc = 33) ∧ ((v = 1 ∧ EqC A B) ∨ (v = 0 ∧ ¬ EqC A B)) ∧ Steps p.tables e below (s₁.setTop (entryFrame m #[.ref a, .ref b] 3)) (s₁.setTop (mkF m pc Ls [.int v])) := by
      intro r
      induction r with
      | zero =>
        intro i hi he cl
        exact ⟨33, _, 1, Or.inr rfl, Or.inl ⟨rfl, hs, fun j hj => he j (by omega)⟩, cl.trans (by
          refine XS.iloadN X0.here hexec rfl (hb hbytes d9) rfl ?_
          refine XS.aloadN X0.here hexec rfl (hb hbytes d10) rfl rfl ?_
          refine X0.alen hexec hA0 rfl rfl (hb hbytes d11) ?_
          refine XS.icmpYes X0.here hexec rfl (pc0 := 12) rfl (hb hbytes d12) rfl (ii_ge_t (nlt32 (by omega) (by omega))) (by decide) rfl ?_
          refine iconstV X0.here hexec rfl 1 (hb hbytes d32) (by decide) ?_
          exact Steps.refl _)⟩
      | succ r ih =>
        intro i hi he cl
        have c4 : Steps p.tables e below (s₁.setTop (entryFrame m #[.ref a, .ref b] 3)) (s₁.setTop (mkF m 21 #[.val (.ref a), .val (.ref b), .val (.int (Int32.ofNat i))] [.int (yv B i), .int (yv A i)])) := cl.trans (by
          refine XS.iloadN X0.here hexec rfl (hb hbytes d9) rfl ?_
          refine XS.aloadN X0.here hexec rfl (hb hbytes d10) rfl rfl ?_
          refine X0.alen hexec hA0 rfl rfl (hb hbytes d11) ?_
          refine XS.icmpNo X0.here hexec rfl (hb hbytes d12) rfl (ii_ge_f (lt32 (by omega) (by omega))) ?_
          refine XS.aloadN X0.here hexec rfl (hb hbytes d15) rfl rfl ?_
          refine XS.iloadN X0.here hexec rfl (hb hbytes d16) rfl ?_
          refine X0.aget hexec hA0 rfl (yv_get hA tA (i := i) (by omega)) rfl rfl (hb hbytes d17) ?_
          refine XS.aloadN X0.here hexec rfl (hb hbytes d18) rfl rfl ?_
          refine XS.iloadN X0.here hexec rfl (hb hbytes d19) rfl ?_
          refine X0.aget hexec hB0 rfl (yv_get hB tB (i := i) (by omega)) rfl rfl (hb hbytes d20) ?_
          exact Steps.refl _)
        by_cases hv : yv A i = yv B i
        · have c5 : Steps p.tables e below (s₁.setTop (entryFrame m #[.ref a, .ref b] 3)) (s₁.setTop (mkF m 9 #[.val (.ref a), .val (.ref b), .val (.int (Int32.ofNat i + 1))] [])) := c4.trans (by
            refine XS.icmpYes X0.here hexec rfl (pc0 := 21) rfl (hb hbytes d21) rfl (ii_eq_t hv) (by decide) rfl ?_
            refine iincV X0.here hexec rfl 1 (hb hbytes d26) (by decide) rfl rfl ?_
            refine XS.goto X0.here hexec rfl (pc0 := 29) rfl (hb hbytes d29) (by decide) rfl ?_
            exact Steps.refl _)
          rw [succ32] at c5
          exact ih (i + 1) (by omega) (fun j hj => by
            by_cases e : j = i
            · rw [e]; exact hv
            · exact he j (by omega)) c5
        · exact ⟨25, _, 0, Or.inl rfl, Or.inr ⟨rfl, fun q => hv (q.2 i (by omega))⟩, c4.trans (by
            refine XS.icmpNo X0.here hexec rfl (hb hbytes d21) rfl (ii_eq_f hv) ?_
            refine iconstV X0.here hexec rfl 0 (hb hbytes d24) (by decide) ?_
            exact Steps.refl _)⟩
    obtain ⟨pc, Ls, v, hpc, hv, cz⟩ := loop A.slots.size 0 (by omega) (fun j hj => absurd hj (Nat.not_lt_zero j)) c3
    have nv : narrow .boolean (.int v) = .int v := by rcases hv with ⟨rfl, -⟩ | ⟨rfl, -⟩ <;> rfl
    rcases hpc with rfl | rfl
    · exact ⟨s₁, some (.int v), _, _, _, X0, rfl, rfl, rfl, (fun h => by cases h), ⟨v, rfl, hh0, hv⟩, fun fs hl => cz.trans (X0.ireturnOut hexec hret nv (Or.inr (Or.inl rfl)) (hb hbytes d25) hl)⟩
    · exact ⟨s₁, some (.int v), _, _, _, X0, rfl, rfl, rfl, (fun h => by cases h), ⟨v, rfl, hh0, hv⟩, fun fs hl => cz.trans (X0.ireturnOut hexec hret nv (Or.inr (Or.inl rfl)) (hb hbytes d33) hl)⟩
  · have c3 : Steps p.tables e below (s₁.setTop (entryFrame m #[.ref a, .ref b] 3)) (s₁.setTop (mkF m 35 #[.val (.ref a), .val (.ref b), .unset] [.int 0])) := c2.trans (by
      refine XS.icmpYes X0.here hexec rfl (pc0 := 4) rfl (hb hbytes d4) rfl (ii_ne_t (ne32 a31 b31 hs)) (by decide) rfl ?_
      refine iconstV X0.here hexec rfl 0 (hb hbytes d34) (by decide) ?_
      exact Steps.refl _)
    exact ⟨s₁, some (.int 0), _, _, _, X0, rfl, rfl, rfl, (fun h => by cases h), ⟨0, rfl, hh0, Or.inr ⟨rfl, fun q => hs q.1⟩⟩, fun fs hl => c3.trans (X0.ireturnOut hexec hret rfl (Or.inr (Or.inl rfl)) (hb hbytes d35) hl)⟩
end LEq
theorem Cod.ty {cd : Int32} {n : Nat} {f : Nat → Int32} {V : Cell} (h : Cod cd n f V) : Typed .byte V := fun i v hv => by
  have hi : i < V.slots.size := (Array.getElem?_eq_some_iff.mp hv).1
  rcases h with ⟨-, k1, k2⟩ | ⟨-, k1, k2, -⟩
  · rw [(k2 i (by omega)).1] at hv; cases hv; exact fits_lo8 _
  · rcases Nat.mod_two_eq_zero_or_one i with e | e
    · obtain ⟨j, rfl⟩ : ∃ j, i = 2 * j := ⟨i / 2, by omega⟩
      rw [(k2 j (by omega)).1] at hv; cases hv; exact fits_lo8 _
    · obtain ⟨j, rfl⟩ : ∃ j, i = 2 * j + 1 := ⟨i / 2, by omega⟩
      rw [(k2 j (by omega)).2] at hv; cases hv; exact fits_lo8 _
/-- the same text -/
def SameT (n : Nat) (f : Nat → Int32) (k : Nat) (g : Nat → Int32) : Prop := n = k ∧ ∀ j, j < n → f j = g j
theorem lo8_inj {x y : Int32} (h0 : ¬ x < 0) (h1 : ¬ 255 < x) (k0 : ¬ y < 0) (k1 : ¬ 255 < y) (h : lo8 x = lo8 y) : x = y := by
  rw [← lo8_mask h0 h1, ← lo8_mask k0 k1, h]
/-- arrays coded by one coder are equal just where the texts are -/
theorem Cod.eqv {cd : Int32} {n k : Nat} {f g : Nat → Int32} {V V' : Cell} (h : Cod cd n f V) (h' : Cod cd k g V') (hf : ∀ j, j < n → ¬ f j < 0 ∧ ¬ 65535 < f j) (hg : ∀ j, j < k → ¬ g j < 0 ∧ ¬ 65535 < g j) : EqC V V' ↔ SameT n f k g := by
  have yvv : ∀ {W : Cell} {i : Nat} {x : Int32}, W.slots[i]? = some (.int x) → yv W i = x := fun q => by unfold yv; rw [q]
  rcases h with ⟨rfl, k1, k2⟩ | ⟨rfl, k1, k2, -⟩
  · rcases h' with ⟨-, m1, m2⟩ | ⟨e, -⟩
    · constructor
      · rintro ⟨e1, e2⟩
        refine ⟨by omega, fun j hj => ?_⟩
        have q := e2 j (by omega)
        rw [yvv (k2 j hj).1, yvv (m2 j (by omega)).1] at q
        exact lo8_inj (hf j hj).1 (k2 j hj).2 (hg j (by omega)).1 (m2 j (by omega)).2 q
      · rintro ⟨rfl, e2⟩
        refine ⟨by omega, fun j hj => ?_⟩
        rw [yvv (k2 j (by omega)).1, yvv (m2 j (by omega)).1, e2 j (by omega)]
    · exact absurd e (by decide)
  · rcases h' with ⟨e, -⟩ | ⟨-, m1, m2, -⟩
    · exact absurd e (by decide)
    · constructor
      · rintro ⟨e1, e2⟩
        refine ⟨by omega, fun j hj => ?_⟩
        have q1 := e2 (2 * j) (by omega)
        have q2 := e2 (2 * j + 1) (by omega)
        rw [yvv (k2 j hj).1, yvv (m2 j (by omega)).1] at q1
        rw [yvv (k2 j hj).2, yvv (m2 j (by omega)).2] at q2
        rw [← pair_says (hf j hj).1 (hf j hj).2, ← pair_says (hg j (by omega)).1 (hg j (by omega)).2, q1, q2]
      · rintro ⟨rfl, e2⟩
        refine ⟨by omega, fun i hi => ?_⟩
        rcases Nat.mod_two_eq_zero_or_one i with e | e
        · obtain ⟨j, rfl⟩ : ∃ j, i = 2 * j := ⟨i / 2, by omega⟩
          rw [yvv (k2 j (by omega)).1, yvv (m2 j (by omega)).1, e2 j (by omega)]
        · obtain ⟨j, rfl⟩ : ∃ j, i = 2 * j + 1 := ⟨i / 2, by omega⟩
          rw [yvv (k2 j (by omega)).2, yvv (m2 j (by omega)).2, e2 j (by omega)]
/-- two codings differ: so do the texts -/
theorem Cod.dif {cd cd' : Int32} {n k : Nat} {f g : Nat → Int32} {V V' : Cell} (h : Cod cd n f V) (h' : Cod cd' k g V') (hne : ¬ cd = cd') : ¬ SameT n f k g := by
  rintro ⟨rfl, e⟩
  rcases h with ⟨rfl, -, k2⟩ | ⟨rfl, -, -, j, hj, hw⟩
  · rcases h' with ⟨rfl, -⟩ | ⟨-, -, -, j, hj, hw⟩
    · exact hne rfl
    · exact (k2 j hj).2 (by rw [e j hj]; exact hw)
  · rcases h' with ⟨-, -, m2⟩ | ⟨rfl, -⟩
    · exact (m2 j hj).2 (by rw [← e j hj]; exact hw)
    · exact hne rfl
/-- an object of exactly C is an instance of C -/
theorem cinst {p : Program} {l : Launch} {e : Env} {R : Room} {s : State} {m : MethodId} {args : Array Value} {below : List Frame} {meth : Method} {c : Code} {T : State} {locs : List Loc} {cells slots : Nat} (X : Stand p l e R s m args below meth c T locs cells slots) (hexec : p.tables.exec = Jvm.exec) {own C : String} {index : Nat} (hown : s.vm.findClass own = some m.cls) (hlink : (Cond.classLink own index C).before args s = true) {a : Addr} (hE : Exact C a T)
    {g : JFrame} (hg : g.method = m) {rest : List Value} (hstack : g.stack = .ref a :: rest) (hdg : decode c.code g.pc = .ok (.instanceof index, 3)) :
    ∃ T', Stand p l e R s m args below meth c T' locs cells slots ∧ T'.heap = T.heap ∧ ∀ target, Steps p.tables e below (T'.setTop { g with pc := g.pc + 3, stack := .int 1 :: rest }) target → Steps p.tables e below (T.setTop g) target := by
  obtain ⟨cB, h1, D, h2, h3, h4⟩ := hE
  have h1' : s.vm.findClass C = some cB := by rw [← X.warmed.alike.findClass]; exact h1
  obtain ⟨vm', X', st⟩ := X.instanceofYes hexec hown hlink h2 h4 h1' (by rw [h3]; exact Jvm.Free.SB.assignable_self _ _) hg hstack hdg
  exact ⟨_, X', rfl, st⟩
theorem cself {p : Program} {l : Launch} {e : Env} {R : Room} {s : State} {m : MethodId} {args : Array Value} {below : List Frame} {meth : Method} {c : Code} {T : State} {locs : List Loc} {cells slots : Nat} (X : Stand p l e R s m args below meth c T locs cells slots) (hexec : p.tables.exec = Jvm.exec) {own C : String} {index : Nat} (hown : s.vm.findClass own = some m.cls) (hlink : (Cond.classLink own index C).before args s = true) {a : Addr} (hE : Exact C a T)
    {g : JFrame} (hg : g.method = m) {rest : List Value} (hstack : g.stack = .ref a :: rest) (hdg : decode c.code g.pc = .ok (.checkcast index, 3)) :
    ∃ T', Stand p l e R s m args below meth c T' locs cells slots ∧ T'.heap = T.heap ∧ ∀ target, Steps p.tables e below (T'.setTop { g with pc := g.pc + 3, stack := .ref a :: rest }) target → Steps p.tables e below (T.setTop g) target := by
  obtain ⟨cB, h1, D, h2, h3, h4⟩ := hE
  have h1' : s.vm.findClass C = some cB := by rw [← X.warmed.alike.findClass]; exact h1
  obtain ⟨vm', X', st⟩ := X.checkcastYes hexec hown hlink h2 h4 h1' (by rw [h3]; exact Jvm.Free.SB.assignable_self _ _) hg hstack hdg
  exact ⟨_, X', rfl, fun t h => st t (by rw [← hstack] at h; exact h)⟩
namespace SEq
def yN : MethodName := ⟨"java/lang/String", "equals", "(Ljava/lang/Object;)Z"⟩
abbrev yB : ByteArray := jdk_42_method_66_code
theorem d0 : decode yB 0 = .ok (.aload_n 0, 1) := by decide +kernel
theorem d1 : decode yB 1 = .ok (.aload_n 1, 1) := by decide +kernel
theorem d2 : decode yB 2 = .ok (.if_acmp (.ne) 5, 3) := by decide +kernel
theorem d5 : decode yB 5 = .ok (.iconst 1, 1) := by decide +kernel
theorem d6 : decode yB 6 = .ok (.ireturn, 1) := by decide +kernel
theorem d7 : decode yB 7 = .ok (.aload_n 1, 1) := by decide +kernel
theorem d8 : decode yB 8 = .ok (.instanceof 10, 3) := by decide +kernel
theorem d11 : decode yB 11 = .ok (.ifCond (.eq) 43, 3) := by decide +kernel
theorem d14 : decode yB 14 = .ok (.aload_n 1, 1) := by decide +kernel
theorem d15 : decode yB 15 = .ok (.checkcast 10, 3) := by decide +kernel
theorem d18 : decode yB 18 = .ok (.astore_n 2, 1) := by decide +kernel
theorem d19 : decode yB 19 = .ok (.getstatic 38, 3) := by decide +kernel
theorem d22 : decode yB 22 = .ok (.ifCond (.eq) 14, 3) := by decide +kernel
theorem d25 : decode yB 25 = .ok (.aload_n 0, 1) := by decide +kernel
theorem d26 : decode yB 26 = .ok (.getfield 15, 3) := by decide +kernel
theorem d29 : decode yB 29 = .ok (.aload_n 2, 1) := by decide +kernel
theorem d30 : decode yB 30 = .ok (.getfield 15, 3) := by decide +kernel
theorem d33 : decode yB 33 = .ok (.if_icmp (.ne) 21, 3) := by decide +kernel
theorem d36 : decode yB 36 = .ok (.aload_n 0, 1) := by decide +kernel
theorem d37 : decode yB 37 = .ok (.getfield 9, 3) := by decide +kernel
theorem d40 : decode yB 40 = .ok (.aload_n 2, 1) := by decide +kernel
theorem d41 : decode yB 41 = .ok (.getfield 9, 3) := by decide +kernel
theorem d44 : decode yB 44 = .ok (.invokestatic 541, 3) := by decide +kernel
theorem d47 : decode yB 47 = .ok (.ifCond (.eq) 7, 3) := by decide +kernel
theorem d50 : decode yB 50 = .ok (.iconst 1, 1) := by decide +kernel
theorem d51 : decode yB 51 = .ok (.goto 4, 3) := by decide +kernel
theorem d54 : decode yB 54 = .ok (.iconst 0, 1) := by decide +kernel
theorem d55 : decode yB 55 = .ok (.ireturn, 1) := by decide +kernel
def site : List Cond := [.classLink "java/lang/String" 10 "java/lang/String", .fieldLink "java/lang/String" 38 "java/lang/String" "COMPACT_STRINGS" "Z", .fieldLink "java/lang/String" 15 "java/lang/String" "coder" "B", .fieldLink "java/lang/String" 9 "java/lang/String" "value" "[B", LEq.tab] ++ staticW "java/lang/String" 541 LEq.yN
def tab : Cond := tabOf yN yB 3 (some .boolean) site
def P (x t : Addr) (V : Cell) (cd : Int32) (n : Nat) (f : Nat → Int32) (y t' : Addr) (V' : Cell) (cd' : Int32) (k : Nat) (g : Nat → Int32) (z : Int32) (args : Array Value) (s : State) : Prop := args = #[.ref x, .ref y] ∧ Txt x t V cd n f s ∧ Txt y t' V' cd' k g s ∧ StaticIs s "java/lang/String" "COMPACT_STRINGS" "Z" (.int z) ∧ ¬ z = 0
/-- equals(Object) of two Strings: whether the texts are the same -/
theorem law (l : Launch) (x t : Addr) (V : Cell) (cd : Int32) (n : Nat) (f : Nat → Int32) (y t' : Addr) (V' : Cell) (cd' : Int32) (k : Nat) (g : Nat → Int32) (z : Int32) : Law l yN 2 1 1 14 yB 3 (some .boolean) site (P x t V cd n f y t' V' cd' k g z) (Says01 (SameT n f k g)) [] 0 0 := by
  refine Law.of_walk (plainFor_of_name (by decide +kernel)) (by decide +kernel) (by decide +kernel) (by decide) (fun _ _ h => by rw [h.1]; rfl) (fun _ U U' hal hh h => ⟨h.1, h.2.1.mv hal hh, h.2.2.1.mv hal hh, h.2.2.2.1.there hal hh, h.2.2.2.2⟩) (fun r U U' V V' h1 hal h2 h => Says01.mv r U U' V V' h1 hal h2 h) ?_
  intro p e s m args below meth c s₁ X0 hexec hbytes hml hret hlk hnm hown hh0 W hP
  obtain ⟨rfl, hx, hy, s1, hz⟩ := hP
  have c1 : Steps p.tables e below (s₁.setTop (entryFrame m #[.ref x, .ref y] 3)) (s₁.setTop (mkF m 2 #[.val (.ref x), .val (.ref y), .unset] [.ref y, .ref x])) := Steps.trans (entry rfl) (by
    show Steps p.tables e below (s₁.setTop (mkF m 0 #[.val (.ref x), .val (.ref y), .unset] [])) _
    refine XS.aloadN X0.here hexec rfl (hb hbytes d0) rfl rfl ?_
    refine XS.aloadN X0.here hexec rfl (hb hbytes d1) rfl rfl ?_
    exact Steps.refl _)
  by_cases hxy : x = y
  · have c2 : Steps p.tables e below (s₁.setTop (entryFrame m #[.ref x, .ref y] 3)) (s₁.setTop (mkF m 6 #[.val (.ref x), .val (.ref y), .unset] [.int 1])) := c1.trans (by
      refine acmpNo X0.here hexec rfl (hb hbytes d2) rfl rfl rfl (by simp [acmp, hxy]) ?_
      refine iconstV X0.here hexec rfl 1 (hb hbytes d5) (by decide) ?_
      exact Steps.refl _)
    subst hxy
    have ec : cd = cd' := by
      obtain ⟨D, fd, a1, a2, a3⟩ := hx.2.2.1
      obtain ⟨D', fd', b1, b2, b3⟩ := hy.2.2.1
      cases a1.symm.trans b1
      obtain ⟨q1, q2, q3, q4⟩ := a2.1
      obtain ⟨r1, r2, r3, r4⟩ := b2.1
      cases q4.symm.trans r4
      cases a3.symm.trans b3; rfl
    have et : t = t' := by
      obtain ⟨D, fd, a1, a2, a3⟩ := hx.2.1
      obtain ⟨D', fd', b1, b2, b3⟩ := hy.2.1
      cases a1.symm.trans b1
      obtain ⟨q1, q2, q3, q4⟩ := a2.1
      obtain ⟨r1, r2, r3, r4⟩ := b2.1
      cases q4.symm.trans r4
      cases a3.symm.trans b3; rfl
    subst ec et
    have ev : V = V' := by cases hx.2.2.2.1.1.symm.trans hy.2.2.2.1.1; rfl
    subst ev
    have hs : SameT n f k g := (Cod.eqv hx.2.2.2.2.1 hy.2.2.2.2.1 hx.2.2.2.2.2 hy.2.2.2.2.2).mp ⟨rfl, fun _ _ => rfl⟩
    exact ⟨s₁, some (.int 1), _, _, _, X0, rfl, rfl, rfl, (fun h => by cases h), ⟨1, rfl, hh0, Or.inl ⟨rfl, hs⟩⟩, fun fs hl => c2.trans (X0.ireturnOut hexec hret rfl (Or.inr (Or.inl rfl)) (hb hbytes d6) hl)⟩
  · have c2 : Steps p.tables e below (s₁.setTop (entryFrame m #[.ref x, .ref y] 3)) (s₁.setTop (mkF m 8 #[.val (.ref x), .val (.ref y), .unset] [.ref y])) := c1.trans (by
      refine acmpYes X0.here hexec rfl (pc0 := 2) rfl (hb hbytes d2) rfl rfl rfl (by simp [acmp, hxy]) (by decide) rfl ?_
      refine XS.aloadN X0.here hexec rfl (hb hbytes d7) rfl rfl ?_
      exact Steps.refl _)
    obtain ⟨T3, X3, q3, st3⟩ := cinst X0 hexec hown (wk W (.classLink "java/lang/String" 10 "java/lang/String")) (hy.mv X0.warmed.alike hh0).1 (g := (mkF m 8 #[.val (.ref x), .val (.ref y), .unset] [.ref y])) rfl (rest := []) rfl (hb hbytes d8)
    have hh3 := q3.trans hh0
    have c4 : Steps p.tables e below (s₁.setTop (entryFrame m #[.ref x, .ref y] 3)) (T3.setTop (mkF m 15 #[.val (.ref x), .val (.ref y), .unset] [.ref y])) := (c2.trans (st3 _ (Steps.refl _))).trans (by
      refine XS.ifNo X3.here hexec rfl (hb hbytes d11) rfl (i0_eq_f (by decide)) ?_
      refine XS.aloadN X3.here hexec rfl (hb hbytes d14) rfl rfl ?_
      exact Steps.refl _)
    obtain ⟨T5, X5, q5, st5⟩ := cself X3 hexec hown (wk W (.classLink "java/lang/String" 10 "java/lang/String")) (hy.mv X3.warmed.alike hh3).1 (g := (mkF m 15 #[.val (.ref x), .val (.ref y), .unset] [.ref y])) rfl (rest := []) rfl (hb hbytes d15)
    have hh5 := q5.trans hh3
    have c6 : Steps p.tables e below (s₁.setTop (entryFrame m #[.ref x, .ref y] 3)) (T5.setTop (mkF m 19 #[.val (.ref x), .val (.ref y), .val (.ref y)] [])) := (c4.trans (st5 _ (Steps.refl _))).trans (by
      refine XS.astoreN X5.here hexec rfl (hb hbytes d18) rfl rfl rfl ?_
      exact Steps.refl _)
    obtain ⟨T7, X7, q7, st7⟩ := X5.sget hexec hown (wk W (.fieldLink "java/lang/String" 38 "java/lang/String" "COMPACT_STRINGS" "Z")) s1 (fun _ _ h => by rw [hh5]; exact h) (g := (mkF m 19 #[.val (.ref x), .val (.ref y), .val (.ref y)] [])) rfl (hb hbytes d19)
    have hh7 := q7.trans hh5
    have c8 : Steps p.tables e below (s₁.setTop (entryFrame m #[.ref x, .ref y] 3)) (T7.setTop (mkF m 26 #[.val (.ref x), .val (.ref y), .val (.ref y)] [.ref x])) := (c6.trans (st7 _ (Steps.refl _))).trans (by
      refine XS.ifNo X7.here hexec rfl (hb hbytes d22) rfl (i0_eq_f hz) ?_
      refine XS.aloadN X7.here hexec rfl (hb hbytes d25) rfl rfl ?_
      exact Steps.refl _)
    obtain ⟨T9, X9, q9, st9⟩ := X7.hget hexec hown (wk W (.fieldLink "java/lang/String" 15 "java/lang/String" "coder" "B")) (hx.mv X7.warmed.alike hh7).2.2.1 (g := (mkF m 26 #[.val (.ref x), .val (.ref y), .val (.ref y)] [.ref x])) rfl (rest := []) rfl (hb hbytes d26)
    have hh9 := q9.trans hh7
    have c10 : Steps p.tables e below (s₁.setTop (entryFrame m #[.ref x, .ref y] 3)) (T9.setTop (mkF m 30 #[.val (.ref x), .val (.ref y), .val (.ref y)] [.ref y, .int cd])) := (c8.trans (st9 _ (Steps.refl _))).trans (by
      refine XS.aloadN X9.here hexec rfl (hb hbytes d29) rfl rfl ?_
      exact Steps.refl _)
    obtain ⟨T11, X11, q11, st11⟩ := X9.hget hexec hown (wk W (.fieldLink "java/lang/String" 15 "java/lang/String" "coder" "B")) (hy.mv X9.warmed.alike hh9).2.2.1 (g := (mkF m 30 #[.val (.ref x), .val (.ref y), .val (.ref y)] [.ref y, .int cd])) rfl (rest := [.int cd]) rfl (hb hbytes d30)
    have hh11 := q11.trans hh9
    have c12 : Steps p.tables e below (s₁.setTop (entryFrame m #[.ref x, .ref y] 3)) (T11.setTop (mkF m 33 #[.val (.ref x), .val (.ref y), .val (.ref y)] [.int cd', .int cd])) := c10.trans (st11 _ (Steps.refl _))
    by_cases hcd : cd = cd'
    · subst hcd
      have c13 : Steps p.tables e below (s₁.setTop (entryFrame m #[.ref x, .ref y] 3)) (T11.setTop (mkF m 37 #[.val (.ref x), .val (.ref y), .val (.ref y)] [.ref x])) := c12.trans (by
        refine XS.icmpNo X11.here hexec rfl (hb hbytes d33) rfl (ii_ne_f rfl) ?_
        refine XS.aloadN X11.here hexec rfl (hb hbytes d36) rfl rfl ?_
        exact Steps.refl _)
      obtain ⟨T14, X14, q14, st14⟩ := X11.hget hexec hown (wk W (.fieldLink "java/lang/String" 9 "java/lang/String" "value" "[B")) (hx.mv X11.warmed.alike hh11).2.1 (g := (mkF m 37 #[.val (.ref x), .val (.ref y), .val (.ref y)] [.ref x])) rfl (rest := []) rfl (hb hbytes d37)
      have hh14 := q14.trans hh11
      have c15 : Steps p.tables e below (s₁.setTop (entryFrame m #[.ref x, .ref y] 3)) (T14.setTop (mkF m 41 #[.val (.ref x), .val (.ref y), .val (.ref y)] [.ref y, .ref t])) := (c13.trans (st14 _ (Steps.refl _))).trans (by
        refine XS.aloadN X14.here hexec rfl (hb hbytes d40) rfl rfl ?_
        exact Steps.refl _)
      obtain ⟨T16, X16, q16, st16⟩ := X14.hget hexec hown (wk W (.fieldLink "java/lang/String" 9 "java/lang/String" "value" "[B")) (hy.mv X14.warmed.alike hh14).2.1 (g := (mkF m 41 #[.val (.ref x), .val (.ref y), .val (.ref y)] [.ref y, .ref t])) rfl (rest := [.ref t]) rfl (hb hbytes d41)
      have hh16 := q16.trans hh14
      have c17 : Steps p.tables e below (s₁.setTop (entryFrame m #[.ref x, .ref y] 3)) (T16.setTop (mkF m 44 #[.val (.ref x), .val (.ref y), .val (.ref y)] [.ref t', .ref t])) := c15.trans (st16 _ (Steps.refl _))
      obtain ⟨v18, T18, X18, E18, g18⟩ := X16.callS hexec (LEq.law l t V t' V') hown (wks W (staticW "java/lang/String" 541 LEq.yN)) (wk W LEq.tab) (W := 0) (Nat.le_of_ble_eq_true rfl) (Nat.le_of_ble_eq_true rfl) (Nat.le_refl _) (Nat.le_refl _) (g := (mkF m 44 #[.val (.ref x), .val (.ref y), .val (.ref y)] [.ref t', .ref t])) rfl (by rw [hml]; rfl) c17 (argsL := [.ref t, .ref t']) (rest := []) rfl rfl (by show 2 * 0 + 0 ≤ _; decide) (hb hbytes d44) (⟨rfl, hx.2.2.2.1.mv X16.warmed.alike hh16, hx.2.2.2.2.1.ty, hy.2.2.2.1.mv X16.warmed.alike hh16, hy.2.2.2.2.1.ty⟩)
      obtain ⟨v, rfl, q18, hv⟩ := E18
      have iff := Cod.eqv hx.2.2.2.2.1 hy.2.2.2.2.1 hx.2.2.2.2.2 hy.2.2.2.2.2
      rcases hv with ⟨rfl, he⟩ | ⟨rfl, he⟩
      · have c19 : Steps p.tables e below (s₁.setTop (entryFrame m #[.ref x, .ref y] 3)) (T18.setTop (mkF m 55 #[.val (.ref x), .val (.ref y), .val (.ref y)] [.int 1])) := Steps.trans g18 (by
          refine XS.ifNo X18.here hexec rfl (hb hbytes d47) rfl (i0_eq_f (by decide)) ?_
          refine iconstV X18.here hexec rfl 1 (hb hbytes d50) (by decide) ?_
          refine XS.goto X18.here hexec rfl (pc0 := 51) rfl (hb hbytes d51) (by decide) rfl ?_
          exact Steps.refl _)
        exact ⟨T18, some (.int 1), _, _, _, X18, rfl, rfl, rfl, (fun h => by cases h), ⟨1, rfl, q18.trans hh16, Or.inl ⟨rfl, iff.mp he⟩⟩, fun fs hl => c19.trans (X18.ireturnOut hexec hret rfl (Or.inr (Or.inl rfl)) (hb hbytes d55) hl)⟩
      · have c19 : Steps p.tables e below (s₁.setTop (entryFrame m #[.ref x, .ref y] 3)) (T18.setTop (mkF m 55 #[.val (.ref x), .val (.ref y), .val (.ref y)] [.int 0])) := Steps.trans g18 (by
          refine XS.ifYes X18.here hexec rfl (pc0 := 47) rfl (hb hbytes d47) rfl (i0_eq_t rfl) (by decide) rfl ?_
          refine iconstV X18.here hexec rfl 0 (hb hbytes d54) (by decide) ?_
          exact Steps.refl _)
        exact ⟨T18, some (.int 0), _, _, _, X18, rfl, rfl, rfl, (fun h => by cases h), ⟨0, rfl, q18.trans hh16, Or.inr ⟨rfl, fun q => he (iff.mpr q)⟩⟩, fun fs hl => c19.trans (X18.ireturnOut hexec hret rfl (Or.inr (Or.inl rfl)) (hb hbytes d55) hl)⟩
    · have c13 : Steps p.tables e below (s₁.setTop (entryFrame m #[.ref x, .ref y] 3)) (T11.setTop (mkF m 55 #[.val (.ref x), .val (.ref y), .val (.ref y)] [.int 0])) := c12.trans (by
        refine XS.icmpYes X11.here hexec rfl (pc0 := 33) rfl (hb hbytes d33) rfl (ii_ne_t hcd) (by decide) rfl ?_
        refine iconstV X11.here hexec rfl 0 (hb hbytes d54) (by decide) ?_
        exact Steps.refl _)
      exact ⟨T11, some (.int 0), _, _, _, X11, rfl, rfl, rfl, (fun h => by cases h), ⟨0, rfl, hh11, Or.inr ⟨rfl, Cod.dif hx.2.2.2.2.1 hy.2.2.2.2.1 hcd⟩⟩, fun fs hl => c13.trans (X11.ireturnOut hexec hret rfl (Or.inr (Or.inl rfl)) (hb hbytes d55) hl)⟩
theorem pays {l : Launch} {R : Room} {p : Program} {e : Env} {below : List Frame} {s : State} {sargs : Array Value} {len W : Nat} (x t : Addr) (V : Cell) (cd : Int32) (n : Nat) (f : Nat → Int32) (y t' : Addr) (V' : Cell) (cd' : Int32) (k : Nat) (g : Nat → Int32) (z : Int32) (htab : tab.before sargs s = true) (hfr : 2 ≤ R.frames) (hlo : W + 28 ≤ R.locals) :
    Back l R p e below s sargs yN len W (fun A₁ a₁ => A₁.cells + 0 ≤ R.cells ∧ A₁.slots + 0 ≤ R.slots ∧ P x t V cd n f y t' V' cd' k g z a₁ A₁.U) (fun A₁ _ v₁ B₁ => Says01 (SameT n f k g) v₁ A₁.U B₁.U ∧ B₁.locs = A₁.locs ++ [] ∧ B₁.cells = A₁.cells + 0 ∧ B₁.slots = A₁.slots + 0) :=
  (law l x t V cd n f y t' V' cd' k g z).pays htab hfr (by omega)
end SEq
end StrChars
namespace StrChars.Road
open Jvm Sem ClassFile Op Lib Jvm.Stand Jvm.Free Jvm.Free.XT
open Jvm.Lib.Cold (StaticIs)
/-- the words of String.equals(Object) -/
abbrev wordsEq : List Jvm.Cond := [.code SEq.yN SEq.yB 3 (some .boolean), .initialized ST, .classLink ST 10 ST, .fieldLink ST 38 ST "COMPACT_STRINGS" "Z", .fieldLink ST 15 ST "coder" "B", .fieldLink ST 9 ST "value" "[B", .methodLink ST 541 LEq.yN, .static LEq.yN, .code LEq.yN LEq.yB 3 (some .boolean), .initialized "java/lang/StringLatin1"]
theorem tabEq_of {a : Array Value} {s : State} (h : ∀ w ∈ wordsEq, w.before a s = true) : SEq.tab.before a s = true := by
  have hl : LEq.tab.before a s = true := unparts (wk h (.code LEq.yN LEq.yB 3 (some .boolean))) (wks h (.initialized LEq.yN.cls :: LEq.site))
  have q := consq hl h
  exact unparts (wk q (.code SEq.yN SEq.yB 3 (some .boolean))) (wks q (.initialized SEq.yN.cls :: SEq.site))
theorem movedEq {Z s : State} {a0 args : Array Value} (hZ : Z.Warmed39 s.vm) (hw : ∀ d ∈ wordsEq, d.before a0 Z = true) : ∀ d ∈ wordsEq, d.before args s = true := fun d hd => by
  have t : ∀ d ∈ wordsEq, (d.onTables && d.keepsFace) = true := by decide +kernel
  exact RoadKit.mv hZ (hw d hd) (t d hd)
/-- the road's facts of a String, as the laws ask it -/
theorem txt_of {Z U : State} {a0 : Array Value} {kI : Nat} (wi : (Jvm.Cond.instantiable ST kI).before a0 Z = true) (al : Z.vm.Alike U.vm) {x t : Addr} {kb : ClassId} {cs : List Int32} {cd N2 : Int32} {vs : List Value} (E : RoadKit.Exa Z U.heap x ST) (V : RoadKit.Fld Z U.heap x ST "value" "[B" (.ref t)) (C : RoadKit.Fld Z U.heap x ST "coder" "B" (.int cd)) (K : RoadKit.Arv Z U.heap t kb .byte N2 vs (.int 0)) (hc : CodA cs cd N2 vs) (hb : ∀ c ∈ cs, ¬ c < 0 ∧ ¬ (65535 : Int32) < c) (l2 : cs.length ≤ 4000) :
    ∃ A, Txt x t A cd cs.length (fun j => cs.getD j 0) U := by
  obtain ⟨A, K1, K2, K3, K4, K5, K6⟩ := K
  have hcod := hc.cod (by omega) K3 K5
  obtain ⟨D, fV, fC, hB, F1, F2, g1, g2, -, -⟩ := strObj wi al E V C
  exact ⟨A, ⟨_, hB.2.2.1, D, hB.1, rfl, by cases q : D.vm <;> first | rfl | exact absurd q (hB.2.1.2 _)⟩, Has.of hB F1 g1, Has.of hB F2 g2, ⟨K1.1, State.isArrayOf_alike al K1.2.1, K1.2.2, by rcases hcod with ⟨-, q, -⟩ | ⟨-, q, -⟩ <;> omega⟩, hcod, fun j hj => by
    have e : cs.getD j 0 = cs[j] := by simp [List.getD_eq_getElem?_getD, hj]
    show ¬ cs.getD j 0 < 0 ∧ ¬ 65535 < cs.getD j 0
    rw [e]; exact hb _ (List.getElem_mem _)⟩
theorem same_list (cs ds : List Int32) : SameT cs.length (fun j => cs.getD j 0) ds.length (fun j => ds.getD j 0) ↔ cs = ds := by
  constructor
  · rintro ⟨e, q⟩
    refine List.ext_getElem e fun j h1 h2 => ?_
    have := q j h1
    simpa [List.getD_eq_getElem?_getD, h1, h2] using this
  · rintro rfl
    exact ⟨rfl, fun _ _ => rfl⟩
/-- **equals(Object) OF TWO SUCH STRINGS**: 1 just where the chars are the same -/
theorem eqW {p : Program} {l : Launch} {e : Env} {R : Room} {s : State} {args : Array Value} {below : List Frame} {len W : Nat} {Z : State} {a0 : Array Value} {h : Heap} (hZ : Z.Warmed39 s.vm) (hw : ∀ d ∈ wordsEq, d.before a0 Z = true) {kI : Nat} (wi : (Jvm.Cond.instantiable ST kI).before a0 Z = true)
    {x t : Addr} {kb : ClassId} {cs : List Int32} {cd N2 : Int32} {vs : List Value} (E : RoadKit.Exa Z h x ST) (V : RoadKit.Fld Z h x ST "value" "[B" (.ref t)) (C : RoadKit.Fld Z h x ST "coder" "B" (.int cd)) (K : RoadKit.Arv Z h t kb .byte N2 vs (.int 0)) (hc : CodA cs cd N2 vs) (hb : ∀ c ∈ cs, ¬ c < 0 ∧ ¬ (65535 : Int32) < c) (l2 : cs.length ≤ 4000)
    {y t' : Addr} {kb' : ClassId} {ds : List Int32} {cd' N2' : Int32} {vs' : List Value} (E' : RoadKit.Exa Z h y ST) (V' : RoadKit.Fld Z h y ST "value" "[B" (.ref t')) (C' : RoadKit.Fld Z h y ST "coder" "B" (.int cd')) (K' : RoadKit.Arv Z h t' kb' .byte N2' vs' (.int 0)) (hc' : CodA ds cd' N2' vs') (hb' : ∀ c ∈ ds, ¬ c < 0 ∧ ¬ (65535 : Int32) < c) (l2' : ds.length ≤ 4000)
    {z : Int32} (S : RoadKit.Sta Z h ST "COMPACT_STRINGS" "Z" (.int z)) (hz : ¬ z = 0) (hfr : 2 ≤ R.frames) (hlo : W + 28 ≤ R.locals) :
    Back l R p e below s args (⟨"java/lang/String", "equals", "(Ljava/lang/Object;)Z"⟩ : MethodName) len W (fun P a => a = #[.ref x, .ref y] ∧ P.U.heap = h ∧ P.cells + 0 ≤ R.cells ∧ P.slots + 0 ≤ R.slots)
      (fun P _ v B => ∃ L, (((v = some (.int 1) ∧ cs = ds) ∨ (v = some (.int 0) ∧ ¬ cs = ds)) ∧ L = [] ∧ B.U.heap = h) ∧ B.locs = P.locs ++ L ∧ B.cells = P.cells + 0 ∧ B.slots = P.slots + 0) := by
  intro m meth c P g ig mk a X hg hsize hdg hW hn hp'
  obtain ⟨rfl, rfl, r1, r2⟩ := hp'
  have al : Z.vm.Alike P.U.vm := hZ.alike.trans X.warmed.alike
  obtain ⟨A, hx⟩ := txt_of wi al E V C K hc hb l2
  obtain ⟨A', hy⟩ := txt_of wi al E' V' C' K' hc' hb' l2'
  obtain ⟨v, B, X', ⟨⟨w, hv, hh, hq⟩, hl, hk, hs⟩, st⟩ := SEq.pays x t A cd cs.length (fun j => cs.getD j 0) y t' A' cd' ds.length (fun j => ds.getD j 0) z (tabEq_of (movedEq hZ hw)) hfr hlo m meth c P g ig mk _ X hg hsize hdg hW hn ⟨r1, r2, rfl, hx, hy, sta_is al S, hz⟩
  refine ⟨v, B, X', ⟨[], ⟨?_, rfl, hh⟩, hl, hk, hs⟩, st⟩
  rcases hq with ⟨rfl, q⟩ | ⟨rfl, q⟩
  · exact Or.inl ⟨hv, (same_list cs ds).mp q⟩
  · exact Or.inr ⟨hv, fun e => q ((same_list cs ds).mpr e)⟩
end StrChars.Road
namespace StrChars
open Jvm Sem ClassFile Op Lib Jvm.Stand Jvm.Free.XT Jvm.Free.ALB Jvm.Free.JM Jvm.Free
open Jvm.Lib.Cold (StaticIs)
namespace ChN
def yN : MethodName := ⟨"java/lang/String", "charAt", "(I)C"⟩
abbrev yB : ByteArray := jdk_42_method_56_code
theorem d0 : decode yB 0 = .ok (.aload_n 0, 1) := by decide +kernel
theorem d1 : decode yB 1 = .ok (.invokevirtual 492, 3) := by decide +kernel
theorem d4 : decode yB 4 = .ok (.ifCond (.eq) 12, 3) := by decide +kernel
theorem d7 : decode yB 7 = .ok (.aload_n 0, 1) := by decide +kernel
theorem d8 : decode yB 8 = .ok (.getfield 9, 3) := by decide +kernel
theorem d11 : decode yB 11 = .ok (.iload_n 1, 1) := by decide +kernel
theorem d12 : decode yB 12 = .ok (.invokestatic 495, 3) := by decide +kernel
theorem d15 : decode yB 15 = .ok (.ireturn, 1) := by decide +kernel
def site : List Cond := [.fieldLink "java/lang/String" 9 "java/lang/String" "value" "[B", IsL.tab, LChA.tab] ++ virtW "java/lang/String" 492 "java/lang/String" IsL.yN IsL.yN ++ staticW "java/lang/String" 495 LChA.yN
def tab : Cond := tabOf yN yB 2 (some .char) site
def P (x t : Addr) (V : Cell) (n : Nat) (f : Nat → Int32) (z : Int32) (fm : Value) (i : Nat) (args : Array Value) (s : State) : Prop := args = #[.ref x, .int (Int32.ofNat i)] ∧ Txt x t V 0 n f s ∧ i < n ∧ StaticIs s "java/lang/String" "COMPACT_STRINGS" "Z" (.int z) ∧ ¬ z = 0 ∧ StaticIs s "jdk/internal/util/Preconditions" "SIOOBE_FORMATTER" "Ljava/util/function/BiFunction;" fm ∧ fm.isRef = true
def E (f : Nat → Int32) (i : Nat) (r : Option Value) (s u : State) : Prop := XT.PureE (some (.int (f i))) r s u
/-- charAt(i) of a Latin-1 String of n chars, i < n: f i -/
theorem law (l : Launch) (x t : Addr) (V : Cell) (n : Nat) (f : Nat → Int32) (z : Int32) (fm : Value) (i : Nat) : Law l yN 2 1 3 40 yB 2 (some .char) site (P x t V n f z fm i) (E f i) [] 0 0 := by
  refine Law.of_walk (plainFor_of_name (by decide +kernel)) (by decide +kernel) (by decide +kernel) (by decide) (fun _ _ h => by rw [h.1]; rfl) (fun _ U U' hal hh h => ⟨h.1, h.2.1.mv hal hh, h.2.2.1, h.2.2.2.1.there hal hh, h.2.2.2.2.1, h.2.2.2.2.2.1.there hal hh, h.2.2.2.2.2.2⟩) (fun r U U' V V' h1 hal h2 h => XT.PureE.mv r U U' V V' h1 hal h2 h) ?_
  intro p e s m args below meth c s₁ X0 hexec hbytes hml hret hlk hnm hown hh0 W hP
  obtain ⟨rfl, hx, hi, s1, hz, s3, rf⟩ := hP
  have v31 := hx.2.2.2.1.2.2.2
  have hr := hx.2.2.2.2.2 i hi
  have hx0 := hx.mv X0.warmed.alike hh0
  have c1 : Steps p.tables e below (s₁.setTop (entryFrame m #[.ref x, .int (Int32.ofNat i)] 2)) (s₁.setTop (mkF m 1 #[.val (.ref x), .val (.int (Int32.ofNat i))] [.ref x])) := Steps.trans (entry rfl) (by
    show Steps p.tables e below (s₁.setTop (mkF m 0 #[.val (.ref x), .val (.int (Int32.ofNat i))] [])) _
    refine XS.aloadN X0.here hexec rfl (hb hbytes d0) rfl rfl ?_
    exact Steps.refl _)
  obtain ⟨v2, T2, X2, E2, g2⟩ := X0.callV hexec (IsL.law l x 0 z) hown (wks W (virtW "java/lang/String" 492 "java/lang/String" IsL.yN IsL.yN)) rfl (by decide) (wk W IsL.tab) (W := 0) (Nat.le_of_ble_eq_true rfl) (Nat.le_of_ble_eq_true rfl) (Nat.le_refl _) (Nat.le_refl _) (hx0.1.fc X0.warmed.alike) hx0.1.is (g := (mkF m 1 #[.val (.ref x), .val (.int (Int32.ofNat i))] [.ref x])) rfl (by rw [hml]; rfl) c1 (argsL := []) (rest := []) rfl rfl (by show 2 * 0 + 0 ≤ _; decide) (hb hbytes d1) (⟨rfl, hx0.2.2.1, hx.2.2.2.2.1.cd, s1.there X0.warmed.alike hh0, hz⟩)
  obtain ⟨rfl, q2⟩ := E2
  have hh2 := q2.trans hh0
  have hx2 := hx.mv X2.warmed.alike hh2
  obtain ⟨-, k1, k2⟩ | ⟨k0, -⟩ := hx.2.2.2.2.1
  · have c3 : Steps p.tables e below (s₁.setTop (entryFrame m #[.ref x, .int (Int32.ofNat i)] 2)) (T2.setTop (mkF m 8 #[.val (.ref x), .val (.int (Int32.ofNat i))] [.ref x])) := Steps.trans g2 (by
      refine XS.ifNo X2.here hexec rfl (hb hbytes d4) rfl (i0_eq_f (by decide)) ?_
      refine XS.aloadN X2.here hexec rfl (hb hbytes d7) rfl rfl ?_
      exact Steps.refl _)
    obtain ⟨T4, X4, q4, st4⟩ := X2.hget hexec hown (wk W (.fieldLink "java/lang/String" 9 "java/lang/String" "value" "[B")) hx2.2.1 (g := (mkF m 8 #[.val (.ref x), .val (.int (Int32.ofNat i))] [.ref x])) rfl (rest := []) rfl (hb hbytes d8)
    have hh4 := q4.trans hh2
    have c5 : Steps p.tables e below (s₁.setTop (entryFrame m #[.ref x, .int (Int32.ofNat i)] 2)) (T4.setTop (mkF m 12 #[.val (.ref x), .val (.int (Int32.ofNat i))] [.int (Int32.ofNat i), .ref t])) := (c3.trans (st4 _ (Steps.refl _))).trans (by
      refine XS.iloadN X4.here hexec rfl (hb hbytes d11) rfl ?_
      exact Steps.refl _)
    obtain ⟨v6, T6, X6, E6, g6⟩ := X4.callS hexec (LChA.law l t V i (lo8 (f i)) fm) hown (wks W (staticW "java/lang/String" 495 LChA.yN)) (wk W LChA.tab) (W := 0) (Nat.le_of_ble_eq_true rfl) (Nat.le_of_ble_eq_true rfl) (Nat.le_refl _) (Nat.le_refl _) (g := (mkF m 12 #[.val (.ref x), .val (.int (Int32.ofNat i))] [.int (Int32.ofNat i), .ref t])) rfl (by rw [hml]; rfl) c5 (argsL := [.ref t, .int (Int32.ofNat i)]) (rest := []) rfl rfl (by show 2 * 0 + 0 ≤ _; decide) (hb hbytes d12) (⟨rfl, hx.2.2.2.1.mv X4.warmed.alike hh4, (k2 i hi).1, s3.there X4.warmed.alike hh4, rf⟩)
    obtain ⟨rfl, q6⟩ := E6
    rw [chr8_lo8 hr.1 (k2 i hi).2] at g6
    exact ⟨T6, some (.int (f i)), _, _, _, X6, rfl, rfl, rfl, (fun h => by cases h), ⟨rfl, q6.trans hh4⟩, fun fs hl => Steps.trans g6 (X6.ireturnOut hexec hret (narrow_ch hr.1 hr.2) (Or.inr (Or.inr (Or.inr (Or.inl rfl)))) (hb hbytes d15) hl)⟩
  · exact absurd k0 (by decide)
theorem pays {l : Launch} {R : Room} {p : Program} {e : Env} {below : List Frame} {s : State} {sargs : Array Value} {len W : Nat} (x t : Addr) (V : Cell) (n : Nat) (f : Nat → Int32) (z : Int32) (fm : Value) (i : Nat) (htab : tab.before sargs s = true) (hfr : 4 ≤ R.frames) (hlo : W + 53 ≤ R.locals) :
    Back l R p e below s sargs yN len W (fun A₁ a₁ => A₁.cells + 0 ≤ R.cells ∧ A₁.slots + 0 ≤ R.slots ∧ P x t V n f z fm i a₁ A₁.U) (fun A₁ _ v₁ B₁ => E f i v₁ A₁.U B₁.U ∧ B₁.locs = A₁.locs ++ [] ∧ B₁.cells = A₁.cells + 0 ∧ B₁.slots = A₁.slots + 0) :=
  (law l x t V n f z fm i).pays htab hfr (by omega)
end ChN
end StrChars
namespace StrChars.Road
open Jvm Sem ClassFile Op Lib Jvm.Stand Jvm.Free Jvm.Free.XT
open Jvm.Lib.Cold (StaticIs)
/-- the words of String.charAt(int), the Latin-1 road alone -/
abbrev wordsChN : List Jvm.Cond := [.code ChN.yN ChN.yB 2 (some .char), .initialized ST, .fieldLink ST 9 ST "value" "[B", .fieldLink ST 38 ST "COMPACT_STRINGS" "Z", .fieldLink ST 15 ST "coder" "B", .code IsL.yN IsL.yB 1 (some .boolean), .methodLink ST 492 IsL.yN, .declares IsL.yN, .selects ST IsL.yN IsL.yN, .instanceMethod IsL.yN,
  .methodLink ST 495 LChA.yN, .static LChA.yN, .code LChA.yN LChA.yB 2 (some .char), .initialized "java/lang/StringLatin1", .methodLink "java/lang/StringLatin1" 9 JO.Str_checkIndex.yN, .static JO.Str_checkIndex.yN, .code JO.Str_checkIndex.yN JO.Str_checkIndex.yB 2 none,
  .fieldLink ST 1053 "jdk/internal/util/Preconditions" "SIOOBE_FORMATTER" "Ljava/util/function/BiFunction;", .methodLink ST 1059 JC.PreCheck.yN, .static JC.PreCheck.yN, .code JC.PreCheck.yN JC.PreCheck.yB 3 (some .int), .initialized "jdk/internal/util/Preconditions"]
theorem tabChN_of {a : Array Value} {s : State} (h : ∀ w ∈ wordsChN, w.before a s = true) : ChN.tab.before a s = true := by
  have hp : JC.PreCheck.tab.before a s = true := unparts (wk h (.code JC.PreCheck.yN JC.PreCheck.yB 3 (some .int))) (wks h (.initialized JC.PreCheck.yN.cls :: JC.PreCheck.site))
  have qk := consq hp h
  have hk : JO.Str_checkIndex.tab.before a s = true := unparts (wk qk (.code JO.Str_checkIndex.yN JO.Str_checkIndex.yB 2 none)) (wks qk (.initialized JO.Str_checkIndex.yN.cls :: JO.Str_checkIndex.site))
  have ql := consq hk h
  have hl : LChA.tab.before a s = true := unparts (wk ql (.code LChA.yN LChA.yB 2 (some .char))) (wks ql (.initialized LChA.yN.cls :: LChA.site))
  have hi : IsL.tab.before a s = true := unparts (wk h (.code IsL.yN IsL.yB 1 (some .boolean))) (wks h (.initialized IsL.yN.cls :: IsL.site))
  have q := consq hi (consq hl h)
  exact unparts (wk q (.code ChN.yN ChN.yB 2 (some .char))) (wks q (.initialized ChN.yN.cls :: ChN.site))
theorem movedChN {Z s : State} {a0 args : Array Value} (hZ : Z.Warmed39 s.vm) (hw : ∀ d ∈ wordsChN, d.before a0 Z = true) : ∀ d ∈ wordsChN, d.before args s = true := fun d hd => by
  have t : ∀ d ∈ wordsChN, (d.onTables && d.keepsFace) = true := by decide +kernel
  exact RoadKit.mv hZ (hw d hd) (t d hd)
/-- **charAt(i) OF A LATIN-1 STRING**, i < n: the char -/
theorem chN {p : Program} {l : Launch} {e : Env} {R : Room} {s : State} {args : Array Value} {below : List Frame} {len W : Nat} {Z : State} {a0 : Array Value} {h : Heap} (hZ : Z.Warmed39 s.vm) (hw : ∀ d ∈ wordsChN, d.before a0 Z = true) {kI : Nat} (wi : (Jvm.Cond.instantiable ST kI).before a0 Z = true)
    {x t : Addr} {kb : ClassId} {cs : List Int32} {N2 z : Int32} {vs : List Value} {fm : Value} {i : Nat} {j : Int32} (E : RoadKit.Exa Z h x ST) (V : RoadKit.Fld Z h x ST "value" "[B" (.ref t)) (C : RoadKit.Fld Z h x ST "coder" "B" (.int 0)) (K : RoadKit.Arv Z h t kb .byte N2 vs (.int 0)) (hc : CodA cs 0 N2 vs) (hb : ∀ c ∈ cs, ¬ c < 0 ∧ ¬ (65535 : Int32) < c)
    (S : RoadKit.Sta Z h ST "COMPACT_STRINGS" "Z" (.int z)) (hz : ¬ z = 0) (F : RoadKit.Sta Z h "jdk/internal/util/Preconditions" "SIOOBE_FORMATTER" "Ljava/util/function/BiFunction;" fm) (rf : fm.isRef = true) (l2 : cs.length ≤ 4000) (hi : i < cs.length) (hj : j = Int32.ofNat i) (hfr : 4 ≤ R.frames) (hlo : W + 53 ≤ R.locals) :
    Back l R p e below s args (⟨"java/lang/String", "charAt", "(I)C"⟩ : MethodName) len W (fun P a => a = #[.ref x, .int j] ∧ P.U.heap = h ∧ P.cells + 0 ≤ R.cells ∧ P.slots + 0 ≤ R.slots)
      (fun P _ v B => ∃ L, (v = some (.int (cs.getD i 0)) ∧ L = [] ∧ B.U.heap = h) ∧ B.locs = P.locs ++ L ∧ B.cells = P.cells + 0 ∧ B.slots = P.slots + 0) := by
  subst hj
  intro m meth c P g ig mk a X hg hsize hdg hW hn hp'
  obtain ⟨rfl, rfl, r1, r2⟩ := hp'
  have al : Z.vm.Alike P.U.vm := hZ.alike.trans X.warmed.alike
  obtain ⟨A, hx⟩ := txt_of wi al E V C K hc hb l2
  obtain ⟨v, B, X', ⟨⟨hv, hh⟩, hl, hk, hs⟩, st⟩ := ChN.pays x t A cs.length (fun j => cs.getD j 0) z fm i (tabChN_of (movedChN hZ hw)) hfr hlo m meth c P g ig mk _ X hg hsize hdg hW hn ⟨r1, r2, rfl, hx, hi, sta_is al S, hz, sta_is al F, rf⟩
  exact ⟨v, B, X', ⟨[], ⟨hv, rfl, hh⟩, hl, hk, hs⟩, st⟩
/-- what backV says of its String, as the contracts of this text ask it: cs's low bytes, coder 0 -/
theorem codOf {cs : List Int32} {n : Nat} (hn : cs.length = n) (hb : ∀ c ∈ cs, ¬ 255 < c) : CodA cs 0 (Int32.ofNat n) ((cs.map lo8).map Value.int) := Or.inl ⟨rfl, by rw [hn], by simp [List.map_map, Function.comp_def], hb⟩
end StrChars.Road
end Jvm.Pilot.@@N@@
namespace Jvm.Pilot.@@N@@
open Jvm Jvm.ClassFile Sem Op Lib Jvm.Free Jvm.Stand Jvm.LawKit Jvm.RoadKit Bundle Jvm.Pilot.@@N@@.Jvm.D
section Kit
variable {p : Program} {l : Launch} {e : Env} {R : Room} {s : State} {m : MethodId} {args : Array Value} {below : List Frame} {meth : Method} {c : Code} {Z : State} {a0 : Array Value} {EL : List (String × Nat)} {own : String} {sf : List Addr} {T : State} {h h' h0 : Heap} {k n k' n' rc rs pc : Nat} {Ls : Array Slot} {stk rest : List Value} {Q : Option Value → Heap → Prop}
/-- where a walk stands: the library's Stand over the start with the tables at hand, and what rides along -/
def Wk (p : Program) (l : Launch) (e : Env) (R : Room) (s : State) (m : MethodId) (args : Array Value) (below : List Frame) (meth : Method) (c : Code) (Z : State) (a0 : Array Value) (EL : List (String × Nat)) (own : String) (sf : List Addr) (T : State) (h : Heap) (k n : Nat) : Prop :=
  p.tables.exec = Jvm.exec ∧ meth.locks = false ∧ EW Z a0 EL ∧ Ext Z.heap s.heap ∧ ∃ (vm0 : Vm) (k0 : Nat) (L : List Loc), Stand p l e R (s.setVm vm0) m args below meth c T L k n ∧ T.heap = h ∧ s.Since vm0 k0 ∧ k0 ≤ h.size ∧ Z.Warmed39 vm0 ∧ vm0.findClass own = some m.cls ∧ CHr Z EL s.vm s.heap vm0 h ∧ (∀ x ∈ sf, x < h.size ∧ Safe Z EL vm0 h x) ∧ Fr Z.heap.size L
/-- from the state st the invocation ends, with Q of its value and heap -/
def Go (p : Program) (e : Env) (below : List Frame) (s : State) (Z : State) (EL : List (String × Nat)) (rc rs : Nat) (Q : Option Value → Heap → Prop) (st : State) : Prop :=
  ∃ t o, Steps p.tables e below st t ∧ t.status = .running ∧ Ended t below o ∧ ∃ v L, o = .returned v ∧ (Q v t.heap ∧ Fr Z.heap.size L) ∧ CHr Z EL s.vm s.heap t.vm t.heap ∧ ReturnedEndW s o t L rc rs
/-- a method's contract: at these arguments and this heap it ends, with Q of its value and heap -/
def Con (l : Launch) (Z : State) (EL : List (String × Nat)) (sf : List Addr) (y : MethodName) (bytes : ByteArray) (maxL : Nat) (ret : Option FieldType) (ws : List Cond) (rm : Room) (as' : Array Value) (h : Heap) (Q : Option Value → Heap → Prop) : Prop :=
  MetFree l y (head1 (Cond.code y bytes maxL ret :: ws) rm) (fun a U => a = as' ∧ Z.Warmed39 U.vm ∧ U.heap = h ∧ CHv Z EL U.vm h ∧ ∀ x ∈ sf, Safe Z EL U.vm h x) (fun _ _ _ _ _ => True) (fun _ U o U' => ∃ v L, o = .returned v ∧ (Q v U'.heap ∧ Fr Z.heap.size L) ∧ CHr Z EL U.vm U.heap U'.vm U'.heap ∧ ReturnedEndW U o U' L rm.cells rm.slots)
theorem Go.by {st st' : State} (q : ∀ t, Steps p.tables e below st' t → Steps p.tables e below st t) (f : Go p e below s Z EL rc rs Q st') : Go p e below s Z EL rc rs Q st := by
  obtain ⟨t, o, h1, r⟩ := f; exact ⟨t, o, q t h1, r⟩
theorem Go.of {st st' : State} (q : Steps p.tables e below st st') (f : Go p e below s Z EL rc rs Q st') : Go p e below s Z EL rc rs Q st := f.by fun t r => q.trans r
theorem Wk.hx (W : Wk p l e R s m args below meth c Z a0 EL own sf T h k n) : p.tables.exec = Jvm.exec := W.1
theorem Wk.here (W : Wk p l e R s m args below meth c Z a0 EL own sf T h k n) : At T m c below := by obtain ⟨-, -, -, -, vm0, k0, L, X, -⟩ := W; exact X.here
theorem Wk.old (W : Wk p l e R s m args below meth c Z a0 EL own sf T h k n) : Ext Z.heap h := by
  obtain ⟨-, -, -, hE, vm0, k0, L, X, rfl, -, -, -, -, -, -, N⟩ := W
  refine ⟨Nat.le_trans hE.1 X.same.2.1, fun b cl hb => ?_⟩
  obtain ⟨c', h1, h2, -, h4⟩ := X.same.2.2.2.2.2 b cl (hE.2 b cl hb)
  have hlt := (Array.getElem?_eq_some_iff.mp hb).1
  have hsl : c'.slots = cl.slots := Array.ext_getElem? fun i => h4 i fun hm => absurd (N _ hm) (Nat.not_le.mpr hlt)
  have hcc : c' = cl := by rw [h2, hsl]
  rw [← hcc]; exact h1
theorem Wk.mono (W : Wk p l e R s m args below meth c Z a0 EL own sf T h k n) (hk : k ≤ k') (hn : n ≤ n') : Wk p l e R s m args below meth c Z a0 EL own sf T h k' n' := by
  obtain ⟨w1, w2, w3, w4, vm0, k0, L, X, r⟩ := W; exact ⟨w1, w2, w3, w4, vm0, k0, L, X.mono hk hn, r⟩
theorem Wk.less {sf' : List Addr} (W : Wk p l e R s m args below meth c Z a0 EL own sf T h k n) (q : ∀ x ∈ sf', x ∈ sf) : Wk p l e R s m args below meth c Z a0 EL own sf' T h k n := by
  obtain ⟨w1, w2, w3, w4, vm0, k0, L, X, r1, r2, r3, r4, r5, r6, r7, r8⟩ := W; exact ⟨w1, w2, w3, w4, vm0, k0, L, X, r1, r2, r3, r4, r5, r6, fun x hx => r7 x (q x hx), r8⟩
/-- what is safe by its class -/
theorem Wk.safeE {C : String} {x : Addr} (W : Wk p l e R s m args below meth c Z a0 EL own sf T h k n) (E : Exa Z h x C) (h1 : C ≠ "java/lang/String") (h2 : C ≠ "[B") : Wk p l e R s m args below meth c Z a0 EL own (x :: sf) T h k n := by
  obtain ⟨w1, w2, w3, w4, vm0, k0, L, X, r1, r2, r3, r4, r5, r6, r7, r8⟩ := W
  exact ⟨w1, w2, w3, w4, vm0, k0, L, X, r1, r2, r3, r4, r5, r6, fun y hy => by
    rcases List.mem_cons.mp hy with rfl | hy
    · exact ⟨E.lt, Safe.exa r4.alike E h1 h2⟩
    · exact r7 y hy, r8⟩
/-- a contract by its body's walk -/
theorem Con.mk {y : MethodName} {bytes : ByteArray} {maxL : Nat} {ret : Option FieldType} {ws : List Cond} {rm : Room} {as' : Array Value} (hp : plainFor y = true) (hEL : EW Z a0 EL) (hE : Ext Z.heap h) (hsf : ∀ x ∈ sf, x < h.size)
    (body : ∀ (p : Program) (e : Env) (s : State) (m : MethodId) (below : List Frame) (meth : Method) (c : Code) (T : State), c.code = bytes → c.maxLocals = maxL → meth.sig.returnType = ret → meth.name = y.name → Wk p l e rm s m as' below meth c Z a0 EL y.cls sf T h 0 0 → Go p e below s Z EL rm.cells rm.slots Q (T.setTop (entryFrame m as' maxL))) :
    Con l Z EL sf y bytes maxL ret ws rm as' h Q := by
  refine MetFree.of_bodySF hp hisR ?_
  intro p e s m args below meth c s₁ Bd hml0 hP hK
  obtain ⟨rfl, hZ, hh, hC, hS⟩ := hP
  have X0 : Stand p l e rm s m args below meth c s₁ [] 0 0 := Stand.of_body Bd
  have e0 : s₁.heap = h := by rw [← hh, Bd.state]; rfl
  subst hh
  obtain ⟨t, o, h1, h2, h3, h4⟩ := body p e s m below meth c s₁ Bd.bytes hml0 Bd.returns (name_of_methodNamed Bd.named Bd.method).1
    ⟨Bd.exec, Bd.notSynchronized, hEL, hE, s.vm, 0, [], X0, e0, (State.WarmedH.refl s).since 0, Nat.zero_le _, hZ, findClass_of_methodNamed Bd.named, CHr.refl hC, fun x hx => ⟨hsf x hx, hS x hx⟩, Fr.nil _⟩
  exact ⟨t, o, h1, h2, h3, h4⟩
/-! returns -/
theorem Wk.ret {st : State} {v : Option Value} (W : Wk p l e R s m args below meth c Z a0 EL own sf T h k n) (hk : k ≤ rc) (hn : n ≤ rs) (hv : meth.sig.returnType = none → v = none) (q : Q v h)
    (go : ∀ {L : List Loc} {vm0 : Vm}, Stand p l e R (s.setVm vm0) m args below meth c T L k n → ∀ fs : List Frame, (∀ (f : JFrame) (acts : List Action), f.method = m → f.locked = none → f.entered = [] → (doReturn e (T.setTop f) acts v).1 = T.setFrames fs) → Steps p.tables e below st (T.setFrames fs)) : Go p e below s Z EL rc rs Q st := by
  obtain ⟨w1, w2, w3, w4, vm0, k0, L, X, rfl, r2, r3, r4, r5, r6, r7, r8⟩ := W
  obtain ⟨fs, hr, hrun, hended, hW⟩ := (X.mono hk hn).leaveW r2 r3 hv w2
  have hc : CHr Z EL s.vm s.heap T.vm T.heap := r6.trans (CHv.at X r4 w3 r6.1)
  exact ⟨_, _, go X fs hr, hrun, hended, v, L, rfl, ⟨q, r8⟩, hc, hW⟩
theorem Wk.retV (W : Wk p l e R s m args below meth c Z a0 EL own sf T h k n) (hk : k ≤ rc) (hn : n ≤ rs) (hret : meth.sig.returnType = none) (hd : decode c.code pc = .ok (.return_, 1)) (q : Q none h) : Go p e below s Z EL rc rs Q (T.setTop (mkF m pc Ls [])) :=
  W.ret hk hn (fun _ => rfl) q fun X fs hr => X.returnOut W.hx hret hd hr
theorem Wk.retN {t : FieldType} {z z' : Int32} (W : Wk p l e R s m args below meth c Z a0 EL own sf T h k n) (hk : k ≤ rc) (hn : n ≤ rs) (hret : meth.sig.returnType = some t) (ht : t = .boolean ∨ t = .byte ∨ t = .char ∨ t = .short) (hd : decode c.code pc = .ok (.ireturn, 1)) (hz : nar t z = z') (q : Q (some (.int z')) h) : Go p e below s Z EL rc rs Q (T.setTop (mkF m pc Ls (.int z :: rest))) := by
  subst hz
  exact W.ret hk hn (fun h => by rw [hret] at h; cases h) q fun X fs hr => Jvm.RoadKit.retN X W.hx hret ht hd hr
theorem Wk.retI {z : Int32} (W : Wk p l e R s m args below meth c Z a0 EL own sf T h k n) (hk : k ≤ rc) (hn : n ≤ rs) (hret : meth.sig.returnType = some .int) (hd : decode c.code pc = .ok (.ireturn, 1)) (q : Q (some (.int z)) h) : Go p e below s Z EL rc rs Q (T.setTop (mkF m pc Ls (.int z :: rest))) :=
  W.ret hk hn (fun h => by rw [hret] at h; cases h) q fun X fs hr => retOut X W.hx hret rfl (Or.inl ⟨rfl, by simp, z, rfl⟩) hd hr
theorem Wk.retA {t : FieldType} {w : Value} (W : Wk p l e R s m args below meth c Z a0 EL own sf T h k n) (hk : k ≤ rc) (hn : n ≤ rs) (hret : meth.sig.returnType = some t) (ht : t.isReference = true) (hw : w.isRef = true) (hd : decode c.code pc = .ok (.areturn, 1)) (q : Q (some w) h) : Go p e below s Z EL rc rs Q (T.setTop (mkF m pc Ls (w :: rest))) :=
  W.ret hk hn (fun h => by rw [hret] at h; cases h) q fun X fs hr => retOut X W.hx hret (by rcases ref_cases hw with rfl | ⟨z, rfl⟩ <;> cases t <;> first | rfl | cases ht) (Or.inr (Or.inr (Or.inr (Or.inr ⟨rfl, ht, hw⟩)))) hd hr
/-! fields -/
theorem Wk.getf {R0 O nm d host : String} {index : Nat} {a : Addr} {v : Value} (W : Wk p l e R s m args below meth c Z a0 EL own sf T h k n) (w : (Cond.fieldLink own index R0 nm d).before a0 Z = true ∨ (Cond.fieldLinkNest own index R0 nm d host).before a0 Z = true) (via : Via Z R0 O nm d) (F : Fld Z h a O nm d v) (hd : decode c.code pc = .ok (.getfield index, 3))
    (go : ∀ T', Wk p l e R s m args below meth c Z a0 EL own sf T' h k n → Go p e below s Z EL rc rs Q (T'.setTop (mkF m (pc + 3) Ls (v :: rest)))) : Go p e below s Z EL rc rs Q (T.setTop (mkF m pc Ls (.ref a :: rest))) := by
  obtain ⟨w1, w2, w3, w4, vm0, k0, L, X, r1, r2, r3, r4, r5, r⟩ := W
  obtain ⟨T', X', e', st⟩ := getF X w1 r4 r5 w via r1 F (g := mkF m pc Ls (.ref a :: rest)) rfl rfl hd
  exact Go.by st (go T' ⟨w1, w2, w3, w4, vm0, k0, L, X', e', r2, r3, r4, r5, r⟩)
theorem Wk.gets {R0 O nm d host : String} {index : Nat} {v : Value} (W : Wk p l e R s m args below meth c Z a0 EL own sf T h k n) (w : (Cond.fieldLink own index R0 nm d).before a0 Z = true ∨ (Cond.fieldLinkNest own index R0 nm d host).before a0 Z = true) (via : Via Z R0 O nm d) (F : Sta Z h O nm d v) (hd : decode c.code pc = .ok (.getstatic index, 3))
    (go : ∀ T', Wk p l e R s m args below meth c Z a0 EL own sf T' h k n → Go p e below s Z EL rc rs Q (T'.setTop (mkF m (pc + 3) Ls (v :: stk)))) : Go p e below s Z EL rc rs Q (T.setTop (mkF m pc Ls stk)) := by
  obtain ⟨w1, w2, w3, w4, vm0, k0, L, X, r1, r2, r3, r4, r5, r⟩ := W
  obtain ⟨T', X', e', st⟩ := getS2 X w1 r4 r5 w via r1 F (g := mkF m pc Ls stk) rfl hd
  exact Go.by st (go T' ⟨w1, w2, w3, w4, vm0, k0, L, X', e', r2, r3, r4, r5, r⟩)
theorem Wk.wrote {a : Addr} {sl : Nat} {v : Value} {T' : State} {L : List Loc} {vm0 : Vm} (hxm : p.tables.exec = Jvm.exec) (hl : meth.locks = false) (hEW : EW Z a0 EL) (hE : Ext Z.heap s.heap) {k0 : Nat} (X' : Stand p l e R (s.setVm vm0) m args below meth c T' (L ++ [⟨a, sl⟩]) k n) (e' : T'.heap = h') (W' : Wr h h' a sl v) (r2 : s.Since vm0 k0) (r3 : k0 ≤ h.size) (r4 : Z.Warmed39 vm0) (r5 : vm0.findClass own = some m.cls) (r6 : CHr Z EL s.vm s.heap vm0 h) (r7 : ∀ x ∈ sf, x < h.size ∧ Safe Z EL vm0 h x) (r8 : Fr Z.heap.size L) (ha : Z.heap.size ≤ a) (hs : a ∈ sf) :
    Wk p l e R s m args below meth c Z a0 EL own sf T' h' k n := by
  have hsz : h'.size = h.size := W'.size
  exact ⟨hxm, hl, hEW, hE, vm0, k0, _, X', e', r2, by rw [hsz]; exact r3, r4, r5, r6.trans (CHr.wr W' (r7 a hs).2 r6.1), fun x hx => ⟨by rw [hsz]; exact (r7 x hx).1, Safe.wr W' (r7 a hs).2 r6.1 (r7 x hx).2⟩, Fr.snoc X' r8 ha⟩
theorem Wk.putf {R0 O nm d host C : String} {index kk : Nat} {ty : FieldType} {a : Addr} {v old : Value} (W : Wk p l e R s m args below meth c Z a0 EL own sf T h k n) (w : (Cond.fieldLink own index R0 nm d).before a0 Z = true ∨ (Cond.fieldLinkNest own index R0 nm d host).before a0 Z = true) (via : Via Z R0 O nm d) (F : Fld Z h a O nm d old) (E : Exa Z h a C) (Lw : (Cond.lays C O nm d).before a0 Z = true ∨ ((Cond.laysFinal C O nm d).before a0 Z = true ∧ own = O ∧ meth.name = "<init>")) (wi : (Cond.instantiable C kk).before a0 Z = true)
    (hty : parseFieldDescriptor d = some ty) (hn : narrow ty v = v) (hf : fits ty v = true) (ha : Z.heap.size ≤ a) (hs : a ∈ sf) (hd : decode c.code pc = .ok (.putfield index, 3))
    (go : ∀ T' h', Wk p l e R s m args below meth c Z a0 EL own sf T' h' k n → Wr h h' a (RoadKit.slotOf Z O nm d) v → Go p e below s Z EL rc rs Q (T'.setTop (mkF m (pc + 3) Ls rest))) : Go p e below s Z EL rc rs Q (T.setTop (mkF m pc Ls (v :: .ref a :: rest))) := by
  obtain ⟨w1, w2, w3, w4, vm0, k0, L, X, r1, r2, r3, r4, r5, r6, r7, r8⟩ := W
  obtain ⟨T', h', X', e', W', st⟩ := putF X w1 r4 r5 w via r1 F E Lw wi hty hn hf (g := mkF m pc Ls (v :: .ref a :: rest)) rfl rfl hd
  exact Go.by st (go T' h' (Wk.wrote w1 w2 w3 w4 X' e' W' r2 r3 r4 r5 r6 r7 r8 ha hs) W')
theorem Wk.putfn {R0 O nm d C : String} {index kk : Nat} {ty : FieldType} {a : Addr} {v v' old : Value} (W : Wk p l e R s m args below meth c Z a0 EL own sf T h k n) (w : (Cond.fieldLink own index R0 nm d).before a0 Z = true) (via : Via Z R0 O nm d) (F : Fld Z h a O nm d old) (E : Exa Z h a C) (Lw : (Cond.lays C O nm d).before a0 Z = true ∨ ((Cond.laysFinal C O nm d).before a0 Z = true ∧ own = O ∧ meth.name = "<init>")) (wi : (Cond.instantiable C kk).before a0 Z = true)
    (hty : parseFieldDescriptor d = some ty) (hn : narrow ty v = v') (hf : fits ty v' = true) (ha : Z.heap.size ≤ a) (hs : a ∈ sf) (hd : decode c.code pc = .ok (.putfield index, 3))
    (go : ∀ T' h', Wk p l e R s m args below meth c Z a0 EL own sf T' h' k n → Wr h h' a (RoadKit.slotOf Z O nm d) v' → Go p e below s Z EL rc rs Q (T'.setTop (mkF m (pc + 3) Ls rest))) : Go p e below s Z EL rc rs Q (T.setTop (mkF m pc Ls (v :: .ref a :: rest))) := by
  obtain ⟨w1, w2, w3, w4, vm0, k0, L, X, r1, r2, r3, r4, r5, r6, r7, r8⟩ := W
  obtain ⟨T', h', X', e', W', st⟩ := putFN X w1 r4 r5 w via r1 F E Lw wi hty hn hf (g := mkF m pc Ls (v :: .ref a :: rest)) rfl rfl hd
  exact Go.by st (go T' h' (Wk.wrote w1 w2 w3 w4 X' e' W' r2 r3 r4 r5 r6 r7 r8 ha hs) W')
/-! making -/
theorem Wk.grew {x : Addr} {T' : State} {L : List Loc} {vm0 : Vm} {k0 : Nat} (hxm : p.tables.exec = Jvm.exec) (hl : meth.locks = false) (hEW : EW Z a0 EL) (hE : Ext Z.heap s.heap) (X' : Stand p l e R (s.setVm vm0) m args below meth c T' L k' n') (e' : T'.heap = h') (E : Ext h h') (hx : x < h'.size) (hn : h.size ≤ x) (r2 : s.Since vm0 k0) (r3 : k0 ≤ h.size) (r4 : Z.Warmed39 vm0) (r5 : vm0.findClass own = some m.cls) (r6 : CHr Z EL s.vm s.heap vm0 h) (r7 : ∀ x ∈ sf, x < h.size ∧ Safe Z EL vm0 h x) (r8 : Fr Z.heap.size L) :
    Wk p l e R s m args below meth c Z a0 EL own (x :: sf) T' h' k' n' :=
  ⟨hxm, hl, hEW, hE, vm0, k0, L, X', e', r2, Nat.le_trans r3 E.1, r4, r5, r6.trans (CHr.ext E r6.1), fun y hy => by
    rcases List.mem_cons.mp hy with rfl | hy
    · exact ⟨hx, Safe.ext E r6.1 (Safe.new hn)⟩
    · exact ⟨Nat.lt_of_lt_of_le (r7 y hy).1 E.1, Safe.ext E r6.1 (r7 y hy).2⟩, r8⟩
theorem Wk.new {C : String} {index N : Nat} (W : Wk p l e R s m args below meth c Z a0 EL own sf T h k n) (w : (Cond.classLink own index C).before a0 Z = true) (wi : (Cond.instantiable C N).before a0 Z = true) (wz : (Cond.initialized C).before a0 Z = true) (hd : decode c.code pc = .ok (.new index, 3)) (ek : k + 1 = k') (en : n + N = n') (hk : k' ≤ R.cells) (hn : n' ≤ R.slots)
    (go : ∀ T' h' x, Wk p l e R s m args below meth c Z a0 EL own (x :: sf) T' h' k' n' → Ext h h' → h.size = x → Z.heap.size ≤ x → Exa Z h' x C → (∀ {O nm d : String} {ty : FieldType}, Laid Z a0 C O nm d → parseFieldDescriptor d = some ty → Fld Z h' x O nm d (defaultValue ty)) → Go p e below s Z EL rc rs Q (T'.setTop (mkF m (pc + 3) Ls (.ref x :: stk)))) : Go p e below s Z EL rc rs Q (T.setTop (mkF m pc Ls stk)) := by
  have hO := W.old
  obtain ⟨w1, w2, w3, w4, vm0, k0, L, X, r1, r2, r3, r4, r5, r6, r7, r8⟩ := W
  subst ek en
  obtain ⟨T', h', X', e', E, A, D, -, st⟩ := newO X w1 r4 r5 w wi wz r1 (g := mkF m pc Ls stk) rfl hd hk hn
  exact Go.by st (go T' h' _ (Wk.grew w1 w2 w3 w4 X' e' E A.lt (Nat.le_refl _) r2 r3 r4 r5 r6 r7 r8) E rfl hO.1 A D)
theorem Wk.newp {aty : ArrayType} {z : Int32} {cap : Nat} {ad : String} (W : Wk p l e R s m args below meth c Z a0 EL own sf T h k n) (w : (Cond.arrayClass (newarray.typeOf aty)).before a0 Z = true) (hd : decode c.code pc = .ok (.newarray aty, 2)) (hz : ¬ z < 0) (hcap : z.toNatClampNeg ≤ cap) (hb : cap * 8 ≤ 536870912) (ek : k + 1 = k') (en : n + cap = n') (hk : k' ≤ R.cells) (hn : n' ≤ R.slots) (had : "[" ++ (newarray.typeOf aty).toString = ad)
    (go : ∀ T' h' x kA, Wk p l e R s m args below meth c Z a0 EL own (x :: sf) T' h' k' n' → Ext h h' → h.size = x → Z.heap.size ≤ x → Exa Z h' x ad → Arv Z h' x kA (newarray.typeOf aty) z [] (defaultValue (newarray.typeOf aty)) → Go p e below s Z EL rc rs Q (T'.setTop (mkF m (pc + 2) Ls (.ref x :: rest)))) : Go p e below s Z EL rc rs Q (T.setTop (mkF m pc Ls (.int z :: rest))) := by
  have hO := W.old
  obtain ⟨w1, w2, w3, w4, vm0, k0, L, X, r1, r2, r3, r4, r5, r6, r7, r8⟩ := W
  subst ek en
  obtain ⟨T', h', cA, X', e', E, A, D, st⟩ := newPE X w1 r4 w r1 (g := mkF m pc Ls (.int z :: rest)) rfl hd rfl hz hcap hb hk hn had
  exact Go.by st (go T' h' _ cA (Wk.grew w1 w2 w3 w4 X' e' E D.lt (Nat.le_refl _) r2 r3 r4 r5 r6 r7 r8) E rfl hO.1 D (Arv.new A hz))
theorem Wk.newr {C : String} {index : Nat} {z : Int32} {cap : Nat} {ad : String} (W : Wk p l e R s m args below meth c Z a0 EL own sf T h k n) (wl : (Cond.classLink own index C).before a0 Z = true) (w : (Cond.arrayOver (.object C)).before a0 Z = true) (hd : decode c.code pc = .ok (.anewarray index, 3)) (hz : ¬ z < 0) (hcap : z.toNatClampNeg ≤ cap) (hb : cap * 8 ≤ 536870912) (ek : k + 1 = k') (en : n + cap = n') (hk : k' ≤ R.cells) (hn : n' ≤ R.slots) (had : "[" ++ (FieldType.object C).toString = ad)
    (go : ∀ T' h' x kA, Wk p l e R s m args below meth c Z a0 EL own (x :: sf) T' h' k' n' → Ext h h' → h.size = x → Z.heap.size ≤ x → Exa Z h' x ad → Arv Z h' x kA (.object C) z [] .null → Ovr Z kA C → Go p e below s Z EL rc rs Q (T'.setTop (mkF m (pc + 3) Ls (.ref x :: rest)))) : Go p e below s Z EL rc rs Q (T.setTop (mkF m pc Ls (.int z :: rest))) := by
  have hO := W.old
  obtain ⟨w1, w2, w3, w4, vm0, k0, L, X, r1, r2, r3, r4, r5, r6, r7, r8⟩ := W
  subst ek en
  obtain ⟨T', h', cA, X', e', E, A, D, O, st⟩ := newRE X w1 r4 r5 wl w r1 (g := mkF m pc Ls (.int z :: rest)) rfl hd rfl hz hcap hb hk hn had
  exact Go.by st (go T' h' _ cA (Wk.grew w1 w2 w3 w4 X' e' E D.lt (Nat.le_refl _) r2 r3 r4 r5 r6 r7 r8) E rfl hO.1 D (Arv.new A hz) O)
theorem Wk.initO {index Wt : Nat} {a : Addr} (W : Wk p l e R s m args below meth c Z a0 EL own sf T h k n) (w1 : (Cond.methodLink own index Lib.objectInit).before a0 Z = true) (w2 : (Cond.instanceMethod Lib.objectInit).before a0 Z = true) (w3 : (Cond.code Lib.objectInit ⟨#[0xb1]⟩ 1 none).before a0 Z = true) (hsz : Ls.size = c.maxLocals) (hd : decode c.code pc = .ok (.invokespecial index, 3)) (hf : 1 ≤ R.frames) (hW : (rest.map fun v => v.category).sum ≤ Wt) (hl : Wt + 12 ≤ R.locals)
    (go : ∀ T', Wk p l e R s m args below meth c Z a0 EL own sf T' h k n → Go p e below s Z EL rc rs Q (T'.setTop (mkF m (pc + 3) Ls rest))) : Go p e below s Z EL rc rs Q (T.setTop (mkF m pc Ls (.ref a :: rest))) := by
  obtain ⟨u1, u2, u3, u4, vm0, k0, L, X, r1, r2, r3, r4, r5, r⟩ := W
  obtain ⟨T', X', e', st⟩ := Jvm.RoadKit.initO X u1 r4 r5 w1 w2 w3 r1 (g := mkF m pc Ls (.ref a :: rest)) rfl hsz rfl hd hf (W := Wt) (by show 2 * 0 + _ ≤ _; omega) hl
  exact Go.by st (go T' ⟨u1, u2, u3, u4, vm0, k0, L, X', e', r2, r3, r4, r5, r⟩)
/-! calls -/
theorem backK {y : MethodName} {bytes : ByteArray} {maxL : Nat} {ret : Option FieldType} {rm : Room} {len Wt : Nat} {as' : Array Value} {vm0 : Vm} {sf' : List Addr} {Qc : Option Value → Heap → Prop}
    (hM : Con l Z EL sf' y bytes maxL ret [] rm as' h Qc) (hZ : Z.Warmed39 vm0) (wc : (Cond.code y bytes maxL ret).before a0 Z = true) (wz : (Cond.initialized y.cls).before a0 Z = true) (hf : rm.frames + 1 ≤ R.frames) (hl : Wt + (maxL + 11) + rm.locals ≤ R.locals) (hEL : EW Z a0 EL) (H : CHv Z EL vm0 h) (hsf : ∀ x ∈ sf', x < h.size ∧ Safe Z EL vm0 h x) :
    BackS l R p e below (s.setVm vm0) args y len Wt (fun A a => a = as' ∧ A.U.heap = h ∧ A.cells + rm.cells ≤ R.cells ∧ A.slots + rm.slots ≤ R.slots)
      (fun A _ v B => ∃ L, (Qc v B.U.heap ∧ Fr Z.heap.size L) ∧ B.locs = A.locs ++ L ∧ B.cells = A.cells + rm.cells ∧ B.slots = A.slots + rm.slots ∧ CHr Z EL vm0 h B.U.vm B.U.heap) :=
  BackS.of_freeW (bytes := bytes) (maxL := maxL) (ret := ret) (E := fun _ first o t L k n => k = rm.cells ∧ n = rm.slots ∧ (∃ v, o = .returned v ∧ (Qc v t.heap ∧ Fr Z.heap.size L)) ∧ CHr Z EL first.vm first.heap t.vm t.heap) hM hf hl
    (fun m meth c A a Y hp => have hU : Z.Warmed39 A.U.vm := wtrans (s := s.setVm vm0) hZ Y.warmed
      ⟨by show (Cond.and _ .tt).before a A.U = true; rw [Cond.before_and, mv hU wc]; rfl, mv hU wc, mv hU wz, hp.2.2.1, hp.2.2.2⟩)
    (fun m meth c A a g mk Y hp => ⟨hp.1, wtrans (s := s.setVm vm0) hZ Y.warmed, hp.2.1, (CHv.at Y hZ hEL H).1, fun x hx => (CHv.at Y hZ hEL H).safe (hsf x hx).1 (hsf x hx).2⟩) (fun _ _ _ _ _ _ _ _ _ => trivial)
    (fun _ _ _ _ ⟨v, L, h1, h2, h3, h4⟩ => ⟨L, _, _, h4, rfl, rfl, ⟨v, h1, h2⟩, h3⟩)
    (fun m meth c A a g mk v t L k n Y hp _ _ ⟨e1, e2, ⟨v', e3, e4⟩, e5⟩ => by
      cases e3; subst e1 e2
      refine ⟨L, e4, rfl, rfl, rfl, (CHv.at Y hZ hEL H).trans ?_⟩
      rw [← hp.2.1]; exact e5)
theorem Wk.came {B : Pt} {v : Option Value} {rm : Room} {vm0 : Vm} {k0 : Nat} {L Lc : List Loc} {Qc : Option Value → Heap → Prop} (hxm : p.tables.exec = Jvm.exec) (hl : meth.locks = false) (hEW : EW Z a0 EL) (hE : Ext Z.heap s.heap) (X' : Stand p l e R ((s.setVm vm0).setVm B.U.vm) m args below meth c B.U B.locs B.cells B.slots) (hS : (s.setVm vm0).Since B.U.vm B.U.heap.size) (hg : h.size ≤ B.U.heap.size)
    (q : (Qc v B.U.heap ∧ Fr Z.heap.size Lc) ∧ B.locs = L ++ Lc ∧ B.cells = k + rm.cells ∧ B.slots = n + rm.slots ∧ CHr Z EL vm0 h B.U.vm B.U.heap) (r2 : s.Since vm0 k0) (r3 : k0 ≤ h.size) (r4 : Z.Warmed39 vm0) (r5 : vm0.findClass own = some m.cls) (r6 : CHr Z EL s.vm s.heap vm0 h) (r7 : ∀ x ∈ sf, x < h.size ∧ Safe Z EL vm0 h x) (r8 : Fr Z.heap.size L) (ek : k + rm.cells = k') (en : n + rm.slots = n') :
    Wk p l e R s m args below meth c Z a0 EL own sf B.U B.U.heap k' n' := by
  obtain ⟨⟨q1, q2⟩, q3, q4, q5, q6⟩ := q
  rw [q3, q4, q5, ek, en] at X'
  obtain ⟨Y1, Y2, Y3, Y4⟩ := rebS r2 r3 X' hS hg r4 r5
  exact ⟨hxm, hl, hEW, hE, _, _, _, Y1, rfl, Y2, Nat.le_refl _, Y3, Y4, r6.trans q6, fun x hx => ⟨Nat.lt_of_lt_of_le (r7 x hx).1 hg, q6.safe (r7 x hx).1 (r7 x hx).2⟩, r8.app q2⟩
theorem Wk.callS {y : MethodName} {index Wt maxL : Nat} {bytes : ByteArray} {ret : Option FieldType} {rm : Room} {as' : Array Value} {sf' : List Addr} {argsL : List Value} {Qc : Option Value → Heap → Prop} (W : Wk p l e R s m args below meth c Z a0 EL own sf T h k n) (w1 : (Cond.methodLink own index y).before a0 Z = true) (w2 : (Cond.static y).before a0 Z = true) (w3 : (Cond.initialized y.cls).before a0 Z = true) (w4 : (Cond.code y bytes maxL ret).before a0 Z = true) (hy : y.cls ≠ "java/lang/invoke/MethodHandle" ∧ y.cls ≠ "java/lang/invoke/VarHandle")
    (hM : Con l Z EL sf' y bytes maxL ret [] rm as' h Qc) (hsf : ∀ x ∈ sf', x ∈ sf) (hf : rm.frames + 1 ≤ R.frames) (hl : Wt + (maxL + 11) + rm.locals ≤ R.locals) (ek : k + rm.cells = k') (en : n + rm.slots = n') (hk : k' ≤ R.cells) (hn : n' ≤ R.slots) (hsz : Ls.size = c.maxLocals) (hlen : ∀ sig, parseMethodDescriptor y.desc = some sig → argsL.length = sig.parameters.length) (hst : stk = argsL.reverse ++ rest) (has : argsL.toArray = as') (hW : (rest.map fun v => v.category).sum ≤ Wt) (hd : decode c.code pc = .ok (.invokestatic index, 3))
    (go : ∀ v T' h', Wk p l e R s m args below meth c Z a0 EL own sf T' h' k' n' → Qc v h' → Go p e below s Z EL rc rs Q (T'.setTop (mkF m (pc + 3) Ls (v.toList ++ rest)))) : Go p e below s Z EL rc rs Q (T.setTop (mkF m pc Ls stk)) := by
  obtain ⟨u1, u2, u3, u4, vm0, k0, L, X, rfl, r2, r3, r4, r5, r6, r7, r8⟩ := W
  obtain ⟨v, vm₁, B, -, X', hS, hg, ⟨Lc, q⟩, st⟩ := callSS X u1 (y := y) r5 (mvT (s := s.setVm vm0) r4 w1) (mvT (s := s.setVm vm0) r4 w2) (mvT (s := s.setVm vm0) r4 w3) (mvT (s := s.setVm vm0) r4 w4) hy (backK (Wt := Wt) hM r4 w4 w3 hf hl u3 r6.1 fun x hx => r7 x (hsf x hx)) (g := mkF m pc Ls stk) rfl hsz (argsL := argsL) (rest := rest) hlen hst (by show 2 * 0 + _ ≤ _; omega) hd (fun _ _ => ⟨has, rfl, by rw [ek]; exact hk, by rw [en]; exact hn⟩)
  exact Go.of st (go v B.U B.U.heap (Wk.came u1 u2 u3 u4 X' hS hg q r2 r3 r4 r5 r6 r7 r8 ek en) q.1.1)
theorem Wk.callI {y : MethodName} {index Wt maxL : Nat} {bytes : ByteArray} {rm : Room} {as' : Array Value} {sf' : List Addr} {a : Addr} {argsL : List Value} {Qc : Option Value → Heap → Prop} (W : Wk p l e R s m args below meth c Z a0 EL own sf T h k n) (hy1 : y.name = "<init>") (w1 : (Cond.methodLink own index y).before a0 Z = true) (w2 : (Cond.instanceMethod y).before a0 Z = true) (w3 : (Cond.initialized y.cls).before a0 Z = true) (w4 : (Cond.code y bytes maxL none).before a0 Z = true) (hy : y.cls ≠ "java/lang/invoke/MethodHandle" ∧ y.cls ≠ "java/lang/invoke/VarHandle")
    (hM : Con l Z EL sf' y bytes maxL none [] rm as' h Qc) (hsf : ∀ x ∈ sf', x ∈ sf) (hf : rm.frames + 1 ≤ R.frames) (hl : Wt + (maxL + 11) + rm.locals ≤ R.locals) (ek : k + rm.cells = k') (en : n + rm.slots = n') (hk : k' ≤ R.cells) (hn : n' ≤ R.slots) (hsz : Ls.size = c.maxLocals) (hlen : ∀ sig, parseMethodDescriptor y.desc = some sig → argsL.length = sig.parameters.length) (hst : stk = argsL.reverse ++ .ref a :: rest) (has : (.ref a :: argsL).toArray = as') (hW : (rest.map fun v => v.category).sum ≤ Wt) (hd : decode c.code pc = .ok (.invokespecial index, 3))
    (go : ∀ v T' h', Wk p l e R s m args below meth c Z a0 EL own sf T' h' k' n' → Qc v h' → Go p e below s Z EL rc rs Q (T'.setTop (mkF m (pc + 3) Ls (v.toList ++ rest)))) : Go p e below s Z EL rc rs Q (T.setTop (mkF m pc Ls stk)) := by
  obtain ⟨u1, u2, u3, u4, vm0, k0, L, X, rfl, r2, r3, r4, r5, r6, r7, r8⟩ := W
  obtain ⟨v, vm₁, B, -, X', hS, hg, ⟨Lc, q⟩, st⟩ := X.specialBackS u1 (y := y) hy1 r5 (mvT (s := s.setVm vm0) r4 w1) (mvT (s := s.setVm vm0) r4 w2) (mvT (s := s.setVm vm0) r4 w4) hy (backK (Wt := Wt) hM r4 w4 w3 hf hl u3 r6.1 fun x hx => r7 x (hsf x hx)) (g := mkF m pc Ls stk) rfl hsz (Steps.refl _) (a := a) (argsL := argsL) (rest := rest) hlen hst (by show 2 * 0 + _ ≤ _; omega) hd (fun _ _ => ⟨has, rfl, by rw [ek]; exact hk, by rw [en]; exact hn⟩)
  exact Go.of st (go v B.U B.U.heap (Wk.came u1 u2 u3 u4 X' hS hg q r2 r3 r4 r5 r6 r7 r8 ek en) q.1.1)
theorem Wk.callV {y z : MethodName} {index Wt maxL : Nat} {C : String} {bytes : ByteArray} {ret : Option FieldType} {rm : Room} {as' : Array Value} {sf' : List Addr} {a : Addr} {argsL : List Value} {Qc : Option Value → Heap → Prop} (W : Wk p l e R s m args below meth c Z a0 EL own sf T h k n) (w1 : (Cond.methodLink own index y).before a0 Z = true) (w2 : (Cond.declares y).before a0 Z = true) (hnf : ∀ vm : Vm, Z.Warmed39 vm → NotFace (s.setVm vm) y) (w3 : (Cond.selects C y z).before a0 Z = true) (w5 : (Cond.instanceMethod z).before a0 Z = true) (w6 : (Cond.initialized z.cls).before a0 Z = true) (w4 : (Cond.code z bytes maxL ret).before a0 Z = true) (hy : y.cls ≠ "java/lang/invoke/MethodHandle" ∧ y.cls ≠ "java/lang/invoke/VarHandle") (E : Exa Z h a C)
    (hM : Con l Z EL sf' z bytes maxL ret [] rm as' h Qc) (hsf : ∀ x ∈ sf', x ∈ sf) (hf : rm.frames + 1 ≤ R.frames) (hl : Wt + (maxL + 11) + rm.locals ≤ R.locals) (ek : k + rm.cells = k') (en : n + rm.slots = n') (hk : k' ≤ R.cells) (hn : n' ≤ R.slots) (hsz : Ls.size = c.maxLocals) (hlen : ∀ sig, parseMethodDescriptor y.desc = some sig → argsL.length = sig.parameters.length) (hst : stk = argsL.reverse ++ .ref a :: rest) (has : (.ref a :: argsL).toArray = as') (hW : (rest.map fun v => v.category).sum ≤ Wt) (hd : decode c.code pc = .ok (.invokevirtual index, 3))
    (go : ∀ v T' h', Wk p l e R s m args below meth c Z a0 EL own sf T' h' k' n' → Qc v h' → Go p e below s Z EL rc rs Q (T'.setTop (mkF m (pc + 3) Ls (v.toList ++ rest)))) : Go p e below s Z EL rc rs Q (T.setTop (mkF m pc Ls stk)) := by
  obtain ⟨u1, u2, u3, u4, vm0, k0, L, X, rfl, r2, r3, r4, r5, r6, r7, r8⟩ := W
  obtain ⟨cq, kq, qa, qb, qc⟩ := isOf (s := s.setVm vm0) (T := T) r4 rfl E
  obtain ⟨v, vm₁, B, -, X', hS, hg, ⟨Lc, q⟩, st⟩ := X.virtualBackS u1 (y := y) (z := z) r5 (mvT (s := s.setVm vm0) r4 w1) (mvT (s := s.setVm vm0) r4 w2) (hnf vm0 r4) (mvT (s := s.setVm vm0) r4 w3) (mvT (s := s.setVm vm0) r4 w5) hy (backK (Wt := Wt) hM r4 w4 w6 hf hl u3 r6.1 fun x hx => r7 x (hsf x hx)) qa qc (g := mkF m pc Ls stk) rfl hsz (Steps.refl _) (argsL := argsL) (rest := rest) hlen hst (by show 2 * 0 + _ ≤ _; omega) hd (fun _ _ => ⟨has, rfl, by rw [ek]; exact hk, by rw [en]; exact hn⟩)
  exact Go.of st (go v B.U B.U.heap (Wk.came u1 u2 u3 u4 X' hS hg q r2 r3 r4 r5 r6 r7 r8 ek en) q.1.1)
theorem nf_sel {y z : MethodName} {C : String} (hyz : y = z) (w3 : (Cond.selects C y z).before a0 Z = true) : ∀ vm : Vm, Z.Warmed39 vm → NotFace (s.setVm vm) y := fun vm hv => by
  subst hyz; exact notFace_of_selects (args := #[]) (mvT (s := s.setVm vm) hv w3)
theorem cat1 {v : Value} (h : v.isRef = true) : v.category = 1 := by cases v <;> simp [Value.isRef, Value.category] at h ⊢
theorem fits_ref_of {ty : FieldType} {v : Value} (h : v.isRef = true) (ht : ty.isReference = true := by rfl) : fits ty v = true := by cases ty <;> first | (cases ht; done) | (cases v <;> simp [fits, Value.isRef] at h ⊢)
theorem narrow_ref_of {ty : FieldType} {v : Value} (h : v.isRef = true) : narrow ty v = v := by cases v <;> first | (simp [Value.isRef] at h; done) | (cases ty <;> rfl)
theorem iremW {tb : Tables} [Ours tb] {target : State} {g : JFrame} (hh : At T m c below) (hx : tb.exec = Jvm.exec) (hg : g.method = m) {x y : Int32} (hd : decode c.code g.pc = .ok (.irem, 1)) (hs : g.stack = .int y :: .int x :: rest) (hy : y ≠ 0) (hr : Steps tb e below (T.setTop { g with pc := g.pc + 1, stack := .int (x % y) :: rest }) target) : Steps tb e below (T.setTop g) target := by
  have q : x - x / y * y = x % y := irem_eq_mod x y
  exact XS.irem hh hx hg hd hs hy (by rw [q]; exact hr)
theorem acmpW {g : JFrame} {target : State} (W : Wk p l e R s m args below meth c Z a0 EL own sf T h k n) (hg : g.method = m) {cd : ACond} {x y : Value} (h1 : x.isRef = true) (h2 : y.isRef = true) {o : Int} {pc0 pc' : Nat} {same : Bool} (hpc : g.pc = pc0) (hd : decode c.code g.pc = .ok (.if_acmp cd o, 3)) (hs : g.stack = y :: x :: rest) (hq : decide (x = y) = same) (ho : 0 ≤ (pc0 : Int) + o) (hp : pc' = if acV cd same = true then ((pc0 : Int) + o).toNat else pc0 + 3)
    (hr : Steps p.tables e below (T.setTop { g with pc := pc', stack := rest }) target) : Steps p.tables e below (T.setTop g) target := by
  obtain ⟨w1, w2, w3, w4, vm0, k0, L, X, r⟩ := W
  exact Jvm.RoadKit.acmp X w1 hg h1 h2 hpc hd hs hq ho hp hr
theorem Wk.retJ {z : Int64} (W : Wk p l e R s m args below meth c Z a0 EL own sf T h k n) (hk : k ≤ rc) (hn : n ≤ rs) (hret : meth.sig.returnType = some .long) (hd : decode c.code pc = .ok (.lreturn, 1)) (q : Q (some (.long z)) h) : Go p e below s Z EL rc rs Q (T.setTop (mkF m pc Ls (.long z :: rest))) :=
  W.ret hk hn (fun h => by rw [hret] at h; cases h) q fun X fs hr => retOut X W.hx hret rfl (Or.inr (Or.inl ⟨rfl, rfl, z, rfl⟩)) hd hr
theorem Wk.callSp {y : MethodName} {index Wt maxL : Nat} {bytes : ByteArray} {ret : Option FieldType} {rm : Room} {as' : Array Value} {sf' : List Addr} {argsL : List Value} {r : Option Value} (W : Wk p l e R s m args below meth c Z a0 EL own sf T h k n) (w1 : (Cond.methodLink own index y).before a0 Z = true) (w2 : (Cond.static y).before a0 Z = true) (w3 : (Cond.initialized y.cls).before a0 Z = true) (w4 : (Cond.code y bytes maxL ret).before a0 Z = true) (hy : y.cls ≠ "java/lang/invoke/MethodHandle" ∧ y.cls ≠ "java/lang/invoke/VarHandle")
    (hM : Con l Z EL sf' y bytes maxL ret [] rm as' h (fun v h' => v = r ∧ h' = h)) (hsf : ∀ x ∈ sf', x ∈ sf) (hf : rm.frames + 1 ≤ R.frames) (hl : Wt + (maxL + 11) + rm.locals ≤ R.locals) (ek : k + rm.cells = k') (en : n + rm.slots = n') (hk : k' ≤ R.cells) (hn : n' ≤ R.slots) (hsz : Ls.size = c.maxLocals) (hlen : ∀ sig, parseMethodDescriptor y.desc = some sig → argsL.length = sig.parameters.length) (hst : stk = argsL.reverse ++ rest) (has : argsL.toArray = as') (hW : (rest.map fun v => v.category).sum ≤ Wt) (hd : decode c.code pc = .ok (.invokestatic index, 3))
    (go : ∀ T', Wk p l e R s m args below meth c Z a0 EL own sf T' h k' n' → Go p e below s Z EL rc rs Q (T'.setTop (mkF m (pc + 3) Ls (r.toList ++ rest)))) : Go p e below s Z EL rc rs Q (T.setTop (mkF m pc Ls stk)) :=
  W.callS w1 w2 w3 w4 hy hM hsf hf hl ek en hk hn hsz hlen hst has hW hd fun v T' h' W' ⟨q1, q2⟩ => by subst q1 q2; exact go T' W'
theorem Wk.callIp {y : MethodName} {index Wt maxL : Nat} {bytes : ByteArray} {rm : Room} {as' : Array Value} {sf' : List Addr} {a : Addr} {argsL : List Value} {r : Option Value} (W : Wk p l e R s m args below meth c Z a0 EL own sf T h k n) (hy1 : y.name = "<init>") (w1 : (Cond.methodLink own index y).before a0 Z = true) (w2 : (Cond.instanceMethod y).before a0 Z = true) (w3 : (Cond.initialized y.cls).before a0 Z = true) (w4 : (Cond.code y bytes maxL none).before a0 Z = true) (hy : y.cls ≠ "java/lang/invoke/MethodHandle" ∧ y.cls ≠ "java/lang/invoke/VarHandle")
    (hM : Con l Z EL sf' y bytes maxL none [] rm as' h (fun v h' => v = r ∧ h' = h)) (hsf : ∀ x ∈ sf', x ∈ sf) (hf : rm.frames + 1 ≤ R.frames) (hl : Wt + (maxL + 11) + rm.locals ≤ R.locals) (ek : k + rm.cells = k') (en : n + rm.slots = n') (hk : k' ≤ R.cells) (hn : n' ≤ R.slots) (hsz : Ls.size = c.maxLocals) (hlen : ∀ sig, parseMethodDescriptor y.desc = some sig → argsL.length = sig.parameters.length) (hst : stk = argsL.reverse ++ .ref a :: rest) (has : (.ref a :: argsL).toArray = as') (hW : (rest.map fun v => v.category).sum ≤ Wt) (hd : decode c.code pc = .ok (.invokespecial index, 3))
    (go : ∀ T', Wk p l e R s m args below meth c Z a0 EL own sf T' h k' n' → Go p e below s Z EL rc rs Q (T'.setTop (mkF m (pc + 3) Ls (r.toList ++ rest)))) : Go p e below s Z EL rc rs Q (T.setTop (mkF m pc Ls stk)) :=
  W.callI hy1 w1 w2 w3 w4 hy hM hsf hf hl ek en hk hn hsz hlen hst has hW hd fun v T' h' W' ⟨q1, q2⟩ => by subst q1 q2; exact go T' W'
theorem Wk.callVp {y z : MethodName} {index Wt maxL : Nat} {C : String} {bytes : ByteArray} {ret : Option FieldType} {rm : Room} {as' : Array Value} {sf' : List Addr} {a : Addr} {argsL : List Value} {r : Option Value} (W : Wk p l e R s m args below meth c Z a0 EL own sf T h k n) (w1 : (Cond.methodLink own index y).before a0 Z = true) (w2 : (Cond.declares y).before a0 Z = true) (hnf : ∀ vm : Vm, Z.Warmed39 vm → NotFace (s.setVm vm) y) (w3 : (Cond.selects C y z).before a0 Z = true) (w5 : (Cond.instanceMethod z).before a0 Z = true) (w6 : (Cond.initialized z.cls).before a0 Z = true) (w4 : (Cond.code z bytes maxL ret).before a0 Z = true) (hy : y.cls ≠ "java/lang/invoke/MethodHandle" ∧ y.cls ≠ "java/lang/invoke/VarHandle") (E : Exa Z h a C)
    (hM : Con l Z EL sf' z bytes maxL ret [] rm as' h (fun v h' => v = r ∧ h' = h)) (hsf : ∀ x ∈ sf', x ∈ sf) (hf : rm.frames + 1 ≤ R.frames) (hl : Wt + (maxL + 11) + rm.locals ≤ R.locals) (ek : k + rm.cells = k') (en : n + rm.slots = n') (hk : k' ≤ R.cells) (hn : n' ≤ R.slots) (hsz : Ls.size = c.maxLocals) (hlen : ∀ sig, parseMethodDescriptor y.desc = some sig → argsL.length = sig.parameters.length) (hst : stk = argsL.reverse ++ .ref a :: rest) (has : (.ref a :: argsL).toArray = as') (hW : (rest.map fun v => v.category).sum ≤ Wt) (hd : decode c.code pc = .ok (.invokevirtual index, 3))
    (go : ∀ T', Wk p l e R s m args below meth c Z a0 EL own sf T' h k' n' → Go p e below s Z EL rc rs Q (T'.setTop (mkF m (pc + 3) Ls (r.toList ++ rest)))) : Go p e below s Z EL rc rs Q (T.setTop (mkF m pc Ls stk)) :=
  W.callV w1 w2 hnf w3 w5 w6 w4 hy E hM hsf hf hl ek en hk hn hsz hlen hst has hW hd fun v T' h' W' ⟨q1, q2⟩ => by subst q1 q2; exact go T' W'
theorem Wk.callP {y : MethodName} {index Wt maxL : Nat} {C : String} {bytes : ByteArray} {ret : Option FieldType} {rm : Room} {as' : Array Value} {sf' : List Addr} {a : Addr} {argsL : List Value} {Qc : Option Value → Heap → Prop} (W : Wk p l e R s m args below meth c Z a0 EL own sf T h k n) (w1 : (Cond.methodLink own index y).before a0 Z = true) (w2 : (Cond.instanceMethod y).before a0 Z = true) (w3 : (Cond.selects y.cls y y).before a0 Z = true) (w5 : (Cond.privateMethod y).before a0 Z = true) (w6 : (Cond.initialized y.cls).before a0 Z = true) (w4 : (Cond.code y bytes maxL ret).before a0 Z = true) (hy : y.cls ≠ "java/lang/invoke/MethodHandle" ∧ y.cls ≠ "java/lang/invoke/VarHandle") (E : Exa Z h a C)
    (hM : Con l Z EL sf' y bytes maxL ret [] rm as' h Qc) (hsf : ∀ x ∈ sf', x ∈ sf) (hf : rm.frames + 1 ≤ R.frames) (hl : Wt + (maxL + 11) + rm.locals ≤ R.locals) (ek : k + rm.cells = k') (en : n + rm.slots = n') (hk : k' ≤ R.cells) (hn : n' ≤ R.slots) (hsz : Ls.size = c.maxLocals) (hlen : ∀ sig, parseMethodDescriptor y.desc = some sig → argsL.length = sig.parameters.length) (hst : stk = argsL.reverse ++ .ref a :: rest) (has : (.ref a :: argsL).toArray = as') (hW : (rest.map fun v => v.category).sum ≤ Wt) (hd : decode c.code pc = .ok (.invokevirtual index, 3))
    (go : ∀ v T' h', Wk p l e R s m args below meth c Z a0 EL own sf T' h' k' n' → Qc v h' → Go p e below s Z EL rc rs Q (T'.setTop (mkF m (pc + 3) Ls (v.toList ++ rest)))) : Go p e below s Z EL rc rs Q (T.setTop (mkF m pc Ls stk)) := by
  obtain ⟨u1, u2, u3, u4, vm0, k0, L, X, rfl, r2, r3, r4, r5, r6, r7, r8⟩ := W
  obtain ⟨cq, q1, q2⟩ := E.cell
  obtain ⟨v, vm₁, B, -, X', hS, hg, ⟨Lc, q⟩, st⟩ := X.privateBackS u1 (y := y) r5 (mvT (s := s.setVm vm0) r4 w1) (mvT (s := s.setVm vm0) r4 w2) (mvT (s := s.setVm vm0) r4 w3) (Cond.privateMethod_at (mvP (s := s.setVm vm0) r4 w5 (args := #[]))) (mvT (s := s.setVm vm0) r4 w4) hy (backK (Wt := Wt) hM r4 w4 w6 hf hl u3 r6.1 fun x hx => r7 x (hsf x hx)) (g := mkF m pc Ls stk) rfl hsz (Steps.refl _) (a := a) q1 q2 (argsL := argsL) (rest := rest) hlen hst (by show 2 * 0 + _ ≤ _; omega) hd (fun _ _ => ⟨has, rfl, by rw [ek]; exact hk, by rw [en]; exact hn⟩)
  exact Go.of st (go v B.U B.U.heap (Wk.came u1 u2 u3 u4 X' hS hg q r2 r3 r4 r5 r6 r7 r8 ek en) q.1.1)
theorem Wk.ldcI {index : Nat} {v : Int32} (W : Wk p l e R s m args below meth c Z a0 EL own sf T h k n) (w : (Cond.constant own index v).before a0 Z = true) (hd : decode c.code pc = .ok (.ldc index, 2)) (go : Go p e below s Z EL rc rs Q (T.setTop (mkF m (pc + 2) Ls (.int v :: stk)))) : Go p e below s Z EL rc rs Q (T.setTop (mkF m pc Ls stk)) := by
  obtain ⟨w1, w2, w3, w4, vm0, k0, L, X, r1, r2, r3, r4, r5, r⟩ := W
  exact Go.by (X.ldcInt w1 r5 (mvT (s := s.setVm vm0) r4 w) (g := mkF m pc Ls stk) rfl hd) go
theorem Wk.ldcJ {index : Nat} {v : Int64} (W : Wk p l e R s m args below meth c Z a0 EL own sf T h k n) (w : (Cond.constantLong own index v).before a0 Z = true) (hd : decode c.code pc = .ok (.ldc2_w index, 3)) (go : Go p e below s Z EL rc rs Q (T.setTop (mkF m (pc + 3) Ls (.long v :: stk)))) : Go p e below s Z EL rc rs Q (T.setTop (mkF m pc Ls stk)) := by
  obtain ⟨w1, w2, w3, w4, vm0, k0, L, X, r1, r2, r3, r4, r5, r⟩ := W
  exact Go.by (X.ldc2Long w1 r5 (mvT (s := s.setVm vm0) r4 w) (g := mkF m pc Ls stk) rfl hd) go
theorem Wk.cloneA {index Wt cap : Nat} {ad : String} {a : Addr} {kA : ClassId} {ty : FieldType} {z : Int32} {vs : List Value} {dv : Value} (W : Wk p l e R s m args below meth c Z a0 EL own sf T h k n) (w1 : (Cond.methodLink own index ⟨ad, "clone", "()Ljava/lang/Object;"⟩).before a0 Z = true) (w2 : (Cond.sameMethod ad "java/lang/Object" "clone" "()Ljava/lang/Object;").before a0 Z = true) (w3 : (Cond.native ⟨"java/lang/Object", "clone", "()Ljava/lang/Object;"⟩).before a0 Z = true)
    (w4 : (Cond.instanceMethod ⟨"java/lang/Object", "clone", "()Ljava/lang/Object;"⟩).before a0 Z = true) (w5 : (Cond.selects ad ⟨ad, "clone", "()Ljava/lang/Object;"⟩ ⟨"java/lang/Object", "clone", "()Ljava/lang/Object;"⟩).before a0 Z = true) (w6 : (Cond.castable ad "java/lang/Cloneable").before a0 Z = true) (F : Arv Z h a kA ty z vs dv) (E : Exa Z h a ad) (hsz : Ls.size = c.maxLocals) (hd : decode c.code pc = .ok (.invokevirtual index, 3))
    (hf : 1 ≤ R.frames) (hW : (rest.map fun v => v.category).sum ≤ Wt) (hl : Wt + 14 ≤ R.locals) (hcap : z.toNatClampNeg ≤ cap) (ek : k + 1 = k') (en : n + cap = n') (hk : k' ≤ R.cells) (hn : n' ≤ R.slots)
    (go : ∀ T' h' x, Wk p l e R s m args below meth c Z a0 EL own (x :: sf) T' h' k' n' → Ext h h' → h.size = x → Z.heap.size ≤ x → Arv Z h' x kA ty z vs dv → Exa Z h' x ad → Go p e below s Z EL rc rs Q (T'.setTop (mkF m (pc + 3) Ls (.ref x :: rest)))) : Go p e below s Z EL rc rs Q (T.setTop (mkF m pc Ls (.ref a :: rest))) := by
  have hO := W.old
  obtain ⟨u1, u2, u3, u4, vm0, k0, L, X, r1, r2, r3, r4, r5, r6, r7, r8⟩ := W
  subst ek en
  obtain ⟨T', h', X', e', E', A, D, st⟩ := cloneH X u1 r4 r5 w1 w2 w3 w4 w5 w6 r1 F.arh E (g := mkF m pc Ls (.ref a :: rest)) rfl hsz rfl hd hf (W := Wt) (by show 2 * 0 + _ ≤ _; omega) hl hcap hk hn
  exact Go.by st (go T' h' _ (Wk.grew u1 u2 u3 u4 X' e' E' D.lt (Nat.le_refl _) r2 r3 r4 r5 r6 r7 r8) E' rfl hO.1 A D)
/-- the terms elem t i, elem t (i + 1), .. hold vs -/
def HasE (args : Array Value) (Z : State) (t : Term) : Nat → List Value → Prop
  | _, [] => True
  | i, v :: vs => (Term.elem t (.int (Int32.ofNat i))).eval args Z none [] Z = some v ∧ HasE args Z t (i + 1) vs
theorem clampN {i : Nat} (h : i < 2 ^ 31) : (Int32.ofNat i).toNatClampNeg = i := by
  have := Int32.toInt_ofNat_small h
  rw [Int32.toNatClampNeg, this]; simp
theorem HasE.has {t : Term} {a : Addr} {cl : Cell} (ev : t.eval args Z none [] Z = some (.ref a)) (hc : Z.heap[a]? = some cl) : ∀ (vs : List Value) (i : Nat), i + vs.length < 2 ^ 31 → HasE args Z t i vs → HasL cl i vs
  | [], i, _, _ => trivial
  | v :: vs, i, hi, H => by
    have hl : (v :: vs).length = vs.length + 1 := rfl
    refine ⟨?_, HasE.has ev hc vs (i + 1) (by omega) H.2⟩
    have q := (elem_in H.1 ev (Term.int_eval _) hc).2
    rwa [clampN (by omega)] at q
theorem arv_of {t : Term} {a : Addr} {ty : FieldType} {z : Int32} {vs : List Value} {dv : Value} (hf : Fit Z) (ev : t.eval args Z none [] Z = some (.ref a)) (hA : (Cond.arrayOf t ty).value args Z none Z [] = some true) (hl : (Term.length t).eval args Z none [] Z = some (.int z)) (hz : ¬ z < 0) (hn : z.toNatClampNeg = vs.length) (hb : vs.length < 2 ^ 31) (H : HasE args Z t 0 vs) : ∃ k, Arv Z Z.heap a k ty z vs dv := by
  obtain ⟨cl, A⟩ := Arr.start ev hA
  have h1 := A.fin (Vm.Alike.refl _)
  have h31 := Jvm.Free.SBG.length_lt ev h1 hl
  have e1 := len_f ev h1 h31
  have e2 : cl.slots.size.toInt32 = z := by simpa using Option.some.inj (e1.symm.trans hl)
  exact ⟨cl.cls, Arv.start hf A h31 e2 hz hn (HasE.has ev A.1 vs 0 (by omega) H)⟩
theorem Wk.callSr {y : MethodName} {index Wt maxL : Nat} {bytes : ByteArray} {ret : Option FieldType} {rm : Room} {as' : Array Value} {sf' : List Addr} {argsL : List Value} {P : Option Value → Prop} (W : Wk p l e R s m args below meth c Z a0 EL own sf T h k n) (w1 : (Cond.methodLink own index y).before a0 Z = true) (w2 : (Cond.static y).before a0 Z = true) (w3 : (Cond.initialized y.cls).before a0 Z = true) (w4 : (Cond.code y bytes maxL ret).before a0 Z = true) (hy : y.cls ≠ "java/lang/invoke/MethodHandle" ∧ y.cls ≠ "java/lang/invoke/VarHandle")
    (hM : Con l Z EL sf' y bytes maxL ret [] rm as' h (fun v h' => P v ∧ h' = h)) (hsf : ∀ x ∈ sf', x ∈ sf) (hf : rm.frames + 1 ≤ R.frames) (hl : Wt + (maxL + 11) + rm.locals ≤ R.locals) (ek : k + rm.cells = k') (en : n + rm.slots = n') (hk : k' ≤ R.cells) (hn : n' ≤ R.slots) (hsz : Ls.size = c.maxLocals) (hlen : ∀ sig, parseMethodDescriptor y.desc = some sig → argsL.length = sig.parameters.length) (hst : stk = argsL.reverse ++ rest) (has : argsL.toArray = as') (hW : (rest.map fun v => v.category).sum ≤ Wt) (hd : decode c.code pc = .ok (.invokestatic index, 3))
    (go : ∀ v T', Wk p l e R s m args below meth c Z a0 EL own sf T' h k' n' → P v → Go p e below s Z EL rc rs Q (T'.setTop (mkF m (pc + 3) Ls (v.toList ++ rest)))) : Go p e below s Z EL rc rs Q (T.setTop (mkF m pc Ls stk)) :=
  W.callS w1 w2 w3 w4 hy hM hsf hf hl ek en hk hn hsz hlen hst has hW hd fun v T' h' W' ⟨q1, q2⟩ => by subst q2; exact go v T' W' q1
end Kit
section KitStr
variable {p : Program} {l : Launch} {e : Env} {R : Room} {s : State} {m : MethodId} {args : Array Value} {below : List Frame} {meth : Method} {c : Code} {Z : State} {a0 : Array Value} {EL : List (String × Nat)} {own : String} {sf : List Addr} {T : State} {h h' h0 : Heap} {k n k' n' rc rs pc : Nat} {Ls : Array Slot} {stk rest : List Value} {Q : Option Value → Heap → Prop} {a x : Addr} {cs ds : List Int32}
/-- the object at a is a String that spells cs -/
def Str (Z : State) (h : Heap) (a : Addr) (cs : List Int32) : Prop := ∃ (t : Addr) (kb : ClassId) (cd N2 : Int32) (vs : List Value), Exa Z h a "java/lang/String" ∧ Fld Z h a "java/lang/String" "value" "[B" (.ref t) ∧ Fld Z h a "java/lang/String" "coder" "B" (.int cd) ∧ Arv Z h t kb .byte N2 vs (.int 0) ∧ StrChars.Road.CodA cs cd N2 vs ∧ (∀ c ∈ cs, ¬ c < 0 ∧ ¬ (65535 : Int32) < c)
theorem Str.ext (S : Str Z h a cs) (E : Ext h h') : Str Z h' a cs := by
  obtain ⟨t, kb, cd, N2, vs, s1, s2, s3, s4, s5, s6⟩ := S; exact ⟨t, kb, cd, N2, vs, s1.ext E, s2.ext E, s3.ext E, s4.ext E, s5, s6⟩
theorem Str.exa (S : Str Z h a cs) : Exa Z h a "java/lang/String" := by obtain ⟨t, kb, cd, N2, vs, s1, -⟩ := S; exact s1
theorem Str.lt (S : Str Z h a cs) : a < h.size := S.exa.lt
theorem Str.keep {C : String} {N : Nat} (S : Str Z h a cs) (K : Keep h h' [x]) (E : Exa Z h x C) (wi : (Cond.instantiable C N).before a0 Z = true) (ne : a ≠ x) : Str Z h' a cs := by
  obtain ⟨t, kb, cd, N2, vs, s1, s2, s3, s4, s5, s6⟩ := S
  exact ⟨t, kb, cd, N2, vs, s1.keep K, s2.keep K (ninS ne nin0), s3.keep K (ninS ne nin0), s4.keep K (ninS (Ne.symm (E.neArv s4 wi)) nin0), s5, s6⟩
theorem Str.wr {C : String} {N sl : Nat} {v : Value} (S : Str Z h a cs) (W : Wr h h' x sl v) (E : Exa Z h x C) (wi : (Cond.instantiable C N).before a0 Z = true) (ne : a ≠ x) : Str Z h' a cs := S.keep (Keep.of_wr W) E wi ne
theorem Ext.trans' {h h1 h2 : Heap} (A : Ext h h1) (B : Ext h1 h2) : Ext h h2 := ⟨Nat.le_trans A.1 B.1, fun a c q => B.2 a c (A.2 a c q)⟩
theorem Ext.refl' (h : Heap) : Ext h h := ⟨Nat.le_refl _, fun _ _ q => q⟩
theorem Ext.keep' {h h1 h2 : Heap} {ws : List Addr} (A : Ext h h1) (K : Keep h1 h2 ws) (q : ∀ x ∈ ws, h.size ≤ x) : Ext h h2 := ⟨Nat.le_trans A.1 K.1, fun a c r => K.2.1 a c (A.2 a c r) fun z => absurd (Array.getElem?_eq_some_iff.mp r).1 (Nat.not_lt.mpr (q a z))⟩
theorem Ext.wr' {h h1 h2 : Heap} {x : Addr} {sl : Nat} {v : Value} (A : Ext h h1) (W : Wr h1 h2 x sl v) (q : h.size ≤ x) : Ext h h2 := Ext.keep' A (Keep.of_wr W) (allS q all0)
theorem Wk.kept {ws : List Addr} {T' : State} {L : List Loc} {vm0 : Vm} {k0 : Nat} (hxm : p.tables.exec = Jvm.exec) (hl : meth.locks = false) (hEW : EW Z a0 EL) (hE : Ext Z.heap s.heap) (X' : Stand p l e R (s.setVm vm0) m args below meth c T' L k' n') (e' : T'.heap = h') (K : Keep h h' ws) (hws : ∀ x ∈ ws, x ∈ sf) (r2 : s.Since vm0 k0) (r3 : k0 ≤ h.size) (r4 : Z.Warmed39 vm0) (r5 : vm0.findClass own = some m.cls) (r6 : CHr Z EL s.vm s.heap vm0 h) (r7 : ∀ x ∈ sf, x < h.size ∧ Safe Z EL vm0 h x) (r8 : Fr Z.heap.size L) :
    Wk p l e R s m args below meth c Z a0 EL own sf T' h' k' n' :=
  ⟨hxm, hl, hEW, hE, vm0, k0, L, X', e', r2, Nat.le_trans r3 K.1, r4, r5, r6.trans (CHr.keep K (fun x hx => (r7 x (hws x hx)).2) r6.1), fun y hy => ⟨Nat.lt_of_lt_of_le (r7 y hy).1 K.1, Safe.keep K (fun x hx => (r7 x (hws x hx)).2) r6.1 (r7 y hy).2⟩, r8⟩
theorem pdCs : parseMethodDescriptor "([C)V" = some ⟨[(.array .char)], none⟩ := by decide +kernel
/-- new String(chars): 1 to 4000 chars, each below 256 -/
theorem Wk.strV {index Wt q : Nat} {b : Addr} {kC : ClassId} {dv v0 c0 : Value} {z N : Int32} (W : Wk p l e R s m args below meth c Z a0 EL own sf T h k n) (hws : ∀ d ∈ StrChars.Road.words, d.before a0 Z = true) (wi : (Cond.instantiable "java/lang/String" 4).before a0 Z = true) (w1 : (Cond.methodLink own index ⟨"java/lang/String", "<init>", "([C)V"⟩).before a0 Z = true) (w2 : (Cond.instanceMethod ⟨"java/lang/String", "<init>", "([C)V"⟩).before a0 Z = true)
    (E : Exa Z h x "java/lang/String") (V : Fld Z h x "java/lang/String" "value" "[B" v0) (C : Fld Z h x "java/lang/String" "coder" "B" c0) (K : Arv Z h b kC .char N (cs.map Value.int) dv) (S : Sta Z h "java/lang/String" "COMPACT_STRINGS" "Z" (.int z)) (hz : ¬ z = 0) (hq : cs.length = q) (hN : N = Int32.ofNat q) (l0 : 0 < q) (l2 : q ≤ 4000) (hp : ∀ c ∈ cs, ¬ c < 0 ∧ ¬ (255 : Int32) < c) (hx : Z.heap.size ≤ x) (hs : x ∈ sf)
    (hf : 4 ≤ R.frames) (hl : Wt + 65 ≤ R.locals) (ek : k + 1 = k') (en : n + q = n') (hk : k' ≤ R.cells) (hn : n' ≤ R.slots) (hsz : Ls.size = c.maxLocals) (hW : (rest.map fun v => v.category).sum ≤ Wt) (hd : decode c.code pc = .ok (.invokespecial index, 3))
    (go : ∀ T' h', Wk p l e R s m args below meth c Z a0 EL own sf T' h' k' n' → Keep h h' [x] → Str Z h' x cs → Go p e below s Z EL rc rs Q (T'.setTop (mkF m (pc + 3) Ls rest))) : Go p e below s Z EL rc rs Q (T.setTop (mkF m pc Ls (.ref b :: .ref x :: rest))) := by
  have hO := W.old
  obtain ⟨u1, u2, u3, u4, vm0, k0, L, X, rfl, r2, r3, r4, r5, r6, r7, r8⟩ := W
  obtain ⟨v, vm₁, ⟨T', L', k1, n1⟩, -, X', ⟨Lc, hQ, l', y', z'⟩, st⟩ := X.specialBack u1 (y := (⟨"java/lang/String", "<init>", "([C)V"⟩ : MethodName)) rfl r5 (mvT (s := s.setVm vm0) r4 w1) (mvT (s := s.setVm vm0) r4 w2) (mvT (s := s.setVm vm0) r4 (hws _ (List.mem_cons_self ..))) (by decide)
    (StrChars.Road.backV (W := Wt) (s := s.setVm vm0) r4 hws wi (bs := cs.map (fun c => c.toInt8.toInt32)) hx hO.1 E V C K S hz hq hN l0 l2 hp rfl hf hl) (g := mkF m pc Ls (.ref b :: .ref x :: rest)) rfl hsz (Steps.refl _) (a := x) (argsL := [.ref b]) (rest := rest) (lenOf pdCs rfl) rfl (by show 2 * 0 + _ ≤ _; omega) hd (fun _ _ => ⟨rfl, rfl, by rw [ek]; exact hk, by rw [en]; exact hn⟩)
  dsimp only [Pt.U, Pt.locs, Pt.cells, Pt.slots] at X' l' y' z' st hQ
  subst l' y' z'
  obtain ⟨rfl, N', K', g1, g2, t, kb, -, -, -, g3, g4⟩ := hQ
  rw [ek, en] at X'
  subst hq hN
  exact Go.of st (go T' T'.heap (Wk.kept u1 u2 u3 u4 X' rfl K' (allS hs all0) r2 r3 r4 r5 r6 r7 (r8.app N')) K' ⟨t, kb, 0, _, _, g1, g3, g2, g4, StrChars.Road.codOf rfl (fun c hc => (hp c hc).2), fun c hc => ⟨(hp c hc).1, fun q => (hp c hc).2 (by rw [Int32.lt_iff_toInt_lt] at q ⊢; have e1 : (65535 : Int32).toInt = 65535 := rfl; have e2 : (255 : Int32).toInt = 255 := rfl; omega)⟩⟩)
/-! literals -/
/-- ldc of a String literal, whose text isn't asked -/
theorem Wk.ldcO {index q : Nat} {text : String} (W : Wk p l e R s m args below meth c Z a0 EL own sf T h k n) (w : (Cond.stringLink own index text).before a0 Z = true) (wS : ∀ a ∈ Bundle.stringAtoms, a.before a0 Z = true) (hd : decode c.code pc = .ok (.ldc index, 2)) (hq : 4 * text.toList.length ≤ q) (hbig : q ≤ 536870912) (ek : k + 2 = k') (en : n + (q + 4) = n') (hk : k' ≤ R.cells) (hn : n' ≤ R.slots)
    (go : ∀ T' h' a, Wk p l e R s m args below meth c Z a0 EL own sf T' h' k' n' → Ext h h' → Go p e below s Z EL rc rs Q (T'.setTop (mkF m (pc + 2) Ls (.ref a :: stk)))) : Go p e below s Z EL rc rs Q (T.setTop (mkF m pc Ls stk)) := by
  obtain ⟨u1, u2, u3, u4, vm0, k0, L, X, r1, r2, r3, r4, r5, r6, r7, r8⟩ := W
  subst ek en
  obtain ⟨a, T', h', k1, X', e', E, hS, hk1, hW, hf, hC, -, st⟩ := ldcOH X u1 r4 r5 w wS r1 r2 r3 u3 r6.1 (g := mkF m pc Ls stk) rfl hd hq hbig hk hn
  exact Go.by st (go T' h' a ⟨u1, u2, u3, u4, T'.vm, k1, L, X', e', hS, hk1, hW, hf, r6.trans hC, fun x hx => ⟨Nat.lt_of_lt_of_le (r7 x hx).1 E.1, hC.safe (r7 x hx).1 (r7 x hx).2⟩, r8⟩ E)
/-- ldc of a String literal, read -/
theorem Wk.ldcC {index q : Nat} {text : String} (W : Wk p l e R s m args below meth c Z a0 EL own sf T h k n) (w : (Cond.stringLink own index text).before a0 Z = true) (wS : ∀ a ∈ Bundle.stringAtoms, a.before a0 Z = true) (hmem : (own, index) ∈ EL) (ht : (∀ c ∈ text.toList, c.toNat < 256) ∧ text.toList.map (fun c => Value.int (Jvm.Lit.byteI c.toNat.toUInt16)) = cs.map (fun c => Value.int (StrChars.lo8 c))) (hz : ¬ (Int32.ofNat cs.length) < 0) (hl : (Int32.ofNat cs.length).toNatClampNeg = cs.length) (hb : ∀ c ∈ cs, ¬ c < 0 ∧ ¬ (255 : Int32) < c ∧ ¬ (65535 : Int32) < c)
    (hd : decode c.code pc = .ok (.ldc index, 2)) (hq : 4 * text.toList.length ≤ q) (hbig : q ≤ 536870912) (ek : k + 2 = k') (en : n + (q + 4) = n') (hk : k' ≤ R.cells) (hn : n' ≤ R.slots)
    (go : ∀ T' h' a, Wk p l e R s m args below meth c Z a0 EL own sf T' h' k' n' → Ext h h' → Str Z h' a cs → (∀ x ∈ sf, x ≠ a) → Go p e below s Z EL rc rs Q (T'.setTop (mkF m (pc + 2) Ls (.ref a :: stk)))) : Go p e below s Z EL rc rs Q (T.setTop (mkF m pc Ls stk)) := by
  obtain ⟨u1, u2, u3, u4, vm0, k0, L, X, r1, r2, r3, r4, r5, r6, r7, r8⟩ := W
  subst ek en
  obtain ⟨a, T', h', k1, b, kb, X', e', E, hS, hk1, hW, hf, g1, g2, g3, g4, -, -, hC, -, hne, st⟩ := ldcCH X u1 r4 r5 w wS r1 r2 r3 u3 hmem r6.1 ht hz (by rw [hl, List.length_map]) (g := mkF m pc Ls stk) rfl hd hq hbig hk hn
  exact Go.by st (go T' h' a ⟨u1, u2, u3, u4, T'.vm, k1, L, X', e', hS, hk1, hW, hf, r6.trans hC, fun x hx => ⟨Nat.lt_of_lt_of_le (r7 x hx).1 E.1, hC.safe (r7 x hx).1 (r7 x hx).2⟩, r8⟩ E ⟨b, kb, 0, _, _, g1, g3, g2, g4, Or.inl ⟨rfl, rfl, rfl, fun c hc => (hb c hc).2.1⟩, fun c hc => ⟨(hb c hc).1, (hb c hc).2.2⟩⟩ fun x hx => (hne x (hC.safe (r7 x hx).1 (r7 x hx).2)).1)
/-! casts -/
theorem Wk.castY {index : Nat} {K : String} (W : Wk p l e R s m args below meth c Z a0 EL own sf T h k n) (w : (Cond.classLink own index K).before a0 Z = true) (F : Ins Z h a K true) (hd : decode c.code pc = .ok (.checkcast index, 3))
    (go : ∀ T', Wk p l e R s m args below meth c Z a0 EL own sf T' h k n → Go p e below s Z EL rc rs Q (T'.setTop (mkF m (pc + 3) Ls (.ref a :: rest)))) : Go p e below s Z EL rc rs Q (T.setTop (mkF m pc Ls (.ref a :: rest))) := by
  obtain ⟨w1, w2, w3, w4, vm0, k0, L, X, r1, r2, r3, r4, r5, r⟩ := W
  obtain ⟨T', X', e', st⟩ := Jvm.RoadKit.castY X w1 r4 r5 w r1 F (g := mkF m pc Ls (.ref a :: rest)) rfl rfl hd
  exact Go.by st (go T' ⟨w1, w2, w3, w4, vm0, k0, L, X', e', r2, r3, r4, r5, r⟩)
theorem Wk.instY {index : Nat} {K : String} (W : Wk p l e R s m args below meth c Z a0 EL own sf T h k n) (w : (Cond.classLink own index K).before a0 Z = true) (F : Ins Z h a K true) (hd : decode c.code pc = .ok (.instanceof index, 3))
    (go : ∀ T', Wk p l e R s m args below meth c Z a0 EL own sf T' h k n → Go p e below s Z EL rc rs Q (T'.setTop (mkF m (pc + 3) Ls (.int 1 :: rest)))) : Go p e below s Z EL rc rs Q (T.setTop (mkF m pc Ls (.ref a :: rest))) := by
  obtain ⟨w1, w2, w3, w4, vm0, k0, L, X, r1, r2, r3, r4, r5, r⟩ := W
  obtain ⟨T', X', e', st⟩ := Jvm.RoadKit.instY X w1 r4 r5 w r1 F (g := mkF m pc Ls (.ref a :: rest)) rfl rfl hd
  exact Go.by st (go T' ⟨w1, w2, w3, w4, vm0, k0, L, X', e', r2, r3, r4, r5, r⟩)
theorem Wk.instNo {index : Nat} {K C : String} (W : Wk p l e R s m args below meth c Z a0 EL own sf T h k n) (w : (Cond.classLink own index K).before a0 Z = true) (E : Exa Z h a C) (F : ∃ c t, Z.vm.findClass C = some c ∧ Z.vm.findClass K = some t ∧ Z.vm.assignable c t = false) (hd : decode c.code pc = .ok (.instanceof index, 3))
    (go : ∀ T', Wk p l e R s m args below meth c Z a0 EL own sf T' h k n → Go p e below s Z EL rc rs Q (T'.setTop (mkF m (pc + 3) Ls (.int 0 :: rest)))) : Go p e below s Z EL rc rs Q (T.setTop (mkF m pc Ls (.ref a :: rest))) := by
  obtain ⟨w1, w2, w3, w4, vm0, k0, L, X, r1, r2, r3, r4, r5, r⟩ := W
  obtain ⟨T', X', e', st⟩ := Jvm.RoadKit.instNo X w1 r4 r5 w r1 E F (g := mkF m pc Ls (.ref a :: rest)) rfl rfl hd
  exact Go.by st (go T' ⟨w1, w2, w3, w4, vm0, k0, L, X', e', r2, r3, r4, r5, r⟩)
theorem Wk.instNull {index : Nat} (W : Wk p l e R s m args below meth c Z a0 EL own sf T h k n) (hd : decode c.code pc = .ok (.instanceof index, 3)) (go : Go p e below s Z EL rc rs Q (T.setTop (mkF m (pc + 3) Ls (.int 0 :: rest)))) : Go p e below s Z EL rc rs Q (T.setTop (mkF m pc Ls (.null :: rest))) := by
  obtain ⟨w1, w2, w3, w4, vm0, k0, L, X, r⟩ := W
  exact Go.by (X.instanceofNull w1 (g := mkF m pc Ls (.null :: rest)) rfl rfl hd) go
theorem Wk.castNull {index : Nat} (W : Wk p l e R s m args below meth c Z a0 EL own sf T h k n) (hd : decode c.code pc = .ok (.checkcast index, 3)) (go : Go p e below s Z EL rc rs Q (T.setTop (mkF m (pc + 3) Ls (.null :: rest)))) : Go p e below s Z EL rc rs Q (T.setTop (mkF m pc Ls (.null :: rest))) := by
  obtain ⟨w1, w2, w3, w4, vm0, k0, L, X, r⟩ := W
  exact Go.by (X.checkcastNull w1 (g := mkF m pc Ls (.null :: rest)) rfl rfl hd) go
/-! arrays -/
theorem Wk.alen {kA : ClassId} {ty : FieldType} {z : Int32} {vs : List Value} {dv : Value} (W : Wk p l e R s m args below meth c Z a0 EL own sf T h k n) (A : Arv Z h a kA ty z vs dv) (hd : decode c.code pc = .ok (.arraylength, 1)) (go : Go p e below s Z EL rc rs Q (T.setTop (mkF m (pc + 1) Ls (.int z :: rest)))) : Go p e below s Z EL rc rs Q (T.setTop (mkF m pc Ls (.ref a :: rest))) := by
  obtain ⟨w1, w2, w3, w4, vm0, k0, L, X, rfl, r2, r3, r4, r⟩ := W
  obtain ⟨cl, A1, -, S, N, -, -⟩ := A
  refine Go.by (X.arraylength w1 A1.1 (State.isArrayOf_alike (T := s.setVm vm0) r4.alike A1.2.1) (g := mkF m pc Ls (.ref a :: rest)) rfl rfl hd) ?_
  rw [len_of S N]; exact go
theorem inA {kA : ClassId} {ty : FieldType} {z j : Int32} {vs : List Value} {dv v : Value} (A : Arv Z h a kA ty z vs dv) (hj : ¬ j < 0 ∧ j < z) (hv : vs.getD j.toNatClampNeg dv = v) : ∃ cl : Cell, RoadKit.Arr Z h a cl ty ∧ ¬ (j < 0 ∨ cl.slots.size ≤ j.toNatClampNeg) ∧ cl.slots[j.toNatClampNeg]? = some v ∧ fits ty v = true := by
  obtain ⟨cl, A1, -, S, N, H, G⟩ := A
  have hi := inb_of S hj
  exact ⟨cl, A1, hi, H.at hi hv, hv ▸ G _ (Nat.lt_of_not_le fun y => hi (Or.inr y))⟩
theorem Wk.cald {kA : ClassId} {z j : Int32} {vs : List Value} {dv v : Value} (W : Wk p l e R s m args below meth c Z a0 EL own sf T h k n) (A : Arv Z h a kA .char z vs dv) (hj : ¬ j < 0 ∧ j < z) (hv : vs.getD j.toNatClampNeg dv = v) (hd : decode c.code pc = .ok (.caload, 1)) (go : Go p e below s Z EL rc rs Q (T.setTop (mkF m (pc + 1) Ls (v :: rest)))) : Go p e below s Z EL rc rs Q (T.setTop (mkF m pc Ls (.int j :: .ref a :: rest))) := by
  obtain ⟨w1, w2, w3, w4, vm0, k0, L, X, rfl, r2, r3, r4, r⟩ := W
  obtain ⟨cl, A1, hi, hat, -⟩ := inA A hj hv
  exact Go.by (X.caload w1 (j := j) (v := v) A1.1 (State.isArrayOf_alike (T := s.setVm vm0) r4.alike A1.2.1) A1.2.2 hi hat (g := mkF m pc Ls (.int j :: .ref a :: rest)) rfl rfl hd) go
theorem Wk.bald {kA : ClassId} {z j : Int32} {vs : List Value} {dv v : Value} (W : Wk p l e R s m args below meth c Z a0 EL own sf T h k n) (A : Arv Z h a kA .byte z vs dv) (hj : ¬ j < 0 ∧ j < z) (hv : vs.getD j.toNatClampNeg dv = v) (hd : decode c.code pc = .ok (.baload, 1)) (go : Go p e below s Z EL rc rs Q (T.setTop (mkF m (pc + 1) Ls (v :: rest)))) : Go p e below s Z EL rc rs Q (T.setTop (mkF m pc Ls (.int j :: .ref a :: rest))) := by
  obtain ⟨w1, w2, w3, w4, vm0, k0, L, X, rfl, r2, r3, r4, r⟩ := W
  obtain ⟨cl, A1, hi, hat, -⟩ := inA A hj hv
  exact Go.by (X.baloadBytes w1 (j := j) (v := v) A1.1 (State.isArrayOf_alike (T := s.setVm vm0) r4.alike A1.2.1) A1.2.2 hi hat (g := mkF m pc Ls (.int j :: .ref a :: rest)) rfl rfl hd) go
theorem Wk.aald {kA : ClassId} {ty : FieldType} {z j : Int32} {vs : List Value} {dv v : Value} (W : Wk p l e R s m args below meth c Z a0 EL own sf T h k n) (A : Arv Z h a kA ty z vs dv) (hty : ty.isReference = true) (hj : ¬ j < 0 ∧ j < z) (hv : vs.getD j.toNatClampNeg dv = v) (hd : decode c.code pc = .ok (.aaload, 1)) (go : Go p e below s Z EL rc rs Q (T.setTop (mkF m (pc + 1) Ls (v :: rest)))) : Go p e below s Z EL rc rs Q (T.setTop (mkF m pc Ls (.int j :: .ref a :: rest))) := by
  obtain ⟨w1, w2, w3, w4, vm0, k0, L, X, rfl, r2, r3, r4, r⟩ := W
  obtain ⟨cl, A1, hi, hat, -⟩ := inA A hj hv
  exact Go.by (X.aaload w1 (j := j) (v := v) A1.1 (State.isArrayOf_alike (T := s.setVm vm0) r4.alike A1.2.1) hty A1.2.2 hi hat (g := mkF m pc Ls (.int j :: .ref a :: rest)) rfl rfl hd) go
theorem Wk.cast_ {kA : ClassId} {z j v v' : Int32} {vs : List Value} {dv : Value} {i : Nat} (W : Wk p l e R s m args below meth c Z a0 EL own sf T h k n) (A : Arv Z h a kA .char z vs dv) (hj : ¬ j < 0 ∧ j < z) (hi : j.toNatClampNeg = i) (hlt : i < vs.length) (hv : nar .char v = v') (ha : Z.heap.size ≤ a) (hs : a ∈ sf) (hd : decode c.code pc = .ok (.castore, 1))
    (go : ∀ T' h', Wk p l e R s m args below meth c Z a0 EL own sf T' h' k n → Wr h h' a j.toNatClampNeg (.int v') → Arv Z h' a kA .char z (vs.set i (.int v')) dv → Go p e below s Z EL rc rs Q (T'.setTop (mkF m (pc + 1) Ls rest))) : Go p e below s Z EL rc rs Q (T.setTop (mkF m pc Ls (.int v :: .int j :: .ref a :: rest))) := by
  subst hv
  obtain ⟨w1, w2, w3, w4, vm0, k0, L, X, r1, r2, r3, r4, r5, r6, r7, r8⟩ := W
  obtain ⟨cl, A1, A2, S, N, H, G⟩ := A
  obtain ⟨T', h', X', e', W', st⟩ := stC X w1 r4 r1 A1 (j := j) (inb_of S hj) (g := mkF m pc Ls (.int v :: .int j :: .ref a :: rest)) rfl rfl hd
  exact Go.by st (go T' h' (Wk.wrote w1 w2 w3 w4 X' e' W' r2 r3 r4 r5 r6 r7 r8 ha hs) W' (Arv.set A1 A2 S N H G (fits_nar_char _) W' i hi hlt))
theorem Wk.bast {kA : ClassId} {z j v v' : Int32} {vs : List Value} {dv : Value} {i : Nat} (W : Wk p l e R s m args below meth c Z a0 EL own sf T h k n) (A : Arv Z h a kA .byte z vs dv) (hj : ¬ j < 0 ∧ j < z) (hi : j.toNatClampNeg = i) (hlt : i < vs.length) (hv : nar .byte v = v') (ha : Z.heap.size ≤ a) (hs : a ∈ sf) (hd : decode c.code pc = .ok (.bastore, 1))
    (go : ∀ T' h', Wk p l e R s m args below meth c Z a0 EL own sf T' h' k n → Wr h h' a j.toNatClampNeg (.int v') → Arv Z h' a kA .byte z (vs.set i (.int v')) dv → Go p e below s Z EL rc rs Q (T'.setTop (mkF m (pc + 1) Ls rest))) : Go p e below s Z EL rc rs Q (T.setTop (mkF m pc Ls (.int v :: .int j :: .ref a :: rest))) := by
  subst hv
  obtain ⟨w1, w2, w3, w4, vm0, k0, L, X, r1, r2, r3, r4, r5, r6, r7, r8⟩ := W
  obtain ⟨cl, A1, A2, S, N, H, G⟩ := A
  obtain ⟨T', h', X', e', W', st⟩ := stB X w1 r4 r1 A1 (j := j) (inb_of S hj) (g := mkF m pc Ls (.int v :: .int j :: .ref a :: rest)) rfl rfl hd
  exact Go.by st (go T' h' (Wk.wrote w1 w2 w3 w4 X' e' W' r2 r3 r4 r5 r6 r7 r8 ha hs) W' (Arv.set A1 A2 S N H G (fits_nar_byte _) W' i hi hlt))
theorem Wk.aast {kA : ClassId} {ty : FieldType} {z j : Int32} {v : Value} {vs : List Value} {dv : Value} {i : Nat} (W : Wk p l e R s m args below meth c Z a0 EL own sf T h k n) (A : Arv Z h a kA ty z vs dv) (hty : ty.isReference = true) (hj : ¬ j < 0 ∧ j < z) (hi : j.toNatClampNeg = i) (hlt : i < vs.length) (F : Sto Z h a v) (hv : fits ty v = true) (ha : Z.heap.size ≤ a) (hs : a ∈ sf) (hd : decode c.code pc = .ok (.aastore, 1))
    (go : ∀ T' h', Wk p l e R s m args below meth c Z a0 EL own sf T' h' k n → Wr h h' a j.toNatClampNeg v → Arv Z h' a kA ty z (vs.set i v) dv → Go p e below s Z EL rc rs Q (T'.setTop (mkF m (pc + 1) Ls rest))) : Go p e below s Z EL rc rs Q (T.setTop (mkF m pc Ls (v :: .int j :: .ref a :: rest))) := by
  obtain ⟨w1, w2, w3, w4, vm0, k0, L, X, r1, r2, r3, r4, r5, r6, r7, r8⟩ := W
  obtain ⟨cl, A1, A2, S, N, H, G⟩ := A
  obtain ⟨T', h', X', e', W', st⟩ := stR X w1 r4 r1 A1 (j := j) (inb_of S hj) hty F (g := mkF m pc Ls (v :: .int j :: .ref a :: rest)) rfl rfl hd
  exact Go.by st (go T' h' (Wk.wrote w1 w2 w3 w4 X' e' W' r2 r3 r4 r5 r6 r7 r8 ha hs) W' (Arv.set A1 A2 S N H G hv W' i hi hlt))
/-- a String at the start, by the sheet's words -/
theorem str_of {t : Term} (hf : Fit Z) (hx : (Cond.exactly t "java/lang/String").value args Z none Z [] = some true) (hcd : (Cond.eq (.field t "java/lang/String" "coder" "B") (.int 0)).value args Z none Z [] = some true) (hA : (Cond.arrayOf (.field t "java/lang/String" "value" "[B") .byte).value args Z none Z [] = some true) (hl : (Cond.eq (.length (.field t "java/lang/String" "value" "[B")) (.int (Int32.ofNat cs.length))).value args Z none Z [] = some true) (hn : cs.length < 2 ^ 31) (H : HasE args Z (.field t "java/lang/String" "value" "[B") 0 (cs.map fun c => Value.int (StrChars.lo8 c))) (hb : ∀ c ∈ cs, ¬ c < 0 ∧ ¬ (255 : Int32) < c ∧ ¬ (65535 : Int32) < c) : ∃ a, t.eval args Z none [] Z = some (.ref a) ∧ Str Z Z.heap a cs := by
  obtain ⟨a, ea⟩ := exa_v hx
  obtain ⟨b, eb⟩ := arr_v hA
  have ec := Cond.eq_int (Cond.before_iff.mpr hcd) rfl
  have el := Cond.eq_int (Cond.before_iff.mpr hl) rfl
  obtain ⟨kb, K⟩ := arv_of (dv := .int 0) hf eb hA el (by
    intro q
    rw [Int32.lt_iff_toInt_lt, Int32.toInt_ofNat_small hn] at q
    have e0 : (0 : Int32).toInt = 0 := rfl
    omega) (by rw [clampN hn, List.length_map]) (by rw [List.length_map]; exact hn) H
  exact ⟨a, ea, b, kb, 0, _, _, Exa.start ea hx, Fld.start (by rw [← fld_at ea]; exact eb), Fld.start (by rw [← fld_at ea]; exact ec), K, Or.inl ⟨rfl, rfl, rfl, fun c hc => (hb c hc).2.1⟩, fun c hc => ⟨(hb c hc).1, (hb c hc).2.2⟩⟩
end KitStr
section KitStrEq
variable {p : Program} {l : Launch} {e : Env} {R : Room} {s : State} {m : MethodId} {args : Array Value} {below : List Frame} {meth : Method} {c : Code} {Z : State} {a0 : Array Value} {EL : List (String × Nat)} {own : String} {sf : List Addr} {T : State} {h h' h0 : Heap} {k n k' n' rc rs pc : Nat} {Ls : Array Slot} {stk rest : List Value} {Q : Option Value → Heap → Prop} {a x y : Addr} {cs ds : List Int32}
theorem pdEq : parseMethodDescriptor "(Ljava/lang/Object;)Z" = some ⟨[(.object "java/lang/Object")], some .boolean⟩ := by decide +kernel
/-- s.equals(t) of two Strings -/
theorem Wk.strEq {index Wt : Nat} {z : Int32} (W : Wk p l e R s m args below meth c Z a0 EL own sf T h k n) (hws : ∀ d ∈ StrChars.Road.wordsEq, d.before a0 Z = true) (wi : (Cond.instantiable "java/lang/String" 4).before a0 Z = true) (w1 : (Cond.methodLink own index ⟨"java/lang/String", "equals", "(Ljava/lang/Object;)Z"⟩).before a0 Z = true) (w2 : (Cond.declares ⟨"java/lang/String", "equals", "(Ljava/lang/Object;)Z"⟩).before a0 Z = true) (w3 : (Cond.selects "java/lang/String" ⟨"java/lang/String", "equals", "(Ljava/lang/Object;)Z"⟩ ⟨"java/lang/String", "equals", "(Ljava/lang/Object;)Z"⟩).before a0 Z = true) (w4 : (Cond.instanceMethod ⟨"java/lang/String", "equals", "(Ljava/lang/Object;)Z"⟩).before a0 Z = true)
    (S1 : Str Z h x cs) (S2 : Str Z h y ds) (l1 : cs.length ≤ 4000) (l2 : ds.length ≤ 4000) (S : Sta Z h "java/lang/String" "COMPACT_STRINGS" "Z" (.int z)) (hz : ¬ z = 0) (hf : 2 ≤ R.frames) (hl : Wt + 28 ≤ R.locals) (hsz : Ls.size = c.maxLocals) (hW : (rest.map fun v => v.category).sum ≤ Wt) (hk : k ≤ R.cells) (hn : n ≤ R.slots) (hd : decode c.code pc = .ok (.invokevirtual index, 3))
    (go : ∀ T' r, Wk p l e R s m args below meth c Z a0 EL own sf T' h k n → r = (if cs = ds then (1 : Int32) else 0) → Go p e below s Z EL rc rs Q (T'.setTop (mkF m (pc + 3) Ls (.int r :: rest)))) : Go p e below s Z EL rc rs Q (T.setTop (mkF m pc Ls (.ref y :: .ref x :: rest))) := by
  obtain ⟨u1, u2, u3, u4, vm0, k0, L, X, rfl, r2, r3, r4, r5, r6, r7, r8⟩ := W
  obtain ⟨t, kb, cd, N2, vs, s1, s2, s3, s4, s5, s6⟩ := S1
  obtain ⟨t', kb', cd', N2', vs', e1, e2, e3, e4, e5, e6⟩ := S2
  obtain ⟨cq, kq, qa, qb, qc⟩ := isOf (s := s.setVm vm0) (T := T) r4 rfl s1
  obtain ⟨v, vm₁, ⟨T', L', k1, n1⟩, -, X', ⟨Lc, hQ, l', y', z'⟩, st⟩ := X.virtualBack u1 (y := (⟨"java/lang/String", "equals", "(Ljava/lang/Object;)Z"⟩ : MethodName)) (z := (⟨"java/lang/String", "equals", "(Ljava/lang/Object;)Z"⟩ : MethodName)) r5 (mvT (s := s.setVm vm0) r4 w1) (mvT (s := s.setVm vm0) r4 w2) (notFace_of_selects (args := #[]) (mvT (s := s.setVm vm0) r4 w3)) (mvT (s := s.setVm vm0) r4 w3) (mvT (s := s.setVm vm0) r4 w4) (by decide)
    (StrChars.Road.eqW (W := Wt) (s := s.setVm vm0) r4 hws wi s1 s2 s3 s4 s5 s6 l1 e1 e2 e3 e4 e5 e6 l2 S hz hf hl) qa qc (g := mkF m pc Ls (.ref y :: .ref x :: rest)) rfl hsz (Steps.refl _) (argsL := [.ref y]) (rest := rest) (lenOf pdEq rfl) rfl (by show 2 * 0 + _ ≤ _; omega) hd (fun _ _ => ⟨rfl, rfl, hk, hn⟩)
  dsimp only [Pt.U, Pt.locs, Pt.cells, Pt.slots] at X' l' y' z' st hQ
  subst l' y' z'
  obtain ⟨hv, rfl, e'⟩ := hQ
  rw [List.append_nil] at X'
  have K : Wk p l e R s m args below meth c Z a0 EL own sf T' T.heap _ _ := ⟨u1, u2, u3, u4, vm0, k0, L, X', e', r2, r3, r4, r5, r6, r7, r8⟩
  rcases hv with ⟨rfl, q⟩ | ⟨rfl, q⟩
  · exact Go.of st (go T' 1 K (by rw [if_pos q]))
  · exact Go.of st (go T' 0 K (by rw [if_neg q]))
end KitStrEq
section KitStrLen
variable {p : Program} {l : Launch} {e : Env} {R : Room} {s : State} {m : MethodId} {args : Array Value} {below : List Frame} {meth : Method} {c : Code} {Z : State} {a0 : Array Value} {EL : List (String × Nat)} {own : String} {sf : List Addr} {T : State} {h h' h0 : Heap} {k n k' n' rc rs pc : Nat} {Ls : Array Slot} {stk rest : List Value} {Q : Option Value → Heap → Prop} {a x y : Addr} {cs ds : List Int32}
theorem pdLen : parseMethodDescriptor "()I" = some ⟨[], some .int⟩ := by decide +kernel
/-- s.length() -/
theorem Wk.strLen {index Wt : Nat} {z : Int32} (W : Wk p l e R s m args below meth c Z a0 EL own sf T h k n) (hws : ∀ d ∈ StrChars.Road.wordsLen, d.before a0 Z = true) (wi : (Cond.instantiable "java/lang/String" 4).before a0 Z = true) (w1 : (Cond.methodLink own index ⟨"java/lang/String", "length", "()I"⟩).before a0 Z = true) (w2 : (Cond.declares ⟨"java/lang/String", "length", "()I"⟩).before a0 Z = true) (w3 : (Cond.selects "java/lang/String" ⟨"java/lang/String", "length", "()I"⟩ ⟨"java/lang/String", "length", "()I"⟩).before a0 Z = true) (w4 : (Cond.instanceMethod ⟨"java/lang/String", "length", "()I"⟩).before a0 Z = true)
    (S1 : Str Z h x cs) (l1 : cs.length ≤ 4000) (S : Sta Z h "java/lang/String" "COMPACT_STRINGS" "Z" (.int z)) (hz : ¬ z = 0) (hf : 2 ≤ R.frames) (hl : Wt + 25 ≤ R.locals) (hsz : Ls.size = c.maxLocals) (hW : (rest.map fun v => v.category).sum ≤ Wt) (hk : k ≤ R.cells) (hn : n ≤ R.slots) (hd : decode c.code pc = .ok (.invokevirtual index, 3))
    (go : ∀ T', Wk p l e R s m args below meth c Z a0 EL own sf T' h k n → Go p e below s Z EL rc rs Q (T'.setTop (mkF m (pc + 3) Ls (.int (Int32.ofNat cs.length) :: rest)))) : Go p e below s Z EL rc rs Q (T.setTop (mkF m pc Ls (.ref x :: rest))) := by
  obtain ⟨u1, u2, u3, u4, vm0, k0, L, X, rfl, r2, r3, r4, r5, r6, r7, r8⟩ := W
  obtain ⟨t, kb, cd, N2, vs, s1, s2, s3, s4, s5, s6⟩ := S1
  obtain ⟨cq, kq, qa, qb, qc⟩ := isOf (s := s.setVm vm0) (T := T) r4 rfl s1
  obtain ⟨v, vm₁, ⟨T', L', k1, n1⟩, -, X', ⟨Lc, hQ, l', y', z'⟩, st⟩ := X.virtualBack u1 (y := (⟨"java/lang/String", "length", "()I"⟩ : MethodName)) (z := (⟨"java/lang/String", "length", "()I"⟩ : MethodName)) r5 (mvT (s := s.setVm vm0) r4 w1) (mvT (s := s.setVm vm0) r4 w2) (notFace_of_selects (args := #[]) (mvT (s := s.setVm vm0) r4 w3)) (mvT (s := s.setVm vm0) r4 w3) (mvT (s := s.setVm vm0) r4 w4) (by decide)
    (StrChars.Road.lenW (W := Wt) (s := s.setVm vm0) r4 hws wi s1 s2 s3 s4 s5 s6 S hz l1 hf hl) qa qc (g := mkF m pc Ls (.ref x :: rest)) rfl hsz (Steps.refl _) (argsL := []) (rest := rest) (lenOf pdLen rfl) rfl (by show 2 * 0 + _ ≤ _; omega) hd (fun _ _ => ⟨rfl, rfl, hk, hn⟩)
  dsimp only [Pt.U, Pt.locs, Pt.cells, Pt.slots] at X' l' y' z' st hQ
  subst l' y' z'
  obtain ⟨rfl, rfl, e'⟩ := hQ
  rw [List.append_nil] at X'
  exact Go.of st (go T' ⟨u1, u2, u3, u4, vm0, k0, L, X', e', r2, r3, r4, r5, r6, r7, r8⟩)
end KitStrLen
section KitStrCh
variable {p : Program} {l : Launch} {e : Env} {R : Room} {s : State} {m : MethodId} {args : Array Value} {below : List Frame} {meth : Method} {c : Code} {Z : State} {a0 : Array Value} {EL : List (String × Nat)} {own : String} {sf : List Addr} {T : State} {h h' h0 : Heap} {k n k' n' rc rs pc : Nat} {Ls : Array Slot} {stk rest : List Value} {Q : Option Value → Heap → Prop} {a x y : Addr} {cs ds : List Int32}
theorem pdCh : parseMethodDescriptor "(I)C" = some ⟨[.int], some .char⟩ := by decide +kernel
/-- s.charAt(i) of a String of chars below 256 -/
theorem Wk.strCh {index Wt i : Nat} {z j : Int32} {fm : Value} (W : Wk p l e R s m args below meth c Z a0 EL own sf T h k n) (hws : ∀ d ∈ StrChars.Road.wordsChN, d.before a0 Z = true) (wi : (Cond.instantiable "java/lang/String" 4).before a0 Z = true) (w1 : (Cond.methodLink own index ⟨"java/lang/String", "charAt", "(I)C"⟩).before a0 Z = true) (w2 : (Cond.declares ⟨"java/lang/String", "charAt", "(I)C"⟩).before a0 Z = true) (w3 : (Cond.selects "java/lang/String" ⟨"java/lang/String", "charAt", "(I)C"⟩ ⟨"java/lang/String", "charAt", "(I)C"⟩).before a0 Z = true) (w4 : (Cond.instanceMethod ⟨"java/lang/String", "charAt", "(I)C"⟩).before a0 Z = true)
    (S1 : Str Z h x cs) (hlat : ∀ c ∈ cs, ¬ (255 : Int32) < c) (l1 : cs.length ≤ 4000) (S : Sta Z h "java/lang/String" "COMPACT_STRINGS" "Z" (.int z)) (hz : ¬ z = 0) (F : Sta Z h "jdk/internal/util/Preconditions" "SIOOBE_FORMATTER" "Ljava/util/function/BiFunction;" fm) (rf : fm.isRef = true) (hi : i < cs.length) (hj : j = Int32.ofNat i) (hf : 4 ≤ R.frames) (hl : Wt + 53 ≤ R.locals) (hsz : Ls.size = c.maxLocals) (hW : (rest.map fun v => v.category).sum ≤ Wt) (hk : k ≤ R.cells) (hn : n ≤ R.slots) (hd : decode c.code pc = .ok (.invokevirtual index, 3))
    (go : ∀ T', Wk p l e R s m args below meth c Z a0 EL own sf T' h k n → Go p e below s Z EL rc rs Q (T'.setTop (mkF m (pc + 3) Ls (.int (cs.getD i 0) :: rest)))) : Go p e below s Z EL rc rs Q (T.setTop (mkF m pc Ls (.int j :: .ref x :: rest))) := by
  obtain ⟨u1, u2, u3, u4, vm0, k0, L, X, rfl, r2, r3, r4, r5, r6, r7, r8⟩ := W
  obtain ⟨t, kb, cd, N2, vs, s1, s2, s3, s4, s5, s6⟩ := S1
  obtain rfl : cd = 0 := by
    rcases s5 with ⟨q, -⟩ | ⟨-, -, -, c, hc, q⟩
    · exact q
    · exact absurd q (hlat c hc)
  obtain ⟨cq, kq, qa, qb, qc⟩ := isOf (s := s.setVm vm0) (T := T) r4 rfl s1
  obtain ⟨v, vm₁, ⟨T', L', k1, n1⟩, -, X', ⟨Lc, hQ, l', y', z'⟩, st⟩ := X.virtualBack u1 (y := (⟨"java/lang/String", "charAt", "(I)C"⟩ : MethodName)) (z := (⟨"java/lang/String", "charAt", "(I)C"⟩ : MethodName)) r5 (mvT (s := s.setVm vm0) r4 w1) (mvT (s := s.setVm vm0) r4 w2) (notFace_of_selects (args := #[]) (mvT (s := s.setVm vm0) r4 w3)) (mvT (s := s.setVm vm0) r4 w3) (mvT (s := s.setVm vm0) r4 w4) (by decide)
    (StrChars.Road.chN (W := Wt) (s := s.setVm vm0) r4 hws wi s1 s2 s3 s4 s5 s6 S hz F rf l1 hi hj hf hl) qa qc (g := mkF m pc Ls (.int j :: .ref x :: rest)) rfl hsz (Steps.refl _) (argsL := [.int j]) (rest := rest) (lenOf pdCh rfl) rfl (by show 2 * 0 + _ ≤ _; omega) hd (fun _ _ => ⟨rfl, rfl, hk, hn⟩)
  dsimp only [Pt.U, Pt.locs, Pt.cells, Pt.slots] at X' l' y' z' st hQ
  subst l' y' z'
  obtain ⟨rfl, rfl, e'⟩ := hQ
  rw [List.append_nil] at X'
  exact Go.of st (go T' ⟨u1, u2, u3, u4, vm0, k0, L, X', e', r2, r3, r4, r5, r6, r7, r8⟩)
end KitStrCh
theorem nar_i2c (x : Int32) : nar .char x.toUInt32.toUInt16.toUInt32.toInt32 = x.toUInt32.toUInt16.toUInt32.toInt32 := by
  have h1 := c_i2c x
  have h2 := c_i2c x.toUInt32.toUInt16.toUInt32.toInt32
  apply Int32.toInt_inj.mp
  show (x.toUInt32.toUInt16.toUInt32.toInt32.toUInt32.toUInt16.toUInt32.toInt32).toInt = _
  omega
theorem i2c_id {x : Int32} (h : ¬ x < 0 ∧ ¬ (65535 : Int32) < x) : x.toUInt32.toUInt16.toUInt32.toInt32 = x := by
  have h1 := c_i2c x
  apply Int32.toInt_inj.mp
  rw [Int32.lt_iff_toInt_lt, Int32.lt_iff_toInt_lt] at h
  have e : (65535 : Int32).toInt = 65535 := rfl
  have e0 : (0 : Int32).toInt = 0 := rfl
  omega
theorem nar_id {x : Int32} (h : ¬ x < 0 ∧ ¬ (65535 : Int32) < x) : nar .char x = x := i2c_id h
theorem up16 {x : Int32} (h : ¬ x < 0 ∧ ¬ (255 : Int32) < x) : ¬ x < 0 ∧ ¬ (65535 : Int32) < x := ⟨h.1, fun q => h.2 (by rw [Int32.lt_iff_toInt_lt] at q ⊢; have e1 : (65535 : Int32).toInt = 65535 := rfl; have e2 : (255 : Int32).toInt = 255 := rfl; omega)⟩
theorem i2c_rng (x : Int32) : ¬ x.toUInt32.toUInt16.toUInt32.toInt32 < 0 ∧ ¬ (65535 : Int32) < x.toUInt32.toUInt16.toUInt32.toInt32 := by
  have h1 := c_i2c x
  rw [Int32.lt_iff_toInt_lt, Int32.lt_iff_toInt_lt]
  have e : (65535 : Int32).toInt = 65535 := rfl
  have e0 : (0 : Int32).toInt = 0 := rfl
  omega
theorem and255 (x : Int32) : ¬ (x &&& (255 : Int32)) < 0 ∧ ¬ (255 : Int32) < (x &&& (255 : Int32)) := by
  have h := c_and x 255 (by decide)
  have e : (255 : Int32).toInt = 255 := rfl
  rw [Int32.lt_iff_toInt_lt, Int32.lt_iff_toInt_lt, e]
  have e0 : (0 : Int32).toInt = 0 := rfl
  omega
theorem k_mask (x : Int32) : ¬ (x &&& (255 : Int32)).toUInt32.toUInt16.toUInt32.toInt32 < 0 ∧ ¬ (255 : Int32) < (x &&& (255 : Int32)).toUInt32.toUInt16.toUInt32.toInt32 := by
  rw [i2c_mask]; exact and255 x
theorem k_nar (x : Int32) : nar .char (x &&& (255 : Int32)).toUInt32.toUInt16.toUInt32.toInt32 = (x &&& (255 : Int32)).toUInt32.toUInt16.toUInt32.toInt32 := nar_i2c _
theorem and3 (x : Int32) : x &&& (3 : Int32) = 0 ∨ x &&& (3 : Int32) = 1 ∨ x &&& (3 : Int32) = 2 ∨ x &&& (3 : Int32) = 3 := by
  have h := c_and x 3 (by decide)
  have e : (3 : Int32).toInt = 3 := rfl
  rcases (by omega : (x &&& (3 : Int32)).toInt = 0 ∨ (x &&& (3 : Int32)).toInt = 1 ∨ (x &&& (3 : Int32)).toInt = 2 ∨ (x &&& (3 : Int32)).toInt = 3) with q | q | q | q
  · exact Or.inl (Int32.toInt_inj.mp q)
  · exact Or.inr (Or.inl (Int32.toInt_inj.mp q))
  · exact Or.inr (Or.inr (Or.inl (Int32.toInt_inj.mp q)))
  · exact Or.inr (Or.inr (Or.inr (Int32.toInt_inj.mp q)))
theorem maskL255 (x : Int64) : ¬ (x &&& (255 : Int64)).toInt32.toUInt32.toUInt16.toUInt32.toInt32 < 0 ∧ ¬ (255 : Int32) < (x &&& (255 : Int64)).toInt32.toUInt32.toUInt16.toUInt32.toInt32 := by
  have h := c_maskL x 255 8 (by decide) (by decide)
  have h2 := c_l2i (x &&& (255 : Int64))
  have h3 := c_i2c (x &&& (255 : Int64)).toInt32
  have h4 := rng32 (x &&& (255 : Int64)).toInt32
  rw [Int32.lt_iff_toInt_lt, Int32.lt_iff_toInt_lt]
  have e : (255 : Int32).toInt = 255 := rfl
  have e0 : (0 : Int32).toInt = 0 := rfl
  have e8 : ((2 ^ 8 : Nat) : Int) = 256 := rfl
  omega
theorem k_sa {Z : State} {a0 : Array Value} (hw : ∀ d ∈ tables_1, d.before a0 Z = true) : ∀ a ∈ Bundle.stringAtoms, a.before a0 Z = true := fun d hd => hw d ((by decide +kernel : ∀ d ∈ Bundle.stringAtoms, d ∈ tables_1) d hd)
theorem k_words {Z : State} {a0 : Array Value} (hw : ∀ d ∈ tables_1, d.before a0 Z = true) : ∀ d ∈ StrChars.Road.words, d.before a0 Z = true := fun d hd => hw d ((by decide +kernel : ∀ d ∈ StrChars.Road.words, d ∈ tables_1) d hd)
theorem k_eq {Z : State} {a0 : Array Value} (hw : ∀ d ∈ tables_1, d.before a0 Z = true) : ∀ d ∈ StrChars.Road.wordsEq, d.before a0 Z = true := fun d hd => hw d ((by decide +kernel : ∀ d ∈ StrChars.Road.wordsEq, d ∈ tables_1) d hd)
theorem k_len {Z : State} {a0 : Array Value} (hw : ∀ d ∈ tables_1, d.before a0 Z = true) : ∀ d ∈ StrChars.Road.wordsLen, d.before a0 Z = true := fun d hd => hw d ((by decide +kernel : ∀ d ∈ StrChars.Road.wordsLen, d ∈ tables_1) d hd)
theorem k_ch {Z : State} {a0 : Array Value} (hw : ∀ d ∈ tables_1, d.before a0 Z = true) : ∀ d ∈ StrChars.Road.wordsChN, d.before a0 Z = true := fun d hd => hw d ((by decide +kernel : ∀ d ∈ StrChars.Road.wordsChN, d ∈ tables_1) d hd)
theorem sta_exa {args : Array Value} {Z : State} {C n d K : String} (hx : (Cond.exactly (.static C n d) K).value args Z none Z [] = some true) (hi : (Cond.initializedFor C n d).before args Z = true ∨ ((Cond.initialized C).before args Z = true ∧ (Cond.laysStatic C n d).before args Z = true)) : ∃ a, Sta Z Z.heap C n d (.ref a) ∧ Exa Z Z.heap a K ∧ (Term.static C n d).eval args Z none [] Z = some (.ref a) := by
  obtain ⟨a, c', cell, k, e1, -⟩ := Cond.exactly_spec (Cond.before_iff.mpr hx)
  exact ⟨a, Sta.start e1 hi, Exa.start e1 hx, e1⟩
theorem lo8_lo8 (z : Int32) : z.toInt8.toInt32.toInt8.toInt32 = z.toInt8.toInt32 := by simp
theorem wd0 {Z : State} {a0 : Array Value} (hw : ∀ d ∈ tables_1, d.before a0 Z = true) : (Jvm.Cond.stringLink "com/example/claimwire/claimwire/fpml/LimitReportStatusFromTextPinLaw" (20 : Nat) "Acceptable").before a0 Z = true := hw _ (List.mem_of_getElem? (i := 0) rfl)
theorem wd1 {Z : State} {a0 : Array Value} (hw : ∀ d ∈ tables_1, d.before a0 Z = true) : (Jvm.Cond.initialized "java/lang/String").before a0 Z = true := hw _ (List.mem_of_getElem? (i := 1) rfl)
theorem wd2 {Z : State} {a0 : Array Value} (hw : ∀ d ∈ tables_1, d.before a0 Z = true) : (Jvm.Cond.instantiable "java/lang/String" (4 : Nat)).before a0 Z = true := hw _ (List.mem_of_getElem? (i := 2) rfl)
theorem wd3 {Z : State} {a0 : Array Value} (hw : ∀ d ∈ tables_1, d.before a0 Z = true) : (Jvm.Cond.arrayClass Jvm.ClassFile.FieldType.byte).before a0 Z = true := hw _ (List.mem_of_getElem? (i := 3) rfl)
theorem wd4 {Z : State} {a0 : Array Value} (hw : ∀ d ∈ tables_1, d.before a0 Z = true) : (Jvm.Cond.laysFinal "java/lang/String" "java/lang/String" "value" "[B").before a0 Z = true := hw _ (List.mem_of_getElem? (i := 4) rfl)
theorem wd5 {Z : State} {a0 : Array Value} (hw : ∀ d ∈ tables_1, d.before a0 Z = true) : (Jvm.Cond.laysFinal "java/lang/String" "java/lang/String" "coder" "B").before a0 Z = true := hw _ (List.mem_of_getElem? (i := 5) rfl)
theorem wd8 {Z : State} {a0 : Array Value} (hw : ∀ d ∈ tables_1, d.before a0 Z = true) : (Jvm.Cond.constant "com/example/claimwire/claimwire/fpml/LimitReportStatusFromTextPinLaw" (24 : Nat) (2147483647 : Int32)).before a0 Z = true := hw _ (List.mem_of_getElem? (i := 8) rfl)
theorem wd9 {Z : State} {a0 : Array Value} (hw : ∀ d ∈ tables_1, d.before a0 Z = true) : (Jvm.Cond.arrayClass Jvm.ClassFile.FieldType.char).before a0 Z = true := hw _ (List.mem_of_getElem? (i := 9) rfl)
theorem wd10 {Z : State} {a0 : Array Value} (hw : ∀ d ∈ tables_1, d.before a0 Z = true) : (Jvm.Cond.methodLink "com/example/claimwire/claimwire/fpml/LimitReportStatusFromTextPinLaw" (25 : Nat) ({ cls := "com/example/claimwire/claimwire/fpml/LimitReportStatusFromTextPinLaw", name := "ch", desc := "(Ljava/lang/String;IIZCC)C" } : Jvm.MethodName)).before a0 Z = true := hw _ (List.mem_of_getElem? (i := 10) rfl)
theorem wd11 {Z : State} {a0 : Array Value} (hw : ∀ d ∈ tables_1, d.before a0 Z = true) : (Jvm.Cond.static ({ cls := "com/example/claimwire/claimwire/fpml/LimitReportStatusFromTextPinLaw", name := "ch", desc := "(Ljava/lang/String;IIZCC)C" } : Jvm.MethodName)).before a0 Z = true := hw _ (List.mem_of_getElem? (i := 11) rfl)
theorem wd12 {Z : State} {a0 : Array Value} (hw : ∀ d ∈ tables_1, d.before a0 Z = true) : (Jvm.Cond.initialized "com/example/claimwire/claimwire/fpml/LimitReportStatusFromTextPinLaw").before a0 Z = true := hw _ (List.mem_of_getElem? (i := 12) rfl)
theorem wd13 {Z : State} {a0 : Array Value} (hw : ∀ d ∈ tables_1, d.before a0 Z = true) : (Jvm.Cond.code ({ cls := "com/example/claimwire/claimwire/fpml/LimitReportStatusFromTextPinLaw", name := "ch", desc := "(Ljava/lang/String;IIZCC)C" } : Jvm.MethodName) method_2_code (6 : Nat) (Option.some Jvm.ClassFile.FieldType.char)).before a0 Z = true := hw _ (List.mem_of_getElem? (i := 13) rfl)
theorem wd14 {Z : State} {a0 : Array Value} (hw : ∀ d ∈ tables_1, d.before a0 Z = true) : (Jvm.Cond.methodLink "com/example/claimwire/claimwire/fpml/LimitReportStatusFromTextPinLaw" (7 : Nat) ({ cls := "java/lang/String", name := "length", desc := "()I" } : Jvm.MethodName)).before a0 Z = true := hw _ (List.mem_of_getElem? (i := 14) rfl)
theorem wd15 {Z : State} {a0 : Array Value} (hw : ∀ d ∈ tables_1, d.before a0 Z = true) : (Jvm.Cond.declares ({ cls := "java/lang/String", name := "length", desc := "()I" } : Jvm.MethodName)).before a0 Z = true := hw _ (List.mem_of_getElem? (i := 15) rfl)
theorem wd16 {Z : State} {a0 : Array Value} (hw : ∀ d ∈ tables_1, d.before a0 Z = true) : (Jvm.Cond.instanceMethod ({ cls := "java/lang/String", name := "length", desc := "()I" } : Jvm.MethodName)).before a0 Z = true := hw _ (List.mem_of_getElem? (i := 16) rfl)
theorem wd17 {Z : State} {a0 : Array Value} (hw : ∀ d ∈ tables_1, d.before a0 Z = true) : (Jvm.Cond.selects "java/lang/String" ({ cls := "java/lang/String", name := "length", desc := "()I" } : Jvm.MethodName) ({ cls := "java/lang/String", name := "length", desc := "()I" } : Jvm.MethodName)).before a0 Z = true := hw _ (List.mem_of_getElem? (i := 17) rfl)
theorem wd19 {Z : State} {a0 : Array Value} (hw : ∀ d ∈ tables_1, d.before a0 Z = true) : (Jvm.Cond.fieldLink "java/lang/String" (9 : Nat) "java/lang/String" "value" "[B").before a0 Z = true := hw _ (List.mem_of_getElem? (i := 19) rfl)
theorem wd26 {Z : State} {a0 : Array Value} (hw : ∀ d ∈ tables_1, d.before a0 Z = true) : (Jvm.Cond.fieldLink "java/lang/String" (15 : Nat) "java/lang/String" "coder" "B").before a0 Z = true := hw _ (List.mem_of_getElem? (i := 26) rfl)
theorem wd27 {Z : State} {a0 : Array Value} (hw : ∀ d ∈ tables_1, d.before a0 Z = true) : (Jvm.Cond.methodLink "com/example/claimwire/claimwire/fpml/LimitReportStatusFromTextPinLaw" (13 : Nat) ({ cls := "java/lang/String", name := "charAt", desc := "(I)C" } : Jvm.MethodName)).before a0 Z = true := hw _ (List.mem_of_getElem? (i := 27) rfl)
theorem wd28 {Z : State} {a0 : Array Value} (hw : ∀ d ∈ tables_1, d.before a0 Z = true) : (Jvm.Cond.declares ({ cls := "java/lang/String", name := "charAt", desc := "(I)C" } : Jvm.MethodName)).before a0 Z = true := hw _ (List.mem_of_getElem? (i := 28) rfl)
theorem wd29 {Z : State} {a0 : Array Value} (hw : ∀ d ∈ tables_1, d.before a0 Z = true) : (Jvm.Cond.instanceMethod ({ cls := "java/lang/String", name := "charAt", desc := "(I)C" } : Jvm.MethodName)).before a0 Z = true := hw _ (List.mem_of_getElem? (i := 29) rfl)
theorem wd30 {Z : State} {a0 : Array Value} (hw : ∀ d ∈ tables_1, d.before a0 Z = true) : (Jvm.Cond.selects "java/lang/String" ({ cls := "java/lang/String", name := "charAt", desc := "(I)C" } : Jvm.MethodName) ({ cls := "java/lang/String", name := "charAt", desc := "(I)C" } : Jvm.MethodName)).before a0 Z = true := hw _ (List.mem_of_getElem? (i := 30) rfl)
theorem wd49 {Z : State} {a0 : Array Value} (hw : ∀ d ∈ tables_1, d.before a0 Z = true) : (Jvm.Cond.methodLink "com/example/claimwire/claimwire/fpml/LimitReportStatusFromTextPinLaw" (31 : Nat) ({ cls := "com/example/claimwire/claimwire/fpml/LimitReportStatusFromTextPinLaw", name := "cut", desc := "([CI)Ljava/lang/String;" } : Jvm.MethodName)).before a0 Z = true := hw _ (List.mem_of_getElem? (i := 49) rfl)
theorem wd50 {Z : State} {a0 : Array Value} (hw : ∀ d ∈ tables_1, d.before a0 Z = true) : (Jvm.Cond.static ({ cls := "com/example/claimwire/claimwire/fpml/LimitReportStatusFromTextPinLaw", name := "cut", desc := "([CI)Ljava/lang/String;" } : Jvm.MethodName)).before a0 Z = true := hw _ (List.mem_of_getElem? (i := 50) rfl)
theorem wd51 {Z : State} {a0 : Array Value} (hw : ∀ d ∈ tables_1, d.before a0 Z = true) : (Jvm.Cond.code ({ cls := "com/example/claimwire/claimwire/fpml/LimitReportStatusFromTextPinLaw", name := "cut", desc := "([CI)Ljava/lang/String;" } : Jvm.MethodName) method_3_code (2 : Nat) (Option.some (Jvm.ClassFile.FieldType.object "java/lang/String"))).before a0 Z = true := hw _ (List.mem_of_getElem? (i := 51) rfl)
theorem wd52 {Z : State} {a0 : Array Value} (hw : ∀ d ∈ tables_1, d.before a0 Z = true) : (Jvm.Cond.classLink "com/example/claimwire/claimwire/fpml/LimitReportStatusFromTextPinLaw" (8 : Nat) "java/lang/String").before a0 Z = true := hw _ (List.mem_of_getElem? (i := 52) rfl)
theorem wd53 {Z : State} {a0 : Array Value} (hw : ∀ d ∈ tables_1, d.before a0 Z = true) : (Jvm.Cond.methodLink "com/example/claimwire/claimwire/fpml/LimitReportStatusFromTextPinLaw" (17 : Nat) ({ cls := "java/lang/String", name := "<init>", desc := "([C)V" } : Jvm.MethodName)).before a0 Z = true := hw _ (List.mem_of_getElem? (i := 53) rfl)
theorem wd54 {Z : State} {a0 : Array Value} (hw : ∀ d ∈ tables_1, d.before a0 Z = true) : (Jvm.Cond.instanceMethod ({ cls := "java/lang/String", name := "<init>", desc := "([C)V" } : Jvm.MethodName)).before a0 Z = true := hw _ (List.mem_of_getElem? (i := 54) rfl)
theorem wd55 {Z : State} {a0 : Array Value} (hw : ∀ d ∈ tables_1, d.before a0 Z = true) : (Jvm.Cond.code ({ cls := "java/lang/String", name := "<init>", desc := "([C)V" } : Jvm.MethodName) jdk_42_method_3_code (2 : Nat) (Option.none : Option Jvm.ClassFile.FieldType)).before a0 Z = true := hw _ (List.mem_of_getElem? (i := 55) rfl)
theorem wd56 {Z : State} {a0 : Array Value} (hw : ∀ d ∈ tables_1, d.before a0 Z = true) : (Jvm.Cond.methodLink "java/lang/String" (27 : Nat) ({ cls := "java/lang/String", name := "<init>", desc := "([CIILjava/lang/Void;)V" } : Jvm.MethodName)).before a0 Z = true := hw _ (List.mem_of_getElem? (i := 56) rfl)
theorem wd57 {Z : State} {a0 : Array Value} (hw : ∀ d ∈ tables_1, d.before a0 Z = true) : (Jvm.Cond.instanceMethod ({ cls := "java/lang/String", name := "<init>", desc := "([CIILjava/lang/Void;)V" } : Jvm.MethodName)).before a0 Z = true := hw _ (List.mem_of_getElem? (i := 57) rfl)
theorem wd59 {Z : State} {a0 : Array Value} (hw : ∀ d ∈ tables_1, d.before a0 Z = true) : (Jvm.Cond.code ({ cls := "java/lang/String", name := "<init>", desc := "([CIILjava/lang/Void;)V" } : Jvm.MethodName) jdk_42_method_149_code (6 : Nat) (Option.none : Option Jvm.ClassFile.FieldType)).before a0 Z = true := hw _ (List.mem_of_getElem? (i := 59) rfl)
theorem wd60 {Z : State} {a0 : Array Value} (hw : ∀ d ∈ tables_1, d.before a0 Z = true) : (Jvm.Cond.methodLink "java/lang/String" (1 : Nat) ({ cls := "java/lang/Object", name := "<init>", desc := "()V" } : Jvm.MethodName)).before a0 Z = true := hw _ (List.mem_of_getElem? (i := 60) rfl)
theorem wd61 {Z : State} {a0 : Array Value} (hw : ∀ d ∈ tables_1, d.before a0 Z = true) : (Jvm.Cond.instanceMethod ({ cls := "java/lang/Object", name := "<init>", desc := "()V" } : Jvm.MethodName)).before a0 Z = true := hw _ (List.mem_of_getElem? (i := 61) rfl)
theorem wd62 {Z : State} {a0 : Array Value} (hw : ∀ d ∈ tables_1, d.before a0 Z = true) : (Jvm.Cond.code ({ cls := "java/lang/Object", name := "<init>", desc := "()V" } : Jvm.MethodName) object_method_1_code (1 : Nat) (Option.none : Option Jvm.ClassFile.FieldType)).before a0 Z = true := hw _ (List.mem_of_getElem? (i := 62) rfl)
theorem wd73 {Z : State} {a0 : Array Value} (hw : ∀ d ∈ tables_1, d.before a0 Z = true) : (Jvm.Cond.methodLink "com/example/claimwire/claimwire/fpml/LimitReportStatusFromTextPinLaw" (35 : Nat) ({ cls := "com/example/claimwire/claimwire/fpml/LimitReportStatus", name := "fromText", desc := "(Ljava/lang/String;)Lcom/example/claimwire/claimwire/fpml/LimitReportStatus;" } : Jvm.MethodName)).before a0 Z = true := hw _ (List.mem_of_getElem? (i := 73) rfl)
theorem wd74 {Z : State} {a0 : Array Value} (hw : ∀ d ∈ tables_1, d.before a0 Z = true) : (Jvm.Cond.static ({ cls := "com/example/claimwire/claimwire/fpml/LimitReportStatus", name := "fromText", desc := "(Ljava/lang/String;)Lcom/example/claimwire/claimwire/fpml/LimitReportStatus;" } : Jvm.MethodName)).before a0 Z = true := hw _ (List.mem_of_getElem? (i := 74) rfl)
theorem wd75 {Z : State} {a0 : Array Value} (hw : ∀ d ∈ tables_1, d.before a0 Z = true) : (Jvm.Cond.initialized "com/example/claimwire/claimwire/fpml/LimitReportStatus").before a0 Z = true := hw _ (List.mem_of_getElem? (i := 75) rfl)
theorem wd76 {Z : State} {a0 : Array Value} (hw : ∀ d ∈ tables_1, d.before a0 Z = true) : (Jvm.Cond.code ({ cls := "com/example/claimwire/claimwire/fpml/LimitReportStatus", name := "fromText", desc := "(Ljava/lang/String;)Lcom/example/claimwire/claimwire/fpml/LimitReportStatus;" } : Jvm.MethodName) prog_44_method_5_code (5 : Nat) (Option.some (Jvm.ClassFile.FieldType.object "com/example/claimwire/claimwire/fpml/LimitReportStatus"))).before a0 Z = true := hw _ (List.mem_of_getElem? (i := 76) rfl)
theorem wd77 {Z : State} {a0 : Array Value} (hw : ∀ d ∈ tables_1, d.before a0 Z = true) : (Jvm.Cond.methodLink "com/example/claimwire/claimwire/fpml/LimitReportStatus" (33 : Nat) ({ cls := "com/example/claimwire/claimwire/fpml/LimitReportStatus", name := "values", desc := "()[Lcom/example/claimwire/claimwire/fpml/LimitReportStatus;" } : Jvm.MethodName)).before a0 Z = true := hw _ (List.mem_of_getElem? (i := 77) rfl)
theorem wd78 {Z : State} {a0 : Array Value} (hw : ∀ d ∈ tables_1, d.before a0 Z = true) : (Jvm.Cond.static ({ cls := "com/example/claimwire/claimwire/fpml/LimitReportStatus", name := "values", desc := "()[Lcom/example/claimwire/claimwire/fpml/LimitReportStatus;" } : Jvm.MethodName)).before a0 Z = true := hw _ (List.mem_of_getElem? (i := 78) rfl)
theorem wd79 {Z : State} {a0 : Array Value} (hw : ∀ d ∈ tables_1, d.before a0 Z = true) : (Jvm.Cond.code ({ cls := "com/example/claimwire/claimwire/fpml/LimitReportStatus", name := "values", desc := "()[Lcom/example/claimwire/claimwire/fpml/LimitReportStatus;" } : Jvm.MethodName) prog_44_method_1_code (0 : Nat) (Option.some (Jvm.ClassFile.FieldType.array (Jvm.ClassFile.FieldType.object "com/example/claimwire/claimwire/fpml/LimitReportStatus")))).before a0 Z = true := hw _ (List.mem_of_getElem? (i := 79) rfl)
theorem wd80 {Z : State} {a0 : Array Value} (hw : ∀ d ∈ tables_1, d.before a0 Z = true) : (Jvm.Cond.fieldLink "com/example/claimwire/claimwire/fpml/LimitReportStatus" (10 : Nat) "com/example/claimwire/claimwire/fpml/LimitReportStatus" "$VALUES" "[Lcom/example/claimwire/claimwire/fpml/LimitReportStatus;").before a0 Z = true := hw _ (List.mem_of_getElem? (i := 80) rfl)
theorem wd81 {Z : State} {a0 : Array Value} (hw : ∀ d ∈ tables_1, d.before a0 Z = true) : (Jvm.Cond.laysStatic "com/example/claimwire/claimwire/fpml/LimitReportStatus" "$VALUES" "[Lcom/example/claimwire/claimwire/fpml/LimitReportStatus;").before a0 Z = true := hw _ (List.mem_of_getElem? (i := 81) rfl)
theorem wd82 {Z : State} {a0 : Array Value} (hw : ∀ d ∈ tables_1, d.before a0 Z = true) : (Jvm.Cond.methodLink "com/example/claimwire/claimwire/fpml/LimitReportStatus" (14 : Nat) ({ cls := "[Lcom/example/claimwire/claimwire/fpml/LimitReportStatus;", name := "clone", desc := "()Ljava/lang/Object;" } : Jvm.MethodName)).before a0 Z = true := hw _ (List.mem_of_getElem? (i := 82) rfl)
theorem wd83 {Z : State} {a0 : Array Value} (hw : ∀ d ∈ tables_1, d.before a0 Z = true) : (Jvm.Cond.sameMethod "[Lcom/example/claimwire/claimwire/fpml/LimitReportStatus;" "java/lang/Object" "clone" "()Ljava/lang/Object;").before a0 Z = true := hw _ (List.mem_of_getElem? (i := 83) rfl)
theorem wd85 {Z : State} {a0 : Array Value} (hw : ∀ d ∈ tables_1, d.before a0 Z = true) : (Jvm.Cond.instanceMethod ({ cls := "java/lang/Object", name := "clone", desc := "()Ljava/lang/Object;" } : Jvm.MethodName)).before a0 Z = true := hw _ (List.mem_of_getElem? (i := 85) rfl)
theorem wd86 {Z : State} {a0 : Array Value} (hw : ∀ d ∈ tables_1, d.before a0 Z = true) : (Jvm.Cond.selects "[Lcom/example/claimwire/claimwire/fpml/LimitReportStatus;" ({ cls := "[Lcom/example/claimwire/claimwire/fpml/LimitReportStatus;", name := "clone", desc := "()Ljava/lang/Object;" } : Jvm.MethodName) ({ cls := "java/lang/Object", name := "clone", desc := "()Ljava/lang/Object;" } : Jvm.MethodName)).before a0 Z = true := hw _ (List.mem_of_getElem? (i := 86) rfl)
theorem wd87 {Z : State} {a0 : Array Value} (hw : ∀ d ∈ tables_1, d.before a0 Z = true) : (Jvm.Cond.native ({ cls := "java/lang/Object", name := "clone", desc := "()Ljava/lang/Object;" } : Jvm.MethodName)).before a0 Z = true := hw _ (List.mem_of_getElem? (i := 87) rfl)
theorem wd88 {Z : State} {a0 : Array Value} (hw : ∀ d ∈ tables_1, d.before a0 Z = true) : (Jvm.Cond.castable "[Lcom/example/claimwire/claimwire/fpml/LimitReportStatus;" "java/lang/Cloneable").before a0 Z = true := hw _ (List.mem_of_getElem? (i := 88) rfl)
theorem wd89 {Z : State} {a0 : Array Value} (hw : ∀ d ∈ tables_1, d.before a0 Z = true) : (Jvm.Cond.laysStatic "com/example/claimwire/claimwire/fpml/LimitReportStatus" "ACCEPTABLE" "Lcom/example/claimwire/claimwire/fpml/LimitReportStatus;").before a0 Z = true := hw _ (List.mem_of_getElem? (i := 89) rfl)
theorem wd90 {Z : State} {a0 : Array Value} (hw : ∀ d ∈ tables_1, d.before a0 Z = true) : (Jvm.Cond.laysStatic "com/example/claimwire/claimwire/fpml/LimitReportStatus" "EXCEEDED" "Lcom/example/claimwire/claimwire/fpml/LimitReportStatus;").before a0 Z = true := hw _ (List.mem_of_getElem? (i := 90) rfl)
theorem wd92 {Z : State} {a0 : Array Value} (hw : ∀ d ∈ tables_1, d.before a0 Z = true) : (Jvm.Cond.classLink "com/example/claimwire/claimwire/fpml/LimitReportStatus" (15 : Nat) "[Lcom/example/claimwire/claimwire/fpml/LimitReportStatus;").before a0 Z = true := hw _ (List.mem_of_getElem? (i := 92) rfl)
theorem wd94 {Z : State} {a0 : Array Value} (hw : ∀ d ∈ tables_1, d.before a0 Z = true) : (Jvm.Cond.fieldLink "com/example/claimwire/claimwire/fpml/LimitReportStatus" (29 : Nat) "com/example/claimwire/claimwire/fpml/LimitReportStatus" "text" "Ljava/lang/String;").before a0 Z = true := hw _ (List.mem_of_getElem? (i := 94) rfl)
theorem wd96 {Z : State} {a0 : Array Value} (hw : ∀ d ∈ tables_1, d.before a0 Z = true) : (Jvm.Cond.methodLink "com/example/claimwire/claimwire/fpml/LimitReportStatus" (37 : Nat) ({ cls := "java/lang/String", name := "equals", desc := "(Ljava/lang/Object;)Z" } : Jvm.MethodName)).before a0 Z = true := hw _ (List.mem_of_getElem? (i := 96) rfl)
theorem wd97 {Z : State} {a0 : Array Value} (hw : ∀ d ∈ tables_1, d.before a0 Z = true) : (Jvm.Cond.declares ({ cls := "java/lang/String", name := "equals", desc := "(Ljava/lang/Object;)Z" } : Jvm.MethodName)).before a0 Z = true := hw _ (List.mem_of_getElem? (i := 97) rfl)
theorem wd98 {Z : State} {a0 : Array Value} (hw : ∀ d ∈ tables_1, d.before a0 Z = true) : (Jvm.Cond.instanceMethod ({ cls := "java/lang/String", name := "equals", desc := "(Ljava/lang/Object;)Z" } : Jvm.MethodName)).before a0 Z = true := hw _ (List.mem_of_getElem? (i := 98) rfl)
theorem wd99 {Z : State} {a0 : Array Value} (hw : ∀ d ∈ tables_1, d.before a0 Z = true) : (Jvm.Cond.selects "java/lang/String" ({ cls := "java/lang/String", name := "equals", desc := "(Ljava/lang/Object;)Z" } : Jvm.MethodName) ({ cls := "java/lang/String", name := "equals", desc := "(Ljava/lang/Object;)Z" } : Jvm.MethodName)).before a0 Z = true := hw _ (List.mem_of_getElem? (i := 99) rfl)
theorem wd105 {Z : State} {a0 : Array Value} (hw : ∀ d ∈ tables_1, d.before a0 Z = true) : (Jvm.Cond.methodLink "com/example/claimwire/claimwire/fpml/LimitReportStatusFromTextPinLaw" (41 : Nat) ({ cls := "java/lang/String", name := "equals", desc := "(Ljava/lang/Object;)Z" } : Jvm.MethodName)).before a0 Z = true := hw _ (List.mem_of_getElem? (i := 105) rfl)
theorem wd106 {Z : State} {a0 : Array Value} (hw : ∀ d ∈ tables_1, d.before a0 Z = true) : (Jvm.Cond.stringLink "com/example/claimwire/claimwire/fpml/LimitReportStatusFromTextPinLaw" (22 : Nat) "Exceeded").before a0 Z = true := hw _ (List.mem_of_getElem? (i := 106) rfl)
theorem wd107 {Z : State} {a0 : Array Value} (hw : ∀ d ∈ tables_1, d.before a0 Z = true) : (Jvm.Cond.fieldLink "com/example/claimwire/claimwire/fpml/LimitReportStatusFromTextPinLaw" (49 : Nat) "com/example/claimwire/claimwire/fpml/LimitReportStatus" "EXCEEDED" "Lcom/example/claimwire/claimwire/fpml/LimitReportStatus;").before a0 Z = true := hw _ (List.mem_of_getElem? (i := 107) rfl)
theorem wd108 {Z : State} {a0 : Array Value} (hw : ∀ d ∈ tables_1, d.before a0 Z = true) : (Jvm.Cond.fieldLink "com/example/claimwire/claimwire/fpml/LimitReportStatusFromTextPinLaw" (45 : Nat) "com/example/claimwire/claimwire/fpml/LimitReportStatus" "ACCEPTABLE" "Lcom/example/claimwire/claimwire/fpml/LimitReportStatus;").before a0 Z = true := hw _ (List.mem_of_getElem? (i := 108) rfl)
theorem wd109 {Z : State} {a0 : Array Value} (hw : ∀ d ∈ tables_1, d.before a0 Z = true) : (Jvm.Cond.stringLink "java/lang/String" (7 : Nat) "").before a0 Z = true := hw _ (List.mem_of_getElem? (i := 109) rfl)
theorem dc_jdk_42_method_149_code_0 : decode jdk_42_method_149_code 0 = .ok (.aload_n 0, 1) := by decide +kernel
theorem dc_jdk_42_method_149_code_1 : decode jdk_42_method_149_code 1 = .ok (.invokespecial 1, 3) := by decide +kernel
theorem dc_jdk_42_method_149_code_4 : decode jdk_42_method_149_code 4 = .ok (.iload_n 3, 1) := by decide +kernel
theorem dc_jdk_42_method_149_code_5 : decode jdk_42_method_149_code 5 = .ok (.ifCond .ne 22, 3) := by decide +kernel
theorem dc_jdk_42_method_149_code_8 : decode jdk_42_method_149_code 8 = .ok (.aload_n 0, 1) := by decide +kernel
theorem dc_jdk_42_method_149_code_9 : decode jdk_42_method_149_code 9 = .ok (.ldc 7, 2) := by decide +kernel
theorem dc_jdk_42_method_149_code_11 : decode jdk_42_method_149_code 11 = .ok (.getfield 9, 3) := by decide +kernel
theorem dc_jdk_42_method_149_code_14 : decode jdk_42_method_149_code 14 = .ok (.putfield 9, 3) := by decide +kernel
theorem dc_jdk_42_method_149_code_17 : decode jdk_42_method_149_code 17 = .ok (.aload_n 0, 1) := by decide +kernel
theorem dc_jdk_42_method_149_code_18 : decode jdk_42_method_149_code 18 = .ok (.ldc 7, 2) := by decide +kernel
theorem dc_jdk_42_method_149_code_20 : decode jdk_42_method_149_code 20 = .ok (.getfield 15, 3) := by decide +kernel
theorem dc_jdk_42_method_149_code_23 : decode jdk_42_method_149_code 23 = .ok (.putfield 15, 3) := by decide +kernel
theorem dc_jdk_42_method_149_code_26 : decode jdk_42_method_149_code 26 = .ok (.return_, 1) := by decide +kernel
theorem dc_jdk_42_method_3_code_0 : decode jdk_42_method_3_code 0 = .ok (.aload_n 0, 1) := by decide +kernel
theorem dc_jdk_42_method_3_code_1 : decode jdk_42_method_3_code 1 = .ok (.aload_n 1, 1) := by decide +kernel
theorem dc_jdk_42_method_3_code_2 : decode jdk_42_method_3_code 2 = .ok (.iconst 0, 1) := by decide +kernel
theorem dc_jdk_42_method_3_code_3 : decode jdk_42_method_3_code 3 = .ok (.aload_n 1, 1) := by decide +kernel
theorem dc_jdk_42_method_3_code_4 : decode jdk_42_method_3_code 4 = .ok (.arraylength, 1) := by decide +kernel
theorem dc_jdk_42_method_3_code_5 : decode jdk_42_method_3_code 5 = .ok (.aconst_null, 1) := by decide +kernel
theorem dc_jdk_42_method_3_code_6 : decode jdk_42_method_3_code 6 = .ok (.invokespecial 27, 3) := by decide +kernel
theorem dc_jdk_42_method_3_code_9 : decode jdk_42_method_3_code 9 = .ok (.return_, 1) := by decide +kernel
theorem dc_method_2_code_0 : decode method_2_code 0 = .ok (.iload_n 3, 1) := by decide +kernel
theorem dc_method_2_code_1 : decode method_2_code 1 = .ok (.ifCond .eq 11, 3) := by decide +kernel
theorem dc_method_2_code_12 : decode method_2_code 12 = .ok (.iload_n 1, 1) := by decide +kernel
theorem dc_method_2_code_13 : decode method_2_code 13 = .ok (.aload_n 0, 1) := by decide +kernel
theorem dc_method_2_code_14 : decode method_2_code 14 = .ok (.invokevirtual 7, 3) := by decide +kernel
theorem dc_method_2_code_17 : decode method_2_code 17 = .ok (.if_icmp .ge 9, 3) := by decide +kernel
theorem dc_method_2_code_26 : decode method_2_code 26 = .ok (.iload 5, 2) := by decide +kernel
theorem dc_method_2_code_28 : decode method_2_code 28 = .ok (.ireturn, 1) := by decide +kernel
theorem dc_method_2_code_20 : decode method_2_code 20 = .ok (.aload_n 0, 1) := by decide +kernel
theorem dc_method_2_code_21 : decode method_2_code 21 = .ok (.iload_n 1, 1) := by decide +kernel
theorem dc_method_2_code_22 : decode method_2_code 22 = .ok (.invokevirtual 13, 3) := by decide +kernel
theorem dc_method_2_code_25 : decode method_2_code 25 = .ok (.ireturn, 1) := by decide +kernel
theorem dc_method_2_code_4 : decode method_2_code 4 = .ok (.iload_n 1, 1) := by decide +kernel
theorem dc_method_2_code_5 : decode method_2_code 5 = .ok (.iload_n 2, 1) := by decide +kernel
theorem dc_method_2_code_6 : decode method_2_code 6 = .ok (.if_icmp .ne 6, 3) := by decide +kernel
theorem dc_method_2_code_9 : decode method_2_code 9 = .ok (.iload 4, 2) := by decide +kernel
theorem dc_method_2_code_11 : decode method_2_code 11 = .ok (.ireturn, 1) := by decide +kernel
theorem dc_method_3_code_0 : decode method_3_code 0 = .ok (.iload_n 1, 1) := by decide +kernel
theorem dc_method_3_code_1 : decode method_3_code 1 = .ok (.ifCond .ne 14, 3) := by decide +kernel
theorem dc_method_3_code_4 : decode method_3_code 4 = .ok (.new 8, 3) := by decide +kernel
theorem dc_method_3_code_7 : decode method_3_code 7 = .ok (.dup, 1) := by decide +kernel
theorem dc_method_3_code_8 : decode method_3_code 8 = .ok (.iconst 0, 1) := by decide +kernel
theorem dc_method_3_code_9 : decode method_3_code 9 = .ok (.newarray .char, 2) := by decide +kernel
theorem dc_method_3_code_11 : decode method_3_code 11 = .ok (.invokespecial 17, 3) := by decide +kernel
theorem dc_method_3_code_14 : decode method_3_code 14 = .ok (.areturn, 1) := by decide +kernel
theorem dc_method_3_code_15 : decode method_3_code 15 = .ok (.iload_n 1, 1) := by decide +kernel
theorem dc_method_3_code_16 : decode method_3_code 16 = .ok (.iconst 1, 1) := by decide +kernel
theorem dc_method_3_code_17 : decode method_3_code 17 = .ok (.if_icmp .ne 20, 3) := by decide +kernel
theorem dc_method_3_code_20 : decode method_3_code 20 = .ok (.new 8, 3) := by decide +kernel
theorem dc_method_3_code_23 : decode method_3_code 23 = .ok (.dup, 1) := by decide +kernel
theorem dc_method_3_code_24 : decode method_3_code 24 = .ok (.iconst 1, 1) := by decide +kernel
theorem dc_method_3_code_25 : decode method_3_code 25 = .ok (.newarray .char, 2) := by decide +kernel
theorem dc_method_3_code_27 : decode method_3_code 27 = .ok (.dup, 1) := by decide +kernel
theorem dc_method_3_code_28 : decode method_3_code 28 = .ok (.iconst 0, 1) := by decide +kernel
theorem dc_method_3_code_29 : decode method_3_code 29 = .ok (.aload_n 0, 1) := by decide +kernel
theorem dc_method_3_code_30 : decode method_3_code 30 = .ok (.iconst 0, 1) := by decide +kernel
theorem dc_method_3_code_31 : decode method_3_code 31 = .ok (.caload, 1) := by decide +kernel
theorem dc_method_3_code_32 : decode method_3_code 32 = .ok (.castore, 1) := by decide +kernel
theorem dc_method_3_code_33 : decode method_3_code 33 = .ok (.invokespecial 17, 3) := by decide +kernel
theorem dc_method_3_code_36 : decode method_3_code 36 = .ok (.areturn, 1) := by decide +kernel
theorem dc_method_3_code_37 : decode method_3_code 37 = .ok (.iload_n 1, 1) := by decide +kernel
theorem dc_method_3_code_38 : decode method_3_code 38 = .ok (.bipush 7, 2) := by decide +kernel
theorem dc_method_3_code_40 : decode method_3_code 40 = .ok (.if_icmp .ne 59, 3) := by decide +kernel
theorem dc_method_3_code_43 : decode method_3_code 43 = .ok (.new 8, 3) := by decide +kernel
theorem dc_method_3_code_46 : decode method_3_code 46 = .ok (.dup, 1) := by decide +kernel
theorem dc_method_3_code_47 : decode method_3_code 47 = .ok (.bipush 7, 2) := by decide +kernel
theorem dc_method_3_code_49 : decode method_3_code 49 = .ok (.newarray .char, 2) := by decide +kernel
theorem dc_method_3_code_51 : decode method_3_code 51 = .ok (.dup, 1) := by decide +kernel
theorem dc_method_3_code_52 : decode method_3_code 52 = .ok (.iconst 0, 1) := by decide +kernel
theorem dc_method_3_code_53 : decode method_3_code 53 = .ok (.aload_n 0, 1) := by decide +kernel
theorem dc_method_3_code_54 : decode method_3_code 54 = .ok (.iconst 0, 1) := by decide +kernel
theorem dc_method_3_code_55 : decode method_3_code 55 = .ok (.caload, 1) := by decide +kernel
theorem dc_method_3_code_56 : decode method_3_code 56 = .ok (.castore, 1) := by decide +kernel
theorem dc_method_3_code_57 : decode method_3_code 57 = .ok (.dup, 1) := by decide +kernel
theorem dc_method_3_code_58 : decode method_3_code 58 = .ok (.iconst 1, 1) := by decide +kernel
theorem dc_method_3_code_59 : decode method_3_code 59 = .ok (.aload_n 0, 1) := by decide +kernel
theorem dc_method_3_code_60 : decode method_3_code 60 = .ok (.iconst 1, 1) := by decide +kernel
theorem dc_method_3_code_61 : decode method_3_code 61 = .ok (.caload, 1) := by decide +kernel
theorem dc_method_3_code_62 : decode method_3_code 62 = .ok (.castore, 1) := by decide +kernel
theorem dc_method_3_code_63 : decode method_3_code 63 = .ok (.dup, 1) := by decide +kernel
theorem dc_method_3_code_64 : decode method_3_code 64 = .ok (.iconst 2, 1) := by decide +kernel
theorem dc_method_3_code_65 : decode method_3_code 65 = .ok (.aload_n 0, 1) := by decide +kernel
theorem dc_method_3_code_66 : decode method_3_code 66 = .ok (.iconst 2, 1) := by decide +kernel
theorem dc_method_3_code_67 : decode method_3_code 67 = .ok (.caload, 1) := by decide +kernel
theorem dc_method_3_code_68 : decode method_3_code 68 = .ok (.castore, 1) := by decide +kernel
theorem dc_method_3_code_69 : decode method_3_code 69 = .ok (.dup, 1) := by decide +kernel
theorem dc_method_3_code_70 : decode method_3_code 70 = .ok (.iconst 3, 1) := by decide +kernel
theorem dc_method_3_code_71 : decode method_3_code 71 = .ok (.aload_n 0, 1) := by decide +kernel
theorem dc_method_3_code_72 : decode method_3_code 72 = .ok (.iconst 3, 1) := by decide +kernel
theorem dc_method_3_code_73 : decode method_3_code 73 = .ok (.caload, 1) := by decide +kernel
theorem dc_method_3_code_74 : decode method_3_code 74 = .ok (.castore, 1) := by decide +kernel
theorem dc_method_3_code_75 : decode method_3_code 75 = .ok (.dup, 1) := by decide +kernel
theorem dc_method_3_code_76 : decode method_3_code 76 = .ok (.iconst 4, 1) := by decide +kernel
theorem dc_method_3_code_77 : decode method_3_code 77 = .ok (.aload_n 0, 1) := by decide +kernel
theorem dc_method_3_code_78 : decode method_3_code 78 = .ok (.iconst 4, 1) := by decide +kernel
theorem dc_method_3_code_79 : decode method_3_code 79 = .ok (.caload, 1) := by decide +kernel
theorem dc_method_3_code_80 : decode method_3_code 80 = .ok (.castore, 1) := by decide +kernel
theorem dc_method_3_code_81 : decode method_3_code 81 = .ok (.dup, 1) := by decide +kernel
theorem dc_method_3_code_82 : decode method_3_code 82 = .ok (.iconst 5, 1) := by decide +kernel
theorem dc_method_3_code_83 : decode method_3_code 83 = .ok (.aload_n 0, 1) := by decide +kernel
theorem dc_method_3_code_84 : decode method_3_code 84 = .ok (.iconst 5, 1) := by decide +kernel
theorem dc_method_3_code_85 : decode method_3_code 85 = .ok (.caload, 1) := by decide +kernel
theorem dc_method_3_code_86 : decode method_3_code 86 = .ok (.castore, 1) := by decide +kernel
theorem dc_method_3_code_87 : decode method_3_code 87 = .ok (.dup, 1) := by decide +kernel
theorem dc_method_3_code_88 : decode method_3_code 88 = .ok (.bipush 6, 2) := by decide +kernel
theorem dc_method_3_code_90 : decode method_3_code 90 = .ok (.aload_n 0, 1) := by decide +kernel
theorem dc_method_3_code_91 : decode method_3_code 91 = .ok (.bipush 6, 2) := by decide +kernel
theorem dc_method_3_code_93 : decode method_3_code 93 = .ok (.caload, 1) := by decide +kernel
theorem dc_method_3_code_94 : decode method_3_code 94 = .ok (.castore, 1) := by decide +kernel
theorem dc_method_3_code_95 : decode method_3_code 95 = .ok (.invokespecial 17, 3) := by decide +kernel
theorem dc_method_3_code_98 : decode method_3_code 98 = .ok (.areturn, 1) := by decide +kernel
theorem dc_method_3_code_99 : decode method_3_code 99 = .ok (.iload_n 1, 1) := by decide +kernel
theorem dc_method_3_code_100 : decode method_3_code 100 = .ok (.bipush 8, 2) := by decide +kernel
theorem dc_method_3_code_102 : decode method_3_code 102 = .ok (.if_icmp .ne 67, 3) := by decide +kernel
theorem dc_method_3_code_105 : decode method_3_code 105 = .ok (.new 8, 3) := by decide +kernel
theorem dc_method_3_code_108 : decode method_3_code 108 = .ok (.dup, 1) := by decide +kernel
theorem dc_method_3_code_109 : decode method_3_code 109 = .ok (.bipush 8, 2) := by decide +kernel
theorem dc_method_3_code_111 : decode method_3_code 111 = .ok (.newarray .char, 2) := by decide +kernel
theorem dc_method_3_code_113 : decode method_3_code 113 = .ok (.dup, 1) := by decide +kernel
theorem dc_method_3_code_114 : decode method_3_code 114 = .ok (.iconst 0, 1) := by decide +kernel
theorem dc_method_3_code_115 : decode method_3_code 115 = .ok (.aload_n 0, 1) := by decide +kernel
theorem dc_method_3_code_116 : decode method_3_code 116 = .ok (.iconst 0, 1) := by decide +kernel
theorem dc_method_3_code_117 : decode method_3_code 117 = .ok (.caload, 1) := by decide +kernel
theorem dc_method_3_code_118 : decode method_3_code 118 = .ok (.castore, 1) := by decide +kernel
theorem dc_method_3_code_119 : decode method_3_code 119 = .ok (.dup, 1) := by decide +kernel
theorem dc_method_3_code_120 : decode method_3_code 120 = .ok (.iconst 1, 1) := by decide +kernel
theorem dc_method_3_code_121 : decode method_3_code 121 = .ok (.aload_n 0, 1) := by decide +kernel
theorem dc_method_3_code_122 : decode method_3_code 122 = .ok (.iconst 1, 1) := by decide +kernel
theorem dc_method_3_code_123 : decode method_3_code 123 = .ok (.caload, 1) := by decide +kernel
theorem dc_method_3_code_124 : decode method_3_code 124 = .ok (.castore, 1) := by decide +kernel
theorem dc_method_3_code_125 : decode method_3_code 125 = .ok (.dup, 1) := by decide +kernel
theorem dc_method_3_code_126 : decode method_3_code 126 = .ok (.iconst 2, 1) := by decide +kernel
theorem dc_method_3_code_127 : decode method_3_code 127 = .ok (.aload_n 0, 1) := by decide +kernel
theorem dc_method_3_code_128 : decode method_3_code 128 = .ok (.iconst 2, 1) := by decide +kernel
theorem dc_method_3_code_129 : decode method_3_code 129 = .ok (.caload, 1) := by decide +kernel
theorem dc_method_3_code_130 : decode method_3_code 130 = .ok (.castore, 1) := by decide +kernel
theorem dc_method_3_code_131 : decode method_3_code 131 = .ok (.dup, 1) := by decide +kernel
theorem dc_method_3_code_132 : decode method_3_code 132 = .ok (.iconst 3, 1) := by decide +kernel
theorem dc_method_3_code_133 : decode method_3_code 133 = .ok (.aload_n 0, 1) := by decide +kernel
theorem dc_method_3_code_134 : decode method_3_code 134 = .ok (.iconst 3, 1) := by decide +kernel
theorem dc_method_3_code_135 : decode method_3_code 135 = .ok (.caload, 1) := by decide +kernel
theorem dc_method_3_code_136 : decode method_3_code 136 = .ok (.castore, 1) := by decide +kernel
theorem dc_method_3_code_137 : decode method_3_code 137 = .ok (.dup, 1) := by decide +kernel
theorem dc_method_3_code_138 : decode method_3_code 138 = .ok (.iconst 4, 1) := by decide +kernel
theorem dc_method_3_code_139 : decode method_3_code 139 = .ok (.aload_n 0, 1) := by decide +kernel
theorem dc_method_3_code_140 : decode method_3_code 140 = .ok (.iconst 4, 1) := by decide +kernel
theorem dc_method_3_code_141 : decode method_3_code 141 = .ok (.caload, 1) := by decide +kernel
theorem dc_method_3_code_142 : decode method_3_code 142 = .ok (.castore, 1) := by decide +kernel
theorem dc_method_3_code_143 : decode method_3_code 143 = .ok (.dup, 1) := by decide +kernel
theorem dc_method_3_code_144 : decode method_3_code 144 = .ok (.iconst 5, 1) := by decide +kernel
theorem dc_method_3_code_145 : decode method_3_code 145 = .ok (.aload_n 0, 1) := by decide +kernel
theorem dc_method_3_code_146 : decode method_3_code 146 = .ok (.iconst 5, 1) := by decide +kernel
theorem dc_method_3_code_147 : decode method_3_code 147 = .ok (.caload, 1) := by decide +kernel
theorem dc_method_3_code_148 : decode method_3_code 148 = .ok (.castore, 1) := by decide +kernel
theorem dc_method_3_code_149 : decode method_3_code 149 = .ok (.dup, 1) := by decide +kernel
theorem dc_method_3_code_150 : decode method_3_code 150 = .ok (.bipush 6, 2) := by decide +kernel
theorem dc_method_3_code_152 : decode method_3_code 152 = .ok (.aload_n 0, 1) := by decide +kernel
theorem dc_method_3_code_153 : decode method_3_code 153 = .ok (.bipush 6, 2) := by decide +kernel
theorem dc_method_3_code_155 : decode method_3_code 155 = .ok (.caload, 1) := by decide +kernel
theorem dc_method_3_code_156 : decode method_3_code 156 = .ok (.castore, 1) := by decide +kernel
theorem dc_method_3_code_157 : decode method_3_code 157 = .ok (.dup, 1) := by decide +kernel
theorem dc_method_3_code_158 : decode method_3_code 158 = .ok (.bipush 7, 2) := by decide +kernel
theorem dc_method_3_code_160 : decode method_3_code 160 = .ok (.aload_n 0, 1) := by decide +kernel
theorem dc_method_3_code_161 : decode method_3_code 161 = .ok (.bipush 7, 2) := by decide +kernel
theorem dc_method_3_code_163 : decode method_3_code 163 = .ok (.caload, 1) := by decide +kernel
theorem dc_method_3_code_164 : decode method_3_code 164 = .ok (.castore, 1) := by decide +kernel
theorem dc_method_3_code_165 : decode method_3_code 165 = .ok (.invokespecial 17, 3) := by decide +kernel
theorem dc_method_3_code_168 : decode method_3_code 168 = .ok (.areturn, 1) := by decide +kernel
theorem dc_method_3_code_169 : decode method_3_code 169 = .ok (.iload_n 1, 1) := by decide +kernel
theorem dc_method_3_code_170 : decode method_3_code 170 = .ok (.bipush 9, 2) := by decide +kernel
theorem dc_method_3_code_172 : decode method_3_code 172 = .ok (.if_icmp .ne 75, 3) := by decide +kernel
theorem dc_method_3_code_175 : decode method_3_code 175 = .ok (.new 8, 3) := by decide +kernel
theorem dc_method_3_code_178 : decode method_3_code 178 = .ok (.dup, 1) := by decide +kernel
theorem dc_method_3_code_179 : decode method_3_code 179 = .ok (.bipush 9, 2) := by decide +kernel
theorem dc_method_3_code_181 : decode method_3_code 181 = .ok (.newarray .char, 2) := by decide +kernel
theorem dc_method_3_code_183 : decode method_3_code 183 = .ok (.dup, 1) := by decide +kernel
theorem dc_method_3_code_184 : decode method_3_code 184 = .ok (.iconst 0, 1) := by decide +kernel
theorem dc_method_3_code_185 : decode method_3_code 185 = .ok (.aload_n 0, 1) := by decide +kernel
theorem dc_method_3_code_186 : decode method_3_code 186 = .ok (.iconst 0, 1) := by decide +kernel
theorem dc_method_3_code_187 : decode method_3_code 187 = .ok (.caload, 1) := by decide +kernel
theorem dc_method_3_code_188 : decode method_3_code 188 = .ok (.castore, 1) := by decide +kernel
theorem dc_method_3_code_189 : decode method_3_code 189 = .ok (.dup, 1) := by decide +kernel
theorem dc_method_3_code_190 : decode method_3_code 190 = .ok (.iconst 1, 1) := by decide +kernel
theorem dc_method_3_code_191 : decode method_3_code 191 = .ok (.aload_n 0, 1) := by decide +kernel
theorem dc_method_3_code_192 : decode method_3_code 192 = .ok (.iconst 1, 1) := by decide +kernel
theorem dc_method_3_code_193 : decode method_3_code 193 = .ok (.caload, 1) := by decide +kernel
theorem dc_method_3_code_194 : decode method_3_code 194 = .ok (.castore, 1) := by decide +kernel
theorem dc_method_3_code_195 : decode method_3_code 195 = .ok (.dup, 1) := by decide +kernel
theorem dc_method_3_code_196 : decode method_3_code 196 = .ok (.iconst 2, 1) := by decide +kernel
theorem dc_method_3_code_197 : decode method_3_code 197 = .ok (.aload_n 0, 1) := by decide +kernel
theorem dc_method_3_code_198 : decode method_3_code 198 = .ok (.iconst 2, 1) := by decide +kernel
theorem dc_method_3_code_199 : decode method_3_code 199 = .ok (.caload, 1) := by decide +kernel
theorem dc_method_3_code_200 : decode method_3_code 200 = .ok (.castore, 1) := by decide +kernel
theorem dc_method_3_code_201 : decode method_3_code 201 = .ok (.dup, 1) := by decide +kernel
theorem dc_method_3_code_202 : decode method_3_code 202 = .ok (.iconst 3, 1) := by decide +kernel
theorem dc_method_3_code_203 : decode method_3_code 203 = .ok (.aload_n 0, 1) := by decide +kernel
theorem dc_method_3_code_204 : decode method_3_code 204 = .ok (.iconst 3, 1) := by decide +kernel
theorem dc_method_3_code_205 : decode method_3_code 205 = .ok (.caload, 1) := by decide +kernel
theorem dc_method_3_code_206 : decode method_3_code 206 = .ok (.castore, 1) := by decide +kernel
theorem dc_method_3_code_207 : decode method_3_code 207 = .ok (.dup, 1) := by decide +kernel
theorem dc_method_3_code_208 : decode method_3_code 208 = .ok (.iconst 4, 1) := by decide +kernel
theorem dc_method_3_code_209 : decode method_3_code 209 = .ok (.aload_n 0, 1) := by decide +kernel
theorem dc_method_3_code_210 : decode method_3_code 210 = .ok (.iconst 4, 1) := by decide +kernel
theorem dc_method_3_code_211 : decode method_3_code 211 = .ok (.caload, 1) := by decide +kernel
theorem dc_method_3_code_212 : decode method_3_code 212 = .ok (.castore, 1) := by decide +kernel
theorem dc_method_3_code_213 : decode method_3_code 213 = .ok (.dup, 1) := by decide +kernel
theorem dc_method_3_code_214 : decode method_3_code 214 = .ok (.iconst 5, 1) := by decide +kernel
theorem dc_method_3_code_215 : decode method_3_code 215 = .ok (.aload_n 0, 1) := by decide +kernel
theorem dc_method_3_code_216 : decode method_3_code 216 = .ok (.iconst 5, 1) := by decide +kernel
theorem dc_method_3_code_217 : decode method_3_code 217 = .ok (.caload, 1) := by decide +kernel
theorem dc_method_3_code_218 : decode method_3_code 218 = .ok (.castore, 1) := by decide +kernel
theorem dc_method_3_code_219 : decode method_3_code 219 = .ok (.dup, 1) := by decide +kernel
theorem dc_method_3_code_220 : decode method_3_code 220 = .ok (.bipush 6, 2) := by decide +kernel
theorem dc_method_3_code_222 : decode method_3_code 222 = .ok (.aload_n 0, 1) := by decide +kernel
theorem dc_method_3_code_223 : decode method_3_code 223 = .ok (.bipush 6, 2) := by decide +kernel
theorem dc_method_3_code_225 : decode method_3_code 225 = .ok (.caload, 1) := by decide +kernel
theorem dc_method_3_code_226 : decode method_3_code 226 = .ok (.castore, 1) := by decide +kernel
theorem dc_method_3_code_227 : decode method_3_code 227 = .ok (.dup, 1) := by decide +kernel
theorem dc_method_3_code_228 : decode method_3_code 228 = .ok (.bipush 7, 2) := by decide +kernel
theorem dc_method_3_code_230 : decode method_3_code 230 = .ok (.aload_n 0, 1) := by decide +kernel
theorem dc_method_3_code_231 : decode method_3_code 231 = .ok (.bipush 7, 2) := by decide +kernel
theorem dc_method_3_code_233 : decode method_3_code 233 = .ok (.caload, 1) := by decide +kernel
theorem dc_method_3_code_234 : decode method_3_code 234 = .ok (.castore, 1) := by decide +kernel
theorem dc_method_3_code_235 : decode method_3_code 235 = .ok (.dup, 1) := by decide +kernel
theorem dc_method_3_code_236 : decode method_3_code 236 = .ok (.bipush 8, 2) := by decide +kernel
theorem dc_method_3_code_238 : decode method_3_code 238 = .ok (.aload_n 0, 1) := by decide +kernel
theorem dc_method_3_code_239 : decode method_3_code 239 = .ok (.bipush 8, 2) := by decide +kernel
theorem dc_method_3_code_241 : decode method_3_code 241 = .ok (.caload, 1) := by decide +kernel
theorem dc_method_3_code_242 : decode method_3_code 242 = .ok (.castore, 1) := by decide +kernel
theorem dc_method_3_code_243 : decode method_3_code 243 = .ok (.invokespecial 17, 3) := by decide +kernel
theorem dc_method_3_code_246 : decode method_3_code 246 = .ok (.areturn, 1) := by decide +kernel
theorem dc_method_3_code_247 : decode method_3_code 247 = .ok (.iload_n 1, 1) := by decide +kernel
theorem dc_method_3_code_248 : decode method_3_code 248 = .ok (.bipush 10, 2) := by decide +kernel
theorem dc_method_3_code_250 : decode method_3_code 250 = .ok (.if_icmp .ne 83, 3) := by decide +kernel
theorem dc_method_3_code_253 : decode method_3_code 253 = .ok (.new 8, 3) := by decide +kernel
theorem dc_method_3_code_256 : decode method_3_code 256 = .ok (.dup, 1) := by decide +kernel
theorem dc_method_3_code_257 : decode method_3_code 257 = .ok (.bipush 10, 2) := by decide +kernel
theorem dc_method_3_code_259 : decode method_3_code 259 = .ok (.newarray .char, 2) := by decide +kernel
theorem dc_method_3_code_261 : decode method_3_code 261 = .ok (.dup, 1) := by decide +kernel
theorem dc_method_3_code_262 : decode method_3_code 262 = .ok (.iconst 0, 1) := by decide +kernel
theorem dc_method_3_code_263 : decode method_3_code 263 = .ok (.aload_n 0, 1) := by decide +kernel
theorem dc_method_3_code_264 : decode method_3_code 264 = .ok (.iconst 0, 1) := by decide +kernel
theorem dc_method_3_code_265 : decode method_3_code 265 = .ok (.caload, 1) := by decide +kernel
theorem dc_method_3_code_266 : decode method_3_code 266 = .ok (.castore, 1) := by decide +kernel
theorem dc_method_3_code_267 : decode method_3_code 267 = .ok (.dup, 1) := by decide +kernel
theorem dc_method_3_code_268 : decode method_3_code 268 = .ok (.iconst 1, 1) := by decide +kernel
theorem dc_method_3_code_269 : decode method_3_code 269 = .ok (.aload_n 0, 1) := by decide +kernel
theorem dc_method_3_code_270 : decode method_3_code 270 = .ok (.iconst 1, 1) := by decide +kernel
theorem dc_method_3_code_271 : decode method_3_code 271 = .ok (.caload, 1) := by decide +kernel
theorem dc_method_3_code_272 : decode method_3_code 272 = .ok (.castore, 1) := by decide +kernel
theorem dc_method_3_code_273 : decode method_3_code 273 = .ok (.dup, 1) := by decide +kernel
theorem dc_method_3_code_274 : decode method_3_code 274 = .ok (.iconst 2, 1) := by decide +kernel
theorem dc_method_3_code_275 : decode method_3_code 275 = .ok (.aload_n 0, 1) := by decide +kernel
theorem dc_method_3_code_276 : decode method_3_code 276 = .ok (.iconst 2, 1) := by decide +kernel
theorem dc_method_3_code_277 : decode method_3_code 277 = .ok (.caload, 1) := by decide +kernel
theorem dc_method_3_code_278 : decode method_3_code 278 = .ok (.castore, 1) := by decide +kernel
theorem dc_method_3_code_279 : decode method_3_code 279 = .ok (.dup, 1) := by decide +kernel
theorem dc_method_3_code_280 : decode method_3_code 280 = .ok (.iconst 3, 1) := by decide +kernel
theorem dc_method_3_code_281 : decode method_3_code 281 = .ok (.aload_n 0, 1) := by decide +kernel
theorem dc_method_3_code_282 : decode method_3_code 282 = .ok (.iconst 3, 1) := by decide +kernel
theorem dc_method_3_code_283 : decode method_3_code 283 = .ok (.caload, 1) := by decide +kernel
theorem dc_method_3_code_284 : decode method_3_code 284 = .ok (.castore, 1) := by decide +kernel
theorem dc_method_3_code_285 : decode method_3_code 285 = .ok (.dup, 1) := by decide +kernel
theorem dc_method_3_code_286 : decode method_3_code 286 = .ok (.iconst 4, 1) := by decide +kernel
theorem dc_method_3_code_287 : decode method_3_code 287 = .ok (.aload_n 0, 1) := by decide +kernel
theorem dc_method_3_code_288 : decode method_3_code 288 = .ok (.iconst 4, 1) := by decide +kernel
theorem dc_method_3_code_289 : decode method_3_code 289 = .ok (.caload, 1) := by decide +kernel
theorem dc_method_3_code_290 : decode method_3_code 290 = .ok (.castore, 1) := by decide +kernel
theorem dc_method_3_code_291 : decode method_3_code 291 = .ok (.dup, 1) := by decide +kernel
theorem dc_method_3_code_292 : decode method_3_code 292 = .ok (.iconst 5, 1) := by decide +kernel
theorem dc_method_3_code_293 : decode method_3_code 293 = .ok (.aload_n 0, 1) := by decide +kernel
theorem dc_method_3_code_294 : decode method_3_code 294 = .ok (.iconst 5, 1) := by decide +kernel
theorem dc_method_3_code_295 : decode method_3_code 295 = .ok (.caload, 1) := by decide +kernel
theorem dc_method_3_code_296 : decode method_3_code 296 = .ok (.castore, 1) := by decide +kernel
theorem dc_method_3_code_297 : decode method_3_code 297 = .ok (.dup, 1) := by decide +kernel
theorem dc_method_3_code_298 : decode method_3_code 298 = .ok (.bipush 6, 2) := by decide +kernel
theorem dc_method_3_code_300 : decode method_3_code 300 = .ok (.aload_n 0, 1) := by decide +kernel
theorem dc_method_3_code_301 : decode method_3_code 301 = .ok (.bipush 6, 2) := by decide +kernel
theorem dc_method_3_code_303 : decode method_3_code 303 = .ok (.caload, 1) := by decide +kernel
theorem dc_method_3_code_304 : decode method_3_code 304 = .ok (.castore, 1) := by decide +kernel
theorem dc_method_3_code_305 : decode method_3_code 305 = .ok (.dup, 1) := by decide +kernel
theorem dc_method_3_code_306 : decode method_3_code 306 = .ok (.bipush 7, 2) := by decide +kernel
theorem dc_method_3_code_308 : decode method_3_code 308 = .ok (.aload_n 0, 1) := by decide +kernel
theorem dc_method_3_code_309 : decode method_3_code 309 = .ok (.bipush 7, 2) := by decide +kernel
theorem dc_method_3_code_311 : decode method_3_code 311 = .ok (.caload, 1) := by decide +kernel
theorem dc_method_3_code_312 : decode method_3_code 312 = .ok (.castore, 1) := by decide +kernel
theorem dc_method_3_code_313 : decode method_3_code 313 = .ok (.dup, 1) := by decide +kernel
theorem dc_method_3_code_314 : decode method_3_code 314 = .ok (.bipush 8, 2) := by decide +kernel
theorem dc_method_3_code_316 : decode method_3_code 316 = .ok (.aload_n 0, 1) := by decide +kernel
theorem dc_method_3_code_317 : decode method_3_code 317 = .ok (.bipush 8, 2) := by decide +kernel
theorem dc_method_3_code_319 : decode method_3_code 319 = .ok (.caload, 1) := by decide +kernel
theorem dc_method_3_code_320 : decode method_3_code 320 = .ok (.castore, 1) := by decide +kernel
theorem dc_method_3_code_321 : decode method_3_code 321 = .ok (.dup, 1) := by decide +kernel
theorem dc_method_3_code_322 : decode method_3_code 322 = .ok (.bipush 9, 2) := by decide +kernel
theorem dc_method_3_code_324 : decode method_3_code 324 = .ok (.aload_n 0, 1) := by decide +kernel
theorem dc_method_3_code_325 : decode method_3_code 325 = .ok (.bipush 9, 2) := by decide +kernel
theorem dc_method_3_code_327 : decode method_3_code 327 = .ok (.caload, 1) := by decide +kernel
theorem dc_method_3_code_328 : decode method_3_code 328 = .ok (.castore, 1) := by decide +kernel
theorem dc_method_3_code_329 : decode method_3_code 329 = .ok (.invokespecial 17, 3) := by decide +kernel
theorem dc_method_3_code_332 : decode method_3_code 332 = .ok (.areturn, 1) := by decide +kernel
theorem dc_method_3_code_333 : decode method_3_code 333 = .ok (.new 8, 3) := by decide +kernel
theorem dc_method_3_code_336 : decode method_3_code 336 = .ok (.dup, 1) := by decide +kernel
theorem dc_method_3_code_337 : decode method_3_code 337 = .ok (.aload_n 0, 1) := by decide +kernel
theorem dc_method_3_code_338 : decode method_3_code 338 = .ok (.invokespecial 17, 3) := by decide +kernel
theorem dc_method_3_code_341 : decode method_3_code 341 = .ok (.areturn, 1) := by decide +kernel
theorem dc_prog_44_method_1_code_0 : decode prog_44_method_1_code 0 = .ok (.getstatic 10, 3) := by decide +kernel
theorem dc_prog_44_method_1_code_3 : decode prog_44_method_1_code 3 = .ok (.invokevirtual 14, 3) := by decide +kernel
theorem dc_prog_44_method_1_code_6 : decode prog_44_method_1_code 6 = .ok (.checkcast 15, 3) := by decide +kernel
theorem dc_prog_44_method_1_code_9 : decode prog_44_method_1_code 9 = .ok (.areturn, 1) := by decide +kernel
theorem dc_prog_44_method_5_code_0 : decode prog_44_method_5_code 0 = .ok (.invokestatic 33, 3) := by decide +kernel
theorem dc_prog_44_method_5_code_3 : decode prog_44_method_5_code 3 = .ok (.astore_n 1, 1) := by decide +kernel
theorem dc_prog_44_method_5_code_4 : decode prog_44_method_5_code 4 = .ok (.aload_n 1, 1) := by decide +kernel
theorem dc_prog_44_method_5_code_5 : decode prog_44_method_5_code 5 = .ok (.arraylength, 1) := by decide +kernel
theorem dc_prog_44_method_5_code_6 : decode prog_44_method_5_code 6 = .ok (.istore_n 2, 1) := by decide +kernel
theorem dc_prog_44_method_5_code_7 : decode prog_44_method_5_code 7 = .ok (.iconst 0, 1) := by decide +kernel
theorem dc_prog_44_method_5_code_8 : decode prog_44_method_5_code 8 = .ok (.istore_n 3, 1) := by decide +kernel
theorem dc_prog_44_method_5_code_9 : decode prog_44_method_5_code 9 = .ok (.iload_n 3, 1) := by decide +kernel
theorem dc_prog_44_method_5_code_10 : decode prog_44_method_5_code 10 = .ok (.iload_n 2, 1) := by decide +kernel
theorem dc_prog_44_method_5_code_11 : decode prog_44_method_5_code 11 = .ok (.if_icmp .ge 29, 3) := by decide +kernel
theorem dc_prog_44_method_5_code_14 : decode prog_44_method_5_code 14 = .ok (.aload_n 1, 1) := by decide +kernel
theorem dc_prog_44_method_5_code_15 : decode prog_44_method_5_code 15 = .ok (.iload_n 3, 1) := by decide +kernel
theorem dc_prog_44_method_5_code_16 : decode prog_44_method_5_code 16 = .ok (.aaload, 1) := by decide +kernel
theorem dc_prog_44_method_5_code_17 : decode prog_44_method_5_code 17 = .ok (.astore 4, 2) := by decide +kernel
theorem dc_prog_44_method_5_code_19 : decode prog_44_method_5_code 19 = .ok (.aload 4, 2) := by decide +kernel
theorem dc_prog_44_method_5_code_21 : decode prog_44_method_5_code 21 = .ok (.getfield 29, 3) := by decide +kernel
theorem dc_prog_44_method_5_code_24 : decode prog_44_method_5_code 24 = .ok (.aload_n 0, 1) := by decide +kernel
theorem dc_prog_44_method_5_code_25 : decode prog_44_method_5_code 25 = .ok (.invokevirtual 37, 3) := by decide +kernel
theorem dc_prog_44_method_5_code_28 : decode prog_44_method_5_code 28 = .ok (.ifCond .eq 6, 3) := by decide +kernel
theorem dc_prog_44_method_5_code_31 : decode prog_44_method_5_code 31 = .ok (.aload 4, 2) := by decide +kernel
theorem dc_prog_44_method_5_code_33 : decode prog_44_method_5_code 33 = .ok (.areturn, 1) := by decide +kernel
theorem dc_prog_44_method_5_code_34 : decode prog_44_method_5_code 34 = .ok (.iinc 3 1, 3) := by decide +kernel
theorem dc_prog_44_method_5_code_37 : decode prog_44_method_5_code 37 = .ok (.goto (-28), 3) := by decide +kernel
theorem dc_prog_44_method_5_code_40 : decode prog_44_method_5_code 40 = .ok (.aconst_null, 1) := by decide +kernel
theorem dc_prog_44_method_5_code_41 : decode prog_44_method_5_code 41 = .ok (.areturn, 1) := by decide +kernel
theorem pd_0 : parseMethodDescriptor "([CIILjava/lang/Void;)V" = some ⟨[(.array .char), .int, .int, (.object "java/lang/Void")], none⟩ := by decide +kernel
theorem pd_1 : parseMethodDescriptor "([C)V" = some ⟨[(.array .char)], none⟩ := by decide +kernel
theorem pd_2 : parseMethodDescriptor "()[Lcom/example/claimwire/claimwire/fpml/LimitReportStatus;" = some ⟨[], some (.array (.object "com/example/claimwire/claimwire/fpml/LimitReportStatus"))⟩ := by decide +kernel
theorem pd_3 : parseMethodDescriptor "(Ljava/lang/String;IIZCC)C" = some ⟨[(.object "java/lang/String"), .int, .int, .boolean, .char, .char], some .char⟩ := by decide +kernel
theorem pd_4 : parseMethodDescriptor "([CI)Ljava/lang/String;" = some ⟨[(.array .char), .int], some (.object "java/lang/String")⟩ := by decide +kernel
theorem pd_5 : parseMethodDescriptor "(Ljava/lang/String;)Lcom/example/claimwire/claimwire/fpml/LimitReportStatus;" = some ⟨[(.object "java/lang/String")], some (.object "com/example/claimwire/claimwire/fpml/LimitReportStatus")⟩ := by decide +kernel
theorem pn_0 : plainName "java/lang/String" = true := by first | (simp [plainName, overriddenIn]; done) | decide +kernel
theorem pn_1 : plainName "com/example/claimwire/claimwire/fpml/LimitReportStatusFromTextPinLaw" = true := by first | (simp [plainName, overriddenIn]; done) | decide +kernel
theorem pn_2 : plainName "com/example/claimwire/claimwire/fpml/LimitReportStatus" = true := by first | (simp [plainName, overriddenIn]; done) | decide +kernel
set_option maxRecDepth 65536 in
set_option maxHeartbeats 40000000 in
theorem c_str4e (l : Launch) (Z : State) (a0 : Array Value) (hw : ∀ d ∈ tables_1, d.before a0 Z = true) (hEL : EW Z a0 [("com/example/claimwire/claimwire/fpml/LimitReportStatusFromTextPinLaw", 20), ("com/example/claimwire/claimwire/fpml/LimitReportStatusFromTextPinLaw", 22), ("java/lang/String", 7)]) (h0 : Heap) (hE0 : Ext Z.heap h0) (x b : Addr) (E_x : Exa Z h0 x "java/lang/String") (FV : Fld Z h0 x "java/lang/String" "value" "[B" .null) (FC : Fld Z h0 x "java/lang/String" "coder" "B" (.int 0)) (z_x : Z.heap.size ≤ x) :
    Con l Z [("com/example/claimwire/claimwire/fpml/LimitReportStatusFromTextPinLaw", 20), ("com/example/claimwire/claimwire/fpml/LimitReportStatusFromTextPinLaw", 22), ("java/lang/String", 7)] [x] (⟨"java/lang/String", "<init>", "([CIILjava/lang/Void;)V"⟩ : MethodName) jdk_42_method_149_code 6 none [] ({ frames := 1, cells := 4, slots := 8, locals := 14 } : Room) #[(.ref x), (.ref b), (.int (0 : Int32)), (.int (0 : Int32)), .null] h0 (fun v h' => v = none ∧ Keep h0 h' [x] ∧ Str Z h' x []) := by
  refine Con.mk (plainFor_of_name pn_0) hEL hE0 (allS E_x.lt all0) ?_
  intro p e s m below meth c T0 hby hml hret hnm W0
  rw [(show entryFrame m #[(.ref x), (.ref b), (.int (0 : Int32)), (.int (0 : Int32)), .null] 6 = mkF m 0 #[.val (.ref x), .val (.ref b), .val (.int (0 : Int32)), .val (.int (0 : Int32)), .val .null, .unset] [] from by first | (simp [entryFrame, mkF, argsToLocals, Value.category]; done) | rfl)]
  refine Go.by (fun t9_ q9_ => XS.aloadN W0.here W0.hx rfl (hb hby dc_jdk_42_method_149_code_0) rfl rfl q9_) ?_
  show Go p e below s Z [("com/example/claimwire/claimwire/fpml/LimitReportStatusFromTextPinLaw", 20), ("com/example/claimwire/claimwire/fpml/LimitReportStatusFromTextPinLaw", 22), ("java/lang/String", 7)] _ _ _ (T0.setTop (mkF m 1 #[.val (.ref x), .val (.ref b), .val (.int (0 : Int32)), .val (.int (0 : Int32)), .val .null, .unset] [(.ref x)]))
  refine W0.initO (wd60 hw) (wd61 hw) (wd62 hw) (by rw [hml]; rfl) (hb hby dc_jdk_42_method_149_code_1) (by decide) (Wt := 0) (Nat.le_of_eq rfl) (by decide) ?_
  intro T1 W2
  show Go p e below s Z [("com/example/claimwire/claimwire/fpml/LimitReportStatusFromTextPinLaw", 20), ("com/example/claimwire/claimwire/fpml/LimitReportStatusFromTextPinLaw", 22), ("java/lang/String", 7)] _ _ _ (T1.setTop (mkF m 4 #[.val (.ref x), .val (.ref b), .val (.int (0 : Int32)), .val (.int (0 : Int32)), .val .null, .unset] []))
  refine Go.by (fun t9_ q9_ => XS.iloadN W2.here W2.hx rfl (hb hby dc_jdk_42_method_149_code_4) rfl q9_) ?_
  show Go p e below s Z [("com/example/claimwire/claimwire/fpml/LimitReportStatusFromTextPinLaw", 20), ("com/example/claimwire/claimwire/fpml/LimitReportStatusFromTextPinLaw", 22), ("java/lang/String", 7)] _ _ _ (T1.setTop (mkF m 5 #[.val (.ref x), .val (.ref b), .val (.int (0 : Int32)), .val (.int (0 : Int32)), .val .null, .unset] [(.int (0 : Int32))]))
  refine Go.by (fun t9_ q9_ => XS.ifNo W2.here W2.hx rfl (hb hby dc_jdk_42_method_149_code_5) rfl ((if0 _ _).trans (teq rfl).2) q9_) ?_
  show Go p e below s Z [("com/example/claimwire/claimwire/fpml/LimitReportStatusFromTextPinLaw", 20), ("com/example/claimwire/claimwire/fpml/LimitReportStatusFromTextPinLaw", 22), ("java/lang/String", 7)] _ _ _ (T1.setTop (mkF m 8 #[.val (.ref x), .val (.ref b), .val (.int (0 : Int32)), .val (.int (0 : Int32)), .val .null, .unset] []))
  refine Go.by (fun t9_ q9_ => XS.aloadN W2.here W2.hx rfl (hb hby dc_jdk_42_method_149_code_8) rfl rfl q9_) ?_
  show Go p e below s Z [("com/example/claimwire/claimwire/fpml/LimitReportStatusFromTextPinLaw", 20), ("com/example/claimwire/claimwire/fpml/LimitReportStatusFromTextPinLaw", 22), ("java/lang/String", 7)] _ _ _ (T1.setTop (mkF m 9 #[.val (.ref x), .val (.ref b), .val (.int (0 : Int32)), .val (.int (0 : Int32)), .val .null, .unset] [(.ref x)]))
  refine W2.ldcC (cs := []) (wd109 hw) (k_sa hw) (List.mem_of_getElem? (i := 2) rfl) ⟨by decide +kernel, by decide +kernel⟩ (by decide) (by decide) (by decide) (hb hby dc_jdk_42_method_149_code_9) (q := 0) (by decide +kernel) (by decide) (k' := 2) (n' := 4) rfl rfl (by decide) (by decide) ?_
  intro T3 h4 d1 W5 E6 S_d1 ne_d1
  show Go p e below s Z [("com/example/claimwire/claimwire/fpml/LimitReportStatusFromTextPinLaw", 20), ("com/example/claimwire/claimwire/fpml/LimitReportStatusFromTextPinLaw", 22), ("java/lang/String", 7)] _ _ _ (T3.setTop (mkF m 11 #[.val (.ref x), .val (.ref b), .val (.int (0 : Int32)), .val (.int (0 : Int32)), .val .null, .unset] [(.ref d1), (.ref x)]))
  obtain ⟨t1, kb1, cd1, N1, vs1, s1, s2, s3, s4, s5, s6⟩ := S_d1
  have ne1 : t1 ≠ x := Ne.symm (Exa.neArv (E_x.ext E6) s4 (wd2 hw))
  refine W5.getf (host := "") (Or.inl (wd19 hw)) Via.refl s2 (hb hby dc_jdk_42_method_149_code_11) ?_
  intro T7 W8
  show Go p e below s Z [("com/example/claimwire/claimwire/fpml/LimitReportStatusFromTextPinLaw", 20), ("com/example/claimwire/claimwire/fpml/LimitReportStatusFromTextPinLaw", 22), ("java/lang/String", 7)] _ _ _ (T7.setTop (mkF m 14 #[.val (.ref x), .val (.ref b), .val (.int (0 : Int32)), .val (.int (0 : Int32)), .val .null, .unset] [(.ref t1), (.ref x)]))
  refine W8.putf (host := "") (Or.inl (wd19 hw)) Via.refl (FV.ext E6) (E_x.ext E6) (Or.inr ⟨(wd4 hw), rfl, hnm⟩) (wd2 hw) (ty := (.array .byte)) (by decide) rfl rfl z_x (List.mem_of_getElem? (i := 0) rfl) (hb hby dc_jdk_42_method_149_code_14) ?_
  intro T9 h10 W11 Wr12
  have F13 : Fld Z h10 x "java/lang/String" "value" "[B" (.ref t1) := (FV.ext E6).same Wr12
  have F14 : Fld Z h10 x "java/lang/String" "coder" "B" (.int 0) := (FC.ext E6).other Wr12 (Or.inr (slot_ne (Or.inr (wd5 hw)) (Or.inr (wd4 hw)) (by decide) (t := .byte) (t' := (.array .byte)) (by decide) (by decide)))
  have A15 : Exa Z h10 x "java/lang/String" := (E_x.ext E6).wr Wr12
  show Go p e below s Z [("com/example/claimwire/claimwire/fpml/LimitReportStatusFromTextPinLaw", 20), ("com/example/claimwire/claimwire/fpml/LimitReportStatusFromTextPinLaw", 22), ("java/lang/String", 7)] _ _ _ (T9.setTop (mkF m 17 #[.val (.ref x), .val (.ref b), .val (.int (0 : Int32)), .val (.int (0 : Int32)), .val .null, .unset] []))
  refine Go.by (fun t9_ q9_ => XS.aloadN W11.here W11.hx rfl (hb hby dc_jdk_42_method_149_code_17) rfl rfl q9_) ?_
  show Go p e below s Z [("com/example/claimwire/claimwire/fpml/LimitReportStatusFromTextPinLaw", 20), ("com/example/claimwire/claimwire/fpml/LimitReportStatusFromTextPinLaw", 22), ("java/lang/String", 7)] _ _ _ (T9.setTop (mkF m 18 #[.val (.ref x), .val (.ref b), .val (.int (0 : Int32)), .val (.int (0 : Int32)), .val .null, .unset] [(.ref x)]))
  refine W11.ldcC (cs := []) (wd109 hw) (k_sa hw) (List.mem_of_getElem? (i := 2) rfl) ⟨by decide +kernel, by decide +kernel⟩ (by decide) (by decide) (by decide) (hb hby dc_jdk_42_method_149_code_18) (q := 0) (by decide +kernel) (by decide) (k' := 4) (n' := 8) rfl rfl (by decide) (by decide) ?_
  intro T16 h17 d2 W18 E19 S_d2 ne_d2
  show Go p e below s Z [("com/example/claimwire/claimwire/fpml/LimitReportStatusFromTextPinLaw", 20), ("com/example/claimwire/claimwire/fpml/LimitReportStatusFromTextPinLaw", 22), ("java/lang/String", 7)] _ _ _ (T16.setTop (mkF m 20 #[.val (.ref x), .val (.ref b), .val (.int (0 : Int32)), .val (.int (0 : Int32)), .val .null, .unset] [(.ref d2), (.ref x)]))
  obtain ⟨t2, kb2, cd2, N2, vs2, u1, u2, u3, u4, u5, u6⟩ := S_d2
  obtain ⟨rfl, -⟩ : cd2 = 0 ∧ True := by rcases u5 with ⟨q, -⟩ | ⟨-, -, -, c, hc, -⟩; exact ⟨q, trivial⟩; cases hc
  refine W18.getf (host := "") (Or.inl (wd26 hw)) Via.refl u3 (hb hby dc_jdk_42_method_149_code_20) ?_
  intro T20 W21
  show Go p e below s Z [("com/example/claimwire/claimwire/fpml/LimitReportStatusFromTextPinLaw", 20), ("com/example/claimwire/claimwire/fpml/LimitReportStatusFromTextPinLaw", 22), ("java/lang/String", 7)] _ _ _ (T20.setTop (mkF m 23 #[.val (.ref x), .val (.ref b), .val (.int (0 : Int32)), .val (.int (0 : Int32)), .val .null, .unset] [(.int (0 : Int32)), (.ref x)]))
  refine W21.putf (host := "") (Or.inl (wd26 hw)) Via.refl (F14.ext E19) (A15.ext E19) (Or.inr ⟨(wd5 hw), rfl, hnm⟩) (wd2 hw) (ty := .byte) (by decide) rfl rfl z_x (List.mem_of_getElem? (i := 0) rfl) (hb hby dc_jdk_42_method_149_code_23) ?_
  intro T22 h23 W24 Wr25
  have F26 : Fld Z h23 x "java/lang/String" "coder" "B" (.int (0 : Int32)) := (F14.ext E19).same Wr25
  have F27 : Fld Z h23 x "java/lang/String" "value" "[B" (.ref t1) := (F13.ext E19).other Wr25 (Or.inr (slot_ne (Or.inr (wd4 hw)) (Or.inr (wd5 hw)) (by decide) (t := (.array .byte)) (t' := .byte) (by decide) (by decide)))
  have A28 : Exa Z h23 x "java/lang/String" := (A15.ext E19).wr Wr25
  show Go p e below s Z [("com/example/claimwire/claimwire/fpml/LimitReportStatusFromTextPinLaw", 20), ("com/example/claimwire/claimwire/fpml/LimitReportStatusFromTextPinLaw", 22), ("java/lang/String", 7)] _ _ _ (T22.setTop (mkF m 26 #[.val (.ref x), .val (.ref b), .val (.int (0 : Int32)), .val (.int (0 : Int32)), .val .null, .unset] []))
  exact W24.retV (by decide) (by decide) hret (hb hby dc_jdk_42_method_149_code_26) ⟨rfl, (((((Keep.refl h0 [x]).ext E6).wr Wr12 (Or.inl (List.mem_of_getElem? (i := 0) rfl))).ext E19).wr Wr25 (Or.inl (List.mem_of_getElem? (i := 0) rfl))), ⟨t1, kb1, 0, N1, vs1, A28, F27, F26, (((s4.other Wr12 ne1).ext E19).other Wr25 ne1), (by rcases s5 with ⟨-, q⟩ | ⟨-, -, -, c, hc, -⟩; exact Or.inl ⟨rfl, q⟩; cases hc), s6⟩⟩
set_option maxRecDepth 65536 in
set_option maxHeartbeats 40000000 in
theorem c_str1e (l : Launch) (Z : State) (a0 : Array Value) (hw : ∀ d ∈ tables_1, d.before a0 Z = true) (hEL : EW Z a0 [("com/example/claimwire/claimwire/fpml/LimitReportStatusFromTextPinLaw", 20), ("com/example/claimwire/claimwire/fpml/LimitReportStatusFromTextPinLaw", 22), ("java/lang/String", 7)]) (h0 : Heap) (hE0 : Ext Z.heap h0) (x b : Addr) (kb : ClassId) (vs : List Value) (dv : Value) (E_x : Exa Z h0 x "java/lang/String") (FV : Fld Z h0 x "java/lang/String" "value" "[B" .null) (FC : Fld Z h0 x "java/lang/String" "coder" "B" (.int 0)) (z_x : Z.heap.size ≤ x) (A_b : Arv Z h0 b kb .char 0 vs dv) :
    Con l Z [("com/example/claimwire/claimwire/fpml/LimitReportStatusFromTextPinLaw", 20), ("com/example/claimwire/claimwire/fpml/LimitReportStatusFromTextPinLaw", 22), ("java/lang/String", 7)] [x] (⟨"java/lang/String", "<init>", "([C)V"⟩ : MethodName) jdk_42_method_3_code 2 none [] ({ frames := 2, cells := 4, slots := 8, locals := 31 } : Room) #[(.ref x), (.ref b)] h0 (fun v h' => v = none ∧ Keep h0 h' [x] ∧ Str Z h' x []) := by
  refine Con.mk (plainFor_of_name pn_0) hEL hE0 (allS E_x.lt all0) ?_
  intro p e s m below meth c T0 hby hml hret hnm W0
  rw [(show entryFrame m #[(.ref x), (.ref b)] 2 = mkF m 0 #[.val (.ref x), .val (.ref b)] [] from by first | (simp [entryFrame, mkF, argsToLocals, Value.category]; done) | rfl)]
  refine Go.by (fun t9_ q9_ => XS.aloadN W0.here W0.hx rfl (hb hby dc_jdk_42_method_3_code_0) rfl rfl q9_) ?_
  show Go p e below s Z [("com/example/claimwire/claimwire/fpml/LimitReportStatusFromTextPinLaw", 20), ("com/example/claimwire/claimwire/fpml/LimitReportStatusFromTextPinLaw", 22), ("java/lang/String", 7)] _ _ _ (T0.setTop (mkF m 1 #[.val (.ref x), .val (.ref b)] [(.ref x)]))
  refine Go.by (fun t9_ q9_ => XS.aloadN W0.here W0.hx rfl (hb hby dc_jdk_42_method_3_code_1) rfl rfl q9_) ?_
  show Go p e below s Z [("com/example/claimwire/claimwire/fpml/LimitReportStatusFromTextPinLaw", 20), ("com/example/claimwire/claimwire/fpml/LimitReportStatusFromTextPinLaw", 22), ("java/lang/String", 7)] _ _ _ (T0.setTop (mkF m 2 #[.val (.ref x), .val (.ref b)] [(.ref b), (.ref x)]))
  refine Go.by (fun t9_ q9_ => XS.iconst W0.here W0.hx rfl (hb hby dc_jdk_42_method_3_code_2) q9_) ?_
  show Go p e below s Z [("com/example/claimwire/claimwire/fpml/LimitReportStatusFromTextPinLaw", 20), ("com/example/claimwire/claimwire/fpml/LimitReportStatusFromTextPinLaw", 22), ("java/lang/String", 7)] _ _ _ (T0.setTop (mkF m 3 #[.val (.ref x), .val (.ref b)] [(.int (0 : Int32)), (.ref b), (.ref x)]))
  refine Go.by (fun t9_ q9_ => XS.aloadN W0.here W0.hx rfl (hb hby dc_jdk_42_method_3_code_3) rfl rfl q9_) ?_
  show Go p e below s Z [("com/example/claimwire/claimwire/fpml/LimitReportStatusFromTextPinLaw", 20), ("com/example/claimwire/claimwire/fpml/LimitReportStatusFromTextPinLaw", 22), ("java/lang/String", 7)] _ _ _ (T0.setTop (mkF m 4 #[.val (.ref x), .val (.ref b)] [(.ref b), (.int (0 : Int32)), (.ref b), (.ref x)]))
  refine W0.alen A_b (hb hby dc_jdk_42_method_3_code_4) ?_
  show Go p e below s Z [("com/example/claimwire/claimwire/fpml/LimitReportStatusFromTextPinLaw", 20), ("com/example/claimwire/claimwire/fpml/LimitReportStatusFromTextPinLaw", 22), ("java/lang/String", 7)] _ _ _ (T0.setTop (mkF m 5 #[.val (.ref x), .val (.ref b)] [(.int (0 : Int32)), (.int (0 : Int32)), (.ref b), (.ref x)]))
  refine Go.by (fun t9_ q9_ => XS.aconstNull W0.here W0.hx rfl (hb hby dc_jdk_42_method_3_code_5) q9_) ?_
  show Go p e below s Z [("com/example/claimwire/claimwire/fpml/LimitReportStatusFromTextPinLaw", 20), ("com/example/claimwire/claimwire/fpml/LimitReportStatusFromTextPinLaw", 22), ("java/lang/String", 7)] _ _ _ (T0.setTop (mkF m 6 #[.val (.ref x), .val (.ref b)] [.null, (.int (0 : Int32)), (.int (0 : Int32)), (.ref b), (.ref x)]))
  refine W0.callI (y := (⟨"java/lang/String", "<init>", "([CIILjava/lang/Void;)V"⟩ : MethodName)) rfl (wd56 hw) (wd57 hw) (wd1 hw) (wd59 hw) (by decide) (a := x) (c_str4e l Z a0 hw hEL h0 hE0 x b E_x FV FC z_x) (allS (List.mem_of_getElem? (i := 0) rfl) all0) (by decide) (by decide) (k' := 4) (n' := 8) rfl rfl (by decide) (by decide) (by rw [hml]; rfl) (argsL := [(.ref b), (.int (0 : Int32)), (.int (0 : Int32)), .null]) (rest := []) (lenOf pd_0 rfl) rfl rfl (Wt := 0) (Nat.le_of_eq rfl) (hb hby dc_jdk_42_method_3_code_6) ?_
  intro v_ T29 h31 W30 hq_
  obtain ⟨rfl, K1, S1⟩ := hq_
  show Go p e below s Z [("com/example/claimwire/claimwire/fpml/LimitReportStatusFromTextPinLaw", 20), ("com/example/claimwire/claimwire/fpml/LimitReportStatusFromTextPinLaw", 22), ("java/lang/String", 7)] _ _ _ (T29.setTop (mkF m 9 #[.val (.ref x), .val (.ref b)] []))
  exact W30.retV (by decide) (by decide) hret (hb hby dc_jdk_42_method_3_code_9) ⟨rfl, K1, S1⟩
theorem getD_rng {bs : List Int32} (h : ∀ c ∈ bs, ¬ c < 0 ∧ ¬ (255 : Int32) < c) (i : Nat) : ¬ bs.getD i 0 < 0 ∧ ¬ (255 : Int32) < bs.getD i 0 := by
  by_cases hi : i < bs.length
  · have e : bs.getD i 0 = bs[i] := by simp [List.getD, hi]
    rw [e]; exact h _ (List.getElem_mem hi)
  · have e : bs.getD i 0 = 0 := by simp [List.getD, Nat.not_lt.mp hi]
    rw [e]; decide
theorem ofNat_lt {i n : Nat} (hi : i < 2 ^ 31) (hn : n < 2 ^ 31) (h : Int32.ofNat i < Int32.ofNat n) : i < n := by
  rw [Int32.lt_iff_toInt_lt, Int32.toInt_ofNat_small hi, Int32.toInt_ofNat_small hn] at h
  omega
def ftF (cs : List Int32) (e0 e1 : Addr) : Value := if cs = [65, 99, 99, 101, 112, 116, 97, 98, 108, 101] then .ref e0 else if cs = [69, 120, 99, 101, 101, 100, 101, 100] then .ref e1 else .null
theorem ftF_ref (cs : List Int32) (e0 e1 : Addr) : (ftF cs e0 e1).isRef = true := by unfold ftF; repeat' (first | rfl | split)

set_option maxRecDepth 65536 in
set_option maxHeartbeats 40000000 in
theorem c_ch (l : Launch) (Z : State) (a0 : Array Value) (hw : ∀ d ∈ tables_1, d.before a0 Z = true) (hEL : EW Z a0 [("com/example/claimwire/claimwire/fpml/LimitReportStatusFromTextPinLaw", 20), ("com/example/claimwire/claimwire/fpml/LimitReportStatusFromTextPinLaw", 22), ("java/lang/String", 7)]) (h0 : Heap) (hE0 : Ext Z.heap h0) (ba : Addr) (bs : List Int32) (i : Nat) (pp pt x y G1 : Int32) (fm : Value) (SG1 : Sta Z Z.heap "java/lang/String" "COMPACT_STRINGS" "Z" (.int G1)) (hG : ¬ G1 = 0) (SFM : Sta Z Z.heap "jdk/internal/util/Preconditions" "SIOOBE_FORMATTER" "Ljava/util/function/BiFunction;" fm) (rfm : fm.isRef = true) (SB : Str Z h0 ba bs) (hbs : ∀ c ∈ bs, ¬ c < 0 ∧ ¬ (255 : Int32) < c) (lb : bs.length ≤ 10) (hi : i ≤ 10) (hx : ¬ x < 0 ∧ ¬ (255 : Int32) < x) (hy : ¬ y < 0 ∧ ¬ (255 : Int32) < y) :
    Con l Z [("com/example/claimwire/claimwire/fpml/LimitReportStatusFromTextPinLaw", 20), ("com/example/claimwire/claimwire/fpml/LimitReportStatusFromTextPinLaw", 22), ("java/lang/String", 7)] [] (⟨"com/example/claimwire/claimwire/fpml/LimitReportStatusFromTextPinLaw", "ch", "(Ljava/lang/String;IIZCC)C"⟩ : MethodName) method_2_code 6 (some .char) [] ({ frames := 4, cells := 0, slots := 0, locals := 56 } : Room) #[(.ref ba), (.int (Int32.ofNat i)), (.int pp), (.int pt), (.int x), (.int y)] h0 (fun v h' => (∃ z, v = some (.int z) ∧ (¬ z < 0 ∧ ¬ (255 : Int32) < z)) ∧ h' = h0) := by
  refine Con.mk (plainFor_of_name pn_1) hEL hE0 (fun x hx => by cases hx) ?_
  intro p e s m below meth c T0 hby hml hret hnm W0
  rw [(show entryFrame m #[(.ref ba), (.int (Int32.ofNat i)), (.int pp), (.int pt), (.int x), (.int y)] 6 = mkF m 0 #[.val (.ref ba), .val (.int (Int32.ofNat i)), .val (.int pp), .val (.int pt), .val (.int x), .val (.int y)] [] from by first | (simp [entryFrame, mkF, argsToLocals, Value.category]; done) | rfl)]
  refine Go.by (fun t9_ q9_ => XS.iloadN W0.here W0.hx rfl (hb hby dc_method_2_code_0) rfl q9_) ?_
  show Go p e below s Z [("com/example/claimwire/claimwire/fpml/LimitReportStatusFromTextPinLaw", 20), ("com/example/claimwire/claimwire/fpml/LimitReportStatusFromTextPinLaw", 22), ("java/lang/String", 7)] _ _ _ (T0.setTop (mkF m 1 #[.val (.ref ba), .val (.int (Int32.ofNat i)), .val (.int pp), .val (.int pt), .val (.int x), .val (.int y)] [(.int pt)]))
  by_cases h1 : pt = (0 : Int32)
  · refine Go.by (fun t9_ q9_ => XS.ifYes W0.here W0.hx rfl (pc0 := 1) (pc' := 12) rfl (hb hby dc_method_2_code_1) rfl ((if0 _ _).trans (teq h1).1) (by decide) (by decide) q9_) ?_
    show Go p e below s Z [("com/example/claimwire/claimwire/fpml/LimitReportStatusFromTextPinLaw", 20), ("com/example/claimwire/claimwire/fpml/LimitReportStatusFromTextPinLaw", 22), ("java/lang/String", 7)] _ _ _ (T0.setTop (mkF m 12 #[.val (.ref ba), .val (.int (Int32.ofNat i)), .val (.int pp), .val (.int pt), .val (.int x), .val (.int y)] []))
    refine Go.by (fun t9_ q9_ => XS.iloadN W0.here W0.hx rfl (hb hby dc_method_2_code_12) rfl q9_) ?_
    show Go p e below s Z [("com/example/claimwire/claimwire/fpml/LimitReportStatusFromTextPinLaw", 20), ("com/example/claimwire/claimwire/fpml/LimitReportStatusFromTextPinLaw", 22), ("java/lang/String", 7)] _ _ _ (T0.setTop (mkF m 13 #[.val (.ref ba), .val (.int (Int32.ofNat i)), .val (.int pp), .val (.int pt), .val (.int x), .val (.int y)] [(.int (Int32.ofNat i))]))
    refine Go.by (fun t9_ q9_ => XS.aloadN W0.here W0.hx rfl (hb hby dc_method_2_code_13) rfl rfl q9_) ?_
    show Go p e below s Z [("com/example/claimwire/claimwire/fpml/LimitReportStatusFromTextPinLaw", 20), ("com/example/claimwire/claimwire/fpml/LimitReportStatusFromTextPinLaw", 22), ("java/lang/String", 7)] _ _ _ (T0.setTop (mkF m 14 #[.val (.ref ba), .val (.int (Int32.ofNat i)), .val (.int pp), .val (.int pt), .val (.int x), .val (.int y)] [(.ref ba), (.int (Int32.ofNat i))]))
    refine W0.strLen (k_len hw) (wd2 hw) (wd14 hw) (wd15 hw) (wd17 hw) (wd16 hw) SB (by omega) (SG1.ext W0.old) hG (by decide) (Wt := 1) (by decide) (by rw [hml]; rfl) (Nat.le_of_eq rfl) (by decide) (by decide) (hb hby dc_method_2_code_14) ?_
    intro T32 W33
    show Go p e below s Z [("com/example/claimwire/claimwire/fpml/LimitReportStatusFromTextPinLaw", 20), ("com/example/claimwire/claimwire/fpml/LimitReportStatusFromTextPinLaw", 22), ("java/lang/String", 7)] _ _ _ (T32.setTop (mkF m 17 #[.val (.ref ba), .val (.int (Int32.ofNat i)), .val (.int pp), .val (.int pt), .val (.int x), .val (.int y)] [(.int (Int32.ofNat bs.length)), (.int (Int32.ofNat i))]))
    by_cases hl34 : (Int32.ofNat i) < (Int32.ofNat bs.length)
    · refine Go.by (fun t9_ q9_ => XS.icmpNo W33.here W33.hx rfl (hb hby dc_method_2_code_17) rfl (tlt hl34).2.1 q9_) ?_
      show Go p e below s Z [("com/example/claimwire/claimwire/fpml/LimitReportStatusFromTextPinLaw", 20), ("com/example/claimwire/claimwire/fpml/LimitReportStatusFromTextPinLaw", 22), ("java/lang/String", 7)] _ _ _ (T32.setTop (mkF m 20 #[.val (.ref ba), .val (.int (Int32.ofNat i)), .val (.int pp), .val (.int pt), .val (.int x), .val (.int y)] []))
      refine Go.by (fun t9_ q9_ => XS.aloadN W33.here W33.hx rfl (hb hby dc_method_2_code_20) rfl rfl q9_) ?_
      show Go p e below s Z [("com/example/claimwire/claimwire/fpml/LimitReportStatusFromTextPinLaw", 20), ("com/example/claimwire/claimwire/fpml/LimitReportStatusFromTextPinLaw", 22), ("java/lang/String", 7)] _ _ _ (T32.setTop (mkF m 21 #[.val (.ref ba), .val (.int (Int32.ofNat i)), .val (.int pp), .val (.int pt), .val (.int x), .val (.int y)] [(.ref ba)]))
      refine Go.by (fun t9_ q9_ => XS.iloadN W33.here W33.hx rfl (hb hby dc_method_2_code_21) rfl q9_) ?_
      show Go p e below s Z [("com/example/claimwire/claimwire/fpml/LimitReportStatusFromTextPinLaw", 20), ("com/example/claimwire/claimwire/fpml/LimitReportStatusFromTextPinLaw", 22), ("java/lang/String", 7)] _ _ _ (T32.setTop (mkF m 22 #[.val (.ref ba), .val (.int (Int32.ofNat i)), .val (.int pp), .val (.int pt), .val (.int x), .val (.int y)] [(.int (Int32.ofNat i)), (.ref ba)]))
      refine W33.strCh (k_ch hw) (wd2 hw) (wd27 hw) (wd28 hw) (wd30 hw) (wd29 hw) SB (fun c hc => (hbs c hc).2) (by omega) (SG1.ext W33.old) hG (SFM.ext W33.old) rfm (i := i) (ofNat_lt (by omega) (by omega) hl34) rfl (by decide) (Wt := 0) (by decide) (by rw [hml]; rfl) (Nat.le_of_eq rfl) (by decide) (by decide) (hb hby dc_method_2_code_22) ?_
      intro T35 W36
      show Go p e below s Z [("com/example/claimwire/claimwire/fpml/LimitReportStatusFromTextPinLaw", 20), ("com/example/claimwire/claimwire/fpml/LimitReportStatusFromTextPinLaw", 22), ("java/lang/String", 7)] _ _ _ (T35.setTop (mkF m 25 #[.val (.ref ba), .val (.int (Int32.ofNat i)), .val (.int pp), .val (.int pt), .val (.int x), .val (.int y)] [(.int (bs.getD i 0))]))
      exact W36.retN (z' := (bs.getD i 0)) (by decide) (by decide) hret (by simp) (hb hby dc_method_2_code_25) (nar_id (up16 (getD_rng hbs i))) ⟨⟨_, rfl, getD_rng hbs i⟩, rfl⟩
    · refine Go.by (fun t9_ q9_ => XS.icmpYes W33.here W33.hx rfl (pc0 := 17) (pc' := 26) rfl (hb hby dc_method_2_code_17) rfl (flt hl34).2.1 (by decide) (by decide) q9_) ?_
      show Go p e below s Z [("com/example/claimwire/claimwire/fpml/LimitReportStatusFromTextPinLaw", 20), ("com/example/claimwire/claimwire/fpml/LimitReportStatusFromTextPinLaw", 22), ("java/lang/String", 7)] _ _ _ (T32.setTop (mkF m 26 #[.val (.ref ba), .val (.int (Int32.ofNat i)), .val (.int pp), .val (.int pt), .val (.int x), .val (.int y)] []))
      refine Go.by (fun t9_ q9_ => XS.iload W33.here W33.hx rfl (hb hby dc_method_2_code_26) rfl q9_) ?_
      show Go p e below s Z [("com/example/claimwire/claimwire/fpml/LimitReportStatusFromTextPinLaw", 20), ("com/example/claimwire/claimwire/fpml/LimitReportStatusFromTextPinLaw", 22), ("java/lang/String", 7)] _ _ _ (T32.setTop (mkF m 28 #[.val (.ref ba), .val (.int (Int32.ofNat i)), .val (.int pp), .val (.int pt), .val (.int x), .val (.int y)] [(.int y)]))
      exact W33.retN (z' := y) (by decide) (by decide) hret (by simp) (hb hby dc_method_2_code_28) (nar_id (up16 hy)) ⟨⟨_, rfl, hy⟩, rfl⟩
  · refine Go.by (fun t9_ q9_ => XS.ifNo W0.here W0.hx rfl (hb hby dc_method_2_code_1) rfl ((if0 _ _).trans (feq h1).1) q9_) ?_
    show Go p e below s Z [("com/example/claimwire/claimwire/fpml/LimitReportStatusFromTextPinLaw", 20), ("com/example/claimwire/claimwire/fpml/LimitReportStatusFromTextPinLaw", 22), ("java/lang/String", 7)] _ _ _ (T0.setTop (mkF m 4 #[.val (.ref ba), .val (.int (Int32.ofNat i)), .val (.int pp), .val (.int pt), .val (.int x), .val (.int y)] []))
    refine Go.by (fun t9_ q9_ => XS.iloadN W0.here W0.hx rfl (hb hby dc_method_2_code_4) rfl q9_) ?_
    show Go p e below s Z [("com/example/claimwire/claimwire/fpml/LimitReportStatusFromTextPinLaw", 20), ("com/example/claimwire/claimwire/fpml/LimitReportStatusFromTextPinLaw", 22), ("java/lang/String", 7)] _ _ _ (T0.setTop (mkF m 5 #[.val (.ref ba), .val (.int (Int32.ofNat i)), .val (.int pp), .val (.int pt), .val (.int x), .val (.int y)] [(.int (Int32.ofNat i))]))
    refine Go.by (fun t9_ q9_ => XS.iloadN W0.here W0.hx rfl (hb hby dc_method_2_code_5) rfl q9_) ?_
    show Go p e below s Z [("com/example/claimwire/claimwire/fpml/LimitReportStatusFromTextPinLaw", 20), ("com/example/claimwire/claimwire/fpml/LimitReportStatusFromTextPinLaw", 22), ("java/lang/String", 7)] _ _ _ (T0.setTop (mkF m 6 #[.val (.ref ba), .val (.int (Int32.ofNat i)), .val (.int pp), .val (.int pt), .val (.int x), .val (.int y)] [(.int pp), (.int (Int32.ofNat i))]))
    by_cases h2 : (Int32.ofNat i) = pp
    · refine Go.by (fun t9_ q9_ => XS.icmpNo W0.here W0.hx rfl (hb hby dc_method_2_code_6) rfl (teq h2).2 q9_) ?_
      show Go p e below s Z [("com/example/claimwire/claimwire/fpml/LimitReportStatusFromTextPinLaw", 20), ("com/example/claimwire/claimwire/fpml/LimitReportStatusFromTextPinLaw", 22), ("java/lang/String", 7)] _ _ _ (T0.setTop (mkF m 9 #[.val (.ref ba), .val (.int (Int32.ofNat i)), .val (.int pp), .val (.int pt), .val (.int x), .val (.int y)] []))
      refine Go.by (fun t9_ q9_ => XS.iload W0.here W0.hx rfl (hb hby dc_method_2_code_9) rfl q9_) ?_
      show Go p e below s Z [("com/example/claimwire/claimwire/fpml/LimitReportStatusFromTextPinLaw", 20), ("com/example/claimwire/claimwire/fpml/LimitReportStatusFromTextPinLaw", 22), ("java/lang/String", 7)] _ _ _ (T0.setTop (mkF m 11 #[.val (.ref ba), .val (.int (Int32.ofNat i)), .val (.int pp), .val (.int pt), .val (.int x), .val (.int y)] [(.int x)]))
      exact W0.retN (z' := x) (by decide) (by decide) hret (by simp) (hb hby dc_method_2_code_11) (nar_id (up16 hx)) ⟨⟨_, rfl, hx⟩, rfl⟩
    · refine Go.by (fun t9_ q9_ => XS.icmpYes W0.here W0.hx rfl (pc0 := 6) (pc' := 12) rfl (hb hby dc_method_2_code_6) rfl (feq h2).2 (by decide) (by decide) q9_) ?_
      show Go p e below s Z [("com/example/claimwire/claimwire/fpml/LimitReportStatusFromTextPinLaw", 20), ("com/example/claimwire/claimwire/fpml/LimitReportStatusFromTextPinLaw", 22), ("java/lang/String", 7)] _ _ _ (T0.setTop (mkF m 12 #[.val (.ref ba), .val (.int (Int32.ofNat i)), .val (.int pp), .val (.int pt), .val (.int x), .val (.int y)] []))
      refine Go.by (fun t9_ q9_ => XS.iloadN W0.here W0.hx rfl (hb hby dc_method_2_code_12) rfl q9_) ?_
      show Go p e below s Z [("com/example/claimwire/claimwire/fpml/LimitReportStatusFromTextPinLaw", 20), ("com/example/claimwire/claimwire/fpml/LimitReportStatusFromTextPinLaw", 22), ("java/lang/String", 7)] _ _ _ (T0.setTop (mkF m 13 #[.val (.ref ba), .val (.int (Int32.ofNat i)), .val (.int pp), .val (.int pt), .val (.int x), .val (.int y)] [(.int (Int32.ofNat i))]))
      refine Go.by (fun t9_ q9_ => XS.aloadN W0.here W0.hx rfl (hb hby dc_method_2_code_13) rfl rfl q9_) ?_
      show Go p e below s Z [("com/example/claimwire/claimwire/fpml/LimitReportStatusFromTextPinLaw", 20), ("com/example/claimwire/claimwire/fpml/LimitReportStatusFromTextPinLaw", 22), ("java/lang/String", 7)] _ _ _ (T0.setTop (mkF m 14 #[.val (.ref ba), .val (.int (Int32.ofNat i)), .val (.int pp), .val (.int pt), .val (.int x), .val (.int y)] [(.ref ba), (.int (Int32.ofNat i))]))
      refine W0.strLen (k_len hw) (wd2 hw) (wd14 hw) (wd15 hw) (wd17 hw) (wd16 hw) SB (by omega) (SG1.ext W0.old) hG (by decide) (Wt := 1) (by decide) (by rw [hml]; rfl) (Nat.le_of_eq rfl) (by decide) (by decide) (hb hby dc_method_2_code_14) ?_
      intro T37 W38
      show Go p e below s Z [("com/example/claimwire/claimwire/fpml/LimitReportStatusFromTextPinLaw", 20), ("com/example/claimwire/claimwire/fpml/LimitReportStatusFromTextPinLaw", 22), ("java/lang/String", 7)] _ _ _ (T37.setTop (mkF m 17 #[.val (.ref ba), .val (.int (Int32.ofNat i)), .val (.int pp), .val (.int pt), .val (.int x), .val (.int y)] [(.int (Int32.ofNat bs.length)), (.int (Int32.ofNat i))]))
      by_cases hl39 : (Int32.ofNat i) < (Int32.ofNat bs.length)
      · refine Go.by (fun t9_ q9_ => XS.icmpNo W38.here W38.hx rfl (hb hby dc_method_2_code_17) rfl (tlt hl39).2.1 q9_) ?_
        show Go p e below s Z [("com/example/claimwire/claimwire/fpml/LimitReportStatusFromTextPinLaw", 20), ("com/example/claimwire/claimwire/fpml/LimitReportStatusFromTextPinLaw", 22), ("java/lang/String", 7)] _ _ _ (T37.setTop (mkF m 20 #[.val (.ref ba), .val (.int (Int32.ofNat i)), .val (.int pp), .val (.int pt), .val (.int x), .val (.int y)] []))
        refine Go.by (fun t9_ q9_ => XS.aloadN W38.here W38.hx rfl (hb hby dc_method_2_code_20) rfl rfl q9_) ?_
        show Go p e below s Z [("com/example/claimwire/claimwire/fpml/LimitReportStatusFromTextPinLaw", 20), ("com/example/claimwire/claimwire/fpml/LimitReportStatusFromTextPinLaw", 22), ("java/lang/String", 7)] _ _ _ (T37.setTop (mkF m 21 #[.val (.ref ba), .val (.int (Int32.ofNat i)), .val (.int pp), .val (.int pt), .val (.int x), .val (.int y)] [(.ref ba)]))
        refine Go.by (fun t9_ q9_ => XS.iloadN W38.here W38.hx rfl (hb hby dc_method_2_code_21) rfl q9_) ?_
        show Go p e below s Z [("com/example/claimwire/claimwire/fpml/LimitReportStatusFromTextPinLaw", 20), ("com/example/claimwire/claimwire/fpml/LimitReportStatusFromTextPinLaw", 22), ("java/lang/String", 7)] _ _ _ (T37.setTop (mkF m 22 #[.val (.ref ba), .val (.int (Int32.ofNat i)), .val (.int pp), .val (.int pt), .val (.int x), .val (.int y)] [(.int (Int32.ofNat i)), (.ref ba)]))
        refine W38.strCh (k_ch hw) (wd2 hw) (wd27 hw) (wd28 hw) (wd30 hw) (wd29 hw) SB (fun c hc => (hbs c hc).2) (by omega) (SG1.ext W38.old) hG (SFM.ext W38.old) rfm (i := i) (ofNat_lt (by omega) (by omega) hl39) rfl (by decide) (Wt := 0) (by decide) (by rw [hml]; rfl) (Nat.le_of_eq rfl) (by decide) (by decide) (hb hby dc_method_2_code_22) ?_
        intro T40 W41
        show Go p e below s Z [("com/example/claimwire/claimwire/fpml/LimitReportStatusFromTextPinLaw", 20), ("com/example/claimwire/claimwire/fpml/LimitReportStatusFromTextPinLaw", 22), ("java/lang/String", 7)] _ _ _ (T40.setTop (mkF m 25 #[.val (.ref ba), .val (.int (Int32.ofNat i)), .val (.int pp), .val (.int pt), .val (.int x), .val (.int y)] [(.int (bs.getD i 0))]))
        exact W41.retN (z' := (bs.getD i 0)) (by decide) (by decide) hret (by simp) (hb hby dc_method_2_code_25) (nar_id (up16 (getD_rng hbs i))) ⟨⟨_, rfl, getD_rng hbs i⟩, rfl⟩
      · refine Go.by (fun t9_ q9_ => XS.icmpYes W38.here W38.hx rfl (pc0 := 17) (pc' := 26) rfl (hb hby dc_method_2_code_17) rfl (flt hl39).2.1 (by decide) (by decide) q9_) ?_
        show Go p e below s Z [("com/example/claimwire/claimwire/fpml/LimitReportStatusFromTextPinLaw", 20), ("com/example/claimwire/claimwire/fpml/LimitReportStatusFromTextPinLaw", 22), ("java/lang/String", 7)] _ _ _ (T37.setTop (mkF m 26 #[.val (.ref ba), .val (.int (Int32.ofNat i)), .val (.int pp), .val (.int pt), .val (.int x), .val (.int y)] []))
        refine Go.by (fun t9_ q9_ => XS.iload W38.here W38.hx rfl (hb hby dc_method_2_code_26) rfl q9_) ?_
        show Go p e below s Z [("com/example/claimwire/claimwire/fpml/LimitReportStatusFromTextPinLaw", 20), ("com/example/claimwire/claimwire/fpml/LimitReportStatusFromTextPinLaw", 22), ("java/lang/String", 7)] _ _ _ (T37.setTop (mkF m 28 #[.val (.ref ba), .val (.int (Int32.ofNat i)), .val (.int pp), .val (.int pt), .val (.int x), .val (.int y)] [(.int y)]))
        exact W38.retN (z' := y) (by decide) (by decide) hret (by simp) (hb hby dc_method_2_code_28) (nar_id (up16 hy)) ⟨⟨_, rfl, hy⟩, rfl⟩
set_option maxRecDepth 65536 in
set_option maxHeartbeats 40000000 in
theorem c_cut (l : Launch) (Z : State) (a0 : Array Value) (hw : ∀ d ∈ tables_1, d.before a0 Z = true) (hEL : EW Z a0 [("com/example/claimwire/claimwire/fpml/LimitReportStatusFromTextPinLaw", 20), ("com/example/claimwire/claimwire/fpml/LimitReportStatusFromTextPinLaw", 22), ("java/lang/String", 7)]) (h0 : Heap) (hE0 : Ext Z.heap h0) (ea : Addr) (ke : ClassId) (n G1 u0 u1 u2 u3 u4 u5 u6 u7 u8 u9 u10 : Int32) (SG1 : Sta Z Z.heap "java/lang/String" "COMPACT_STRINGS" "Z" (.int G1)) (hG : ¬ G1 = 0) (A_e : Arv Z h0 ea ke .char 11 [(.int u0), (.int u1), (.int u2), (.int u3), (.int u4), (.int u5), (.int u6), (.int u7), (.int u8), (.int u9), (.int u10)] (.int (0 : Int32))) (r_u0 : ¬ u0 < 0 ∧ ¬ (255 : Int32) < u0) (r_u1 : ¬ u1 < 0 ∧ ¬ (255 : Int32) < u1) (r_u2 : ¬ u2 < 0 ∧ ¬ (255 : Int32) < u2) (r_u3 : ¬ u3 < 0 ∧ ¬ (255 : Int32) < u3) (r_u4 : ¬ u4 < 0 ∧ ¬ (255 : Int32) < u4) (r_u5 : ¬ u5 < 0 ∧ ¬ (255 : Int32) < u5) (r_u6 : ¬ u6 < 0 ∧ ¬ (255 : Int32) < u6) (r_u7 : ¬ u7 < 0 ∧ ¬ (255 : Int32) < u7) (r_u8 : ¬ u8 < 0 ∧ ¬ (255 : Int32) < u8) (r_u9 : ¬ u9 < 0 ∧ ¬ (255 : Int32) < u9) (r_u10 : ¬ u10 < 0 ∧ ¬ (255 : Int32) < u10) :
    Con l Z [("com/example/claimwire/claimwire/fpml/LimitReportStatusFromTextPinLaw", 20), ("com/example/claimwire/claimwire/fpml/LimitReportStatusFromTextPinLaw", 22), ("java/lang/String", 7)] [] (⟨"com/example/claimwire/claimwire/fpml/LimitReportStatusFromTextPinLaw", "cut", "([CI)Ljava/lang/String;"⟩ : MethodName) method_3_code 2 (some (.object "java/lang/String")) [] ({ frames := 4, cells := 6, slots := 24, locals := 72 } : Room) #[(.ref ea), (.int n)] h0 (fun v h' => ∃ r cs, v = some (.ref r) ∧ Ext h0 h' ∧ Str Z h' r cs ∧ cs.length ≤ 4000) := by
  refine Con.mk (plainFor_of_name pn_1) hEL hE0 (fun x hx => by cases hx) ?_
  intro p e s m below meth c T0 hby hml hret hnm W0
  rw [(show entryFrame m #[(.ref ea), (.int n)] 2 = mkF m 0 #[.val (.ref ea), .val (.int n)] [] from by first | (simp [entryFrame, mkF, argsToLocals, Value.category]; done) | rfl)]
  refine Go.by (fun t9_ q9_ => XS.iloadN W0.here W0.hx rfl (hb hby dc_method_3_code_0) rfl q9_) ?_
  show Go p e below s Z [("com/example/claimwire/claimwire/fpml/LimitReportStatusFromTextPinLaw", 20), ("com/example/claimwire/claimwire/fpml/LimitReportStatusFromTextPinLaw", 22), ("java/lang/String", 7)] _ _ _ (T0.setTop (mkF m 1 #[.val (.ref ea), .val (.int n)] [(.int n)]))
  by_cases n0 : n = (0 : Int32)
  · refine Go.by (fun t9_ q9_ => XS.ifNo W0.here W0.hx rfl (hb hby dc_method_3_code_1) rfl ((if0 _ _).trans (teq n0).2) q9_) ?_
    show Go p e below s Z [("com/example/claimwire/claimwire/fpml/LimitReportStatusFromTextPinLaw", 20), ("com/example/claimwire/claimwire/fpml/LimitReportStatusFromTextPinLaw", 22), ("java/lang/String", 7)] _ _ _ (T0.setTop (mkF m 4 #[.val (.ref ea), .val (.int n)] []))
    refine W0.new (wd52 hw) (wd2 hw) (wd1 hw) (hb hby dc_method_3_code_4) (k' := 1) (n' := 4) rfl rfl (by decide) (by decide) ?_
    intro T42 h43 r W44 E45 g_r z_r A_r D_r
    have F_value_r : Fld Z h43 r "java/lang/String" "value" "[B" .null := D_r (Or.inr (wd4 hw)) (ty := (.array .byte)) (by decide)
    have F_coder_r : Fld Z h43 r "java/lang/String" "coder" "B" (.int (0 : Int32)) := D_r (Or.inr (wd5 hw)) (ty := .byte) (by decide)
    show Go p e below s Z [("com/example/claimwire/claimwire/fpml/LimitReportStatusFromTextPinLaw", 20), ("com/example/claimwire/claimwire/fpml/LimitReportStatusFromTextPinLaw", 22), ("java/lang/String", 7)] _ _ _ (T42.setTop (mkF m 7 #[.val (.ref ea), .val (.int n)] [(.ref r)]))
    refine Go.by (fun t9_ q9_ => XS.dup W44.here W44.hx rfl (hb hby dc_method_3_code_7) rfl rfl q9_) ?_
    show Go p e below s Z [("com/example/claimwire/claimwire/fpml/LimitReportStatusFromTextPinLaw", 20), ("com/example/claimwire/claimwire/fpml/LimitReportStatusFromTextPinLaw", 22), ("java/lang/String", 7)] _ _ _ (T42.setTop (mkF m 8 #[.val (.ref ea), .val (.int n)] [(.ref r), (.ref r)]))
    refine Go.by (fun t9_ q9_ => XS.iconst W44.here W44.hx rfl (hb hby dc_method_3_code_8) q9_) ?_
    show Go p e below s Z [("com/example/claimwire/claimwire/fpml/LimitReportStatusFromTextPinLaw", 20), ("com/example/claimwire/claimwire/fpml/LimitReportStatusFromTextPinLaw", 22), ("java/lang/String", 7)] _ _ _ (T42.setTop (mkF m 9 #[.val (.ref ea), .val (.int n)] [(.int (0 : Int32)), (.ref r), (.ref r)]))
    refine W44.newp (aty := .char) (wd9 hw) (hb hby dc_method_3_code_9) (by decide) (cap := 0) (by decide) (by decide) (k' := 2) (n' := 4) rfl rfl (by decide) (by decide) (ad := "[C") rfl ?_
    intro T46 h47 b0 k_b0 W48 E49 g_b0 z_b0 A_b0 V_b0
    have V1_b0 : Arv Z h47 b0 k_b0 .char (0 : Int32) [] (.int (0 : Int32)) := V_b0.pad (pad_rep [] (.int (0 : Int32)) 0)
    show Go p e below s Z [("com/example/claimwire/claimwire/fpml/LimitReportStatusFromTextPinLaw", 20), ("com/example/claimwire/claimwire/fpml/LimitReportStatusFromTextPinLaw", 22), ("java/lang/String", 7)] _ _ _ (T46.setTop (mkF m 11 #[.val (.ref ea), .val (.int n)] [(.ref b0), (.ref r), (.ref r)]))
    refine W48.callI (y := (⟨"java/lang/String", "<init>", "([C)V"⟩ : MethodName)) rfl (wd53 hw) (wd54 hw) (wd1 hw) (wd55 hw) (by decide) (a := r) (c_str1e l Z a0 hw hEL h47 W48.old r b0 k_b0 _ _ (A_r.ext E49) (F_value_r.ext E49) (F_coder_r.ext E49) z_r V1_b0) (allS (List.mem_of_getElem? (i := 1) rfl) all0) (by decide) (by decide) (k' := 6) (n' := 12) rfl rfl (by decide) (by decide) (by rw [hml]; rfl) (argsL := [(.ref b0)]) (rest := [(.ref r)]) (lenOf pd_1 rfl) rfl rfl (Wt := 1) (Nat.le_of_eq rfl) (hb hby dc_method_3_code_11) ?_
    intro v_ T50 h52 W51 hq_
    obtain ⟨rfl, K1, S_r⟩ := hq_
    show Go p e below s Z [("com/example/claimwire/claimwire/fpml/LimitReportStatusFromTextPinLaw", 20), ("com/example/claimwire/claimwire/fpml/LimitReportStatusFromTextPinLaw", 22), ("java/lang/String", 7)] _ _ _ (T50.setTop (mkF m 14 #[.val (.ref ea), .val (.int n)] [(.ref r)]))
    have X53 : Ext h0 h47 := (Ext.trans' E45 E49)
    have X54 : Ext h0 h52 := (Ext.keep' X53 K1 (allS (Nat.le_of_eq g_r) all0))
    exact W51.retA (by decide) (by decide) hret rfl rfl (hb hby dc_method_3_code_14) ⟨r, _, rfl, X54, S_r, by simp⟩
  · refine Go.by (fun t9_ q9_ => XS.ifYes W0.here W0.hx rfl (pc0 := 1) (pc' := 15) rfl (hb hby dc_method_3_code_1) rfl ((if0 _ _).trans (feq n0).2) (by decide) (by decide) q9_) ?_
    show Go p e below s Z [("com/example/claimwire/claimwire/fpml/LimitReportStatusFromTextPinLaw", 20), ("com/example/claimwire/claimwire/fpml/LimitReportStatusFromTextPinLaw", 22), ("java/lang/String", 7)] _ _ _ (T0.setTop (mkF m 15 #[.val (.ref ea), .val (.int n)] []))
    refine Go.by (fun t9_ q9_ => XS.iloadN W0.here W0.hx rfl (hb hby dc_method_3_code_15) rfl q9_) ?_
    show Go p e below s Z [("com/example/claimwire/claimwire/fpml/LimitReportStatusFromTextPinLaw", 20), ("com/example/claimwire/claimwire/fpml/LimitReportStatusFromTextPinLaw", 22), ("java/lang/String", 7)] _ _ _ (T0.setTop (mkF m 16 #[.val (.ref ea), .val (.int n)] [(.int n)]))
    refine Go.by (fun t9_ q9_ => XS.iconst W0.here W0.hx rfl (hb hby dc_method_3_code_16) q9_) ?_
    show Go p e below s Z [("com/example/claimwire/claimwire/fpml/LimitReportStatusFromTextPinLaw", 20), ("com/example/claimwire/claimwire/fpml/LimitReportStatusFromTextPinLaw", 22), ("java/lang/String", 7)] _ _ _ (T0.setTop (mkF m 17 #[.val (.ref ea), .val (.int n)] [(.int (1 : Int32)), (.int n)]))
    by_cases n1 : n = (1 : Int32)
    · refine Go.by (fun t9_ q9_ => XS.icmpNo W0.here W0.hx rfl (hb hby dc_method_3_code_17) rfl (teq n1).2 q9_) ?_
      show Go p e below s Z [("com/example/claimwire/claimwire/fpml/LimitReportStatusFromTextPinLaw", 20), ("com/example/claimwire/claimwire/fpml/LimitReportStatusFromTextPinLaw", 22), ("java/lang/String", 7)] _ _ _ (T0.setTop (mkF m 20 #[.val (.ref ea), .val (.int n)] []))
      refine W0.new (wd52 hw) (wd2 hw) (wd1 hw) (hb hby dc_method_3_code_20) (k' := 1) (n' := 4) rfl rfl (by decide) (by decide) ?_
      intro T55 h56 r W57 E58 g_r z_r A_r D_r
      have F_value_r : Fld Z h56 r "java/lang/String" "value" "[B" .null := D_r (Or.inr (wd4 hw)) (ty := (.array .byte)) (by decide)
      have F_coder_r : Fld Z h56 r "java/lang/String" "coder" "B" (.int (0 : Int32)) := D_r (Or.inr (wd5 hw)) (ty := .byte) (by decide)
      show Go p e below s Z [("com/example/claimwire/claimwire/fpml/LimitReportStatusFromTextPinLaw", 20), ("com/example/claimwire/claimwire/fpml/LimitReportStatusFromTextPinLaw", 22), ("java/lang/String", 7)] _ _ _ (T55.setTop (mkF m 23 #[.val (.ref ea), .val (.int n)] [(.ref r)]))
      refine Go.by (fun t9_ q9_ => XS.dup W57.here W57.hx rfl (hb hby dc_method_3_code_23) rfl rfl q9_) ?_
      show Go p e below s Z [("com/example/claimwire/claimwire/fpml/LimitReportStatusFromTextPinLaw", 20), ("com/example/claimwire/claimwire/fpml/LimitReportStatusFromTextPinLaw", 22), ("java/lang/String", 7)] _ _ _ (T55.setTop (mkF m 24 #[.val (.ref ea), .val (.int n)] [(.ref r), (.ref r)]))
      refine Go.by (fun t9_ q9_ => XS.iconst W57.here W57.hx rfl (hb hby dc_method_3_code_24) q9_) ?_
      show Go p e below s Z [("com/example/claimwire/claimwire/fpml/LimitReportStatusFromTextPinLaw", 20), ("com/example/claimwire/claimwire/fpml/LimitReportStatusFromTextPinLaw", 22), ("java/lang/String", 7)] _ _ _ (T55.setTop (mkF m 25 #[.val (.ref ea), .val (.int n)] [(.int (1 : Int32)), (.ref r), (.ref r)]))
      refine W57.newp (aty := .char) (wd9 hw) (hb hby dc_method_3_code_25) (by decide) (cap := 1) (by decide) (by decide) (k' := 2) (n' := 5) rfl rfl (by decide) (by decide) (ad := "[C") rfl ?_
      intro T59 h60 b0 k_b0 W61 E62 g_b0 z_b0 A_b0 V_b0
      have V1_b0 : Arv Z h60 b0 k_b0 .char (1 : Int32) [(.int (0 : Int32))] (.int (0 : Int32)) := V_b0.pad (pad_rep [] (.int (0 : Int32)) 1)
      show Go p e below s Z [("com/example/claimwire/claimwire/fpml/LimitReportStatusFromTextPinLaw", 20), ("com/example/claimwire/claimwire/fpml/LimitReportStatusFromTextPinLaw", 22), ("java/lang/String", 7)] _ _ _ (T59.setTop (mkF m 27 #[.val (.ref ea), .val (.int n)] [(.ref b0), (.ref r), (.ref r)]))
      refine Go.by (fun t9_ q9_ => XS.dup W61.here W61.hx rfl (hb hby dc_method_3_code_27) rfl rfl q9_) ?_
      show Go p e below s Z [("com/example/claimwire/claimwire/fpml/LimitReportStatusFromTextPinLaw", 20), ("com/example/claimwire/claimwire/fpml/LimitReportStatusFromTextPinLaw", 22), ("java/lang/String", 7)] _ _ _ (T59.setTop (mkF m 28 #[.val (.ref ea), .val (.int n)] [(.ref b0), (.ref b0), (.ref r), (.ref r)]))
      refine Go.by (fun t9_ q9_ => XS.iconst W61.here W61.hx rfl (hb hby dc_method_3_code_28) q9_) ?_
      show Go p e below s Z [("com/example/claimwire/claimwire/fpml/LimitReportStatusFromTextPinLaw", 20), ("com/example/claimwire/claimwire/fpml/LimitReportStatusFromTextPinLaw", 22), ("java/lang/String", 7)] _ _ _ (T59.setTop (mkF m 29 #[.val (.ref ea), .val (.int n)] [(.int (0 : Int32)), (.ref b0), (.ref b0), (.ref r), (.ref r)]))
      refine Go.by (fun t9_ q9_ => XS.aloadN W61.here W61.hx rfl (hb hby dc_method_3_code_29) rfl rfl q9_) ?_
      show Go p e below s Z [("com/example/claimwire/claimwire/fpml/LimitReportStatusFromTextPinLaw", 20), ("com/example/claimwire/claimwire/fpml/LimitReportStatusFromTextPinLaw", 22), ("java/lang/String", 7)] _ _ _ (T59.setTop (mkF m 30 #[.val (.ref ea), .val (.int n)] [(.ref ea), (.int (0 : Int32)), (.ref b0), (.ref b0), (.ref r), (.ref r)]))
      refine Go.by (fun t9_ q9_ => XS.iconst W61.here W61.hx rfl (hb hby dc_method_3_code_30) q9_) ?_
      show Go p e below s Z [("com/example/claimwire/claimwire/fpml/LimitReportStatusFromTextPinLaw", 20), ("com/example/claimwire/claimwire/fpml/LimitReportStatusFromTextPinLaw", 22), ("java/lang/String", 7)] _ _ _ (T59.setTop (mkF m 31 #[.val (.ref ea), .val (.int n)] [(.int (0 : Int32)), (.ref ea), (.int (0 : Int32)), (.ref b0), (.ref b0), (.ref r), (.ref r)]))
      have X63 : Ext h0 h60 := (Ext.trans' E58 E62)
      refine W61.cald (A_e.ext X63) ⟨by decide, by decide⟩ (v := (.int u0)) rfl (hb hby dc_method_3_code_31) ?_
      show Go p e below s Z [("com/example/claimwire/claimwire/fpml/LimitReportStatusFromTextPinLaw", 20), ("com/example/claimwire/claimwire/fpml/LimitReportStatusFromTextPinLaw", 22), ("java/lang/String", 7)] _ _ _ (T59.setTop (mkF m 32 #[.val (.ref ea), .val (.int n)] [(.int u0), (.int (0 : Int32)), (.ref b0), (.ref b0), (.ref r), (.ref r)]))
      refine W61.cast_ V1_b0 ⟨by decide, by decide⟩ (i := 0) rfl (by simp) (v' := u0) (nar_id (up16 r_u0)) z_b0 (List.mem_of_getElem? (i := 0) rfl) (hb hby dc_method_3_code_32) ?_
      intro T64 h65 W66 Wr67 V68_b0'
      have V68_b0 : Arv Z h65 b0 k_b0 .char (1 : Int32) [(.int u0)] (.int (0 : Int32)) := V68_b0'
      show Go p e below s Z [("com/example/claimwire/claimwire/fpml/LimitReportStatusFromTextPinLaw", 20), ("com/example/claimwire/claimwire/fpml/LimitReportStatusFromTextPinLaw", 22), ("java/lang/String", 7)] _ _ _ (T64.setTop (mkF m 33 #[.val (.ref ea), .val (.int n)] [(.ref b0), (.ref r), (.ref r)]))
      have X73 : Ext h56 h65 := (Ext.wr' E62 Wr67 (Nat.le_of_eq g_b0))
      refine W66.strV (cs := [u0]) (k_words hw) (wd2 hw) (wd53 hw) (wd54 hw) (A_r.ext X73) (F_value_r.ext X73) (F_coder_r.ext X73) V68_b0 (SG1.ext W66.old) hG (q := 1) rfl rfl (by decide) (by decide) (by intro c hc; simp only [List.mem_cons, List.not_mem_nil, or_false] at hc; rcases hc with rfl <;> assumption) z_r (List.mem_of_getElem? (i := 1) rfl) (by decide) (Wt := 1) (by decide) (k' := 3) (n' := 6) rfl rfl (by decide) (by decide) (by rw [hml]; rfl) (Nat.le_of_eq rfl) (hb hby dc_method_3_code_33) ?_
      intro T69 h70 W71 K72 S_r
      show Go p e below s Z [("com/example/claimwire/claimwire/fpml/LimitReportStatusFromTextPinLaw", 20), ("com/example/claimwire/claimwire/fpml/LimitReportStatusFromTextPinLaw", 22), ("java/lang/String", 7)] _ _ _ (T69.setTop (mkF m 36 #[.val (.ref ea), .val (.int n)] [(.ref r)]))
      have X74 : Ext h0 h65 := (Ext.wr' X63 Wr67 (Nat.le_trans E58.1 (Nat.le_of_eq g_b0)))
      have X75 : Ext h0 h70 := (Ext.keep' X74 K72 (allS (Nat.le_of_eq g_r) all0))
      exact W71.retA (by decide) (by decide) hret rfl rfl (hb hby dc_method_3_code_36) ⟨r, _, rfl, X75, S_r, by simp⟩
    · refine Go.by (fun t9_ q9_ => XS.icmpYes W0.here W0.hx rfl (pc0 := 17) (pc' := 37) rfl (hb hby dc_method_3_code_17) rfl (feq n1).2 (by decide) (by decide) q9_) ?_
      show Go p e below s Z [("com/example/claimwire/claimwire/fpml/LimitReportStatusFromTextPinLaw", 20), ("com/example/claimwire/claimwire/fpml/LimitReportStatusFromTextPinLaw", 22), ("java/lang/String", 7)] _ _ _ (T0.setTop (mkF m 37 #[.val (.ref ea), .val (.int n)] []))
      refine Go.by (fun t9_ q9_ => XS.iloadN W0.here W0.hx rfl (hb hby dc_method_3_code_37) rfl q9_) ?_
      show Go p e below s Z [("com/example/claimwire/claimwire/fpml/LimitReportStatusFromTextPinLaw", 20), ("com/example/claimwire/claimwire/fpml/LimitReportStatusFromTextPinLaw", 22), ("java/lang/String", 7)] _ _ _ (T0.setTop (mkF m 38 #[.val (.ref ea), .val (.int n)] [(.int n)]))
      refine Go.by (fun t9_ q9_ => XS.bipush W0.here W0.hx rfl (hb hby dc_method_3_code_38) q9_) ?_
      show Go p e below s Z [("com/example/claimwire/claimwire/fpml/LimitReportStatusFromTextPinLaw", 20), ("com/example/claimwire/claimwire/fpml/LimitReportStatusFromTextPinLaw", 22), ("java/lang/String", 7)] _ _ _ (T0.setTop (mkF m 40 #[.val (.ref ea), .val (.int n)] [(.int (7 : Int32)), (.int n)]))
      by_cases n7 : n = (7 : Int32)
      · refine Go.by (fun t9_ q9_ => XS.icmpNo W0.here W0.hx rfl (hb hby dc_method_3_code_40) rfl (teq n7).2 q9_) ?_
        show Go p e below s Z [("com/example/claimwire/claimwire/fpml/LimitReportStatusFromTextPinLaw", 20), ("com/example/claimwire/claimwire/fpml/LimitReportStatusFromTextPinLaw", 22), ("java/lang/String", 7)] _ _ _ (T0.setTop (mkF m 43 #[.val (.ref ea), .val (.int n)] []))
        refine W0.new (wd52 hw) (wd2 hw) (wd1 hw) (hb hby dc_method_3_code_43) (k' := 1) (n' := 4) rfl rfl (by decide) (by decide) ?_
        intro T76 h77 r W78 E79 g_r z_r A_r D_r
        have F_value_r : Fld Z h77 r "java/lang/String" "value" "[B" .null := D_r (Or.inr (wd4 hw)) (ty := (.array .byte)) (by decide)
        have F_coder_r : Fld Z h77 r "java/lang/String" "coder" "B" (.int (0 : Int32)) := D_r (Or.inr (wd5 hw)) (ty := .byte) (by decide)
        show Go p e below s Z [("com/example/claimwire/claimwire/fpml/LimitReportStatusFromTextPinLaw", 20), ("com/example/claimwire/claimwire/fpml/LimitReportStatusFromTextPinLaw", 22), ("java/lang/String", 7)] _ _ _ (T76.setTop (mkF m 46 #[.val (.ref ea), .val (.int n)] [(.ref r)]))
        refine Go.by (fun t9_ q9_ => XS.dup W78.here W78.hx rfl (hb hby dc_method_3_code_46) rfl rfl q9_) ?_
        show Go p e below s Z [("com/example/claimwire/claimwire/fpml/LimitReportStatusFromTextPinLaw", 20), ("com/example/claimwire/claimwire/fpml/LimitReportStatusFromTextPinLaw", 22), ("java/lang/String", 7)] _ _ _ (T76.setTop (mkF m 47 #[.val (.ref ea), .val (.int n)] [(.ref r), (.ref r)]))
        refine Go.by (fun t9_ q9_ => XS.bipush W78.here W78.hx rfl (hb hby dc_method_3_code_47) q9_) ?_
        show Go p e below s Z [("com/example/claimwire/claimwire/fpml/LimitReportStatusFromTextPinLaw", 20), ("com/example/claimwire/claimwire/fpml/LimitReportStatusFromTextPinLaw", 22), ("java/lang/String", 7)] _ _ _ (T76.setTop (mkF m 49 #[.val (.ref ea), .val (.int n)] [(.int (7 : Int32)), (.ref r), (.ref r)]))
        refine W78.newp (aty := .char) (wd9 hw) (hb hby dc_method_3_code_49) (by decide) (cap := 7) (by decide) (by decide) (k' := 2) (n' := 11) rfl rfl (by decide) (by decide) (ad := "[C") rfl ?_
        intro T80 h81 b0 k_b0 W82 E83 g_b0 z_b0 A_b0 V_b0
        have V1_b0 : Arv Z h81 b0 k_b0 .char (7 : Int32) [(.int (0 : Int32)), (.int (0 : Int32)), (.int (0 : Int32)), (.int (0 : Int32)), (.int (0 : Int32)), (.int (0 : Int32)), (.int (0 : Int32))] (.int (0 : Int32)) := V_b0.pad (pad_rep [] (.int (0 : Int32)) 7)
        show Go p e below s Z [("com/example/claimwire/claimwire/fpml/LimitReportStatusFromTextPinLaw", 20), ("com/example/claimwire/claimwire/fpml/LimitReportStatusFromTextPinLaw", 22), ("java/lang/String", 7)] _ _ _ (T80.setTop (mkF m 51 #[.val (.ref ea), .val (.int n)] [(.ref b0), (.ref r), (.ref r)]))
        refine Go.by (fun t9_ q9_ => XS.dup W82.here W82.hx rfl (hb hby dc_method_3_code_51) rfl rfl q9_) ?_
        show Go p e below s Z [("com/example/claimwire/claimwire/fpml/LimitReportStatusFromTextPinLaw", 20), ("com/example/claimwire/claimwire/fpml/LimitReportStatusFromTextPinLaw", 22), ("java/lang/String", 7)] _ _ _ (T80.setTop (mkF m 52 #[.val (.ref ea), .val (.int n)] [(.ref b0), (.ref b0), (.ref r), (.ref r)]))
        refine Go.by (fun t9_ q9_ => XS.iconst W82.here W82.hx rfl (hb hby dc_method_3_code_52) q9_) ?_
        show Go p e below s Z [("com/example/claimwire/claimwire/fpml/LimitReportStatusFromTextPinLaw", 20), ("com/example/claimwire/claimwire/fpml/LimitReportStatusFromTextPinLaw", 22), ("java/lang/String", 7)] _ _ _ (T80.setTop (mkF m 53 #[.val (.ref ea), .val (.int n)] [(.int (0 : Int32)), (.ref b0), (.ref b0), (.ref r), (.ref r)]))
        refine Go.by (fun t9_ q9_ => XS.aloadN W82.here W82.hx rfl (hb hby dc_method_3_code_53) rfl rfl q9_) ?_
        show Go p e below s Z [("com/example/claimwire/claimwire/fpml/LimitReportStatusFromTextPinLaw", 20), ("com/example/claimwire/claimwire/fpml/LimitReportStatusFromTextPinLaw", 22), ("java/lang/String", 7)] _ _ _ (T80.setTop (mkF m 54 #[.val (.ref ea), .val (.int n)] [(.ref ea), (.int (0 : Int32)), (.ref b0), (.ref b0), (.ref r), (.ref r)]))
        refine Go.by (fun t9_ q9_ => XS.iconst W82.here W82.hx rfl (hb hby dc_method_3_code_54) q9_) ?_
        show Go p e below s Z [("com/example/claimwire/claimwire/fpml/LimitReportStatusFromTextPinLaw", 20), ("com/example/claimwire/claimwire/fpml/LimitReportStatusFromTextPinLaw", 22), ("java/lang/String", 7)] _ _ _ (T80.setTop (mkF m 55 #[.val (.ref ea), .val (.int n)] [(.int (0 : Int32)), (.ref ea), (.int (0 : Int32)), (.ref b0), (.ref b0), (.ref r), (.ref r)]))
        have X84 : Ext h0 h81 := (Ext.trans' E79 E83)
        refine W82.cald (A_e.ext X84) ⟨by decide, by decide⟩ (v := (.int u0)) rfl (hb hby dc_method_3_code_55) ?_
        show Go p e below s Z [("com/example/claimwire/claimwire/fpml/LimitReportStatusFromTextPinLaw", 20), ("com/example/claimwire/claimwire/fpml/LimitReportStatusFromTextPinLaw", 22), ("java/lang/String", 7)] _ _ _ (T80.setTop (mkF m 56 #[.val (.ref ea), .val (.int n)] [(.int u0), (.int (0 : Int32)), (.ref b0), (.ref b0), (.ref r), (.ref r)]))
        refine W82.cast_ V1_b0 ⟨by decide, by decide⟩ (i := 0) rfl (by simp) (v' := u0) (nar_id (up16 r_u0)) z_b0 (List.mem_of_getElem? (i := 0) rfl) (hb hby dc_method_3_code_56) ?_
        intro T85 h86 W87 Wr88 V89_b0'
        have V89_b0 : Arv Z h86 b0 k_b0 .char (7 : Int32) [(.int u0), (.int (0 : Int32)), (.int (0 : Int32)), (.int (0 : Int32)), (.int (0 : Int32)), (.int (0 : Int32)), (.int (0 : Int32))] (.int (0 : Int32)) := V89_b0'
        show Go p e below s Z [("com/example/claimwire/claimwire/fpml/LimitReportStatusFromTextPinLaw", 20), ("com/example/claimwire/claimwire/fpml/LimitReportStatusFromTextPinLaw", 22), ("java/lang/String", 7)] _ _ _ (T85.setTop (mkF m 57 #[.val (.ref ea), .val (.int n)] [(.ref b0), (.ref r), (.ref r)]))
        refine Go.by (fun t9_ q9_ => XS.dup W87.here W87.hx rfl (hb hby dc_method_3_code_57) rfl rfl q9_) ?_
        show Go p e below s Z [("com/example/claimwire/claimwire/fpml/LimitReportStatusFromTextPinLaw", 20), ("com/example/claimwire/claimwire/fpml/LimitReportStatusFromTextPinLaw", 22), ("java/lang/String", 7)] _ _ _ (T85.setTop (mkF m 58 #[.val (.ref ea), .val (.int n)] [(.ref b0), (.ref b0), (.ref r), (.ref r)]))
        refine Go.by (fun t9_ q9_ => XS.iconst W87.here W87.hx rfl (hb hby dc_method_3_code_58) q9_) ?_
        show Go p e below s Z [("com/example/claimwire/claimwire/fpml/LimitReportStatusFromTextPinLaw", 20), ("com/example/claimwire/claimwire/fpml/LimitReportStatusFromTextPinLaw", 22), ("java/lang/String", 7)] _ _ _ (T85.setTop (mkF m 59 #[.val (.ref ea), .val (.int n)] [(.int (1 : Int32)), (.ref b0), (.ref b0), (.ref r), (.ref r)]))
        refine Go.by (fun t9_ q9_ => XS.aloadN W87.here W87.hx rfl (hb hby dc_method_3_code_59) rfl rfl q9_) ?_
        show Go p e below s Z [("com/example/claimwire/claimwire/fpml/LimitReportStatusFromTextPinLaw", 20), ("com/example/claimwire/claimwire/fpml/LimitReportStatusFromTextPinLaw", 22), ("java/lang/String", 7)] _ _ _ (T85.setTop (mkF m 60 #[.val (.ref ea), .val (.int n)] [(.ref ea), (.int (1 : Int32)), (.ref b0), (.ref b0), (.ref r), (.ref r)]))
        refine Go.by (fun t9_ q9_ => XS.iconst W87.here W87.hx rfl (hb hby dc_method_3_code_60) q9_) ?_
        show Go p e below s Z [("com/example/claimwire/claimwire/fpml/LimitReportStatusFromTextPinLaw", 20), ("com/example/claimwire/claimwire/fpml/LimitReportStatusFromTextPinLaw", 22), ("java/lang/String", 7)] _ _ _ (T85.setTop (mkF m 61 #[.val (.ref ea), .val (.int n)] [(.int (1 : Int32)), (.ref ea), (.int (1 : Int32)), (.ref b0), (.ref b0), (.ref r), (.ref r)]))
        have X90 : Ext h0 h86 := (Ext.wr' X84 Wr88 (Nat.le_trans E79.1 (Nat.le_of_eq g_b0)))
        refine W87.cald (A_e.ext X90) ⟨by decide, by decide⟩ (v := (.int u1)) rfl (hb hby dc_method_3_code_61) ?_
        show Go p e below s Z [("com/example/claimwire/claimwire/fpml/LimitReportStatusFromTextPinLaw", 20), ("com/example/claimwire/claimwire/fpml/LimitReportStatusFromTextPinLaw", 22), ("java/lang/String", 7)] _ _ _ (T85.setTop (mkF m 62 #[.val (.ref ea), .val (.int n)] [(.int u1), (.int (1 : Int32)), (.ref b0), (.ref b0), (.ref r), (.ref r)]))
        refine W87.cast_ V89_b0 ⟨by decide, by decide⟩ (i := 1) rfl (by simp) (v' := u1) (nar_id (up16 r_u1)) z_b0 (List.mem_of_getElem? (i := 0) rfl) (hb hby dc_method_3_code_62) ?_
        intro T91 h92 W93 Wr94 V95_b0'
        have V95_b0 : Arv Z h92 b0 k_b0 .char (7 : Int32) [(.int u0), (.int u1), (.int (0 : Int32)), (.int (0 : Int32)), (.int (0 : Int32)), (.int (0 : Int32)), (.int (0 : Int32))] (.int (0 : Int32)) := V95_b0'
        show Go p e below s Z [("com/example/claimwire/claimwire/fpml/LimitReportStatusFromTextPinLaw", 20), ("com/example/claimwire/claimwire/fpml/LimitReportStatusFromTextPinLaw", 22), ("java/lang/String", 7)] _ _ _ (T91.setTop (mkF m 63 #[.val (.ref ea), .val (.int n)] [(.ref b0), (.ref r), (.ref r)]))
        refine Go.by (fun t9_ q9_ => XS.dup W93.here W93.hx rfl (hb hby dc_method_3_code_63) rfl rfl q9_) ?_
        show Go p e below s Z [("com/example/claimwire/claimwire/fpml/LimitReportStatusFromTextPinLaw", 20), ("com/example/claimwire/claimwire/fpml/LimitReportStatusFromTextPinLaw", 22), ("java/lang/String", 7)] _ _ _ (T91.setTop (mkF m 64 #[.val (.ref ea), .val (.int n)] [(.ref b0), (.ref b0), (.ref r), (.ref r)]))
        refine Go.by (fun t9_ q9_ => XS.iconst W93.here W93.hx rfl (hb hby dc_method_3_code_64) q9_) ?_
        show Go p e below s Z [("com/example/claimwire/claimwire/fpml/LimitReportStatusFromTextPinLaw", 20), ("com/example/claimwire/claimwire/fpml/LimitReportStatusFromTextPinLaw", 22), ("java/lang/String", 7)] _ _ _ (T91.setTop (mkF m 65 #[.val (.ref ea), .val (.int n)] [(.int (2 : Int32)), (.ref b0), (.ref b0), (.ref r), (.ref r)]))
        refine Go.by (fun t9_ q9_ => XS.aloadN W93.here W93.hx rfl (hb hby dc_method_3_code_65) rfl rfl q9_) ?_
        show Go p e below s Z [("com/example/claimwire/claimwire/fpml/LimitReportStatusFromTextPinLaw", 20), ("com/example/claimwire/claimwire/fpml/LimitReportStatusFromTextPinLaw", 22), ("java/lang/String", 7)] _ _ _ (T91.setTop (mkF m 66 #[.val (.ref ea), .val (.int n)] [(.ref ea), (.int (2 : Int32)), (.ref b0), (.ref b0), (.ref r), (.ref r)]))
        refine Go.by (fun t9_ q9_ => XS.iconst W93.here W93.hx rfl (hb hby dc_method_3_code_66) q9_) ?_
        show Go p e below s Z [("com/example/claimwire/claimwire/fpml/LimitReportStatusFromTextPinLaw", 20), ("com/example/claimwire/claimwire/fpml/LimitReportStatusFromTextPinLaw", 22), ("java/lang/String", 7)] _ _ _ (T91.setTop (mkF m 67 #[.val (.ref ea), .val (.int n)] [(.int (2 : Int32)), (.ref ea), (.int (2 : Int32)), (.ref b0), (.ref b0), (.ref r), (.ref r)]))
        have X96 : Ext h0 h92 := (Ext.wr' X90 Wr94 (Nat.le_trans E79.1 (Nat.le_of_eq g_b0)))
        refine W93.cald (A_e.ext X96) ⟨by decide, by decide⟩ (v := (.int u2)) rfl (hb hby dc_method_3_code_67) ?_
        show Go p e below s Z [("com/example/claimwire/claimwire/fpml/LimitReportStatusFromTextPinLaw", 20), ("com/example/claimwire/claimwire/fpml/LimitReportStatusFromTextPinLaw", 22), ("java/lang/String", 7)] _ _ _ (T91.setTop (mkF m 68 #[.val (.ref ea), .val (.int n)] [(.int u2), (.int (2 : Int32)), (.ref b0), (.ref b0), (.ref r), (.ref r)]))
        refine W93.cast_ V95_b0 ⟨by decide, by decide⟩ (i := 2) rfl (by simp) (v' := u2) (nar_id (up16 r_u2)) z_b0 (List.mem_of_getElem? (i := 0) rfl) (hb hby dc_method_3_code_68) ?_
        intro T97 h98 W99 Wr100 V101_b0'
        have V101_b0 : Arv Z h98 b0 k_b0 .char (7 : Int32) [(.int u0), (.int u1), (.int u2), (.int (0 : Int32)), (.int (0 : Int32)), (.int (0 : Int32)), (.int (0 : Int32))] (.int (0 : Int32)) := V101_b0'
        show Go p e below s Z [("com/example/claimwire/claimwire/fpml/LimitReportStatusFromTextPinLaw", 20), ("com/example/claimwire/claimwire/fpml/LimitReportStatusFromTextPinLaw", 22), ("java/lang/String", 7)] _ _ _ (T97.setTop (mkF m 69 #[.val (.ref ea), .val (.int n)] [(.ref b0), (.ref r), (.ref r)]))
        refine Go.by (fun t9_ q9_ => XS.dup W99.here W99.hx rfl (hb hby dc_method_3_code_69) rfl rfl q9_) ?_
        show Go p e below s Z [("com/example/claimwire/claimwire/fpml/LimitReportStatusFromTextPinLaw", 20), ("com/example/claimwire/claimwire/fpml/LimitReportStatusFromTextPinLaw", 22), ("java/lang/String", 7)] _ _ _ (T97.setTop (mkF m 70 #[.val (.ref ea), .val (.int n)] [(.ref b0), (.ref b0), (.ref r), (.ref r)]))
        refine Go.by (fun t9_ q9_ => XS.iconst W99.here W99.hx rfl (hb hby dc_method_3_code_70) q9_) ?_
        show Go p e below s Z [("com/example/claimwire/claimwire/fpml/LimitReportStatusFromTextPinLaw", 20), ("com/example/claimwire/claimwire/fpml/LimitReportStatusFromTextPinLaw", 22), ("java/lang/String", 7)] _ _ _ (T97.setTop (mkF m 71 #[.val (.ref ea), .val (.int n)] [(.int (3 : Int32)), (.ref b0), (.ref b0), (.ref r), (.ref r)]))
        refine Go.by (fun t9_ q9_ => XS.aloadN W99.here W99.hx rfl (hb hby dc_method_3_code_71) rfl rfl q9_) ?_
        show Go p e below s Z [("com/example/claimwire/claimwire/fpml/LimitReportStatusFromTextPinLaw", 20), ("com/example/claimwire/claimwire/fpml/LimitReportStatusFromTextPinLaw", 22), ("java/lang/String", 7)] _ _ _ (T97.setTop (mkF m 72 #[.val (.ref ea), .val (.int n)] [(.ref ea), (.int (3 : Int32)), (.ref b0), (.ref b0), (.ref r), (.ref r)]))
        refine Go.by (fun t9_ q9_ => XS.iconst W99.here W99.hx rfl (hb hby dc_method_3_code_72) q9_) ?_
        show Go p e below s Z [("com/example/claimwire/claimwire/fpml/LimitReportStatusFromTextPinLaw", 20), ("com/example/claimwire/claimwire/fpml/LimitReportStatusFromTextPinLaw", 22), ("java/lang/String", 7)] _ _ _ (T97.setTop (mkF m 73 #[.val (.ref ea), .val (.int n)] [(.int (3 : Int32)), (.ref ea), (.int (3 : Int32)), (.ref b0), (.ref b0), (.ref r), (.ref r)]))
        have X102 : Ext h0 h98 := (Ext.wr' X96 Wr100 (Nat.le_trans E79.1 (Nat.le_of_eq g_b0)))
        refine W99.cald (A_e.ext X102) ⟨by decide, by decide⟩ (v := (.int u3)) rfl (hb hby dc_method_3_code_73) ?_
        show Go p e below s Z [("com/example/claimwire/claimwire/fpml/LimitReportStatusFromTextPinLaw", 20), ("com/example/claimwire/claimwire/fpml/LimitReportStatusFromTextPinLaw", 22), ("java/lang/String", 7)] _ _ _ (T97.setTop (mkF m 74 #[.val (.ref ea), .val (.int n)] [(.int u3), (.int (3 : Int32)), (.ref b0), (.ref b0), (.ref r), (.ref r)]))
        refine W99.cast_ V101_b0 ⟨by decide, by decide⟩ (i := 3) rfl (by simp) (v' := u3) (nar_id (up16 r_u3)) z_b0 (List.mem_of_getElem? (i := 0) rfl) (hb hby dc_method_3_code_74) ?_
        intro T103 h104 W105 Wr106 V107_b0'
        have V107_b0 : Arv Z h104 b0 k_b0 .char (7 : Int32) [(.int u0), (.int u1), (.int u2), (.int u3), (.int (0 : Int32)), (.int (0 : Int32)), (.int (0 : Int32))] (.int (0 : Int32)) := V107_b0'
        show Go p e below s Z [("com/example/claimwire/claimwire/fpml/LimitReportStatusFromTextPinLaw", 20), ("com/example/claimwire/claimwire/fpml/LimitReportStatusFromTextPinLaw", 22), ("java/lang/String", 7)] _ _ _ (T103.setTop (mkF m 75 #[.val (.ref ea), .val (.int n)] [(.ref b0), (.ref r), (.ref r)]))
        refine Go.by (fun t9_ q9_ => XS.dup W105.here W105.hx rfl (hb hby dc_method_3_code_75) rfl rfl q9_) ?_
        show Go p e below s Z [("com/example/claimwire/claimwire/fpml/LimitReportStatusFromTextPinLaw", 20), ("com/example/claimwire/claimwire/fpml/LimitReportStatusFromTextPinLaw", 22), ("java/lang/String", 7)] _ _ _ (T103.setTop (mkF m 76 #[.val (.ref ea), .val (.int n)] [(.ref b0), (.ref b0), (.ref r), (.ref r)]))
        refine Go.by (fun t9_ q9_ => XS.iconst W105.here W105.hx rfl (hb hby dc_method_3_code_76) q9_) ?_
        show Go p e below s Z [("com/example/claimwire/claimwire/fpml/LimitReportStatusFromTextPinLaw", 20), ("com/example/claimwire/claimwire/fpml/LimitReportStatusFromTextPinLaw", 22), ("java/lang/String", 7)] _ _ _ (T103.setTop (mkF m 77 #[.val (.ref ea), .val (.int n)] [(.int (4 : Int32)), (.ref b0), (.ref b0), (.ref r), (.ref r)]))
        refine Go.by (fun t9_ q9_ => XS.aloadN W105.here W105.hx rfl (hb hby dc_method_3_code_77) rfl rfl q9_) ?_
        show Go p e below s Z [("com/example/claimwire/claimwire/fpml/LimitReportStatusFromTextPinLaw", 20), ("com/example/claimwire/claimwire/fpml/LimitReportStatusFromTextPinLaw", 22), ("java/lang/String", 7)] _ _ _ (T103.setTop (mkF m 78 #[.val (.ref ea), .val (.int n)] [(.ref ea), (.int (4 : Int32)), (.ref b0), (.ref b0), (.ref r), (.ref r)]))
        refine Go.by (fun t9_ q9_ => XS.iconst W105.here W105.hx rfl (hb hby dc_method_3_code_78) q9_) ?_
        show Go p e below s Z [("com/example/claimwire/claimwire/fpml/LimitReportStatusFromTextPinLaw", 20), ("com/example/claimwire/claimwire/fpml/LimitReportStatusFromTextPinLaw", 22), ("java/lang/String", 7)] _ _ _ (T103.setTop (mkF m 79 #[.val (.ref ea), .val (.int n)] [(.int (4 : Int32)), (.ref ea), (.int (4 : Int32)), (.ref b0), (.ref b0), (.ref r), (.ref r)]))
        have X108 : Ext h0 h104 := (Ext.wr' X102 Wr106 (Nat.le_trans E79.1 (Nat.le_of_eq g_b0)))
        refine W105.cald (A_e.ext X108) ⟨by decide, by decide⟩ (v := (.int u4)) rfl (hb hby dc_method_3_code_79) ?_
        show Go p e below s Z [("com/example/claimwire/claimwire/fpml/LimitReportStatusFromTextPinLaw", 20), ("com/example/claimwire/claimwire/fpml/LimitReportStatusFromTextPinLaw", 22), ("java/lang/String", 7)] _ _ _ (T103.setTop (mkF m 80 #[.val (.ref ea), .val (.int n)] [(.int u4), (.int (4 : Int32)), (.ref b0), (.ref b0), (.ref r), (.ref r)]))
        refine W105.cast_ V107_b0 ⟨by decide, by decide⟩ (i := 4) rfl (by simp) (v' := u4) (nar_id (up16 r_u4)) z_b0 (List.mem_of_getElem? (i := 0) rfl) (hb hby dc_method_3_code_80) ?_
        intro T109 h110 W111 Wr112 V113_b0'
        have V113_b0 : Arv Z h110 b0 k_b0 .char (7 : Int32) [(.int u0), (.int u1), (.int u2), (.int u3), (.int u4), (.int (0 : Int32)), (.int (0 : Int32))] (.int (0 : Int32)) := V113_b0'
        show Go p e below s Z [("com/example/claimwire/claimwire/fpml/LimitReportStatusFromTextPinLaw", 20), ("com/example/claimwire/claimwire/fpml/LimitReportStatusFromTextPinLaw", 22), ("java/lang/String", 7)] _ _ _ (T109.setTop (mkF m 81 #[.val (.ref ea), .val (.int n)] [(.ref b0), (.ref r), (.ref r)]))
        refine Go.by (fun t9_ q9_ => XS.dup W111.here W111.hx rfl (hb hby dc_method_3_code_81) rfl rfl q9_) ?_
        show Go p e below s Z [("com/example/claimwire/claimwire/fpml/LimitReportStatusFromTextPinLaw", 20), ("com/example/claimwire/claimwire/fpml/LimitReportStatusFromTextPinLaw", 22), ("java/lang/String", 7)] _ _ _ (T109.setTop (mkF m 82 #[.val (.ref ea), .val (.int n)] [(.ref b0), (.ref b0), (.ref r), (.ref r)]))
        refine Go.by (fun t9_ q9_ => XS.iconst W111.here W111.hx rfl (hb hby dc_method_3_code_82) q9_) ?_
        show Go p e below s Z [("com/example/claimwire/claimwire/fpml/LimitReportStatusFromTextPinLaw", 20), ("com/example/claimwire/claimwire/fpml/LimitReportStatusFromTextPinLaw", 22), ("java/lang/String", 7)] _ _ _ (T109.setTop (mkF m 83 #[.val (.ref ea), .val (.int n)] [(.int (5 : Int32)), (.ref b0), (.ref b0), (.ref r), (.ref r)]))
        refine Go.by (fun t9_ q9_ => XS.aloadN W111.here W111.hx rfl (hb hby dc_method_3_code_83) rfl rfl q9_) ?_
        show Go p e below s Z [("com/example/claimwire/claimwire/fpml/LimitReportStatusFromTextPinLaw", 20), ("com/example/claimwire/claimwire/fpml/LimitReportStatusFromTextPinLaw", 22), ("java/lang/String", 7)] _ _ _ (T109.setTop (mkF m 84 #[.val (.ref ea), .val (.int n)] [(.ref ea), (.int (5 : Int32)), (.ref b0), (.ref b0), (.ref r), (.ref r)]))
        refine Go.by (fun t9_ q9_ => XS.iconst W111.here W111.hx rfl (hb hby dc_method_3_code_84) q9_) ?_
        show Go p e below s Z [("com/example/claimwire/claimwire/fpml/LimitReportStatusFromTextPinLaw", 20), ("com/example/claimwire/claimwire/fpml/LimitReportStatusFromTextPinLaw", 22), ("java/lang/String", 7)] _ _ _ (T109.setTop (mkF m 85 #[.val (.ref ea), .val (.int n)] [(.int (5 : Int32)), (.ref ea), (.int (5 : Int32)), (.ref b0), (.ref b0), (.ref r), (.ref r)]))
        have X114 : Ext h0 h110 := (Ext.wr' X108 Wr112 (Nat.le_trans E79.1 (Nat.le_of_eq g_b0)))
        refine W111.cald (A_e.ext X114) ⟨by decide, by decide⟩ (v := (.int u5)) rfl (hb hby dc_method_3_code_85) ?_
        show Go p e below s Z [("com/example/claimwire/claimwire/fpml/LimitReportStatusFromTextPinLaw", 20), ("com/example/claimwire/claimwire/fpml/LimitReportStatusFromTextPinLaw", 22), ("java/lang/String", 7)] _ _ _ (T109.setTop (mkF m 86 #[.val (.ref ea), .val (.int n)] [(.int u5), (.int (5 : Int32)), (.ref b0), (.ref b0), (.ref r), (.ref r)]))
        refine W111.cast_ V113_b0 ⟨by decide, by decide⟩ (i := 5) rfl (by simp) (v' := u5) (nar_id (up16 r_u5)) z_b0 (List.mem_of_getElem? (i := 0) rfl) (hb hby dc_method_3_code_86) ?_
        intro T115 h116 W117 Wr118 V119_b0'
        have V119_b0 : Arv Z h116 b0 k_b0 .char (7 : Int32) [(.int u0), (.int u1), (.int u2), (.int u3), (.int u4), (.int u5), (.int (0 : Int32))] (.int (0 : Int32)) := V119_b0'
        show Go p e below s Z [("com/example/claimwire/claimwire/fpml/LimitReportStatusFromTextPinLaw", 20), ("com/example/claimwire/claimwire/fpml/LimitReportStatusFromTextPinLaw", 22), ("java/lang/String", 7)] _ _ _ (T115.setTop (mkF m 87 #[.val (.ref ea), .val (.int n)] [(.ref b0), (.ref r), (.ref r)]))
        refine Go.by (fun t9_ q9_ => XS.dup W117.here W117.hx rfl (hb hby dc_method_3_code_87) rfl rfl q9_) ?_
        show Go p e below s Z [("com/example/claimwire/claimwire/fpml/LimitReportStatusFromTextPinLaw", 20), ("com/example/claimwire/claimwire/fpml/LimitReportStatusFromTextPinLaw", 22), ("java/lang/String", 7)] _ _ _ (T115.setTop (mkF m 88 #[.val (.ref ea), .val (.int n)] [(.ref b0), (.ref b0), (.ref r), (.ref r)]))
        refine Go.by (fun t9_ q9_ => XS.bipush W117.here W117.hx rfl (hb hby dc_method_3_code_88) q9_) ?_
        show Go p e below s Z [("com/example/claimwire/claimwire/fpml/LimitReportStatusFromTextPinLaw", 20), ("com/example/claimwire/claimwire/fpml/LimitReportStatusFromTextPinLaw", 22), ("java/lang/String", 7)] _ _ _ (T115.setTop (mkF m 90 #[.val (.ref ea), .val (.int n)] [(.int (6 : Int32)), (.ref b0), (.ref b0), (.ref r), (.ref r)]))
        refine Go.by (fun t9_ q9_ => XS.aloadN W117.here W117.hx rfl (hb hby dc_method_3_code_90) rfl rfl q9_) ?_
        show Go p e below s Z [("com/example/claimwire/claimwire/fpml/LimitReportStatusFromTextPinLaw", 20), ("com/example/claimwire/claimwire/fpml/LimitReportStatusFromTextPinLaw", 22), ("java/lang/String", 7)] _ _ _ (T115.setTop (mkF m 91 #[.val (.ref ea), .val (.int n)] [(.ref ea), (.int (6 : Int32)), (.ref b0), (.ref b0), (.ref r), (.ref r)]))
        refine Go.by (fun t9_ q9_ => XS.bipush W117.here W117.hx rfl (hb hby dc_method_3_code_91) q9_) ?_
        show Go p e below s Z [("com/example/claimwire/claimwire/fpml/LimitReportStatusFromTextPinLaw", 20), ("com/example/claimwire/claimwire/fpml/LimitReportStatusFromTextPinLaw", 22), ("java/lang/String", 7)] _ _ _ (T115.setTop (mkF m 93 #[.val (.ref ea), .val (.int n)] [(.int (6 : Int32)), (.ref ea), (.int (6 : Int32)), (.ref b0), (.ref b0), (.ref r), (.ref r)]))
        have X120 : Ext h0 h116 := (Ext.wr' X114 Wr118 (Nat.le_trans E79.1 (Nat.le_of_eq g_b0)))
        refine W117.cald (A_e.ext X120) ⟨by decide, by decide⟩ (v := (.int u6)) rfl (hb hby dc_method_3_code_93) ?_
        show Go p e below s Z [("com/example/claimwire/claimwire/fpml/LimitReportStatusFromTextPinLaw", 20), ("com/example/claimwire/claimwire/fpml/LimitReportStatusFromTextPinLaw", 22), ("java/lang/String", 7)] _ _ _ (T115.setTop (mkF m 94 #[.val (.ref ea), .val (.int n)] [(.int u6), (.int (6 : Int32)), (.ref b0), (.ref b0), (.ref r), (.ref r)]))
        refine W117.cast_ V119_b0 ⟨by decide, by decide⟩ (i := 6) rfl (by simp) (v' := u6) (nar_id (up16 r_u6)) z_b0 (List.mem_of_getElem? (i := 0) rfl) (hb hby dc_method_3_code_94) ?_
        intro T121 h122 W123 Wr124 V125_b0'
        have V125_b0 : Arv Z h122 b0 k_b0 .char (7 : Int32) [(.int u0), (.int u1), (.int u2), (.int u3), (.int u4), (.int u5), (.int u6)] (.int (0 : Int32)) := V125_b0'
        show Go p e below s Z [("com/example/claimwire/claimwire/fpml/LimitReportStatusFromTextPinLaw", 20), ("com/example/claimwire/claimwire/fpml/LimitReportStatusFromTextPinLaw", 22), ("java/lang/String", 7)] _ _ _ (T121.setTop (mkF m 95 #[.val (.ref ea), .val (.int n)] [(.ref b0), (.ref r), (.ref r)]))
        have X130 : Ext h77 h86 := (Ext.wr' E83 Wr88 (Nat.le_of_eq g_b0))
        have X131 : Ext h77 h92 := (Ext.wr' X130 Wr94 (Nat.le_of_eq g_b0))
        have X132 : Ext h77 h98 := (Ext.wr' X131 Wr100 (Nat.le_of_eq g_b0))
        have X133 : Ext h77 h104 := (Ext.wr' X132 Wr106 (Nat.le_of_eq g_b0))
        have X134 : Ext h77 h110 := (Ext.wr' X133 Wr112 (Nat.le_of_eq g_b0))
        have X135 : Ext h77 h116 := (Ext.wr' X134 Wr118 (Nat.le_of_eq g_b0))
        have X136 : Ext h77 h122 := (Ext.wr' X135 Wr124 (Nat.le_of_eq g_b0))
        refine W123.strV (cs := [u0, u1, u2, u3, u4, u5, u6]) (k_words hw) (wd2 hw) (wd53 hw) (wd54 hw) (A_r.ext X136) (F_value_r.ext X136) (F_coder_r.ext X136) V125_b0 (SG1.ext W123.old) hG (q := 7) rfl rfl (by decide) (by decide) (by intro c hc; simp only [List.mem_cons, List.not_mem_nil, or_false] at hc; rcases hc with rfl | rfl | rfl | rfl | rfl | rfl | rfl <;> assumption) z_r (List.mem_of_getElem? (i := 1) rfl) (by decide) (Wt := 1) (by decide) (k' := 3) (n' := 18) rfl rfl (by decide) (by decide) (by rw [hml]; rfl) (Nat.le_of_eq rfl) (hb hby dc_method_3_code_95) ?_
        intro T126 h127 W128 K129 S_r
        show Go p e below s Z [("com/example/claimwire/claimwire/fpml/LimitReportStatusFromTextPinLaw", 20), ("com/example/claimwire/claimwire/fpml/LimitReportStatusFromTextPinLaw", 22), ("java/lang/String", 7)] _ _ _ (T126.setTop (mkF m 98 #[.val (.ref ea), .val (.int n)] [(.ref r)]))
        have X137 : Ext h0 h122 := (Ext.wr' X120 Wr124 (Nat.le_trans E79.1 (Nat.le_of_eq g_b0)))
        have X138 : Ext h0 h127 := (Ext.keep' X137 K129 (allS (Nat.le_of_eq g_r) all0))
        exact W128.retA (by decide) (by decide) hret rfl rfl (hb hby dc_method_3_code_98) ⟨r, _, rfl, X138, S_r, by simp⟩
      · refine Go.by (fun t9_ q9_ => XS.icmpYes W0.here W0.hx rfl (pc0 := 40) (pc' := 99) rfl (hb hby dc_method_3_code_40) rfl (feq n7).2 (by decide) (by decide) q9_) ?_
        show Go p e below s Z [("com/example/claimwire/claimwire/fpml/LimitReportStatusFromTextPinLaw", 20), ("com/example/claimwire/claimwire/fpml/LimitReportStatusFromTextPinLaw", 22), ("java/lang/String", 7)] _ _ _ (T0.setTop (mkF m 99 #[.val (.ref ea), .val (.int n)] []))
        refine Go.by (fun t9_ q9_ => XS.iloadN W0.here W0.hx rfl (hb hby dc_method_3_code_99) rfl q9_) ?_
        show Go p e below s Z [("com/example/claimwire/claimwire/fpml/LimitReportStatusFromTextPinLaw", 20), ("com/example/claimwire/claimwire/fpml/LimitReportStatusFromTextPinLaw", 22), ("java/lang/String", 7)] _ _ _ (T0.setTop (mkF m 100 #[.val (.ref ea), .val (.int n)] [(.int n)]))
        refine Go.by (fun t9_ q9_ => XS.bipush W0.here W0.hx rfl (hb hby dc_method_3_code_100) q9_) ?_
        show Go p e below s Z [("com/example/claimwire/claimwire/fpml/LimitReportStatusFromTextPinLaw", 20), ("com/example/claimwire/claimwire/fpml/LimitReportStatusFromTextPinLaw", 22), ("java/lang/String", 7)] _ _ _ (T0.setTop (mkF m 102 #[.val (.ref ea), .val (.int n)] [(.int (8 : Int32)), (.int n)]))
        by_cases n8 : n = (8 : Int32)
        · refine Go.by (fun t9_ q9_ => XS.icmpNo W0.here W0.hx rfl (hb hby dc_method_3_code_102) rfl (teq n8).2 q9_) ?_
          show Go p e below s Z [("com/example/claimwire/claimwire/fpml/LimitReportStatusFromTextPinLaw", 20), ("com/example/claimwire/claimwire/fpml/LimitReportStatusFromTextPinLaw", 22), ("java/lang/String", 7)] _ _ _ (T0.setTop (mkF m 105 #[.val (.ref ea), .val (.int n)] []))
          refine W0.new (wd52 hw) (wd2 hw) (wd1 hw) (hb hby dc_method_3_code_105) (k' := 1) (n' := 4) rfl rfl (by decide) (by decide) ?_
          intro T139 h140 r W141 E142 g_r z_r A_r D_r
          have F_value_r : Fld Z h140 r "java/lang/String" "value" "[B" .null := D_r (Or.inr (wd4 hw)) (ty := (.array .byte)) (by decide)
          have F_coder_r : Fld Z h140 r "java/lang/String" "coder" "B" (.int (0 : Int32)) := D_r (Or.inr (wd5 hw)) (ty := .byte) (by decide)
          show Go p e below s Z [("com/example/claimwire/claimwire/fpml/LimitReportStatusFromTextPinLaw", 20), ("com/example/claimwire/claimwire/fpml/LimitReportStatusFromTextPinLaw", 22), ("java/lang/String", 7)] _ _ _ (T139.setTop (mkF m 108 #[.val (.ref ea), .val (.int n)] [(.ref r)]))
          refine Go.by (fun t9_ q9_ => XS.dup W141.here W141.hx rfl (hb hby dc_method_3_code_108) rfl rfl q9_) ?_
          show Go p e below s Z [("com/example/claimwire/claimwire/fpml/LimitReportStatusFromTextPinLaw", 20), ("com/example/claimwire/claimwire/fpml/LimitReportStatusFromTextPinLaw", 22), ("java/lang/String", 7)] _ _ _ (T139.setTop (mkF m 109 #[.val (.ref ea), .val (.int n)] [(.ref r), (.ref r)]))
          refine Go.by (fun t9_ q9_ => XS.bipush W141.here W141.hx rfl (hb hby dc_method_3_code_109) q9_) ?_
          show Go p e below s Z [("com/example/claimwire/claimwire/fpml/LimitReportStatusFromTextPinLaw", 20), ("com/example/claimwire/claimwire/fpml/LimitReportStatusFromTextPinLaw", 22), ("java/lang/String", 7)] _ _ _ (T139.setTop (mkF m 111 #[.val (.ref ea), .val (.int n)] [(.int (8 : Int32)), (.ref r), (.ref r)]))
          refine W141.newp (aty := .char) (wd9 hw) (hb hby dc_method_3_code_111) (by decide) (cap := 8) (by decide) (by decide) (k' := 2) (n' := 12) rfl rfl (by decide) (by decide) (ad := "[C") rfl ?_
          intro T143 h144 b0 k_b0 W145 E146 g_b0 z_b0 A_b0 V_b0
          have V1_b0 : Arv Z h144 b0 k_b0 .char (8 : Int32) [(.int (0 : Int32)), (.int (0 : Int32)), (.int (0 : Int32)), (.int (0 : Int32)), (.int (0 : Int32)), (.int (0 : Int32)), (.int (0 : Int32)), (.int (0 : Int32))] (.int (0 : Int32)) := V_b0.pad (pad_rep [] (.int (0 : Int32)) 8)
          show Go p e below s Z [("com/example/claimwire/claimwire/fpml/LimitReportStatusFromTextPinLaw", 20), ("com/example/claimwire/claimwire/fpml/LimitReportStatusFromTextPinLaw", 22), ("java/lang/String", 7)] _ _ _ (T143.setTop (mkF m 113 #[.val (.ref ea), .val (.int n)] [(.ref b0), (.ref r), (.ref r)]))
          refine Go.by (fun t9_ q9_ => XS.dup W145.here W145.hx rfl (hb hby dc_method_3_code_113) rfl rfl q9_) ?_
          show Go p e below s Z [("com/example/claimwire/claimwire/fpml/LimitReportStatusFromTextPinLaw", 20), ("com/example/claimwire/claimwire/fpml/LimitReportStatusFromTextPinLaw", 22), ("java/lang/String", 7)] _ _ _ (T143.setTop (mkF m 114 #[.val (.ref ea), .val (.int n)] [(.ref b0), (.ref b0), (.ref r), (.ref r)]))
          refine Go.by (fun t9_ q9_ => XS.iconst W145.here W145.hx rfl (hb hby dc_method_3_code_114) q9_) ?_
          show Go p e below s Z [("com/example/claimwire/claimwire/fpml/LimitReportStatusFromTextPinLaw", 20), ("com/example/claimwire/claimwire/fpml/LimitReportStatusFromTextPinLaw", 22), ("java/lang/String", 7)] _ _ _ (T143.setTop (mkF m 115 #[.val (.ref ea), .val (.int n)] [(.int (0 : Int32)), (.ref b0), (.ref b0), (.ref r), (.ref r)]))
          refine Go.by (fun t9_ q9_ => XS.aloadN W145.here W145.hx rfl (hb hby dc_method_3_code_115) rfl rfl q9_) ?_
          show Go p e below s Z [("com/example/claimwire/claimwire/fpml/LimitReportStatusFromTextPinLaw", 20), ("com/example/claimwire/claimwire/fpml/LimitReportStatusFromTextPinLaw", 22), ("java/lang/String", 7)] _ _ _ (T143.setTop (mkF m 116 #[.val (.ref ea), .val (.int n)] [(.ref ea), (.int (0 : Int32)), (.ref b0), (.ref b0), (.ref r), (.ref r)]))
          refine Go.by (fun t9_ q9_ => XS.iconst W145.here W145.hx rfl (hb hby dc_method_3_code_116) q9_) ?_
          show Go p e below s Z [("com/example/claimwire/claimwire/fpml/LimitReportStatusFromTextPinLaw", 20), ("com/example/claimwire/claimwire/fpml/LimitReportStatusFromTextPinLaw", 22), ("java/lang/String", 7)] _ _ _ (T143.setTop (mkF m 117 #[.val (.ref ea), .val (.int n)] [(.int (0 : Int32)), (.ref ea), (.int (0 : Int32)), (.ref b0), (.ref b0), (.ref r), (.ref r)]))
          have X147 : Ext h0 h144 := (Ext.trans' E142 E146)
          refine W145.cald (A_e.ext X147) ⟨by decide, by decide⟩ (v := (.int u0)) rfl (hb hby dc_method_3_code_117) ?_
          show Go p e below s Z [("com/example/claimwire/claimwire/fpml/LimitReportStatusFromTextPinLaw", 20), ("com/example/claimwire/claimwire/fpml/LimitReportStatusFromTextPinLaw", 22), ("java/lang/String", 7)] _ _ _ (T143.setTop (mkF m 118 #[.val (.ref ea), .val (.int n)] [(.int u0), (.int (0 : Int32)), (.ref b0), (.ref b0), (.ref r), (.ref r)]))
          refine W145.cast_ V1_b0 ⟨by decide, by decide⟩ (i := 0) rfl (by simp) (v' := u0) (nar_id (up16 r_u0)) z_b0 (List.mem_of_getElem? (i := 0) rfl) (hb hby dc_method_3_code_118) ?_
          intro T148 h149 W150 Wr151 V152_b0'
          have V152_b0 : Arv Z h149 b0 k_b0 .char (8 : Int32) [(.int u0), (.int (0 : Int32)), (.int (0 : Int32)), (.int (0 : Int32)), (.int (0 : Int32)), (.int (0 : Int32)), (.int (0 : Int32)), (.int (0 : Int32))] (.int (0 : Int32)) := V152_b0'
          show Go p e below s Z [("com/example/claimwire/claimwire/fpml/LimitReportStatusFromTextPinLaw", 20), ("com/example/claimwire/claimwire/fpml/LimitReportStatusFromTextPinLaw", 22), ("java/lang/String", 7)] _ _ _ (T148.setTop (mkF m 119 #[.val (.ref ea), .val (.int n)] [(.ref b0), (.ref r), (.ref r)]))
          refine Go.by (fun t9_ q9_ => XS.dup W150.here W150.hx rfl (hb hby dc_method_3_code_119) rfl rfl q9_) ?_
          show Go p e below s Z [("com/example/claimwire/claimwire/fpml/LimitReportStatusFromTextPinLaw", 20), ("com/example/claimwire/claimwire/fpml/LimitReportStatusFromTextPinLaw", 22), ("java/lang/String", 7)] _ _ _ (T148.setTop (mkF m 120 #[.val (.ref ea), .val (.int n)] [(.ref b0), (.ref b0), (.ref r), (.ref r)]))
          refine Go.by (fun t9_ q9_ => XS.iconst W150.here W150.hx rfl (hb hby dc_method_3_code_120) q9_) ?_
          show Go p e below s Z [("com/example/claimwire/claimwire/fpml/LimitReportStatusFromTextPinLaw", 20), ("com/example/claimwire/claimwire/fpml/LimitReportStatusFromTextPinLaw", 22), ("java/lang/String", 7)] _ _ _ (T148.setTop (mkF m 121 #[.val (.ref ea), .val (.int n)] [(.int (1 : Int32)), (.ref b0), (.ref b0), (.ref r), (.ref r)]))
          refine Go.by (fun t9_ q9_ => XS.aloadN W150.here W150.hx rfl (hb hby dc_method_3_code_121) rfl rfl q9_) ?_
          show Go p e below s Z [("com/example/claimwire/claimwire/fpml/LimitReportStatusFromTextPinLaw", 20), ("com/example/claimwire/claimwire/fpml/LimitReportStatusFromTextPinLaw", 22), ("java/lang/String", 7)] _ _ _ (T148.setTop (mkF m 122 #[.val (.ref ea), .val (.int n)] [(.ref ea), (.int (1 : Int32)), (.ref b0), (.ref b0), (.ref r), (.ref r)]))
          refine Go.by (fun t9_ q9_ => XS.iconst W150.here W150.hx rfl (hb hby dc_method_3_code_122) q9_) ?_
          show Go p e below s Z [("com/example/claimwire/claimwire/fpml/LimitReportStatusFromTextPinLaw", 20), ("com/example/claimwire/claimwire/fpml/LimitReportStatusFromTextPinLaw", 22), ("java/lang/String", 7)] _ _ _ (T148.setTop (mkF m 123 #[.val (.ref ea), .val (.int n)] [(.int (1 : Int32)), (.ref ea), (.int (1 : Int32)), (.ref b0), (.ref b0), (.ref r), (.ref r)]))
          have X153 : Ext h0 h149 := (Ext.wr' X147 Wr151 (Nat.le_trans E142.1 (Nat.le_of_eq g_b0)))
          refine W150.cald (A_e.ext X153) ⟨by decide, by decide⟩ (v := (.int u1)) rfl (hb hby dc_method_3_code_123) ?_
          show Go p e below s Z [("com/example/claimwire/claimwire/fpml/LimitReportStatusFromTextPinLaw", 20), ("com/example/claimwire/claimwire/fpml/LimitReportStatusFromTextPinLaw", 22), ("java/lang/String", 7)] _ _ _ (T148.setTop (mkF m 124 #[.val (.ref ea), .val (.int n)] [(.int u1), (.int (1 : Int32)), (.ref b0), (.ref b0), (.ref r), (.ref r)]))
          refine W150.cast_ V152_b0 ⟨by decide, by decide⟩ (i := 1) rfl (by simp) (v' := u1) (nar_id (up16 r_u1)) z_b0 (List.mem_of_getElem? (i := 0) rfl) (hb hby dc_method_3_code_124) ?_
          intro T154 h155 W156 Wr157 V158_b0'
          have V158_b0 : Arv Z h155 b0 k_b0 .char (8 : Int32) [(.int u0), (.int u1), (.int (0 : Int32)), (.int (0 : Int32)), (.int (0 : Int32)), (.int (0 : Int32)), (.int (0 : Int32)), (.int (0 : Int32))] (.int (0 : Int32)) := V158_b0'
          show Go p e below s Z [("com/example/claimwire/claimwire/fpml/LimitReportStatusFromTextPinLaw", 20), ("com/example/claimwire/claimwire/fpml/LimitReportStatusFromTextPinLaw", 22), ("java/lang/String", 7)] _ _ _ (T154.setTop (mkF m 125 #[.val (.ref ea), .val (.int n)] [(.ref b0), (.ref r), (.ref r)]))
          refine Go.by (fun t9_ q9_ => XS.dup W156.here W156.hx rfl (hb hby dc_method_3_code_125) rfl rfl q9_) ?_
          show Go p e below s Z [("com/example/claimwire/claimwire/fpml/LimitReportStatusFromTextPinLaw", 20), ("com/example/claimwire/claimwire/fpml/LimitReportStatusFromTextPinLaw", 22), ("java/lang/String", 7)] _ _ _ (T154.setTop (mkF m 126 #[.val (.ref ea), .val (.int n)] [(.ref b0), (.ref b0), (.ref r), (.ref r)]))
          refine Go.by (fun t9_ q9_ => XS.iconst W156.here W156.hx rfl (hb hby dc_method_3_code_126) q9_) ?_
          show Go p e below s Z [("com/example/claimwire/claimwire/fpml/LimitReportStatusFromTextPinLaw", 20), ("com/example/claimwire/claimwire/fpml/LimitReportStatusFromTextPinLaw", 22), ("java/lang/String", 7)] _ _ _ (T154.setTop (mkF m 127 #[.val (.ref ea), .val (.int n)] [(.int (2 : Int32)), (.ref b0), (.ref b0), (.ref r), (.ref r)]))
          refine Go.by (fun t9_ q9_ => XS.aloadN W156.here W156.hx rfl (hb hby dc_method_3_code_127) rfl rfl q9_) ?_
          show Go p e below s Z [("com/example/claimwire/claimwire/fpml/LimitReportStatusFromTextPinLaw", 20), ("com/example/claimwire/claimwire/fpml/LimitReportStatusFromTextPinLaw", 22), ("java/lang/String", 7)] _ _ _ (T154.setTop (mkF m 128 #[.val (.ref ea), .val (.int n)] [(.ref ea), (.int (2 : Int32)), (.ref b0), (.ref b0), (.ref r), (.ref r)]))
          refine Go.by (fun t9_ q9_ => XS.iconst W156.here W156.hx rfl (hb hby dc_method_3_code_128) q9_) ?_
          show Go p e below s Z [("com/example/claimwire/claimwire/fpml/LimitReportStatusFromTextPinLaw", 20), ("com/example/claimwire/claimwire/fpml/LimitReportStatusFromTextPinLaw", 22), ("java/lang/String", 7)] _ _ _ (T154.setTop (mkF m 129 #[.val (.ref ea), .val (.int n)] [(.int (2 : Int32)), (.ref ea), (.int (2 : Int32)), (.ref b0), (.ref b0), (.ref r), (.ref r)]))
          have X159 : Ext h0 h155 := (Ext.wr' X153 Wr157 (Nat.le_trans E142.1 (Nat.le_of_eq g_b0)))
          refine W156.cald (A_e.ext X159) ⟨by decide, by decide⟩ (v := (.int u2)) rfl (hb hby dc_method_3_code_129) ?_
          show Go p e below s Z [("com/example/claimwire/claimwire/fpml/LimitReportStatusFromTextPinLaw", 20), ("com/example/claimwire/claimwire/fpml/LimitReportStatusFromTextPinLaw", 22), ("java/lang/String", 7)] _ _ _ (T154.setTop (mkF m 130 #[.val (.ref ea), .val (.int n)] [(.int u2), (.int (2 : Int32)), (.ref b0), (.ref b0), (.ref r), (.ref r)]))
          refine W156.cast_ V158_b0 ⟨by decide, by decide⟩ (i := 2) rfl (by simp) (v' := u2) (nar_id (up16 r_u2)) z_b0 (List.mem_of_getElem? (i := 0) rfl) (hb hby dc_method_3_code_130) ?_
          intro T160 h161 W162 Wr163 V164_b0'
          have V164_b0 : Arv Z h161 b0 k_b0 .char (8 : Int32) [(.int u0), (.int u1), (.int u2), (.int (0 : Int32)), (.int (0 : Int32)), (.int (0 : Int32)), (.int (0 : Int32)), (.int (0 : Int32))] (.int (0 : Int32)) := V164_b0'
          show Go p e below s Z [("com/example/claimwire/claimwire/fpml/LimitReportStatusFromTextPinLaw", 20), ("com/example/claimwire/claimwire/fpml/LimitReportStatusFromTextPinLaw", 22), ("java/lang/String", 7)] _ _ _ (T160.setTop (mkF m 131 #[.val (.ref ea), .val (.int n)] [(.ref b0), (.ref r), (.ref r)]))
          refine Go.by (fun t9_ q9_ => XS.dup W162.here W162.hx rfl (hb hby dc_method_3_code_131) rfl rfl q9_) ?_
          show Go p e below s Z [("com/example/claimwire/claimwire/fpml/LimitReportStatusFromTextPinLaw", 20), ("com/example/claimwire/claimwire/fpml/LimitReportStatusFromTextPinLaw", 22), ("java/lang/String", 7)] _ _ _ (T160.setTop (mkF m 132 #[.val (.ref ea), .val (.int n)] [(.ref b0), (.ref b0), (.ref r), (.ref r)]))
          refine Go.by (fun t9_ q9_ => XS.iconst W162.here W162.hx rfl (hb hby dc_method_3_code_132) q9_) ?_
          show Go p e below s Z [("com/example/claimwire/claimwire/fpml/LimitReportStatusFromTextPinLaw", 20), ("com/example/claimwire/claimwire/fpml/LimitReportStatusFromTextPinLaw", 22), ("java/lang/String", 7)] _ _ _ (T160.setTop (mkF m 133 #[.val (.ref ea), .val (.int n)] [(.int (3 : Int32)), (.ref b0), (.ref b0), (.ref r), (.ref r)]))
          refine Go.by (fun t9_ q9_ => XS.aloadN W162.here W162.hx rfl (hb hby dc_method_3_code_133) rfl rfl q9_) ?_
          show Go p e below s Z [("com/example/claimwire/claimwire/fpml/LimitReportStatusFromTextPinLaw", 20), ("com/example/claimwire/claimwire/fpml/LimitReportStatusFromTextPinLaw", 22), ("java/lang/String", 7)] _ _ _ (T160.setTop (mkF m 134 #[.val (.ref ea), .val (.int n)] [(.ref ea), (.int (3 : Int32)), (.ref b0), (.ref b0), (.ref r), (.ref r)]))
          refine Go.by (fun t9_ q9_ => XS.iconst W162.here W162.hx rfl (hb hby dc_method_3_code_134) q9_) ?_
          show Go p e below s Z [("com/example/claimwire/claimwire/fpml/LimitReportStatusFromTextPinLaw", 20), ("com/example/claimwire/claimwire/fpml/LimitReportStatusFromTextPinLaw", 22), ("java/lang/String", 7)] _ _ _ (T160.setTop (mkF m 135 #[.val (.ref ea), .val (.int n)] [(.int (3 : Int32)), (.ref ea), (.int (3 : Int32)), (.ref b0), (.ref b0), (.ref r), (.ref r)]))
          have X165 : Ext h0 h161 := (Ext.wr' X159 Wr163 (Nat.le_trans E142.1 (Nat.le_of_eq g_b0)))
          refine W162.cald (A_e.ext X165) ⟨by decide, by decide⟩ (v := (.int u3)) rfl (hb hby dc_method_3_code_135) ?_
          show Go p e below s Z [("com/example/claimwire/claimwire/fpml/LimitReportStatusFromTextPinLaw", 20), ("com/example/claimwire/claimwire/fpml/LimitReportStatusFromTextPinLaw", 22), ("java/lang/String", 7)] _ _ _ (T160.setTop (mkF m 136 #[.val (.ref ea), .val (.int n)] [(.int u3), (.int (3 : Int32)), (.ref b0), (.ref b0), (.ref r), (.ref r)]))
          refine W162.cast_ V164_b0 ⟨by decide, by decide⟩ (i := 3) rfl (by simp) (v' := u3) (nar_id (up16 r_u3)) z_b0 (List.mem_of_getElem? (i := 0) rfl) (hb hby dc_method_3_code_136) ?_
          intro T166 h167 W168 Wr169 V170_b0'
          have V170_b0 : Arv Z h167 b0 k_b0 .char (8 : Int32) [(.int u0), (.int u1), (.int u2), (.int u3), (.int (0 : Int32)), (.int (0 : Int32)), (.int (0 : Int32)), (.int (0 : Int32))] (.int (0 : Int32)) := V170_b0'
          show Go p e below s Z [("com/example/claimwire/claimwire/fpml/LimitReportStatusFromTextPinLaw", 20), ("com/example/claimwire/claimwire/fpml/LimitReportStatusFromTextPinLaw", 22), ("java/lang/String", 7)] _ _ _ (T166.setTop (mkF m 137 #[.val (.ref ea), .val (.int n)] [(.ref b0), (.ref r), (.ref r)]))
          refine Go.by (fun t9_ q9_ => XS.dup W168.here W168.hx rfl (hb hby dc_method_3_code_137) rfl rfl q9_) ?_
          show Go p e below s Z [("com/example/claimwire/claimwire/fpml/LimitReportStatusFromTextPinLaw", 20), ("com/example/claimwire/claimwire/fpml/LimitReportStatusFromTextPinLaw", 22), ("java/lang/String", 7)] _ _ _ (T166.setTop (mkF m 138 #[.val (.ref ea), .val (.int n)] [(.ref b0), (.ref b0), (.ref r), (.ref r)]))
          refine Go.by (fun t9_ q9_ => XS.iconst W168.here W168.hx rfl (hb hby dc_method_3_code_138) q9_) ?_
          show Go p e below s Z [("com/example/claimwire/claimwire/fpml/LimitReportStatusFromTextPinLaw", 20), ("com/example/claimwire/claimwire/fpml/LimitReportStatusFromTextPinLaw", 22), ("java/lang/String", 7)] _ _ _ (T166.setTop (mkF m 139 #[.val (.ref ea), .val (.int n)] [(.int (4 : Int32)), (.ref b0), (.ref b0), (.ref r), (.ref r)]))
          refine Go.by (fun t9_ q9_ => XS.aloadN W168.here W168.hx rfl (hb hby dc_method_3_code_139) rfl rfl q9_) ?_
          show Go p e below s Z [("com/example/claimwire/claimwire/fpml/LimitReportStatusFromTextPinLaw", 20), ("com/example/claimwire/claimwire/fpml/LimitReportStatusFromTextPinLaw", 22), ("java/lang/String", 7)] _ _ _ (T166.setTop (mkF m 140 #[.val (.ref ea), .val (.int n)] [(.ref ea), (.int (4 : Int32)), (.ref b0), (.ref b0), (.ref r), (.ref r)]))
          refine Go.by (fun t9_ q9_ => XS.iconst W168.here W168.hx rfl (hb hby dc_method_3_code_140) q9_) ?_
          show Go p e below s Z [("com/example/claimwire/claimwire/fpml/LimitReportStatusFromTextPinLaw", 20), ("com/example/claimwire/claimwire/fpml/LimitReportStatusFromTextPinLaw", 22), ("java/lang/String", 7)] _ _ _ (T166.setTop (mkF m 141 #[.val (.ref ea), .val (.int n)] [(.int (4 : Int32)), (.ref ea), (.int (4 : Int32)), (.ref b0), (.ref b0), (.ref r), (.ref r)]))
          have X171 : Ext h0 h167 := (Ext.wr' X165 Wr169 (Nat.le_trans E142.1 (Nat.le_of_eq g_b0)))
          refine W168.cald (A_e.ext X171) ⟨by decide, by decide⟩ (v := (.int u4)) rfl (hb hby dc_method_3_code_141) ?_
          show Go p e below s Z [("com/example/claimwire/claimwire/fpml/LimitReportStatusFromTextPinLaw", 20), ("com/example/claimwire/claimwire/fpml/LimitReportStatusFromTextPinLaw", 22), ("java/lang/String", 7)] _ _ _ (T166.setTop (mkF m 142 #[.val (.ref ea), .val (.int n)] [(.int u4), (.int (4 : Int32)), (.ref b0), (.ref b0), (.ref r), (.ref r)]))
          refine W168.cast_ V170_b0 ⟨by decide, by decide⟩ (i := 4) rfl (by simp) (v' := u4) (nar_id (up16 r_u4)) z_b0 (List.mem_of_getElem? (i := 0) rfl) (hb hby dc_method_3_code_142) ?_
          intro T172 h173 W174 Wr175 V176_b0'
          have V176_b0 : Arv Z h173 b0 k_b0 .char (8 : Int32) [(.int u0), (.int u1), (.int u2), (.int u3), (.int u4), (.int (0 : Int32)), (.int (0 : Int32)), (.int (0 : Int32))] (.int (0 : Int32)) := V176_b0'
          show Go p e below s Z [("com/example/claimwire/claimwire/fpml/LimitReportStatusFromTextPinLaw", 20), ("com/example/claimwire/claimwire/fpml/LimitReportStatusFromTextPinLaw", 22), ("java/lang/String", 7)] _ _ _ (T172.setTop (mkF m 143 #[.val (.ref ea), .val (.int n)] [(.ref b0), (.ref r), (.ref r)]))
          refine Go.by (fun t9_ q9_ => XS.dup W174.here W174.hx rfl (hb hby dc_method_3_code_143) rfl rfl q9_) ?_
          show Go p e below s Z [("com/example/claimwire/claimwire/fpml/LimitReportStatusFromTextPinLaw", 20), ("com/example/claimwire/claimwire/fpml/LimitReportStatusFromTextPinLaw", 22), ("java/lang/String", 7)] _ _ _ (T172.setTop (mkF m 144 #[.val (.ref ea), .val (.int n)] [(.ref b0), (.ref b0), (.ref r), (.ref r)]))
          refine Go.by (fun t9_ q9_ => XS.iconst W174.here W174.hx rfl (hb hby dc_method_3_code_144) q9_) ?_
          show Go p e below s Z [("com/example/claimwire/claimwire/fpml/LimitReportStatusFromTextPinLaw", 20), ("com/example/claimwire/claimwire/fpml/LimitReportStatusFromTextPinLaw", 22), ("java/lang/String", 7)] _ _ _ (T172.setTop (mkF m 145 #[.val (.ref ea), .val (.int n)] [(.int (5 : Int32)), (.ref b0), (.ref b0), (.ref r), (.ref r)]))
          refine Go.by (fun t9_ q9_ => XS.aloadN W174.here W174.hx rfl (hb hby dc_method_3_code_145) rfl rfl q9_) ?_
          show Go p e below s Z [("com/example/claimwire/claimwire/fpml/LimitReportStatusFromTextPinLaw", 20), ("com/example/claimwire/claimwire/fpml/LimitReportStatusFromTextPinLaw", 22), ("java/lang/String", 7)] _ _ _ (T172.setTop (mkF m 146 #[.val (.ref ea), .val (.int n)] [(.ref ea), (.int (5 : Int32)), (.ref b0), (.ref b0), (.ref r), (.ref r)]))
          refine Go.by (fun t9_ q9_ => XS.iconst W174.here W174.hx rfl (hb hby dc_method_3_code_146) q9_) ?_
          show Go p e below s Z [("com/example/claimwire/claimwire/fpml/LimitReportStatusFromTextPinLaw", 20), ("com/example/claimwire/claimwire/fpml/LimitReportStatusFromTextPinLaw", 22), ("java/lang/String", 7)] _ _ _ (T172.setTop (mkF m 147 #[.val (.ref ea), .val (.int n)] [(.int (5 : Int32)), (.ref ea), (.int (5 : Int32)), (.ref b0), (.ref b0), (.ref r), (.ref r)]))
          have X177 : Ext h0 h173 := (Ext.wr' X171 Wr175 (Nat.le_trans E142.1 (Nat.le_of_eq g_b0)))
          refine W174.cald (A_e.ext X177) ⟨by decide, by decide⟩ (v := (.int u5)) rfl (hb hby dc_method_3_code_147) ?_
          show Go p e below s Z [("com/example/claimwire/claimwire/fpml/LimitReportStatusFromTextPinLaw", 20), ("com/example/claimwire/claimwire/fpml/LimitReportStatusFromTextPinLaw", 22), ("java/lang/String", 7)] _ _ _ (T172.setTop (mkF m 148 #[.val (.ref ea), .val (.int n)] [(.int u5), (.int (5 : Int32)), (.ref b0), (.ref b0), (.ref r), (.ref r)]))
          refine W174.cast_ V176_b0 ⟨by decide, by decide⟩ (i := 5) rfl (by simp) (v' := u5) (nar_id (up16 r_u5)) z_b0 (List.mem_of_getElem? (i := 0) rfl) (hb hby dc_method_3_code_148) ?_
          intro T178 h179 W180 Wr181 V182_b0'
          have V182_b0 : Arv Z h179 b0 k_b0 .char (8 : Int32) [(.int u0), (.int u1), (.int u2), (.int u3), (.int u4), (.int u5), (.int (0 : Int32)), (.int (0 : Int32))] (.int (0 : Int32)) := V182_b0'
          show Go p e below s Z [("com/example/claimwire/claimwire/fpml/LimitReportStatusFromTextPinLaw", 20), ("com/example/claimwire/claimwire/fpml/LimitReportStatusFromTextPinLaw", 22), ("java/lang/String", 7)] _ _ _ (T178.setTop (mkF m 149 #[.val (.ref ea), .val (.int n)] [(.ref b0), (.ref r), (.ref r)]))
          refine Go.by (fun t9_ q9_ => XS.dup W180.here W180.hx rfl (hb hby dc_method_3_code_149) rfl rfl q9_) ?_
          show Go p e below s Z [("com/example/claimwire/claimwire/fpml/LimitReportStatusFromTextPinLaw", 20), ("com/example/claimwire/claimwire/fpml/LimitReportStatusFromTextPinLaw", 22), ("java/lang/String", 7)] _ _ _ (T178.setTop (mkF m 150 #[.val (.ref ea), .val (.int n)] [(.ref b0), (.ref b0), (.ref r), (.ref r)]))
          refine Go.by (fun t9_ q9_ => XS.bipush W180.here W180.hx rfl (hb hby dc_method_3_code_150) q9_) ?_
          show Go p e below s Z [("com/example/claimwire/claimwire/fpml/LimitReportStatusFromTextPinLaw", 20), ("com/example/claimwire/claimwire/fpml/LimitReportStatusFromTextPinLaw", 22), ("java/lang/String", 7)] _ _ _ (T178.setTop (mkF m 152 #[.val (.ref ea), .val (.int n)] [(.int (6 : Int32)), (.ref b0), (.ref b0), (.ref r), (.ref r)]))
          refine Go.by (fun t9_ q9_ => XS.aloadN W180.here W180.hx rfl (hb hby dc_method_3_code_152) rfl rfl q9_) ?_
          show Go p e below s Z [("com/example/claimwire/claimwire/fpml/LimitReportStatusFromTextPinLaw", 20), ("com/example/claimwire/claimwire/fpml/LimitReportStatusFromTextPinLaw", 22), ("java/lang/String", 7)] _ _ _ (T178.setTop (mkF m 153 #[.val (.ref ea), .val (.int n)] [(.ref ea), (.int (6 : Int32)), (.ref b0), (.ref b0), (.ref r), (.ref r)]))
          refine Go.by (fun t9_ q9_ => XS.bipush W180.here W180.hx rfl (hb hby dc_method_3_code_153) q9_) ?_
          show Go p e below s Z [("com/example/claimwire/claimwire/fpml/LimitReportStatusFromTextPinLaw", 20), ("com/example/claimwire/claimwire/fpml/LimitReportStatusFromTextPinLaw", 22), ("java/lang/String", 7)] _ _ _ (T178.setTop (mkF m 155 #[.val (.ref ea), .val (.int n)] [(.int (6 : Int32)), (.ref ea), (.int (6 : Int32)), (.ref b0), (.ref b0), (.ref r), (.ref r)]))
          have X183 : Ext h0 h179 := (Ext.wr' X177 Wr181 (Nat.le_trans E142.1 (Nat.le_of_eq g_b0)))
          refine W180.cald (A_e.ext X183) ⟨by decide, by decide⟩ (v := (.int u6)) rfl (hb hby dc_method_3_code_155) ?_
          show Go p e below s Z [("com/example/claimwire/claimwire/fpml/LimitReportStatusFromTextPinLaw", 20), ("com/example/claimwire/claimwire/fpml/LimitReportStatusFromTextPinLaw", 22), ("java/lang/String", 7)] _ _ _ (T178.setTop (mkF m 156 #[.val (.ref ea), .val (.int n)] [(.int u6), (.int (6 : Int32)), (.ref b0), (.ref b0), (.ref r), (.ref r)]))
          refine W180.cast_ V182_b0 ⟨by decide, by decide⟩ (i := 6) rfl (by simp) (v' := u6) (nar_id (up16 r_u6)) z_b0 (List.mem_of_getElem? (i := 0) rfl) (hb hby dc_method_3_code_156) ?_
          intro T184 h185 W186 Wr187 V188_b0'
          have V188_b0 : Arv Z h185 b0 k_b0 .char (8 : Int32) [(.int u0), (.int u1), (.int u2), (.int u3), (.int u4), (.int u5), (.int u6), (.int (0 : Int32))] (.int (0 : Int32)) := V188_b0'
          show Go p e below s Z [("com/example/claimwire/claimwire/fpml/LimitReportStatusFromTextPinLaw", 20), ("com/example/claimwire/claimwire/fpml/LimitReportStatusFromTextPinLaw", 22), ("java/lang/String", 7)] _ _ _ (T184.setTop (mkF m 157 #[.val (.ref ea), .val (.int n)] [(.ref b0), (.ref r), (.ref r)]))
          refine Go.by (fun t9_ q9_ => XS.dup W186.here W186.hx rfl (hb hby dc_method_3_code_157) rfl rfl q9_) ?_
          show Go p e below s Z [("com/example/claimwire/claimwire/fpml/LimitReportStatusFromTextPinLaw", 20), ("com/example/claimwire/claimwire/fpml/LimitReportStatusFromTextPinLaw", 22), ("java/lang/String", 7)] _ _ _ (T184.setTop (mkF m 158 #[.val (.ref ea), .val (.int n)] [(.ref b0), (.ref b0), (.ref r), (.ref r)]))
          refine Go.by (fun t9_ q9_ => XS.bipush W186.here W186.hx rfl (hb hby dc_method_3_code_158) q9_) ?_
          show Go p e below s Z [("com/example/claimwire/claimwire/fpml/LimitReportStatusFromTextPinLaw", 20), ("com/example/claimwire/claimwire/fpml/LimitReportStatusFromTextPinLaw", 22), ("java/lang/String", 7)] _ _ _ (T184.setTop (mkF m 160 #[.val (.ref ea), .val (.int n)] [(.int (7 : Int32)), (.ref b0), (.ref b0), (.ref r), (.ref r)]))
          refine Go.by (fun t9_ q9_ => XS.aloadN W186.here W186.hx rfl (hb hby dc_method_3_code_160) rfl rfl q9_) ?_
          show Go p e below s Z [("com/example/claimwire/claimwire/fpml/LimitReportStatusFromTextPinLaw", 20), ("com/example/claimwire/claimwire/fpml/LimitReportStatusFromTextPinLaw", 22), ("java/lang/String", 7)] _ _ _ (T184.setTop (mkF m 161 #[.val (.ref ea), .val (.int n)] [(.ref ea), (.int (7 : Int32)), (.ref b0), (.ref b0), (.ref r), (.ref r)]))
          refine Go.by (fun t9_ q9_ => XS.bipush W186.here W186.hx rfl (hb hby dc_method_3_code_161) q9_) ?_
          show Go p e below s Z [("com/example/claimwire/claimwire/fpml/LimitReportStatusFromTextPinLaw", 20), ("com/example/claimwire/claimwire/fpml/LimitReportStatusFromTextPinLaw", 22), ("java/lang/String", 7)] _ _ _ (T184.setTop (mkF m 163 #[.val (.ref ea), .val (.int n)] [(.int (7 : Int32)), (.ref ea), (.int (7 : Int32)), (.ref b0), (.ref b0), (.ref r), (.ref r)]))
          have X189 : Ext h0 h185 := (Ext.wr' X183 Wr187 (Nat.le_trans E142.1 (Nat.le_of_eq g_b0)))
          refine W186.cald (A_e.ext X189) ⟨by decide, by decide⟩ (v := (.int u7)) rfl (hb hby dc_method_3_code_163) ?_
          show Go p e below s Z [("com/example/claimwire/claimwire/fpml/LimitReportStatusFromTextPinLaw", 20), ("com/example/claimwire/claimwire/fpml/LimitReportStatusFromTextPinLaw", 22), ("java/lang/String", 7)] _ _ _ (T184.setTop (mkF m 164 #[.val (.ref ea), .val (.int n)] [(.int u7), (.int (7 : Int32)), (.ref b0), (.ref b0), (.ref r), (.ref r)]))
          refine W186.cast_ V188_b0 ⟨by decide, by decide⟩ (i := 7) rfl (by simp) (v' := u7) (nar_id (up16 r_u7)) z_b0 (List.mem_of_getElem? (i := 0) rfl) (hb hby dc_method_3_code_164) ?_
          intro T190 h191 W192 Wr193 V194_b0'
          have V194_b0 : Arv Z h191 b0 k_b0 .char (8 : Int32) [(.int u0), (.int u1), (.int u2), (.int u3), (.int u4), (.int u5), (.int u6), (.int u7)] (.int (0 : Int32)) := V194_b0'
          show Go p e below s Z [("com/example/claimwire/claimwire/fpml/LimitReportStatusFromTextPinLaw", 20), ("com/example/claimwire/claimwire/fpml/LimitReportStatusFromTextPinLaw", 22), ("java/lang/String", 7)] _ _ _ (T190.setTop (mkF m 165 #[.val (.ref ea), .val (.int n)] [(.ref b0), (.ref r), (.ref r)]))
          have X199 : Ext h140 h149 := (Ext.wr' E146 Wr151 (Nat.le_of_eq g_b0))
          have X200 : Ext h140 h155 := (Ext.wr' X199 Wr157 (Nat.le_of_eq g_b0))
          have X201 : Ext h140 h161 := (Ext.wr' X200 Wr163 (Nat.le_of_eq g_b0))
          have X202 : Ext h140 h167 := (Ext.wr' X201 Wr169 (Nat.le_of_eq g_b0))
          have X203 : Ext h140 h173 := (Ext.wr' X202 Wr175 (Nat.le_of_eq g_b0))
          have X204 : Ext h140 h179 := (Ext.wr' X203 Wr181 (Nat.le_of_eq g_b0))
          have X205 : Ext h140 h185 := (Ext.wr' X204 Wr187 (Nat.le_of_eq g_b0))
          have X206 : Ext h140 h191 := (Ext.wr' X205 Wr193 (Nat.le_of_eq g_b0))
          refine W192.strV (cs := [u0, u1, u2, u3, u4, u5, u6, u7]) (k_words hw) (wd2 hw) (wd53 hw) (wd54 hw) (A_r.ext X206) (F_value_r.ext X206) (F_coder_r.ext X206) V194_b0 (SG1.ext W192.old) hG (q := 8) rfl rfl (by decide) (by decide) (by intro c hc; simp only [List.mem_cons, List.not_mem_nil, or_false] at hc; rcases hc with rfl | rfl | rfl | rfl | rfl | rfl | rfl | rfl <;> assumption) z_r (List.mem_of_getElem? (i := 1) rfl) (by decide) (Wt := 1) (by decide) (k' := 3) (n' := 20) rfl rfl (by decide) (by decide) (by rw [hml]; rfl) (Nat.le_of_eq rfl) (hb hby dc_method_3_code_165) ?_
          intro T195 h196 W197 K198 S_r
          show Go p e below s Z [("com/example/claimwire/claimwire/fpml/LimitReportStatusFromTextPinLaw", 20), ("com/example/claimwire/claimwire/fpml/LimitReportStatusFromTextPinLaw", 22), ("java/lang/String", 7)] _ _ _ (T195.setTop (mkF m 168 #[.val (.ref ea), .val (.int n)] [(.ref r)]))
          have X207 : Ext h0 h191 := (Ext.wr' X189 Wr193 (Nat.le_trans E142.1 (Nat.le_of_eq g_b0)))
          have X208 : Ext h0 h196 := (Ext.keep' X207 K198 (allS (Nat.le_of_eq g_r) all0))
          exact W197.retA (by decide) (by decide) hret rfl rfl (hb hby dc_method_3_code_168) ⟨r, _, rfl, X208, S_r, by simp⟩
        · refine Go.by (fun t9_ q9_ => XS.icmpYes W0.here W0.hx rfl (pc0 := 102) (pc' := 169) rfl (hb hby dc_method_3_code_102) rfl (feq n8).2 (by decide) (by decide) q9_) ?_
          show Go p e below s Z [("com/example/claimwire/claimwire/fpml/LimitReportStatusFromTextPinLaw", 20), ("com/example/claimwire/claimwire/fpml/LimitReportStatusFromTextPinLaw", 22), ("java/lang/String", 7)] _ _ _ (T0.setTop (mkF m 169 #[.val (.ref ea), .val (.int n)] []))
          refine Go.by (fun t9_ q9_ => XS.iloadN W0.here W0.hx rfl (hb hby dc_method_3_code_169) rfl q9_) ?_
          show Go p e below s Z [("com/example/claimwire/claimwire/fpml/LimitReportStatusFromTextPinLaw", 20), ("com/example/claimwire/claimwire/fpml/LimitReportStatusFromTextPinLaw", 22), ("java/lang/String", 7)] _ _ _ (T0.setTop (mkF m 170 #[.val (.ref ea), .val (.int n)] [(.int n)]))
          refine Go.by (fun t9_ q9_ => XS.bipush W0.here W0.hx rfl (hb hby dc_method_3_code_170) q9_) ?_
          show Go p e below s Z [("com/example/claimwire/claimwire/fpml/LimitReportStatusFromTextPinLaw", 20), ("com/example/claimwire/claimwire/fpml/LimitReportStatusFromTextPinLaw", 22), ("java/lang/String", 7)] _ _ _ (T0.setTop (mkF m 172 #[.val (.ref ea), .val (.int n)] [(.int (9 : Int32)), (.int n)]))
          by_cases n9 : n = (9 : Int32)
          · refine Go.by (fun t9_ q9_ => XS.icmpNo W0.here W0.hx rfl (hb hby dc_method_3_code_172) rfl (teq n9).2 q9_) ?_
            show Go p e below s Z [("com/example/claimwire/claimwire/fpml/LimitReportStatusFromTextPinLaw", 20), ("com/example/claimwire/claimwire/fpml/LimitReportStatusFromTextPinLaw", 22), ("java/lang/String", 7)] _ _ _ (T0.setTop (mkF m 175 #[.val (.ref ea), .val (.int n)] []))
            refine W0.new (wd52 hw) (wd2 hw) (wd1 hw) (hb hby dc_method_3_code_175) (k' := 1) (n' := 4) rfl rfl (by decide) (by decide) ?_
            intro T209 h210 r W211 E212 g_r z_r A_r D_r
            have F_value_r : Fld Z h210 r "java/lang/String" "value" "[B" .null := D_r (Or.inr (wd4 hw)) (ty := (.array .byte)) (by decide)
            have F_coder_r : Fld Z h210 r "java/lang/String" "coder" "B" (.int (0 : Int32)) := D_r (Or.inr (wd5 hw)) (ty := .byte) (by decide)
            show Go p e below s Z [("com/example/claimwire/claimwire/fpml/LimitReportStatusFromTextPinLaw", 20), ("com/example/claimwire/claimwire/fpml/LimitReportStatusFromTextPinLaw", 22), ("java/lang/String", 7)] _ _ _ (T209.setTop (mkF m 178 #[.val (.ref ea), .val (.int n)] [(.ref r)]))
            refine Go.by (fun t9_ q9_ => XS.dup W211.here W211.hx rfl (hb hby dc_method_3_code_178) rfl rfl q9_) ?_
            show Go p e below s Z [("com/example/claimwire/claimwire/fpml/LimitReportStatusFromTextPinLaw", 20), ("com/example/claimwire/claimwire/fpml/LimitReportStatusFromTextPinLaw", 22), ("java/lang/String", 7)] _ _ _ (T209.setTop (mkF m 179 #[.val (.ref ea), .val (.int n)] [(.ref r), (.ref r)]))
            refine Go.by (fun t9_ q9_ => XS.bipush W211.here W211.hx rfl (hb hby dc_method_3_code_179) q9_) ?_
            show Go p e below s Z [("com/example/claimwire/claimwire/fpml/LimitReportStatusFromTextPinLaw", 20), ("com/example/claimwire/claimwire/fpml/LimitReportStatusFromTextPinLaw", 22), ("java/lang/String", 7)] _ _ _ (T209.setTop (mkF m 181 #[.val (.ref ea), .val (.int n)] [(.int (9 : Int32)), (.ref r), (.ref r)]))
            refine W211.newp (aty := .char) (wd9 hw) (hb hby dc_method_3_code_181) (by decide) (cap := 9) (by decide) (by decide) (k' := 2) (n' := 13) rfl rfl (by decide) (by decide) (ad := "[C") rfl ?_
            intro T213 h214 b0 k_b0 W215 E216 g_b0 z_b0 A_b0 V_b0
            have V1_b0 : Arv Z h214 b0 k_b0 .char (9 : Int32) [(.int (0 : Int32)), (.int (0 : Int32)), (.int (0 : Int32)), (.int (0 : Int32)), (.int (0 : Int32)), (.int (0 : Int32)), (.int (0 : Int32)), (.int (0 : Int32)), (.int (0 : Int32))] (.int (0 : Int32)) := V_b0.pad (pad_rep [] (.int (0 : Int32)) 9)
            show Go p e below s Z [("com/example/claimwire/claimwire/fpml/LimitReportStatusFromTextPinLaw", 20), ("com/example/claimwire/claimwire/fpml/LimitReportStatusFromTextPinLaw", 22), ("java/lang/String", 7)] _ _ _ (T213.setTop (mkF m 183 #[.val (.ref ea), .val (.int n)] [(.ref b0), (.ref r), (.ref r)]))
            refine Go.by (fun t9_ q9_ => XS.dup W215.here W215.hx rfl (hb hby dc_method_3_code_183) rfl rfl q9_) ?_
            show Go p e below s Z [("com/example/claimwire/claimwire/fpml/LimitReportStatusFromTextPinLaw", 20), ("com/example/claimwire/claimwire/fpml/LimitReportStatusFromTextPinLaw", 22), ("java/lang/String", 7)] _ _ _ (T213.setTop (mkF m 184 #[.val (.ref ea), .val (.int n)] [(.ref b0), (.ref b0), (.ref r), (.ref r)]))
            refine Go.by (fun t9_ q9_ => XS.iconst W215.here W215.hx rfl (hb hby dc_method_3_code_184) q9_) ?_
            show Go p e below s Z [("com/example/claimwire/claimwire/fpml/LimitReportStatusFromTextPinLaw", 20), ("com/example/claimwire/claimwire/fpml/LimitReportStatusFromTextPinLaw", 22), ("java/lang/String", 7)] _ _ _ (T213.setTop (mkF m 185 #[.val (.ref ea), .val (.int n)] [(.int (0 : Int32)), (.ref b0), (.ref b0), (.ref r), (.ref r)]))
            refine Go.by (fun t9_ q9_ => XS.aloadN W215.here W215.hx rfl (hb hby dc_method_3_code_185) rfl rfl q9_) ?_
            show Go p e below s Z [("com/example/claimwire/claimwire/fpml/LimitReportStatusFromTextPinLaw", 20), ("com/example/claimwire/claimwire/fpml/LimitReportStatusFromTextPinLaw", 22), ("java/lang/String", 7)] _ _ _ (T213.setTop (mkF m 186 #[.val (.ref ea), .val (.int n)] [(.ref ea), (.int (0 : Int32)), (.ref b0), (.ref b0), (.ref r), (.ref r)]))
            refine Go.by (fun t9_ q9_ => XS.iconst W215.here W215.hx rfl (hb hby dc_method_3_code_186) q9_) ?_
            show Go p e below s Z [("com/example/claimwire/claimwire/fpml/LimitReportStatusFromTextPinLaw", 20), ("com/example/claimwire/claimwire/fpml/LimitReportStatusFromTextPinLaw", 22), ("java/lang/String", 7)] _ _ _ (T213.setTop (mkF m 187 #[.val (.ref ea), .val (.int n)] [(.int (0 : Int32)), (.ref ea), (.int (0 : Int32)), (.ref b0), (.ref b0), (.ref r), (.ref r)]))
            have X217 : Ext h0 h214 := (Ext.trans' E212 E216)
            refine W215.cald (A_e.ext X217) ⟨by decide, by decide⟩ (v := (.int u0)) rfl (hb hby dc_method_3_code_187) ?_
            show Go p e below s Z [("com/example/claimwire/claimwire/fpml/LimitReportStatusFromTextPinLaw", 20), ("com/example/claimwire/claimwire/fpml/LimitReportStatusFromTextPinLaw", 22), ("java/lang/String", 7)] _ _ _ (T213.setTop (mkF m 188 #[.val (.ref ea), .val (.int n)] [(.int u0), (.int (0 : Int32)), (.ref b0), (.ref b0), (.ref r), (.ref r)]))
            refine W215.cast_ V1_b0 ⟨by decide, by decide⟩ (i := 0) rfl (by simp) (v' := u0) (nar_id (up16 r_u0)) z_b0 (List.mem_of_getElem? (i := 0) rfl) (hb hby dc_method_3_code_188) ?_
            intro T218 h219 W220 Wr221 V222_b0'
            have V222_b0 : Arv Z h219 b0 k_b0 .char (9 : Int32) [(.int u0), (.int (0 : Int32)), (.int (0 : Int32)), (.int (0 : Int32)), (.int (0 : Int32)), (.int (0 : Int32)), (.int (0 : Int32)), (.int (0 : Int32)), (.int (0 : Int32))] (.int (0 : Int32)) := V222_b0'
            show Go p e below s Z [("com/example/claimwire/claimwire/fpml/LimitReportStatusFromTextPinLaw", 20), ("com/example/claimwire/claimwire/fpml/LimitReportStatusFromTextPinLaw", 22), ("java/lang/String", 7)] _ _ _ (T218.setTop (mkF m 189 #[.val (.ref ea), .val (.int n)] [(.ref b0), (.ref r), (.ref r)]))
            refine Go.by (fun t9_ q9_ => XS.dup W220.here W220.hx rfl (hb hby dc_method_3_code_189) rfl rfl q9_) ?_
            show Go p e below s Z [("com/example/claimwire/claimwire/fpml/LimitReportStatusFromTextPinLaw", 20), ("com/example/claimwire/claimwire/fpml/LimitReportStatusFromTextPinLaw", 22), ("java/lang/String", 7)] _ _ _ (T218.setTop (mkF m 190 #[.val (.ref ea), .val (.int n)] [(.ref b0), (.ref b0), (.ref r), (.ref r)]))
            refine Go.by (fun t9_ q9_ => XS.iconst W220.here W220.hx rfl (hb hby dc_method_3_code_190) q9_) ?_
            show Go p e below s Z [("com/example/claimwire/claimwire/fpml/LimitReportStatusFromTextPinLaw", 20), ("com/example/claimwire/claimwire/fpml/LimitReportStatusFromTextPinLaw", 22), ("java/lang/String", 7)] _ _ _ (T218.setTop (mkF m 191 #[.val (.ref ea), .val (.int n)] [(.int (1 : Int32)), (.ref b0), (.ref b0), (.ref r), (.ref r)]))
            refine Go.by (fun t9_ q9_ => XS.aloadN W220.here W220.hx rfl (hb hby dc_method_3_code_191) rfl rfl q9_) ?_
            show Go p e below s Z [("com/example/claimwire/claimwire/fpml/LimitReportStatusFromTextPinLaw", 20), ("com/example/claimwire/claimwire/fpml/LimitReportStatusFromTextPinLaw", 22), ("java/lang/String", 7)] _ _ _ (T218.setTop (mkF m 192 #[.val (.ref ea), .val (.int n)] [(.ref ea), (.int (1 : Int32)), (.ref b0), (.ref b0), (.ref r), (.ref r)]))
            refine Go.by (fun t9_ q9_ => XS.iconst W220.here W220.hx rfl (hb hby dc_method_3_code_192) q9_) ?_
            show Go p e below s Z [("com/example/claimwire/claimwire/fpml/LimitReportStatusFromTextPinLaw", 20), ("com/example/claimwire/claimwire/fpml/LimitReportStatusFromTextPinLaw", 22), ("java/lang/String", 7)] _ _ _ (T218.setTop (mkF m 193 #[.val (.ref ea), .val (.int n)] [(.int (1 : Int32)), (.ref ea), (.int (1 : Int32)), (.ref b0), (.ref b0), (.ref r), (.ref r)]))
            have X223 : Ext h0 h219 := (Ext.wr' X217 Wr221 (Nat.le_trans E212.1 (Nat.le_of_eq g_b0)))
            refine W220.cald (A_e.ext X223) ⟨by decide, by decide⟩ (v := (.int u1)) rfl (hb hby dc_method_3_code_193) ?_
            show Go p e below s Z [("com/example/claimwire/claimwire/fpml/LimitReportStatusFromTextPinLaw", 20), ("com/example/claimwire/claimwire/fpml/LimitReportStatusFromTextPinLaw", 22), ("java/lang/String", 7)] _ _ _ (T218.setTop (mkF m 194 #[.val (.ref ea), .val (.int n)] [(.int u1), (.int (1 : Int32)), (.ref b0), (.ref b0), (.ref r), (.ref r)]))
            refine W220.cast_ V222_b0 ⟨by decide, by decide⟩ (i := 1) rfl (by simp) (v' := u1) (nar_id (up16 r_u1)) z_b0 (List.mem_of_getElem? (i := 0) rfl) (hb hby dc_method_3_code_194) ?_
            intro T224 h225 W226 Wr227 V228_b0'
            have V228_b0 : Arv Z h225 b0 k_b0 .char (9 : Int32) [(.int u0), (.int u1), (.int (0 : Int32)), (.int (0 : Int32)), (.int (0 : Int32)), (.int (0 : Int32)), (.int (0 : Int32)), (.int (0 : Int32)), (.int (0 : Int32))] (.int (0 : Int32)) := V228_b0'
            show Go p e below s Z [("com/example/claimwire/claimwire/fpml/LimitReportStatusFromTextPinLaw", 20), ("com/example/claimwire/claimwire/fpml/LimitReportStatusFromTextPinLaw", 22), ("java/lang/String", 7)] _ _ _ (T224.setTop (mkF m 195 #[.val (.ref ea), .val (.int n)] [(.ref b0), (.ref r), (.ref r)]))
            refine Go.by (fun t9_ q9_ => XS.dup W226.here W226.hx rfl (hb hby dc_method_3_code_195) rfl rfl q9_) ?_
            show Go p e below s Z [("com/example/claimwire/claimwire/fpml/LimitReportStatusFromTextPinLaw", 20), ("com/example/claimwire/claimwire/fpml/LimitReportStatusFromTextPinLaw", 22), ("java/lang/String", 7)] _ _ _ (T224.setTop (mkF m 196 #[.val (.ref ea), .val (.int n)] [(.ref b0), (.ref b0), (.ref r), (.ref r)]))
            refine Go.by (fun t9_ q9_ => XS.iconst W226.here W226.hx rfl (hb hby dc_method_3_code_196) q9_) ?_
            show Go p e below s Z [("com/example/claimwire/claimwire/fpml/LimitReportStatusFromTextPinLaw", 20), ("com/example/claimwire/claimwire/fpml/LimitReportStatusFromTextPinLaw", 22), ("java/lang/String", 7)] _ _ _ (T224.setTop (mkF m 197 #[.val (.ref ea), .val (.int n)] [(.int (2 : Int32)), (.ref b0), (.ref b0), (.ref r), (.ref r)]))
            refine Go.by (fun t9_ q9_ => XS.aloadN W226.here W226.hx rfl (hb hby dc_method_3_code_197) rfl rfl q9_) ?_
            show Go p e below s Z [("com/example/claimwire/claimwire/fpml/LimitReportStatusFromTextPinLaw", 20), ("com/example/claimwire/claimwire/fpml/LimitReportStatusFromTextPinLaw", 22), ("java/lang/String", 7)] _ _ _ (T224.setTop (mkF m 198 #[.val (.ref ea), .val (.int n)] [(.ref ea), (.int (2 : Int32)), (.ref b0), (.ref b0), (.ref r), (.ref r)]))
            refine Go.by (fun t9_ q9_ => XS.iconst W226.here W226.hx rfl (hb hby dc_method_3_code_198) q9_) ?_
            show Go p e below s Z [("com/example/claimwire/claimwire/fpml/LimitReportStatusFromTextPinLaw", 20), ("com/example/claimwire/claimwire/fpml/LimitReportStatusFromTextPinLaw", 22), ("java/lang/String", 7)] _ _ _ (T224.setTop (mkF m 199 #[.val (.ref ea), .val (.int n)] [(.int (2 : Int32)), (.ref ea), (.int (2 : Int32)), (.ref b0), (.ref b0), (.ref r), (.ref r)]))
            have X229 : Ext h0 h225 := (Ext.wr' X223 Wr227 (Nat.le_trans E212.1 (Nat.le_of_eq g_b0)))
            refine W226.cald (A_e.ext X229) ⟨by decide, by decide⟩ (v := (.int u2)) rfl (hb hby dc_method_3_code_199) ?_
            show Go p e below s Z [("com/example/claimwire/claimwire/fpml/LimitReportStatusFromTextPinLaw", 20), ("com/example/claimwire/claimwire/fpml/LimitReportStatusFromTextPinLaw", 22), ("java/lang/String", 7)] _ _ _ (T224.setTop (mkF m 200 #[.val (.ref ea), .val (.int n)] [(.int u2), (.int (2 : Int32)), (.ref b0), (.ref b0), (.ref r), (.ref r)]))
            refine W226.cast_ V228_b0 ⟨by decide, by decide⟩ (i := 2) rfl (by simp) (v' := u2) (nar_id (up16 r_u2)) z_b0 (List.mem_of_getElem? (i := 0) rfl) (hb hby dc_method_3_code_200) ?_
            intro T230 h231 W232 Wr233 V234_b0'
            have V234_b0 : Arv Z h231 b0 k_b0 .char (9 : Int32) [(.int u0), (.int u1), (.int u2), (.int (0 : Int32)), (.int (0 : Int32)), (.int (0 : Int32)), (.int (0 : Int32)), (.int (0 : Int32)), (.int (0 : Int32))] (.int (0 : Int32)) := V234_b0'
            show Go p e below s Z [("com/example/claimwire/claimwire/fpml/LimitReportStatusFromTextPinLaw", 20), ("com/example/claimwire/claimwire/fpml/LimitReportStatusFromTextPinLaw", 22), ("java/lang/String", 7)] _ _ _ (T230.setTop (mkF m 201 #[.val (.ref ea), .val (.int n)] [(.ref b0), (.ref r), (.ref r)]))
            refine Go.by (fun t9_ q9_ => XS.dup W232.here W232.hx rfl (hb hby dc_method_3_code_201) rfl rfl q9_) ?_
            show Go p e below s Z [("com/example/claimwire/claimwire/fpml/LimitReportStatusFromTextPinLaw", 20), ("com/example/claimwire/claimwire/fpml/LimitReportStatusFromTextPinLaw", 22), ("java/lang/String", 7)] _ _ _ (T230.setTop (mkF m 202 #[.val (.ref ea), .val (.int n)] [(.ref b0), (.ref b0), (.ref r), (.ref r)]))
            refine Go.by (fun t9_ q9_ => XS.iconst W232.here W232.hx rfl (hb hby dc_method_3_code_202) q9_) ?_
            show Go p e below s Z [("com/example/claimwire/claimwire/fpml/LimitReportStatusFromTextPinLaw", 20), ("com/example/claimwire/claimwire/fpml/LimitReportStatusFromTextPinLaw", 22), ("java/lang/String", 7)] _ _ _ (T230.setTop (mkF m 203 #[.val (.ref ea), .val (.int n)] [(.int (3 : Int32)), (.ref b0), (.ref b0), (.ref r), (.ref r)]))
            refine Go.by (fun t9_ q9_ => XS.aloadN W232.here W232.hx rfl (hb hby dc_method_3_code_203) rfl rfl q9_) ?_
            show Go p e below s Z [("com/example/claimwire/claimwire/fpml/LimitReportStatusFromTextPinLaw", 20), ("com/example/claimwire/claimwire/fpml/LimitReportStatusFromTextPinLaw", 22), ("java/lang/String", 7)] _ _ _ (T230.setTop (mkF m 204 #[.val (.ref ea), .val (.int n)] [(.ref ea), (.int (3 : Int32)), (.ref b0), (.ref b0), (.ref r), (.ref r)]))
            refine Go.by (fun t9_ q9_ => XS.iconst W232.here W232.hx rfl (hb hby dc_method_3_code_204) q9_) ?_
            show Go p e below s Z [("com/example/claimwire/claimwire/fpml/LimitReportStatusFromTextPinLaw", 20), ("com/example/claimwire/claimwire/fpml/LimitReportStatusFromTextPinLaw", 22), ("java/lang/String", 7)] _ _ _ (T230.setTop (mkF m 205 #[.val (.ref ea), .val (.int n)] [(.int (3 : Int32)), (.ref ea), (.int (3 : Int32)), (.ref b0), (.ref b0), (.ref r), (.ref r)]))
            have X235 : Ext h0 h231 := (Ext.wr' X229 Wr233 (Nat.le_trans E212.1 (Nat.le_of_eq g_b0)))
            refine W232.cald (A_e.ext X235) ⟨by decide, by decide⟩ (v := (.int u3)) rfl (hb hby dc_method_3_code_205) ?_
            show Go p e below s Z [("com/example/claimwire/claimwire/fpml/LimitReportStatusFromTextPinLaw", 20), ("com/example/claimwire/claimwire/fpml/LimitReportStatusFromTextPinLaw", 22), ("java/lang/String", 7)] _ _ _ (T230.setTop (mkF m 206 #[.val (.ref ea), .val (.int n)] [(.int u3), (.int (3 : Int32)), (.ref b0), (.ref b0), (.ref r), (.ref r)]))
            refine W232.cast_ V234_b0 ⟨by decide, by decide⟩ (i := 3) rfl (by simp) (v' := u3) (nar_id (up16 r_u3)) z_b0 (List.mem_of_getElem? (i := 0) rfl) (hb hby dc_method_3_code_206) ?_
            intro T236 h237 W238 Wr239 V240_b0'
            have V240_b0 : Arv Z h237 b0 k_b0 .char (9 : Int32) [(.int u0), (.int u1), (.int u2), (.int u3), (.int (0 : Int32)), (.int (0 : Int32)), (.int (0 : Int32)), (.int (0 : Int32)), (.int (0 : Int32))] (.int (0 : Int32)) := V240_b0'
            show Go p e below s Z [("com/example/claimwire/claimwire/fpml/LimitReportStatusFromTextPinLaw", 20), ("com/example/claimwire/claimwire/fpml/LimitReportStatusFromTextPinLaw", 22), ("java/lang/String", 7)] _ _ _ (T236.setTop (mkF m 207 #[.val (.ref ea), .val (.int n)] [(.ref b0), (.ref r), (.ref r)]))
            refine Go.by (fun t9_ q9_ => XS.dup W238.here W238.hx rfl (hb hby dc_method_3_code_207) rfl rfl q9_) ?_
            show Go p e below s Z [("com/example/claimwire/claimwire/fpml/LimitReportStatusFromTextPinLaw", 20), ("com/example/claimwire/claimwire/fpml/LimitReportStatusFromTextPinLaw", 22), ("java/lang/String", 7)] _ _ _ (T236.setTop (mkF m 208 #[.val (.ref ea), .val (.int n)] [(.ref b0), (.ref b0), (.ref r), (.ref r)]))
            refine Go.by (fun t9_ q9_ => XS.iconst W238.here W238.hx rfl (hb hby dc_method_3_code_208) q9_) ?_
            show Go p e below s Z [("com/example/claimwire/claimwire/fpml/LimitReportStatusFromTextPinLaw", 20), ("com/example/claimwire/claimwire/fpml/LimitReportStatusFromTextPinLaw", 22), ("java/lang/String", 7)] _ _ _ (T236.setTop (mkF m 209 #[.val (.ref ea), .val (.int n)] [(.int (4 : Int32)), (.ref b0), (.ref b0), (.ref r), (.ref r)]))
            refine Go.by (fun t9_ q9_ => XS.aloadN W238.here W238.hx rfl (hb hby dc_method_3_code_209) rfl rfl q9_) ?_
            show Go p e below s Z [("com/example/claimwire/claimwire/fpml/LimitReportStatusFromTextPinLaw", 20), ("com/example/claimwire/claimwire/fpml/LimitReportStatusFromTextPinLaw", 22), ("java/lang/String", 7)] _ _ _ (T236.setTop (mkF m 210 #[.val (.ref ea), .val (.int n)] [(.ref ea), (.int (4 : Int32)), (.ref b0), (.ref b0), (.ref r), (.ref r)]))
            refine Go.by (fun t9_ q9_ => XS.iconst W238.here W238.hx rfl (hb hby dc_method_3_code_210) q9_) ?_
            show Go p e below s Z [("com/example/claimwire/claimwire/fpml/LimitReportStatusFromTextPinLaw", 20), ("com/example/claimwire/claimwire/fpml/LimitReportStatusFromTextPinLaw", 22), ("java/lang/String", 7)] _ _ _ (T236.setTop (mkF m 211 #[.val (.ref ea), .val (.int n)] [(.int (4 : Int32)), (.ref ea), (.int (4 : Int32)), (.ref b0), (.ref b0), (.ref r), (.ref r)]))
            have X241 : Ext h0 h237 := (Ext.wr' X235 Wr239 (Nat.le_trans E212.1 (Nat.le_of_eq g_b0)))
            refine W238.cald (A_e.ext X241) ⟨by decide, by decide⟩ (v := (.int u4)) rfl (hb hby dc_method_3_code_211) ?_
            show Go p e below s Z [("com/example/claimwire/claimwire/fpml/LimitReportStatusFromTextPinLaw", 20), ("com/example/claimwire/claimwire/fpml/LimitReportStatusFromTextPinLaw", 22), ("java/lang/String", 7)] _ _ _ (T236.setTop (mkF m 212 #[.val (.ref ea), .val (.int n)] [(.int u4), (.int (4 : Int32)), (.ref b0), (.ref b0), (.ref r), (.ref r)]))
            refine W238.cast_ V240_b0 ⟨by decide, by decide⟩ (i := 4) rfl (by simp) (v' := u4) (nar_id (up16 r_u4)) z_b0 (List.mem_of_getElem? (i := 0) rfl) (hb hby dc_method_3_code_212) ?_
            intro T242 h243 W244 Wr245 V246_b0'
            have V246_b0 : Arv Z h243 b0 k_b0 .char (9 : Int32) [(.int u0), (.int u1), (.int u2), (.int u3), (.int u4), (.int (0 : Int32)), (.int (0 : Int32)), (.int (0 : Int32)), (.int (0 : Int32))] (.int (0 : Int32)) := V246_b0'
            show Go p e below s Z [("com/example/claimwire/claimwire/fpml/LimitReportStatusFromTextPinLaw", 20), ("com/example/claimwire/claimwire/fpml/LimitReportStatusFromTextPinLaw", 22), ("java/lang/String", 7)] _ _ _ (T242.setTop (mkF m 213 #[.val (.ref ea), .val (.int n)] [(.ref b0), (.ref r), (.ref r)]))
            refine Go.by (fun t9_ q9_ => XS.dup W244.here W244.hx rfl (hb hby dc_method_3_code_213) rfl rfl q9_) ?_
            show Go p e below s Z [("com/example/claimwire/claimwire/fpml/LimitReportStatusFromTextPinLaw", 20), ("com/example/claimwire/claimwire/fpml/LimitReportStatusFromTextPinLaw", 22), ("java/lang/String", 7)] _ _ _ (T242.setTop (mkF m 214 #[.val (.ref ea), .val (.int n)] [(.ref b0), (.ref b0), (.ref r), (.ref r)]))
            refine Go.by (fun t9_ q9_ => XS.iconst W244.here W244.hx rfl (hb hby dc_method_3_code_214) q9_) ?_
            show Go p e below s Z [("com/example/claimwire/claimwire/fpml/LimitReportStatusFromTextPinLaw", 20), ("com/example/claimwire/claimwire/fpml/LimitReportStatusFromTextPinLaw", 22), ("java/lang/String", 7)] _ _ _ (T242.setTop (mkF m 215 #[.val (.ref ea), .val (.int n)] [(.int (5 : Int32)), (.ref b0), (.ref b0), (.ref r), (.ref r)]))
            refine Go.by (fun t9_ q9_ => XS.aloadN W244.here W244.hx rfl (hb hby dc_method_3_code_215) rfl rfl q9_) ?_
            show Go p e below s Z [("com/example/claimwire/claimwire/fpml/LimitReportStatusFromTextPinLaw", 20), ("com/example/claimwire/claimwire/fpml/LimitReportStatusFromTextPinLaw", 22), ("java/lang/String", 7)] _ _ _ (T242.setTop (mkF m 216 #[.val (.ref ea), .val (.int n)] [(.ref ea), (.int (5 : Int32)), (.ref b0), (.ref b0), (.ref r), (.ref r)]))
            refine Go.by (fun t9_ q9_ => XS.iconst W244.here W244.hx rfl (hb hby dc_method_3_code_216) q9_) ?_
            show Go p e below s Z [("com/example/claimwire/claimwire/fpml/LimitReportStatusFromTextPinLaw", 20), ("com/example/claimwire/claimwire/fpml/LimitReportStatusFromTextPinLaw", 22), ("java/lang/String", 7)] _ _ _ (T242.setTop (mkF m 217 #[.val (.ref ea), .val (.int n)] [(.int (5 : Int32)), (.ref ea), (.int (5 : Int32)), (.ref b0), (.ref b0), (.ref r), (.ref r)]))
            have X247 : Ext h0 h243 := (Ext.wr' X241 Wr245 (Nat.le_trans E212.1 (Nat.le_of_eq g_b0)))
            refine W244.cald (A_e.ext X247) ⟨by decide, by decide⟩ (v := (.int u5)) rfl (hb hby dc_method_3_code_217) ?_
            show Go p e below s Z [("com/example/claimwire/claimwire/fpml/LimitReportStatusFromTextPinLaw", 20), ("com/example/claimwire/claimwire/fpml/LimitReportStatusFromTextPinLaw", 22), ("java/lang/String", 7)] _ _ _ (T242.setTop (mkF m 218 #[.val (.ref ea), .val (.int n)] [(.int u5), (.int (5 : Int32)), (.ref b0), (.ref b0), (.ref r), (.ref r)]))
            refine W244.cast_ V246_b0 ⟨by decide, by decide⟩ (i := 5) rfl (by simp) (v' := u5) (nar_id (up16 r_u5)) z_b0 (List.mem_of_getElem? (i := 0) rfl) (hb hby dc_method_3_code_218) ?_
            intro T248 h249 W250 Wr251 V252_b0'
            have V252_b0 : Arv Z h249 b0 k_b0 .char (9 : Int32) [(.int u0), (.int u1), (.int u2), (.int u3), (.int u4), (.int u5), (.int (0 : Int32)), (.int (0 : Int32)), (.int (0 : Int32))] (.int (0 : Int32)) := V252_b0'
            show Go p e below s Z [("com/example/claimwire/claimwire/fpml/LimitReportStatusFromTextPinLaw", 20), ("com/example/claimwire/claimwire/fpml/LimitReportStatusFromTextPinLaw", 22), ("java/lang/String", 7)] _ _ _ (T248.setTop (mkF m 219 #[.val (.ref ea), .val (.int n)] [(.ref b0), (.ref r), (.ref r)]))
            refine Go.by (fun t9_ q9_ => XS.dup W250.here W250.hx rfl (hb hby dc_method_3_code_219) rfl rfl q9_) ?_
            show Go p e below s Z [("com/example/claimwire/claimwire/fpml/LimitReportStatusFromTextPinLaw", 20), ("com/example/claimwire/claimwire/fpml/LimitReportStatusFromTextPinLaw", 22), ("java/lang/String", 7)] _ _ _ (T248.setTop (mkF m 220 #[.val (.ref ea), .val (.int n)] [(.ref b0), (.ref b0), (.ref r), (.ref r)]))
            refine Go.by (fun t9_ q9_ => XS.bipush W250.here W250.hx rfl (hb hby dc_method_3_code_220) q9_) ?_
            show Go p e below s Z [("com/example/claimwire/claimwire/fpml/LimitReportStatusFromTextPinLaw", 20), ("com/example/claimwire/claimwire/fpml/LimitReportStatusFromTextPinLaw", 22), ("java/lang/String", 7)] _ _ _ (T248.setTop (mkF m 222 #[.val (.ref ea), .val (.int n)] [(.int (6 : Int32)), (.ref b0), (.ref b0), (.ref r), (.ref r)]))
            refine Go.by (fun t9_ q9_ => XS.aloadN W250.here W250.hx rfl (hb hby dc_method_3_code_222) rfl rfl q9_) ?_
            show Go p e below s Z [("com/example/claimwire/claimwire/fpml/LimitReportStatusFromTextPinLaw", 20), ("com/example/claimwire/claimwire/fpml/LimitReportStatusFromTextPinLaw", 22), ("java/lang/String", 7)] _ _ _ (T248.setTop (mkF m 223 #[.val (.ref ea), .val (.int n)] [(.ref ea), (.int (6 : Int32)), (.ref b0), (.ref b0), (.ref r), (.ref r)]))
            refine Go.by (fun t9_ q9_ => XS.bipush W250.here W250.hx rfl (hb hby dc_method_3_code_223) q9_) ?_
            show Go p e below s Z [("com/example/claimwire/claimwire/fpml/LimitReportStatusFromTextPinLaw", 20), ("com/example/claimwire/claimwire/fpml/LimitReportStatusFromTextPinLaw", 22), ("java/lang/String", 7)] _ _ _ (T248.setTop (mkF m 225 #[.val (.ref ea), .val (.int n)] [(.int (6 : Int32)), (.ref ea), (.int (6 : Int32)), (.ref b0), (.ref b0), (.ref r), (.ref r)]))
            have X253 : Ext h0 h249 := (Ext.wr' X247 Wr251 (Nat.le_trans E212.1 (Nat.le_of_eq g_b0)))
            refine W250.cald (A_e.ext X253) ⟨by decide, by decide⟩ (v := (.int u6)) rfl (hb hby dc_method_3_code_225) ?_
            show Go p e below s Z [("com/example/claimwire/claimwire/fpml/LimitReportStatusFromTextPinLaw", 20), ("com/example/claimwire/claimwire/fpml/LimitReportStatusFromTextPinLaw", 22), ("java/lang/String", 7)] _ _ _ (T248.setTop (mkF m 226 #[.val (.ref ea), .val (.int n)] [(.int u6), (.int (6 : Int32)), (.ref b0), (.ref b0), (.ref r), (.ref r)]))
            refine W250.cast_ V252_b0 ⟨by decide, by decide⟩ (i := 6) rfl (by simp) (v' := u6) (nar_id (up16 r_u6)) z_b0 (List.mem_of_getElem? (i := 0) rfl) (hb hby dc_method_3_code_226) ?_
            intro T254 h255 W256 Wr257 V258_b0'
            have V258_b0 : Arv Z h255 b0 k_b0 .char (9 : Int32) [(.int u0), (.int u1), (.int u2), (.int u3), (.int u4), (.int u5), (.int u6), (.int (0 : Int32)), (.int (0 : Int32))] (.int (0 : Int32)) := V258_b0'
            show Go p e below s Z [("com/example/claimwire/claimwire/fpml/LimitReportStatusFromTextPinLaw", 20), ("com/example/claimwire/claimwire/fpml/LimitReportStatusFromTextPinLaw", 22), ("java/lang/String", 7)] _ _ _ (T254.setTop (mkF m 227 #[.val (.ref ea), .val (.int n)] [(.ref b0), (.ref r), (.ref r)]))
            refine Go.by (fun t9_ q9_ => XS.dup W256.here W256.hx rfl (hb hby dc_method_3_code_227) rfl rfl q9_) ?_
            show Go p e below s Z [("com/example/claimwire/claimwire/fpml/LimitReportStatusFromTextPinLaw", 20), ("com/example/claimwire/claimwire/fpml/LimitReportStatusFromTextPinLaw", 22), ("java/lang/String", 7)] _ _ _ (T254.setTop (mkF m 228 #[.val (.ref ea), .val (.int n)] [(.ref b0), (.ref b0), (.ref r), (.ref r)]))
            refine Go.by (fun t9_ q9_ => XS.bipush W256.here W256.hx rfl (hb hby dc_method_3_code_228) q9_) ?_
            show Go p e below s Z [("com/example/claimwire/claimwire/fpml/LimitReportStatusFromTextPinLaw", 20), ("com/example/claimwire/claimwire/fpml/LimitReportStatusFromTextPinLaw", 22), ("java/lang/String", 7)] _ _ _ (T254.setTop (mkF m 230 #[.val (.ref ea), .val (.int n)] [(.int (7 : Int32)), (.ref b0), (.ref b0), (.ref r), (.ref r)]))
            refine Go.by (fun t9_ q9_ => XS.aloadN W256.here W256.hx rfl (hb hby dc_method_3_code_230) rfl rfl q9_) ?_
            show Go p e below s Z [("com/example/claimwire/claimwire/fpml/LimitReportStatusFromTextPinLaw", 20), ("com/example/claimwire/claimwire/fpml/LimitReportStatusFromTextPinLaw", 22), ("java/lang/String", 7)] _ _ _ (T254.setTop (mkF m 231 #[.val (.ref ea), .val (.int n)] [(.ref ea), (.int (7 : Int32)), (.ref b0), (.ref b0), (.ref r), (.ref r)]))
            refine Go.by (fun t9_ q9_ => XS.bipush W256.here W256.hx rfl (hb hby dc_method_3_code_231) q9_) ?_
            show Go p e below s Z [("com/example/claimwire/claimwire/fpml/LimitReportStatusFromTextPinLaw", 20), ("com/example/claimwire/claimwire/fpml/LimitReportStatusFromTextPinLaw", 22), ("java/lang/String", 7)] _ _ _ (T254.setTop (mkF m 233 #[.val (.ref ea), .val (.int n)] [(.int (7 : Int32)), (.ref ea), (.int (7 : Int32)), (.ref b0), (.ref b0), (.ref r), (.ref r)]))
            have X259 : Ext h0 h255 := (Ext.wr' X253 Wr257 (Nat.le_trans E212.1 (Nat.le_of_eq g_b0)))
            refine W256.cald (A_e.ext X259) ⟨by decide, by decide⟩ (v := (.int u7)) rfl (hb hby dc_method_3_code_233) ?_
            show Go p e below s Z [("com/example/claimwire/claimwire/fpml/LimitReportStatusFromTextPinLaw", 20), ("com/example/claimwire/claimwire/fpml/LimitReportStatusFromTextPinLaw", 22), ("java/lang/String", 7)] _ _ _ (T254.setTop (mkF m 234 #[.val (.ref ea), .val (.int n)] [(.int u7), (.int (7 : Int32)), (.ref b0), (.ref b0), (.ref r), (.ref r)]))
            refine W256.cast_ V258_b0 ⟨by decide, by decide⟩ (i := 7) rfl (by simp) (v' := u7) (nar_id (up16 r_u7)) z_b0 (List.mem_of_getElem? (i := 0) rfl) (hb hby dc_method_3_code_234) ?_
            intro T260 h261 W262 Wr263 V264_b0'
            have V264_b0 : Arv Z h261 b0 k_b0 .char (9 : Int32) [(.int u0), (.int u1), (.int u2), (.int u3), (.int u4), (.int u5), (.int u6), (.int u7), (.int (0 : Int32))] (.int (0 : Int32)) := V264_b0'
            show Go p e below s Z [("com/example/claimwire/claimwire/fpml/LimitReportStatusFromTextPinLaw", 20), ("com/example/claimwire/claimwire/fpml/LimitReportStatusFromTextPinLaw", 22), ("java/lang/String", 7)] _ _ _ (T260.setTop (mkF m 235 #[.val (.ref ea), .val (.int n)] [(.ref b0), (.ref r), (.ref r)]))
            refine Go.by (fun t9_ q9_ => XS.dup W262.here W262.hx rfl (hb hby dc_method_3_code_235) rfl rfl q9_) ?_
            show Go p e below s Z [("com/example/claimwire/claimwire/fpml/LimitReportStatusFromTextPinLaw", 20), ("com/example/claimwire/claimwire/fpml/LimitReportStatusFromTextPinLaw", 22), ("java/lang/String", 7)] _ _ _ (T260.setTop (mkF m 236 #[.val (.ref ea), .val (.int n)] [(.ref b0), (.ref b0), (.ref r), (.ref r)]))
            refine Go.by (fun t9_ q9_ => XS.bipush W262.here W262.hx rfl (hb hby dc_method_3_code_236) q9_) ?_
            show Go p e below s Z [("com/example/claimwire/claimwire/fpml/LimitReportStatusFromTextPinLaw", 20), ("com/example/claimwire/claimwire/fpml/LimitReportStatusFromTextPinLaw", 22), ("java/lang/String", 7)] _ _ _ (T260.setTop (mkF m 238 #[.val (.ref ea), .val (.int n)] [(.int (8 : Int32)), (.ref b0), (.ref b0), (.ref r), (.ref r)]))
            refine Go.by (fun t9_ q9_ => XS.aloadN W262.here W262.hx rfl (hb hby dc_method_3_code_238) rfl rfl q9_) ?_
            show Go p e below s Z [("com/example/claimwire/claimwire/fpml/LimitReportStatusFromTextPinLaw", 20), ("com/example/claimwire/claimwire/fpml/LimitReportStatusFromTextPinLaw", 22), ("java/lang/String", 7)] _ _ _ (T260.setTop (mkF m 239 #[.val (.ref ea), .val (.int n)] [(.ref ea), (.int (8 : Int32)), (.ref b0), (.ref b0), (.ref r), (.ref r)]))
            refine Go.by (fun t9_ q9_ => XS.bipush W262.here W262.hx rfl (hb hby dc_method_3_code_239) q9_) ?_
            show Go p e below s Z [("com/example/claimwire/claimwire/fpml/LimitReportStatusFromTextPinLaw", 20), ("com/example/claimwire/claimwire/fpml/LimitReportStatusFromTextPinLaw", 22), ("java/lang/String", 7)] _ _ _ (T260.setTop (mkF m 241 #[.val (.ref ea), .val (.int n)] [(.int (8 : Int32)), (.ref ea), (.int (8 : Int32)), (.ref b0), (.ref b0), (.ref r), (.ref r)]))
            have X265 : Ext h0 h261 := (Ext.wr' X259 Wr263 (Nat.le_trans E212.1 (Nat.le_of_eq g_b0)))
            refine W262.cald (A_e.ext X265) ⟨by decide, by decide⟩ (v := (.int u8)) rfl (hb hby dc_method_3_code_241) ?_
            show Go p e below s Z [("com/example/claimwire/claimwire/fpml/LimitReportStatusFromTextPinLaw", 20), ("com/example/claimwire/claimwire/fpml/LimitReportStatusFromTextPinLaw", 22), ("java/lang/String", 7)] _ _ _ (T260.setTop (mkF m 242 #[.val (.ref ea), .val (.int n)] [(.int u8), (.int (8 : Int32)), (.ref b0), (.ref b0), (.ref r), (.ref r)]))
            refine W262.cast_ V264_b0 ⟨by decide, by decide⟩ (i := 8) rfl (by simp) (v' := u8) (nar_id (up16 r_u8)) z_b0 (List.mem_of_getElem? (i := 0) rfl) (hb hby dc_method_3_code_242) ?_
            intro T266 h267 W268 Wr269 V270_b0'
            have V270_b0 : Arv Z h267 b0 k_b0 .char (9 : Int32) [(.int u0), (.int u1), (.int u2), (.int u3), (.int u4), (.int u5), (.int u6), (.int u7), (.int u8)] (.int (0 : Int32)) := V270_b0'
            show Go p e below s Z [("com/example/claimwire/claimwire/fpml/LimitReportStatusFromTextPinLaw", 20), ("com/example/claimwire/claimwire/fpml/LimitReportStatusFromTextPinLaw", 22), ("java/lang/String", 7)] _ _ _ (T266.setTop (mkF m 243 #[.val (.ref ea), .val (.int n)] [(.ref b0), (.ref r), (.ref r)]))
            have X275 : Ext h210 h219 := (Ext.wr' E216 Wr221 (Nat.le_of_eq g_b0))
            have X276 : Ext h210 h225 := (Ext.wr' X275 Wr227 (Nat.le_of_eq g_b0))
            have X277 : Ext h210 h231 := (Ext.wr' X276 Wr233 (Nat.le_of_eq g_b0))
            have X278 : Ext h210 h237 := (Ext.wr' X277 Wr239 (Nat.le_of_eq g_b0))
            have X279 : Ext h210 h243 := (Ext.wr' X278 Wr245 (Nat.le_of_eq g_b0))
            have X280 : Ext h210 h249 := (Ext.wr' X279 Wr251 (Nat.le_of_eq g_b0))
            have X281 : Ext h210 h255 := (Ext.wr' X280 Wr257 (Nat.le_of_eq g_b0))
            have X282 : Ext h210 h261 := (Ext.wr' X281 Wr263 (Nat.le_of_eq g_b0))
            have X283 : Ext h210 h267 := (Ext.wr' X282 Wr269 (Nat.le_of_eq g_b0))
            refine W268.strV (cs := [u0, u1, u2, u3, u4, u5, u6, u7, u8]) (k_words hw) (wd2 hw) (wd53 hw) (wd54 hw) (A_r.ext X283) (F_value_r.ext X283) (F_coder_r.ext X283) V270_b0 (SG1.ext W268.old) hG (q := 9) rfl rfl (by decide) (by decide) (by intro c hc; simp only [List.mem_cons, List.not_mem_nil, or_false] at hc; rcases hc with rfl | rfl | rfl | rfl | rfl | rfl | rfl | rfl | rfl <;> assumption) z_r (List.mem_of_getElem? (i := 1) rfl) (by decide) (Wt := 1) (by decide) (k' := 3) (n' := 22) rfl rfl (by decide) (by decide) (by rw [hml]; rfl) (Nat.le_of_eq rfl) (hb hby dc_method_3_code_243) ?_
            intro T271 h272 W273 K274 S_r
            show Go p e below s Z [("com/example/claimwire/claimwire/fpml/LimitReportStatusFromTextPinLaw", 20), ("com/example/claimwire/claimwire/fpml/LimitReportStatusFromTextPinLaw", 22), ("java/lang/String", 7)] _ _ _ (T271.setTop (mkF m 246 #[.val (.ref ea), .val (.int n)] [(.ref r)]))
            have X284 : Ext h0 h267 := (Ext.wr' X265 Wr269 (Nat.le_trans E212.1 (Nat.le_of_eq g_b0)))
            have X285 : Ext h0 h272 := (Ext.keep' X284 K274 (allS (Nat.le_of_eq g_r) all0))
            exact W273.retA (by decide) (by decide) hret rfl rfl (hb hby dc_method_3_code_246) ⟨r, _, rfl, X285, S_r, by simp⟩
          · refine Go.by (fun t9_ q9_ => XS.icmpYes W0.here W0.hx rfl (pc0 := 172) (pc' := 247) rfl (hb hby dc_method_3_code_172) rfl (feq n9).2 (by decide) (by decide) q9_) ?_
            show Go p e below s Z [("com/example/claimwire/claimwire/fpml/LimitReportStatusFromTextPinLaw", 20), ("com/example/claimwire/claimwire/fpml/LimitReportStatusFromTextPinLaw", 22), ("java/lang/String", 7)] _ _ _ (T0.setTop (mkF m 247 #[.val (.ref ea), .val (.int n)] []))
            refine Go.by (fun t9_ q9_ => XS.iloadN W0.here W0.hx rfl (hb hby dc_method_3_code_247) rfl q9_) ?_
            show Go p e below s Z [("com/example/claimwire/claimwire/fpml/LimitReportStatusFromTextPinLaw", 20), ("com/example/claimwire/claimwire/fpml/LimitReportStatusFromTextPinLaw", 22), ("java/lang/String", 7)] _ _ _ (T0.setTop (mkF m 248 #[.val (.ref ea), .val (.int n)] [(.int n)]))
            refine Go.by (fun t9_ q9_ => XS.bipush W0.here W0.hx rfl (hb hby dc_method_3_code_248) q9_) ?_
            show Go p e below s Z [("com/example/claimwire/claimwire/fpml/LimitReportStatusFromTextPinLaw", 20), ("com/example/claimwire/claimwire/fpml/LimitReportStatusFromTextPinLaw", 22), ("java/lang/String", 7)] _ _ _ (T0.setTop (mkF m 250 #[.val (.ref ea), .val (.int n)] [(.int (10 : Int32)), (.int n)]))
            by_cases n10 : n = (10 : Int32)
            · refine Go.by (fun t9_ q9_ => XS.icmpNo W0.here W0.hx rfl (hb hby dc_method_3_code_250) rfl (teq n10).2 q9_) ?_
              show Go p e below s Z [("com/example/claimwire/claimwire/fpml/LimitReportStatusFromTextPinLaw", 20), ("com/example/claimwire/claimwire/fpml/LimitReportStatusFromTextPinLaw", 22), ("java/lang/String", 7)] _ _ _ (T0.setTop (mkF m 253 #[.val (.ref ea), .val (.int n)] []))
              refine W0.new (wd52 hw) (wd2 hw) (wd1 hw) (hb hby dc_method_3_code_253) (k' := 1) (n' := 4) rfl rfl (by decide) (by decide) ?_
              intro T286 h287 r W288 E289 g_r z_r A_r D_r
              have F_value_r : Fld Z h287 r "java/lang/String" "value" "[B" .null := D_r (Or.inr (wd4 hw)) (ty := (.array .byte)) (by decide)
              have F_coder_r : Fld Z h287 r "java/lang/String" "coder" "B" (.int (0 : Int32)) := D_r (Or.inr (wd5 hw)) (ty := .byte) (by decide)
              show Go p e below s Z [("com/example/claimwire/claimwire/fpml/LimitReportStatusFromTextPinLaw", 20), ("com/example/claimwire/claimwire/fpml/LimitReportStatusFromTextPinLaw", 22), ("java/lang/String", 7)] _ _ _ (T286.setTop (mkF m 256 #[.val (.ref ea), .val (.int n)] [(.ref r)]))
              refine Go.by (fun t9_ q9_ => XS.dup W288.here W288.hx rfl (hb hby dc_method_3_code_256) rfl rfl q9_) ?_
              show Go p e below s Z [("com/example/claimwire/claimwire/fpml/LimitReportStatusFromTextPinLaw", 20), ("com/example/claimwire/claimwire/fpml/LimitReportStatusFromTextPinLaw", 22), ("java/lang/String", 7)] _ _ _ (T286.setTop (mkF m 257 #[.val (.ref ea), .val (.int n)] [(.ref r), (.ref r)]))
              refine Go.by (fun t9_ q9_ => XS.bipush W288.here W288.hx rfl (hb hby dc_method_3_code_257) q9_) ?_
              show Go p e below s Z [("com/example/claimwire/claimwire/fpml/LimitReportStatusFromTextPinLaw", 20), ("com/example/claimwire/claimwire/fpml/LimitReportStatusFromTextPinLaw", 22), ("java/lang/String", 7)] _ _ _ (T286.setTop (mkF m 259 #[.val (.ref ea), .val (.int n)] [(.int (10 : Int32)), (.ref r), (.ref r)]))
              refine W288.newp (aty := .char) (wd9 hw) (hb hby dc_method_3_code_259) (by decide) (cap := 10) (by decide) (by decide) (k' := 2) (n' := 14) rfl rfl (by decide) (by decide) (ad := "[C") rfl ?_
              intro T290 h291 b0 k_b0 W292 E293 g_b0 z_b0 A_b0 V_b0
              have V1_b0 : Arv Z h291 b0 k_b0 .char (10 : Int32) [(.int (0 : Int32)), (.int (0 : Int32)), (.int (0 : Int32)), (.int (0 : Int32)), (.int (0 : Int32)), (.int (0 : Int32)), (.int (0 : Int32)), (.int (0 : Int32)), (.int (0 : Int32)), (.int (0 : Int32))] (.int (0 : Int32)) := V_b0.pad (pad_rep [] (.int (0 : Int32)) 10)
              show Go p e below s Z [("com/example/claimwire/claimwire/fpml/LimitReportStatusFromTextPinLaw", 20), ("com/example/claimwire/claimwire/fpml/LimitReportStatusFromTextPinLaw", 22), ("java/lang/String", 7)] _ _ _ (T290.setTop (mkF m 261 #[.val (.ref ea), .val (.int n)] [(.ref b0), (.ref r), (.ref r)]))
              refine Go.by (fun t9_ q9_ => XS.dup W292.here W292.hx rfl (hb hby dc_method_3_code_261) rfl rfl q9_) ?_
              show Go p e below s Z [("com/example/claimwire/claimwire/fpml/LimitReportStatusFromTextPinLaw", 20), ("com/example/claimwire/claimwire/fpml/LimitReportStatusFromTextPinLaw", 22), ("java/lang/String", 7)] _ _ _ (T290.setTop (mkF m 262 #[.val (.ref ea), .val (.int n)] [(.ref b0), (.ref b0), (.ref r), (.ref r)]))
              refine Go.by (fun t9_ q9_ => XS.iconst W292.here W292.hx rfl (hb hby dc_method_3_code_262) q9_) ?_
              show Go p e below s Z [("com/example/claimwire/claimwire/fpml/LimitReportStatusFromTextPinLaw", 20), ("com/example/claimwire/claimwire/fpml/LimitReportStatusFromTextPinLaw", 22), ("java/lang/String", 7)] _ _ _ (T290.setTop (mkF m 263 #[.val (.ref ea), .val (.int n)] [(.int (0 : Int32)), (.ref b0), (.ref b0), (.ref r), (.ref r)]))
              refine Go.by (fun t9_ q9_ => XS.aloadN W292.here W292.hx rfl (hb hby dc_method_3_code_263) rfl rfl q9_) ?_
              show Go p e below s Z [("com/example/claimwire/claimwire/fpml/LimitReportStatusFromTextPinLaw", 20), ("com/example/claimwire/claimwire/fpml/LimitReportStatusFromTextPinLaw", 22), ("java/lang/String", 7)] _ _ _ (T290.setTop (mkF m 264 #[.val (.ref ea), .val (.int n)] [(.ref ea), (.int (0 : Int32)), (.ref b0), (.ref b0), (.ref r), (.ref r)]))
              refine Go.by (fun t9_ q9_ => XS.iconst W292.here W292.hx rfl (hb hby dc_method_3_code_264) q9_) ?_
              show Go p e below s Z [("com/example/claimwire/claimwire/fpml/LimitReportStatusFromTextPinLaw", 20), ("com/example/claimwire/claimwire/fpml/LimitReportStatusFromTextPinLaw", 22), ("java/lang/String", 7)] _ _ _ (T290.setTop (mkF m 265 #[.val (.ref ea), .val (.int n)] [(.int (0 : Int32)), (.ref ea), (.int (0 : Int32)), (.ref b0), (.ref b0), (.ref r), (.ref r)]))
              have X294 : Ext h0 h291 := (Ext.trans' E289 E293)
              refine W292.cald (A_e.ext X294) ⟨by decide, by decide⟩ (v := (.int u0)) rfl (hb hby dc_method_3_code_265) ?_
              show Go p e below s Z [("com/example/claimwire/claimwire/fpml/LimitReportStatusFromTextPinLaw", 20), ("com/example/claimwire/claimwire/fpml/LimitReportStatusFromTextPinLaw", 22), ("java/lang/String", 7)] _ _ _ (T290.setTop (mkF m 266 #[.val (.ref ea), .val (.int n)] [(.int u0), (.int (0 : Int32)), (.ref b0), (.ref b0), (.ref r), (.ref r)]))
              refine W292.cast_ V1_b0 ⟨by decide, by decide⟩ (i := 0) rfl (by simp) (v' := u0) (nar_id (up16 r_u0)) z_b0 (List.mem_of_getElem? (i := 0) rfl) (hb hby dc_method_3_code_266) ?_
              intro T295 h296 W297 Wr298 V299_b0'
              have V299_b0 : Arv Z h296 b0 k_b0 .char (10 : Int32) [(.int u0), (.int (0 : Int32)), (.int (0 : Int32)), (.int (0 : Int32)), (.int (0 : Int32)), (.int (0 : Int32)), (.int (0 : Int32)), (.int (0 : Int32)), (.int (0 : Int32)), (.int (0 : Int32))] (.int (0 : Int32)) := V299_b0'
              show Go p e below s Z [("com/example/claimwire/claimwire/fpml/LimitReportStatusFromTextPinLaw", 20), ("com/example/claimwire/claimwire/fpml/LimitReportStatusFromTextPinLaw", 22), ("java/lang/String", 7)] _ _ _ (T295.setTop (mkF m 267 #[.val (.ref ea), .val (.int n)] [(.ref b0), (.ref r), (.ref r)]))
              refine Go.by (fun t9_ q9_ => XS.dup W297.here W297.hx rfl (hb hby dc_method_3_code_267) rfl rfl q9_) ?_
              show Go p e below s Z [("com/example/claimwire/claimwire/fpml/LimitReportStatusFromTextPinLaw", 20), ("com/example/claimwire/claimwire/fpml/LimitReportStatusFromTextPinLaw", 22), ("java/lang/String", 7)] _ _ _ (T295.setTop (mkF m 268 #[.val (.ref ea), .val (.int n)] [(.ref b0), (.ref b0), (.ref r), (.ref r)]))
              refine Go.by (fun t9_ q9_ => XS.iconst W297.here W297.hx rfl (hb hby dc_method_3_code_268) q9_) ?_
              show Go p e below s Z [("com/example/claimwire/claimwire/fpml/LimitReportStatusFromTextPinLaw", 20), ("com/example/claimwire/claimwire/fpml/LimitReportStatusFromTextPinLaw", 22), ("java/lang/String", 7)] _ _ _ (T295.setTop (mkF m 269 #[.val (.ref ea), .val (.int n)] [(.int (1 : Int32)), (.ref b0), (.ref b0), (.ref r), (.ref r)]))
              refine Go.by (fun t9_ q9_ => XS.aloadN W297.here W297.hx rfl (hb hby dc_method_3_code_269) rfl rfl q9_) ?_
              show Go p e below s Z [("com/example/claimwire/claimwire/fpml/LimitReportStatusFromTextPinLaw", 20), ("com/example/claimwire/claimwire/fpml/LimitReportStatusFromTextPinLaw", 22), ("java/lang/String", 7)] _ _ _ (T295.setTop (mkF m 270 #[.val (.ref ea), .val (.int n)] [(.ref ea), (.int (1 : Int32)), (.ref b0), (.ref b0), (.ref r), (.ref r)]))
              refine Go.by (fun t9_ q9_ => XS.iconst W297.here W297.hx rfl (hb hby dc_method_3_code_270) q9_) ?_
              show Go p e below s Z [("com/example/claimwire/claimwire/fpml/LimitReportStatusFromTextPinLaw", 20), ("com/example/claimwire/claimwire/fpml/LimitReportStatusFromTextPinLaw", 22), ("java/lang/String", 7)] _ _ _ (T295.setTop (mkF m 271 #[.val (.ref ea), .val (.int n)] [(.int (1 : Int32)), (.ref ea), (.int (1 : Int32)), (.ref b0), (.ref b0), (.ref r), (.ref r)]))
              have X300 : Ext h0 h296 := (Ext.wr' X294 Wr298 (Nat.le_trans E289.1 (Nat.le_of_eq g_b0)))
              refine W297.cald (A_e.ext X300) ⟨by decide, by decide⟩ (v := (.int u1)) rfl (hb hby dc_method_3_code_271) ?_
              show Go p e below s Z [("com/example/claimwire/claimwire/fpml/LimitReportStatusFromTextPinLaw", 20), ("com/example/claimwire/claimwire/fpml/LimitReportStatusFromTextPinLaw", 22), ("java/lang/String", 7)] _ _ _ (T295.setTop (mkF m 272 #[.val (.ref ea), .val (.int n)] [(.int u1), (.int (1 : Int32)), (.ref b0), (.ref b0), (.ref r), (.ref r)]))
              refine W297.cast_ V299_b0 ⟨by decide, by decide⟩ (i := 1) rfl (by simp) (v' := u1) (nar_id (up16 r_u1)) z_b0 (List.mem_of_getElem? (i := 0) rfl) (hb hby dc_method_3_code_272) ?_
              intro T301 h302 W303 Wr304 V305_b0'
              have V305_b0 : Arv Z h302 b0 k_b0 .char (10 : Int32) [(.int u0), (.int u1), (.int (0 : Int32)), (.int (0 : Int32)), (.int (0 : Int32)), (.int (0 : Int32)), (.int (0 : Int32)), (.int (0 : Int32)), (.int (0 : Int32)), (.int (0 : Int32))] (.int (0 : Int32)) := V305_b0'
              show Go p e below s Z [("com/example/claimwire/claimwire/fpml/LimitReportStatusFromTextPinLaw", 20), ("com/example/claimwire/claimwire/fpml/LimitReportStatusFromTextPinLaw", 22), ("java/lang/String", 7)] _ _ _ (T301.setTop (mkF m 273 #[.val (.ref ea), .val (.int n)] [(.ref b0), (.ref r), (.ref r)]))
              refine Go.by (fun t9_ q9_ => XS.dup W303.here W303.hx rfl (hb hby dc_method_3_code_273) rfl rfl q9_) ?_
              show Go p e below s Z [("com/example/claimwire/claimwire/fpml/LimitReportStatusFromTextPinLaw", 20), ("com/example/claimwire/claimwire/fpml/LimitReportStatusFromTextPinLaw", 22), ("java/lang/String", 7)] _ _ _ (T301.setTop (mkF m 274 #[.val (.ref ea), .val (.int n)] [(.ref b0), (.ref b0), (.ref r), (.ref r)]))
              refine Go.by (fun t9_ q9_ => XS.iconst W303.here W303.hx rfl (hb hby dc_method_3_code_274) q9_) ?_
              show Go p e below s Z [("com/example/claimwire/claimwire/fpml/LimitReportStatusFromTextPinLaw", 20), ("com/example/claimwire/claimwire/fpml/LimitReportStatusFromTextPinLaw", 22), ("java/lang/String", 7)] _ _ _ (T301.setTop (mkF m 275 #[.val (.ref ea), .val (.int n)] [(.int (2 : Int32)), (.ref b0), (.ref b0), (.ref r), (.ref r)]))
              refine Go.by (fun t9_ q9_ => XS.aloadN W303.here W303.hx rfl (hb hby dc_method_3_code_275) rfl rfl q9_) ?_
              show Go p e below s Z [("com/example/claimwire/claimwire/fpml/LimitReportStatusFromTextPinLaw", 20), ("com/example/claimwire/claimwire/fpml/LimitReportStatusFromTextPinLaw", 22), ("java/lang/String", 7)] _ _ _ (T301.setTop (mkF m 276 #[.val (.ref ea), .val (.int n)] [(.ref ea), (.int (2 : Int32)), (.ref b0), (.ref b0), (.ref r), (.ref r)]))
              refine Go.by (fun t9_ q9_ => XS.iconst W303.here W303.hx rfl (hb hby dc_method_3_code_276) q9_) ?_
              show Go p e below s Z [("com/example/claimwire/claimwire/fpml/LimitReportStatusFromTextPinLaw", 20), ("com/example/claimwire/claimwire/fpml/LimitReportStatusFromTextPinLaw", 22), ("java/lang/String", 7)] _ _ _ (T301.setTop (mkF m 277 #[.val (.ref ea), .val (.int n)] [(.int (2 : Int32)), (.ref ea), (.int (2 : Int32)), (.ref b0), (.ref b0), (.ref r), (.ref r)]))
              have X306 : Ext h0 h302 := (Ext.wr' X300 Wr304 (Nat.le_trans E289.1 (Nat.le_of_eq g_b0)))
              refine W303.cald (A_e.ext X306) ⟨by decide, by decide⟩ (v := (.int u2)) rfl (hb hby dc_method_3_code_277) ?_
              show Go p e below s Z [("com/example/claimwire/claimwire/fpml/LimitReportStatusFromTextPinLaw", 20), ("com/example/claimwire/claimwire/fpml/LimitReportStatusFromTextPinLaw", 22), ("java/lang/String", 7)] _ _ _ (T301.setTop (mkF m 278 #[.val (.ref ea), .val (.int n)] [(.int u2), (.int (2 : Int32)), (.ref b0), (.ref b0), (.ref r), (.ref r)]))
              refine W303.cast_ V305_b0 ⟨by decide, by decide⟩ (i := 2) rfl (by simp) (v' := u2) (nar_id (up16 r_u2)) z_b0 (List.mem_of_getElem? (i := 0) rfl) (hb hby dc_method_3_code_278) ?_
              intro T307 h308 W309 Wr310 V311_b0'
              have V311_b0 : Arv Z h308 b0 k_b0 .char (10 : Int32) [(.int u0), (.int u1), (.int u2), (.int (0 : Int32)), (.int (0 : Int32)), (.int (0 : Int32)), (.int (0 : Int32)), (.int (0 : Int32)), (.int (0 : Int32)), (.int (0 : Int32))] (.int (0 : Int32)) := V311_b0'
              show Go p e below s Z [("com/example/claimwire/claimwire/fpml/LimitReportStatusFromTextPinLaw", 20), ("com/example/claimwire/claimwire/fpml/LimitReportStatusFromTextPinLaw", 22), ("java/lang/String", 7)] _ _ _ (T307.setTop (mkF m 279 #[.val (.ref ea), .val (.int n)] [(.ref b0), (.ref r), (.ref r)]))
              refine Go.by (fun t9_ q9_ => XS.dup W309.here W309.hx rfl (hb hby dc_method_3_code_279) rfl rfl q9_) ?_
              show Go p e below s Z [("com/example/claimwire/claimwire/fpml/LimitReportStatusFromTextPinLaw", 20), ("com/example/claimwire/claimwire/fpml/LimitReportStatusFromTextPinLaw", 22), ("java/lang/String", 7)] _ _ _ (T307.setTop (mkF m 280 #[.val (.ref ea), .val (.int n)] [(.ref b0), (.ref b0), (.ref r), (.ref r)]))
              refine Go.by (fun t9_ q9_ => XS.iconst W309.here W309.hx rfl (hb hby dc_method_3_code_280) q9_) ?_
              show Go p e below s Z [("com/example/claimwire/claimwire/fpml/LimitReportStatusFromTextPinLaw", 20), ("com/example/claimwire/claimwire/fpml/LimitReportStatusFromTextPinLaw", 22), ("java/lang/String", 7)] _ _ _ (T307.setTop (mkF m 281 #[.val (.ref ea), .val (.int n)] [(.int (3 : Int32)), (.ref b0), (.ref b0), (.ref r), (.ref r)]))
              refine Go.by (fun t9_ q9_ => XS.aloadN W309.here W309.hx rfl (hb hby dc_method_3_code_281) rfl rfl q9_) ?_
              show Go p e below s Z [("com/example/claimwire/claimwire/fpml/LimitReportStatusFromTextPinLaw", 20), ("com/example/claimwire/claimwire/fpml/LimitReportStatusFromTextPinLaw", 22), ("java/lang/String", 7)] _ _ _ (T307.setTop (mkF m 282 #[.val (.ref ea), .val (.int n)] [(.ref ea), (.int (3 : Int32)), (.ref b0), (.ref b0), (.ref r), (.ref r)]))
              refine Go.by (fun t9_ q9_ => XS.iconst W309.here W309.hx rfl (hb hby dc_method_3_code_282) q9_) ?_
              show Go p e below s Z [("com/example/claimwire/claimwire/fpml/LimitReportStatusFromTextPinLaw", 20), ("com/example/claimwire/claimwire/fpml/LimitReportStatusFromTextPinLaw", 22), ("java/lang/String", 7)] _ _ _ (T307.setTop (mkF m 283 #[.val (.ref ea), .val (.int n)] [(.int (3 : Int32)), (.ref ea), (.int (3 : Int32)), (.ref b0), (.ref b0), (.ref r), (.ref r)]))
              have X312 : Ext h0 h308 := (Ext.wr' X306 Wr310 (Nat.le_trans E289.1 (Nat.le_of_eq g_b0)))
              refine W309.cald (A_e.ext X312) ⟨by decide, by decide⟩ (v := (.int u3)) rfl (hb hby dc_method_3_code_283) ?_
              show Go p e below s Z [("com/example/claimwire/claimwire/fpml/LimitReportStatusFromTextPinLaw", 20), ("com/example/claimwire/claimwire/fpml/LimitReportStatusFromTextPinLaw", 22), ("java/lang/String", 7)] _ _ _ (T307.setTop (mkF m 284 #[.val (.ref ea), .val (.int n)] [(.int u3), (.int (3 : Int32)), (.ref b0), (.ref b0), (.ref r), (.ref r)]))
              refine W309.cast_ V311_b0 ⟨by decide, by decide⟩ (i := 3) rfl (by simp) (v' := u3) (nar_id (up16 r_u3)) z_b0 (List.mem_of_getElem? (i := 0) rfl) (hb hby dc_method_3_code_284) ?_
              intro T313 h314 W315 Wr316 V317_b0'
              have V317_b0 : Arv Z h314 b0 k_b0 .char (10 : Int32) [(.int u0), (.int u1), (.int u2), (.int u3), (.int (0 : Int32)), (.int (0 : Int32)), (.int (0 : Int32)), (.int (0 : Int32)), (.int (0 : Int32)), (.int (0 : Int32))] (.int (0 : Int32)) := V317_b0'
              show Go p e below s Z [("com/example/claimwire/claimwire/fpml/LimitReportStatusFromTextPinLaw", 20), ("com/example/claimwire/claimwire/fpml/LimitReportStatusFromTextPinLaw", 22), ("java/lang/String", 7)] _ _ _ (T313.setTop (mkF m 285 #[.val (.ref ea), .val (.int n)] [(.ref b0), (.ref r), (.ref r)]))
              refine Go.by (fun t9_ q9_ => XS.dup W315.here W315.hx rfl (hb hby dc_method_3_code_285) rfl rfl q9_) ?_
              show Go p e below s Z [("com/example/claimwire/claimwire/fpml/LimitReportStatusFromTextPinLaw", 20), ("com/example/claimwire/claimwire/fpml/LimitReportStatusFromTextPinLaw", 22), ("java/lang/String", 7)] _ _ _ (T313.setTop (mkF m 286 #[.val (.ref ea), .val (.int n)] [(.ref b0), (.ref b0), (.ref r), (.ref r)]))
              refine Go.by (fun t9_ q9_ => XS.iconst W315.here W315.hx rfl (hb hby dc_method_3_code_286) q9_) ?_
              show Go p e below s Z [("com/example/claimwire/claimwire/fpml/LimitReportStatusFromTextPinLaw", 20), ("com/example/claimwire/claimwire/fpml/LimitReportStatusFromTextPinLaw", 22), ("java/lang/String", 7)] _ _ _ (T313.setTop (mkF m 287 #[.val (.ref ea), .val (.int n)] [(.int (4 : Int32)), (.ref b0), (.ref b0), (.ref r), (.ref r)]))
              refine Go.by (fun t9_ q9_ => XS.aloadN W315.here W315.hx rfl (hb hby dc_method_3_code_287) rfl rfl q9_) ?_
              show Go p e below s Z [("com/example/claimwire/claimwire/fpml/LimitReportStatusFromTextPinLaw", 20), ("com/example/claimwire/claimwire/fpml/LimitReportStatusFromTextPinLaw", 22), ("java/lang/String", 7)] _ _ _ (T313.setTop (mkF m 288 #[.val (.ref ea), .val (.int n)] [(.ref ea), (.int (4 : Int32)), (.ref b0), (.ref b0), (.ref r), (.ref r)]))
              refine Go.by (fun t9_ q9_ => XS.iconst W315.here W315.hx rfl (hb hby dc_method_3_code_288) q9_) ?_
              show Go p e below s Z [("com/example/claimwire/claimwire/fpml/LimitReportStatusFromTextPinLaw", 20), ("com/example/claimwire/claimwire/fpml/LimitReportStatusFromTextPinLaw", 22), ("java/lang/String", 7)] _ _ _ (T313.setTop (mkF m 289 #[.val (.ref ea), .val (.int n)] [(.int (4 : Int32)), (.ref ea), (.int (4 : Int32)), (.ref b0), (.ref b0), (.ref r), (.ref r)]))
              have X318 : Ext h0 h314 := (Ext.wr' X312 Wr316 (Nat.le_trans E289.1 (Nat.le_of_eq g_b0)))
              refine W315.cald (A_e.ext X318) ⟨by decide, by decide⟩ (v := (.int u4)) rfl (hb hby dc_method_3_code_289) ?_
              show Go p e below s Z [("com/example/claimwire/claimwire/fpml/LimitReportStatusFromTextPinLaw", 20), ("com/example/claimwire/claimwire/fpml/LimitReportStatusFromTextPinLaw", 22), ("java/lang/String", 7)] _ _ _ (T313.setTop (mkF m 290 #[.val (.ref ea), .val (.int n)] [(.int u4), (.int (4 : Int32)), (.ref b0), (.ref b0), (.ref r), (.ref r)]))
              refine W315.cast_ V317_b0 ⟨by decide, by decide⟩ (i := 4) rfl (by simp) (v' := u4) (nar_id (up16 r_u4)) z_b0 (List.mem_of_getElem? (i := 0) rfl) (hb hby dc_method_3_code_290) ?_
              intro T319 h320 W321 Wr322 V323_b0'
              have V323_b0 : Arv Z h320 b0 k_b0 .char (10 : Int32) [(.int u0), (.int u1), (.int u2), (.int u3), (.int u4), (.int (0 : Int32)), (.int (0 : Int32)), (.int (0 : Int32)), (.int (0 : Int32)), (.int (0 : Int32))] (.int (0 : Int32)) := V323_b0'
              show Go p e below s Z [("com/example/claimwire/claimwire/fpml/LimitReportStatusFromTextPinLaw", 20), ("com/example/claimwire/claimwire/fpml/LimitReportStatusFromTextPinLaw", 22), ("java/lang/String", 7)] _ _ _ (T319.setTop (mkF m 291 #[.val (.ref ea), .val (.int n)] [(.ref b0), (.ref r), (.ref r)]))
              refine Go.by (fun t9_ q9_ => XS.dup W321.here W321.hx rfl (hb hby dc_method_3_code_291) rfl rfl q9_) ?_
              show Go p e below s Z [("com/example/claimwire/claimwire/fpml/LimitReportStatusFromTextPinLaw", 20), ("com/example/claimwire/claimwire/fpml/LimitReportStatusFromTextPinLaw", 22), ("java/lang/String", 7)] _ _ _ (T319.setTop (mkF m 292 #[.val (.ref ea), .val (.int n)] [(.ref b0), (.ref b0), (.ref r), (.ref r)]))
              refine Go.by (fun t9_ q9_ => XS.iconst W321.here W321.hx rfl (hb hby dc_method_3_code_292) q9_) ?_
              show Go p e below s Z [("com/example/claimwire/claimwire/fpml/LimitReportStatusFromTextPinLaw", 20), ("com/example/claimwire/claimwire/fpml/LimitReportStatusFromTextPinLaw", 22), ("java/lang/String", 7)] _ _ _ (T319.setTop (mkF m 293 #[.val (.ref ea), .val (.int n)] [(.int (5 : Int32)), (.ref b0), (.ref b0), (.ref r), (.ref r)]))
              refine Go.by (fun t9_ q9_ => XS.aloadN W321.here W321.hx rfl (hb hby dc_method_3_code_293) rfl rfl q9_) ?_
              show Go p e below s Z [("com/example/claimwire/claimwire/fpml/LimitReportStatusFromTextPinLaw", 20), ("com/example/claimwire/claimwire/fpml/LimitReportStatusFromTextPinLaw", 22), ("java/lang/String", 7)] _ _ _ (T319.setTop (mkF m 294 #[.val (.ref ea), .val (.int n)] [(.ref ea), (.int (5 : Int32)), (.ref b0), (.ref b0), (.ref r), (.ref r)]))
              refine Go.by (fun t9_ q9_ => XS.iconst W321.here W321.hx rfl (hb hby dc_method_3_code_294) q9_) ?_
              show Go p e below s Z [("com/example/claimwire/claimwire/fpml/LimitReportStatusFromTextPinLaw", 20), ("com/example/claimwire/claimwire/fpml/LimitReportStatusFromTextPinLaw", 22), ("java/lang/String", 7)] _ _ _ (T319.setTop (mkF m 295 #[.val (.ref ea), .val (.int n)] [(.int (5 : Int32)), (.ref ea), (.int (5 : Int32)), (.ref b0), (.ref b0), (.ref r), (.ref r)]))
              have X324 : Ext h0 h320 := (Ext.wr' X318 Wr322 (Nat.le_trans E289.1 (Nat.le_of_eq g_b0)))
              refine W321.cald (A_e.ext X324) ⟨by decide, by decide⟩ (v := (.int u5)) rfl (hb hby dc_method_3_code_295) ?_
              show Go p e below s Z [("com/example/claimwire/claimwire/fpml/LimitReportStatusFromTextPinLaw", 20), ("com/example/claimwire/claimwire/fpml/LimitReportStatusFromTextPinLaw", 22), ("java/lang/String", 7)] _ _ _ (T319.setTop (mkF m 296 #[.val (.ref ea), .val (.int n)] [(.int u5), (.int (5 : Int32)), (.ref b0), (.ref b0), (.ref r), (.ref r)]))
              refine W321.cast_ V323_b0 ⟨by decide, by decide⟩ (i := 5) rfl (by simp) (v' := u5) (nar_id (up16 r_u5)) z_b0 (List.mem_of_getElem? (i := 0) rfl) (hb hby dc_method_3_code_296) ?_
              intro T325 h326 W327 Wr328 V329_b0'
              have V329_b0 : Arv Z h326 b0 k_b0 .char (10 : Int32) [(.int u0), (.int u1), (.int u2), (.int u3), (.int u4), (.int u5), (.int (0 : Int32)), (.int (0 : Int32)), (.int (0 : Int32)), (.int (0 : Int32))] (.int (0 : Int32)) := V329_b0'
              show Go p e below s Z [("com/example/claimwire/claimwire/fpml/LimitReportStatusFromTextPinLaw", 20), ("com/example/claimwire/claimwire/fpml/LimitReportStatusFromTextPinLaw", 22), ("java/lang/String", 7)] _ _ _ (T325.setTop (mkF m 297 #[.val (.ref ea), .val (.int n)] [(.ref b0), (.ref r), (.ref r)]))
              refine Go.by (fun t9_ q9_ => XS.dup W327.here W327.hx rfl (hb hby dc_method_3_code_297) rfl rfl q9_) ?_
              show Go p e below s Z [("com/example/claimwire/claimwire/fpml/LimitReportStatusFromTextPinLaw", 20), ("com/example/claimwire/claimwire/fpml/LimitReportStatusFromTextPinLaw", 22), ("java/lang/String", 7)] _ _ _ (T325.setTop (mkF m 298 #[.val (.ref ea), .val (.int n)] [(.ref b0), (.ref b0), (.ref r), (.ref r)]))
              refine Go.by (fun t9_ q9_ => XS.bipush W327.here W327.hx rfl (hb hby dc_method_3_code_298) q9_) ?_
              show Go p e below s Z [("com/example/claimwire/claimwire/fpml/LimitReportStatusFromTextPinLaw", 20), ("com/example/claimwire/claimwire/fpml/LimitReportStatusFromTextPinLaw", 22), ("java/lang/String", 7)] _ _ _ (T325.setTop (mkF m 300 #[.val (.ref ea), .val (.int n)] [(.int (6 : Int32)), (.ref b0), (.ref b0), (.ref r), (.ref r)]))
              refine Go.by (fun t9_ q9_ => XS.aloadN W327.here W327.hx rfl (hb hby dc_method_3_code_300) rfl rfl q9_) ?_
              show Go p e below s Z [("com/example/claimwire/claimwire/fpml/LimitReportStatusFromTextPinLaw", 20), ("com/example/claimwire/claimwire/fpml/LimitReportStatusFromTextPinLaw", 22), ("java/lang/String", 7)] _ _ _ (T325.setTop (mkF m 301 #[.val (.ref ea), .val (.int n)] [(.ref ea), (.int (6 : Int32)), (.ref b0), (.ref b0), (.ref r), (.ref r)]))
              refine Go.by (fun t9_ q9_ => XS.bipush W327.here W327.hx rfl (hb hby dc_method_3_code_301) q9_) ?_
              show Go p e below s Z [("com/example/claimwire/claimwire/fpml/LimitReportStatusFromTextPinLaw", 20), ("com/example/claimwire/claimwire/fpml/LimitReportStatusFromTextPinLaw", 22), ("java/lang/String", 7)] _ _ _ (T325.setTop (mkF m 303 #[.val (.ref ea), .val (.int n)] [(.int (6 : Int32)), (.ref ea), (.int (6 : Int32)), (.ref b0), (.ref b0), (.ref r), (.ref r)]))
              have X330 : Ext h0 h326 := (Ext.wr' X324 Wr328 (Nat.le_trans E289.1 (Nat.le_of_eq g_b0)))
              refine W327.cald (A_e.ext X330) ⟨by decide, by decide⟩ (v := (.int u6)) rfl (hb hby dc_method_3_code_303) ?_
              show Go p e below s Z [("com/example/claimwire/claimwire/fpml/LimitReportStatusFromTextPinLaw", 20), ("com/example/claimwire/claimwire/fpml/LimitReportStatusFromTextPinLaw", 22), ("java/lang/String", 7)] _ _ _ (T325.setTop (mkF m 304 #[.val (.ref ea), .val (.int n)] [(.int u6), (.int (6 : Int32)), (.ref b0), (.ref b0), (.ref r), (.ref r)]))
              refine W327.cast_ V329_b0 ⟨by decide, by decide⟩ (i := 6) rfl (by simp) (v' := u6) (nar_id (up16 r_u6)) z_b0 (List.mem_of_getElem? (i := 0) rfl) (hb hby dc_method_3_code_304) ?_
              intro T331 h332 W333 Wr334 V335_b0'
              have V335_b0 : Arv Z h332 b0 k_b0 .char (10 : Int32) [(.int u0), (.int u1), (.int u2), (.int u3), (.int u4), (.int u5), (.int u6), (.int (0 : Int32)), (.int (0 : Int32)), (.int (0 : Int32))] (.int (0 : Int32)) := V335_b0'
              show Go p e below s Z [("com/example/claimwire/claimwire/fpml/LimitReportStatusFromTextPinLaw", 20), ("com/example/claimwire/claimwire/fpml/LimitReportStatusFromTextPinLaw", 22), ("java/lang/String", 7)] _ _ _ (T331.setTop (mkF m 305 #[.val (.ref ea), .val (.int n)] [(.ref b0), (.ref r), (.ref r)]))
              refine Go.by (fun t9_ q9_ => XS.dup W333.here W333.hx rfl (hb hby dc_method_3_code_305) rfl rfl q9_) ?_
              show Go p e below s Z [("com/example/claimwire/claimwire/fpml/LimitReportStatusFromTextPinLaw", 20), ("com/example/claimwire/claimwire/fpml/LimitReportStatusFromTextPinLaw", 22), ("java/lang/String", 7)] _ _ _ (T331.setTop (mkF m 306 #[.val (.ref ea), .val (.int n)] [(.ref b0), (.ref b0), (.ref r), (.ref r)]))
              refine Go.by (fun t9_ q9_ => XS.bipush W333.here W333.hx rfl (hb hby dc_method_3_code_306) q9_) ?_
              show Go p e below s Z [("com/example/claimwire/claimwire/fpml/LimitReportStatusFromTextPinLaw", 20), ("com/example/claimwire/claimwire/fpml/LimitReportStatusFromTextPinLaw", 22), ("java/lang/String", 7)] _ _ _ (T331.setTop (mkF m 308 #[.val (.ref ea), .val (.int n)] [(.int (7 : Int32)), (.ref b0), (.ref b0), (.ref r), (.ref r)]))
              refine Go.by (fun t9_ q9_ => XS.aloadN W333.here W333.hx rfl (hb hby dc_method_3_code_308) rfl rfl q9_) ?_
              show Go p e below s Z [("com/example/claimwire/claimwire/fpml/LimitReportStatusFromTextPinLaw", 20), ("com/example/claimwire/claimwire/fpml/LimitReportStatusFromTextPinLaw", 22), ("java/lang/String", 7)] _ _ _ (T331.setTop (mkF m 309 #[.val (.ref ea), .val (.int n)] [(.ref ea), (.int (7 : Int32)), (.ref b0), (.ref b0), (.ref r), (.ref r)]))
              refine Go.by (fun t9_ q9_ => XS.bipush W333.here W333.hx rfl (hb hby dc_method_3_code_309) q9_) ?_
              show Go p e below s Z [("com/example/claimwire/claimwire/fpml/LimitReportStatusFromTextPinLaw", 20), ("com/example/claimwire/claimwire/fpml/LimitReportStatusFromTextPinLaw", 22), ("java/lang/String", 7)] _ _ _ (T331.setTop (mkF m 311 #[.val (.ref ea), .val (.int n)] [(.int (7 : Int32)), (.ref ea), (.int (7 : Int32)), (.ref b0), (.ref b0), (.ref r), (.ref r)]))
              have X336 : Ext h0 h332 := (Ext.wr' X330 Wr334 (Nat.le_trans E289.1 (Nat.le_of_eq g_b0)))
              refine W333.cald (A_e.ext X336) ⟨by decide, by decide⟩ (v := (.int u7)) rfl (hb hby dc_method_3_code_311) ?_
              show Go p e below s Z [("com/example/claimwire/claimwire/fpml/LimitReportStatusFromTextPinLaw", 20), ("com/example/claimwire/claimwire/fpml/LimitReportStatusFromTextPinLaw", 22), ("java/lang/String", 7)] _ _ _ (T331.setTop (mkF m 312 #[.val (.ref ea), .val (.int n)] [(.int u7), (.int (7 : Int32)), (.ref b0), (.ref b0), (.ref r), (.ref r)]))
              refine W333.cast_ V335_b0 ⟨by decide, by decide⟩ (i := 7) rfl (by simp) (v' := u7) (nar_id (up16 r_u7)) z_b0 (List.mem_of_getElem? (i := 0) rfl) (hb hby dc_method_3_code_312) ?_
              intro T337 h338 W339 Wr340 V341_b0'
              have V341_b0 : Arv Z h338 b0 k_b0 .char (10 : Int32) [(.int u0), (.int u1), (.int u2), (.int u3), (.int u4), (.int u5), (.int u6), (.int u7), (.int (0 : Int32)), (.int (0 : Int32))] (.int (0 : Int32)) := V341_b0'
              show Go p e below s Z [("com/example/claimwire/claimwire/fpml/LimitReportStatusFromTextPinLaw", 20), ("com/example/claimwire/claimwire/fpml/LimitReportStatusFromTextPinLaw", 22), ("java/lang/String", 7)] _ _ _ (T337.setTop (mkF m 313 #[.val (.ref ea), .val (.int n)] [(.ref b0), (.ref r), (.ref r)]))
              refine Go.by (fun t9_ q9_ => XS.dup W339.here W339.hx rfl (hb hby dc_method_3_code_313) rfl rfl q9_) ?_
              show Go p e below s Z [("com/example/claimwire/claimwire/fpml/LimitReportStatusFromTextPinLaw", 20), ("com/example/claimwire/claimwire/fpml/LimitReportStatusFromTextPinLaw", 22), ("java/lang/String", 7)] _ _ _ (T337.setTop (mkF m 314 #[.val (.ref ea), .val (.int n)] [(.ref b0), (.ref b0), (.ref r), (.ref r)]))
              refine Go.by (fun t9_ q9_ => XS.bipush W339.here W339.hx rfl (hb hby dc_method_3_code_314) q9_) ?_
              show Go p e below s Z [("com/example/claimwire/claimwire/fpml/LimitReportStatusFromTextPinLaw", 20), ("com/example/claimwire/claimwire/fpml/LimitReportStatusFromTextPinLaw", 22), ("java/lang/String", 7)] _ _ _ (T337.setTop (mkF m 316 #[.val (.ref ea), .val (.int n)] [(.int (8 : Int32)), (.ref b0), (.ref b0), (.ref r), (.ref r)]))
              refine Go.by (fun t9_ q9_ => XS.aloadN W339.here W339.hx rfl (hb hby dc_method_3_code_316) rfl rfl q9_) ?_
              show Go p e below s Z [("com/example/claimwire/claimwire/fpml/LimitReportStatusFromTextPinLaw", 20), ("com/example/claimwire/claimwire/fpml/LimitReportStatusFromTextPinLaw", 22), ("java/lang/String", 7)] _ _ _ (T337.setTop (mkF m 317 #[.val (.ref ea), .val (.int n)] [(.ref ea), (.int (8 : Int32)), (.ref b0), (.ref b0), (.ref r), (.ref r)]))
              refine Go.by (fun t9_ q9_ => XS.bipush W339.here W339.hx rfl (hb hby dc_method_3_code_317) q9_) ?_
              show Go p e below s Z [("com/example/claimwire/claimwire/fpml/LimitReportStatusFromTextPinLaw", 20), ("com/example/claimwire/claimwire/fpml/LimitReportStatusFromTextPinLaw", 22), ("java/lang/String", 7)] _ _ _ (T337.setTop (mkF m 319 #[.val (.ref ea), .val (.int n)] [(.int (8 : Int32)), (.ref ea), (.int (8 : Int32)), (.ref b0), (.ref b0), (.ref r), (.ref r)]))
              have X342 : Ext h0 h338 := (Ext.wr' X336 Wr340 (Nat.le_trans E289.1 (Nat.le_of_eq g_b0)))
              refine W339.cald (A_e.ext X342) ⟨by decide, by decide⟩ (v := (.int u8)) rfl (hb hby dc_method_3_code_319) ?_
              show Go p e below s Z [("com/example/claimwire/claimwire/fpml/LimitReportStatusFromTextPinLaw", 20), ("com/example/claimwire/claimwire/fpml/LimitReportStatusFromTextPinLaw", 22), ("java/lang/String", 7)] _ _ _ (T337.setTop (mkF m 320 #[.val (.ref ea), .val (.int n)] [(.int u8), (.int (8 : Int32)), (.ref b0), (.ref b0), (.ref r), (.ref r)]))
              refine W339.cast_ V341_b0 ⟨by decide, by decide⟩ (i := 8) rfl (by simp) (v' := u8) (nar_id (up16 r_u8)) z_b0 (List.mem_of_getElem? (i := 0) rfl) (hb hby dc_method_3_code_320) ?_
              intro T343 h344 W345 Wr346 V347_b0'
              have V347_b0 : Arv Z h344 b0 k_b0 .char (10 : Int32) [(.int u0), (.int u1), (.int u2), (.int u3), (.int u4), (.int u5), (.int u6), (.int u7), (.int u8), (.int (0 : Int32))] (.int (0 : Int32)) := V347_b0'
              show Go p e below s Z [("com/example/claimwire/claimwire/fpml/LimitReportStatusFromTextPinLaw", 20), ("com/example/claimwire/claimwire/fpml/LimitReportStatusFromTextPinLaw", 22), ("java/lang/String", 7)] _ _ _ (T343.setTop (mkF m 321 #[.val (.ref ea), .val (.int n)] [(.ref b0), (.ref r), (.ref r)]))
              refine Go.by (fun t9_ q9_ => XS.dup W345.here W345.hx rfl (hb hby dc_method_3_code_321) rfl rfl q9_) ?_
              show Go p e below s Z [("com/example/claimwire/claimwire/fpml/LimitReportStatusFromTextPinLaw", 20), ("com/example/claimwire/claimwire/fpml/LimitReportStatusFromTextPinLaw", 22), ("java/lang/String", 7)] _ _ _ (T343.setTop (mkF m 322 #[.val (.ref ea), .val (.int n)] [(.ref b0), (.ref b0), (.ref r), (.ref r)]))
              refine Go.by (fun t9_ q9_ => XS.bipush W345.here W345.hx rfl (hb hby dc_method_3_code_322) q9_) ?_
              show Go p e below s Z [("com/example/claimwire/claimwire/fpml/LimitReportStatusFromTextPinLaw", 20), ("com/example/claimwire/claimwire/fpml/LimitReportStatusFromTextPinLaw", 22), ("java/lang/String", 7)] _ _ _ (T343.setTop (mkF m 324 #[.val (.ref ea), .val (.int n)] [(.int (9 : Int32)), (.ref b0), (.ref b0), (.ref r), (.ref r)]))
              refine Go.by (fun t9_ q9_ => XS.aloadN W345.here W345.hx rfl (hb hby dc_method_3_code_324) rfl rfl q9_) ?_
              show Go p e below s Z [("com/example/claimwire/claimwire/fpml/LimitReportStatusFromTextPinLaw", 20), ("com/example/claimwire/claimwire/fpml/LimitReportStatusFromTextPinLaw", 22), ("java/lang/String", 7)] _ _ _ (T343.setTop (mkF m 325 #[.val (.ref ea), .val (.int n)] [(.ref ea), (.int (9 : Int32)), (.ref b0), (.ref b0), (.ref r), (.ref r)]))
              refine Go.by (fun t9_ q9_ => XS.bipush W345.here W345.hx rfl (hb hby dc_method_3_code_325) q9_) ?_
              show Go p e below s Z [("com/example/claimwire/claimwire/fpml/LimitReportStatusFromTextPinLaw", 20), ("com/example/claimwire/claimwire/fpml/LimitReportStatusFromTextPinLaw", 22), ("java/lang/String", 7)] _ _ _ (T343.setTop (mkF m 327 #[.val (.ref ea), .val (.int n)] [(.int (9 : Int32)), (.ref ea), (.int (9 : Int32)), (.ref b0), (.ref b0), (.ref r), (.ref r)]))
              have X348 : Ext h0 h344 := (Ext.wr' X342 Wr346 (Nat.le_trans E289.1 (Nat.le_of_eq g_b0)))
              refine W345.cald (A_e.ext X348) ⟨by decide, by decide⟩ (v := (.int u9)) rfl (hb hby dc_method_3_code_327) ?_
              show Go p e below s Z [("com/example/claimwire/claimwire/fpml/LimitReportStatusFromTextPinLaw", 20), ("com/example/claimwire/claimwire/fpml/LimitReportStatusFromTextPinLaw", 22), ("java/lang/String", 7)] _ _ _ (T343.setTop (mkF m 328 #[.val (.ref ea), .val (.int n)] [(.int u9), (.int (9 : Int32)), (.ref b0), (.ref b0), (.ref r), (.ref r)]))
              refine W345.cast_ V347_b0 ⟨by decide, by decide⟩ (i := 9) rfl (by simp) (v' := u9) (nar_id (up16 r_u9)) z_b0 (List.mem_of_getElem? (i := 0) rfl) (hb hby dc_method_3_code_328) ?_
              intro T349 h350 W351 Wr352 V353_b0'
              have V353_b0 : Arv Z h350 b0 k_b0 .char (10 : Int32) [(.int u0), (.int u1), (.int u2), (.int u3), (.int u4), (.int u5), (.int u6), (.int u7), (.int u8), (.int u9)] (.int (0 : Int32)) := V353_b0'
              show Go p e below s Z [("com/example/claimwire/claimwire/fpml/LimitReportStatusFromTextPinLaw", 20), ("com/example/claimwire/claimwire/fpml/LimitReportStatusFromTextPinLaw", 22), ("java/lang/String", 7)] _ _ _ (T349.setTop (mkF m 329 #[.val (.ref ea), .val (.int n)] [(.ref b0), (.ref r), (.ref r)]))
              have X358 : Ext h287 h296 := (Ext.wr' E293 Wr298 (Nat.le_of_eq g_b0))
              have X359 : Ext h287 h302 := (Ext.wr' X358 Wr304 (Nat.le_of_eq g_b0))
              have X360 : Ext h287 h308 := (Ext.wr' X359 Wr310 (Nat.le_of_eq g_b0))
              have X361 : Ext h287 h314 := (Ext.wr' X360 Wr316 (Nat.le_of_eq g_b0))
              have X362 : Ext h287 h320 := (Ext.wr' X361 Wr322 (Nat.le_of_eq g_b0))
              have X363 : Ext h287 h326 := (Ext.wr' X362 Wr328 (Nat.le_of_eq g_b0))
              have X364 : Ext h287 h332 := (Ext.wr' X363 Wr334 (Nat.le_of_eq g_b0))
              have X365 : Ext h287 h338 := (Ext.wr' X364 Wr340 (Nat.le_of_eq g_b0))
              have X366 : Ext h287 h344 := (Ext.wr' X365 Wr346 (Nat.le_of_eq g_b0))
              have X367 : Ext h287 h350 := (Ext.wr' X366 Wr352 (Nat.le_of_eq g_b0))
              refine W351.strV (cs := [u0, u1, u2, u3, u4, u5, u6, u7, u8, u9]) (k_words hw) (wd2 hw) (wd53 hw) (wd54 hw) (A_r.ext X367) (F_value_r.ext X367) (F_coder_r.ext X367) V353_b0 (SG1.ext W351.old) hG (q := 10) rfl rfl (by decide) (by decide) (by intro c hc; simp only [List.mem_cons, List.not_mem_nil, or_false] at hc; rcases hc with rfl | rfl | rfl | rfl | rfl | rfl | rfl | rfl | rfl | rfl <;> assumption) z_r (List.mem_of_getElem? (i := 1) rfl) (by decide) (Wt := 1) (by decide) (k' := 3) (n' := 24) rfl rfl (by decide) (by decide) (by rw [hml]; rfl) (Nat.le_of_eq rfl) (hb hby dc_method_3_code_329) ?_
              intro T354 h355 W356 K357 S_r
              show Go p e below s Z [("com/example/claimwire/claimwire/fpml/LimitReportStatusFromTextPinLaw", 20), ("com/example/claimwire/claimwire/fpml/LimitReportStatusFromTextPinLaw", 22), ("java/lang/String", 7)] _ _ _ (T354.setTop (mkF m 332 #[.val (.ref ea), .val (.int n)] [(.ref r)]))
              have X368 : Ext h0 h350 := (Ext.wr' X348 Wr352 (Nat.le_trans E289.1 (Nat.le_of_eq g_b0)))
              have X369 : Ext h0 h355 := (Ext.keep' X368 K357 (allS (Nat.le_of_eq g_r) all0))
              exact W356.retA (by decide) (by decide) hret rfl rfl (hb hby dc_method_3_code_332) ⟨r, _, rfl, X369, S_r, by simp⟩
            · refine Go.by (fun t9_ q9_ => XS.icmpYes W0.here W0.hx rfl (pc0 := 250) (pc' := 333) rfl (hb hby dc_method_3_code_250) rfl (feq n10).2 (by decide) (by decide) q9_) ?_
              show Go p e below s Z [("com/example/claimwire/claimwire/fpml/LimitReportStatusFromTextPinLaw", 20), ("com/example/claimwire/claimwire/fpml/LimitReportStatusFromTextPinLaw", 22), ("java/lang/String", 7)] _ _ _ (T0.setTop (mkF m 333 #[.val (.ref ea), .val (.int n)] []))
              refine W0.new (wd52 hw) (wd2 hw) (wd1 hw) (hb hby dc_method_3_code_333) (k' := 1) (n' := 4) rfl rfl (by decide) (by decide) ?_
              intro T370 h371 r W372 E373 g_r z_r A_r D_r
              have F_value_r : Fld Z h371 r "java/lang/String" "value" "[B" .null := D_r (Or.inr (wd4 hw)) (ty := (.array .byte)) (by decide)
              have F_coder_r : Fld Z h371 r "java/lang/String" "coder" "B" (.int (0 : Int32)) := D_r (Or.inr (wd5 hw)) (ty := .byte) (by decide)
              show Go p e below s Z [("com/example/claimwire/claimwire/fpml/LimitReportStatusFromTextPinLaw", 20), ("com/example/claimwire/claimwire/fpml/LimitReportStatusFromTextPinLaw", 22), ("java/lang/String", 7)] _ _ _ (T370.setTop (mkF m 336 #[.val (.ref ea), .val (.int n)] [(.ref r)]))
              refine Go.by (fun t9_ q9_ => XS.dup W372.here W372.hx rfl (hb hby dc_method_3_code_336) rfl rfl q9_) ?_
              show Go p e below s Z [("com/example/claimwire/claimwire/fpml/LimitReportStatusFromTextPinLaw", 20), ("com/example/claimwire/claimwire/fpml/LimitReportStatusFromTextPinLaw", 22), ("java/lang/String", 7)] _ _ _ (T370.setTop (mkF m 337 #[.val (.ref ea), .val (.int n)] [(.ref r), (.ref r)]))
              refine Go.by (fun t9_ q9_ => XS.aloadN W372.here W372.hx rfl (hb hby dc_method_3_code_337) rfl rfl q9_) ?_
              show Go p e below s Z [("com/example/claimwire/claimwire/fpml/LimitReportStatusFromTextPinLaw", 20), ("com/example/claimwire/claimwire/fpml/LimitReportStatusFromTextPinLaw", 22), ("java/lang/String", 7)] _ _ _ (T370.setTop (mkF m 338 #[.val (.ref ea), .val (.int n)] [(.ref ea), (.ref r), (.ref r)]))
              refine W372.strV (cs := [u0, u1, u2, u3, u4, u5, u6, u7, u8, u9, u10]) (k_words hw) (wd2 hw) (wd53 hw) (wd54 hw) A_r F_value_r F_coder_r (A_e.ext E373) (SG1.ext W372.old) hG (q := 11) rfl rfl (by decide) (by decide) (by intro c hc; simp only [List.mem_cons, List.not_mem_nil, or_false] at hc; rcases hc with rfl | rfl | rfl | rfl | rfl | rfl | rfl | rfl | rfl | rfl | rfl <;> assumption) z_r (List.mem_of_getElem? (i := 0) rfl) (by decide) (Wt := 1) (by decide) (k' := 2) (n' := 15) rfl rfl (by decide) (by decide) (by rw [hml]; rfl) (Nat.le_of_eq rfl) (hb hby dc_method_3_code_338) ?_
              intro T374 h375 W376 K377 S_r
              show Go p e below s Z [("com/example/claimwire/claimwire/fpml/LimitReportStatusFromTextPinLaw", 20), ("com/example/claimwire/claimwire/fpml/LimitReportStatusFromTextPinLaw", 22), ("java/lang/String", 7)] _ _ _ (T374.setTop (mkF m 341 #[.val (.ref ea), .val (.int n)] [(.ref r)]))
              have X378 : Ext h0 h375 := (Ext.keep' E373 K377 (allS (Nat.le_of_eq g_r) all0))
              exact W376.retA (by decide) (by decide) hret rfl rfl (hb hby dc_method_3_code_341) ⟨r, _, rfl, X378, S_r, by simp⟩
set_option maxRecDepth 65536 in
set_option maxHeartbeats 40000000 in
theorem c_values (l : Launch) (Z : State) (a0 : Array Value) (hw : ∀ d ∈ tables_1, d.before a0 Z = true) (hEL : EW Z a0 [("com/example/claimwire/claimwire/fpml/LimitReportStatusFromTextPinLaw", 20), ("com/example/claimwire/claimwire/fpml/LimitReportStatusFromTextPinLaw", 22), ("java/lang/String", 7)]) (h0 : Heap) (hE0 : Ext Z.heap h0) (av e0 e1 : Addr) (kv : ClassId) (SV : Sta Z Z.heap "com/example/claimwire/claimwire/fpml/LimitReportStatus" "$VALUES" "[Lcom/example/claimwire/claimwire/fpml/LimitReportStatus;" (.ref av)) (AV : Arv Z Z.heap av kv (.object "com/example/claimwire/claimwire/fpml/LimitReportStatus") 2 [(.ref e0), (.ref e1)] .null) (XV : Exa Z Z.heap av "[Lcom/example/claimwire/claimwire/fpml/LimitReportStatus;") :
    Con l Z [("com/example/claimwire/claimwire/fpml/LimitReportStatusFromTextPinLaw", 20), ("com/example/claimwire/claimwire/fpml/LimitReportStatusFromTextPinLaw", 22), ("java/lang/String", 7)] [] (⟨"com/example/claimwire/claimwire/fpml/LimitReportStatus", "values", "()[Lcom/example/claimwire/claimwire/fpml/LimitReportStatus;"⟩ : MethodName) prog_44_method_1_code 0 (some (.array (.object "com/example/claimwire/claimwire/fpml/LimitReportStatus"))) [] ({ frames := 1, cells := 1, slots := 2, locals := 14 } : Room) #[] h0 (fun v h' => ∃ r kr, v = some (.ref r) ∧ Ext h0 h' ∧ Arv Z h' r kr (.object "com/example/claimwire/claimwire/fpml/LimitReportStatus") 2 [(.ref e0), (.ref e1)] .null) := by
  refine Con.mk (plainFor_of_name pn_2) hEL hE0 (fun x hx => by cases hx) ?_
  intro p e s m below meth c T0 hby hml hret hnm W0
  rw [(show entryFrame m #[] 0 = mkF m 0 #[] [] from by first | (simp [entryFrame, mkF, argsToLocals, Value.category]; done) | rfl)]
  refine W0.gets (host := "") (Or.inl (wd80 hw)) Via.refl (SV.ext W0.old) (hb hby dc_prog_44_method_1_code_0) ?_
  intro T379 W380
  show Go p e below s Z [("com/example/claimwire/claimwire/fpml/LimitReportStatusFromTextPinLaw", 20), ("com/example/claimwire/claimwire/fpml/LimitReportStatusFromTextPinLaw", 22), ("java/lang/String", 7)] _ _ _ (T379.setTop (mkF m 3 #[] [(.ref av)]))
  refine W380.cloneA (wd82 hw) (wd83 hw) (wd87 hw) (wd85 hw) (wd86 hw) (wd88 hw) (AV.ext W380.old) (XV.ext W380.old) (by rw [hml]; rfl) (hb hby dc_prog_44_method_1_code_3) (by decide) (Wt := 0) (by decide) (by decide) (cap := 2) (by decide) (k' := 1) (n' := 2) rfl rfl (by decide) (by decide) ?_
  intro T381 h382 r W383 E384 g_r z_r A_r E_r
  show Go p e below s Z [("com/example/claimwire/claimwire/fpml/LimitReportStatusFromTextPinLaw", 20), ("com/example/claimwire/claimwire/fpml/LimitReportStatusFromTextPinLaw", 22), ("java/lang/String", 7)] _ _ _ (T381.setTop (mkF m 6 #[] [(.ref r)]))
  refine W383.castY (wd92 hw) (Ins.self E_r) (hb hby dc_prog_44_method_1_code_6) ?_
  intro T385 W386
  show Go p e below s Z [("com/example/claimwire/claimwire/fpml/LimitReportStatusFromTextPinLaw", 20), ("com/example/claimwire/claimwire/fpml/LimitReportStatusFromTextPinLaw", 22), ("java/lang/String", 7)] _ _ _ (T385.setTop (mkF m 9 #[] [(.ref r)]))
  exact W386.retA (by decide) (by decide) hret rfl rfl (hb hby dc_prog_44_method_1_code_9) ⟨r, kv, rfl, E384, A_r⟩
set_option maxRecDepth 65536 in
set_option maxHeartbeats 40000000 in
theorem c_ft (l : Launch) (Z : State) (a0 : Array Value) (hw : ∀ d ∈ tables_1, d.before a0 Z = true) (hEL : EW Z a0 [("com/example/claimwire/claimwire/fpml/LimitReportStatusFromTextPinLaw", 20), ("com/example/claimwire/claimwire/fpml/LimitReportStatusFromTextPinLaw", 22), ("java/lang/String", 7)]) (h0 : Heap) (hE0 : Ext Z.heap h0) (nm : Addr) (cs : List Int32) (G1 : Int32) (av e0 e1 t0 t1 : Addr) (kv : ClassId) (SG1 : Sta Z Z.heap "java/lang/String" "COMPACT_STRINGS" "Z" (.int G1)) (hG : ¬ G1 = 0) (SV : Sta Z Z.heap "com/example/claimwire/claimwire/fpml/LimitReportStatus" "$VALUES" "[Lcom/example/claimwire/claimwire/fpml/LimitReportStatus;" (.ref av)) (AV : Arv Z Z.heap av kv (.object "com/example/claimwire/claimwire/fpml/LimitReportStatus") 2 [(.ref e0), (.ref e1)] .null) (XV : Exa Z Z.heap av "[Lcom/example/claimwire/claimwire/fpml/LimitReportStatus;") (FW0 : Fld Z Z.heap e0 "com/example/claimwire/claimwire/fpml/LimitReportStatus" "text" "Ljava/lang/String;" (.ref t0)) (FW1 : Fld Z Z.heap e1 "com/example/claimwire/claimwire/fpml/LimitReportStatus" "text" "Ljava/lang/String;" (.ref t1)) (S0 : Str Z Z.heap t0 [65, 99, 99, 101, 112, 116, 97, 98, 108, 101]) (S1 : Str Z Z.heap t1 [69, 120, 99, 101, 101, 100, 101, 100]) (SN : Str Z h0 nm cs) (ln : cs.length ≤ 4000) :
    Con l Z [("com/example/claimwire/claimwire/fpml/LimitReportStatusFromTextPinLaw", 20), ("com/example/claimwire/claimwire/fpml/LimitReportStatusFromTextPinLaw", 22), ("java/lang/String", 7)] [] (⟨"com/example/claimwire/claimwire/fpml/LimitReportStatus", "fromText", "(Ljava/lang/String;)Lcom/example/claimwire/claimwire/fpml/LimitReportStatus;"⟩ : MethodName) prog_44_method_5_code 5 (some (.object "com/example/claimwire/claimwire/fpml/LimitReportStatus")) [] ({ frames := 3, cells := 1, slots := 2, locals := 60 } : Room) #[(.ref nm)] h0 (fun v h' => v = some (ftF cs e0 e1) ∧ Ext h0 h') := by
  refine Con.mk (plainFor_of_name pn_2) hEL hE0 (fun x hx => by cases hx) ?_
  intro p e s m below meth c T0 hby hml hret hnm W0
  rw [(show entryFrame m #[(.ref nm)] 5 = mkF m 0 #[.val (.ref nm), .unset, .unset, .unset, .unset] [] from by first | (simp [entryFrame, mkF, argsToLocals, Value.category]; done) | rfl)]
  refine W0.callS (y := (⟨"com/example/claimwire/claimwire/fpml/LimitReportStatus", "values", "()[Lcom/example/claimwire/claimwire/fpml/LimitReportStatus;"⟩ : MethodName)) (wd77 hw) (wd78 hw) (wd75 hw) (wd79 hw) (by decide) (c_values l Z a0 hw hEL h0 hE0 av e0 e1 kv SV AV XV) all0 (by decide) (by decide) (k' := 1) (n' := 2) rfl rfl (by decide) (by decide) (by rw [hml]; rfl) (argsL := []) (rest := []) (lenOf pd_2 rfl) rfl rfl (Wt := 0) (Nat.le_of_eq rfl) (hb hby dc_prog_44_method_5_code_0) ?_
  intro v_ T387 h389 W388 hq_
  obtain ⟨r, kr, rfl, X1, A_r⟩ := hq_
  show Go p e below s Z [("com/example/claimwire/claimwire/fpml/LimitReportStatusFromTextPinLaw", 20), ("com/example/claimwire/claimwire/fpml/LimitReportStatusFromTextPinLaw", 22), ("java/lang/String", 7)] _ _ _ (T387.setTop (mkF m 3 #[.val (.ref nm), .unset, .unset, .unset, .unset] [(.ref r)]))
  refine Go.by (fun t9_ q9_ => XS.astoreN W388.here W388.hx rfl (hb hby dc_prog_44_method_5_code_3) rfl rfl (l' := #[.val (.ref nm), .val (.ref r), .unset, .unset, .unset]) rfl q9_) ?_
  show Go p e below s Z [("com/example/claimwire/claimwire/fpml/LimitReportStatusFromTextPinLaw", 20), ("com/example/claimwire/claimwire/fpml/LimitReportStatusFromTextPinLaw", 22), ("java/lang/String", 7)] _ _ _ (T387.setTop (mkF m 4 #[.val (.ref nm), .val (.ref r), .unset, .unset, .unset] []))
  refine Go.by (fun t9_ q9_ => XS.aloadN W388.here W388.hx rfl (hb hby dc_prog_44_method_5_code_4) rfl rfl q9_) ?_
  show Go p e below s Z [("com/example/claimwire/claimwire/fpml/LimitReportStatusFromTextPinLaw", 20), ("com/example/claimwire/claimwire/fpml/LimitReportStatusFromTextPinLaw", 22), ("java/lang/String", 7)] _ _ _ (T387.setTop (mkF m 5 #[.val (.ref nm), .val (.ref r), .unset, .unset, .unset] [(.ref r)]))
  refine W388.alen A_r (hb hby dc_prog_44_method_5_code_5) ?_
  show Go p e below s Z [("com/example/claimwire/claimwire/fpml/LimitReportStatusFromTextPinLaw", 20), ("com/example/claimwire/claimwire/fpml/LimitReportStatusFromTextPinLaw", 22), ("java/lang/String", 7)] _ _ _ (T387.setTop (mkF m 6 #[.val (.ref nm), .val (.ref r), .unset, .unset, .unset] [(.int (2 : Int32))]))
  refine Go.by (fun t9_ q9_ => XS.istoreN W388.here W388.hx rfl (hb hby dc_prog_44_method_5_code_6) rfl (l' := #[.val (.ref nm), .val (.ref r), .val (.int (2 : Int32)), .unset, .unset]) rfl q9_) ?_
  show Go p e below s Z [("com/example/claimwire/claimwire/fpml/LimitReportStatusFromTextPinLaw", 20), ("com/example/claimwire/claimwire/fpml/LimitReportStatusFromTextPinLaw", 22), ("java/lang/String", 7)] _ _ _ (T387.setTop (mkF m 7 #[.val (.ref nm), .val (.ref r), .val (.int (2 : Int32)), .unset, .unset] []))
  refine Go.by (fun t9_ q9_ => XS.iconst W388.here W388.hx rfl (hb hby dc_prog_44_method_5_code_7) q9_) ?_
  show Go p e below s Z [("com/example/claimwire/claimwire/fpml/LimitReportStatusFromTextPinLaw", 20), ("com/example/claimwire/claimwire/fpml/LimitReportStatusFromTextPinLaw", 22), ("java/lang/String", 7)] _ _ _ (T387.setTop (mkF m 8 #[.val (.ref nm), .val (.ref r), .val (.int (2 : Int32)), .unset, .unset] [(.int (0 : Int32))]))
  refine Go.by (fun t9_ q9_ => XS.istoreN W388.here W388.hx rfl (hb hby dc_prog_44_method_5_code_8) rfl (l' := #[.val (.ref nm), .val (.ref r), .val (.int (2 : Int32)), .val (.int (0 : Int32)), .unset]) rfl q9_) ?_
  show Go p e below s Z [("com/example/claimwire/claimwire/fpml/LimitReportStatusFromTextPinLaw", 20), ("com/example/claimwire/claimwire/fpml/LimitReportStatusFromTextPinLaw", 22), ("java/lang/String", 7)] _ _ _ (T387.setTop (mkF m 9 #[.val (.ref nm), .val (.ref r), .val (.int (2 : Int32)), .val (.int (0 : Int32)), .unset] []))
  refine Go.by (fun t9_ q9_ => XS.iloadN W388.here W388.hx rfl (hb hby dc_prog_44_method_5_code_9) rfl q9_) ?_
  show Go p e below s Z [("com/example/claimwire/claimwire/fpml/LimitReportStatusFromTextPinLaw", 20), ("com/example/claimwire/claimwire/fpml/LimitReportStatusFromTextPinLaw", 22), ("java/lang/String", 7)] _ _ _ (T387.setTop (mkF m 10 #[.val (.ref nm), .val (.ref r), .val (.int (2 : Int32)), .val (.int (0 : Int32)), .unset] [(.int (0 : Int32))]))
  refine Go.by (fun t9_ q9_ => XS.iloadN W388.here W388.hx rfl (hb hby dc_prog_44_method_5_code_10) rfl q9_) ?_
  show Go p e below s Z [("com/example/claimwire/claimwire/fpml/LimitReportStatusFromTextPinLaw", 20), ("com/example/claimwire/claimwire/fpml/LimitReportStatusFromTextPinLaw", 22), ("java/lang/String", 7)] _ _ _ (T387.setTop (mkF m 11 #[.val (.ref nm), .val (.ref r), .val (.int (2 : Int32)), .val (.int (0 : Int32)), .unset] [(.int (2 : Int32)), (.int (0 : Int32))]))
  refine Go.by (fun t9_ q9_ => XS.icmpNo W388.here W388.hx rfl (hb hby dc_prog_44_method_5_code_11) rfl (tlt (by decide)).2.1 q9_) ?_
  show Go p e below s Z [("com/example/claimwire/claimwire/fpml/LimitReportStatusFromTextPinLaw", 20), ("com/example/claimwire/claimwire/fpml/LimitReportStatusFromTextPinLaw", 22), ("java/lang/String", 7)] _ _ _ (T387.setTop (mkF m 14 #[.val (.ref nm), .val (.ref r), .val (.int (2 : Int32)), .val (.int (0 : Int32)), .unset] []))
  refine Go.by (fun t9_ q9_ => XS.aloadN W388.here W388.hx rfl (hb hby dc_prog_44_method_5_code_14) rfl rfl q9_) ?_
  show Go p e below s Z [("com/example/claimwire/claimwire/fpml/LimitReportStatusFromTextPinLaw", 20), ("com/example/claimwire/claimwire/fpml/LimitReportStatusFromTextPinLaw", 22), ("java/lang/String", 7)] _ _ _ (T387.setTop (mkF m 15 #[.val (.ref nm), .val (.ref r), .val (.int (2 : Int32)), .val (.int (0 : Int32)), .unset] [(.ref r)]))
  refine Go.by (fun t9_ q9_ => XS.iloadN W388.here W388.hx rfl (hb hby dc_prog_44_method_5_code_15) rfl q9_) ?_
  show Go p e below s Z [("com/example/claimwire/claimwire/fpml/LimitReportStatusFromTextPinLaw", 20), ("com/example/claimwire/claimwire/fpml/LimitReportStatusFromTextPinLaw", 22), ("java/lang/String", 7)] _ _ _ (T387.setTop (mkF m 16 #[.val (.ref nm), .val (.ref r), .val (.int (2 : Int32)), .val (.int (0 : Int32)), .unset] [(.int (0 : Int32)), (.ref r)]))
  refine W388.aald A_r rfl ⟨by decide, by decide⟩ (v := (.ref e0)) rfl (hb hby dc_prog_44_method_5_code_16) ?_
  show Go p e below s Z [("com/example/claimwire/claimwire/fpml/LimitReportStatusFromTextPinLaw", 20), ("com/example/claimwire/claimwire/fpml/LimitReportStatusFromTextPinLaw", 22), ("java/lang/String", 7)] _ _ _ (T387.setTop (mkF m 17 #[.val (.ref nm), .val (.ref r), .val (.int (2 : Int32)), .val (.int (0 : Int32)), .unset] [(.ref e0)]))
  refine Go.by (fun t9_ q9_ => XS.astore W388.here W388.hx rfl (hb hby dc_prog_44_method_5_code_17) rfl rfl (l' := #[.val (.ref nm), .val (.ref r), .val (.int (2 : Int32)), .val (.int (0 : Int32)), .val (.ref e0)]) rfl q9_) ?_
  show Go p e below s Z [("com/example/claimwire/claimwire/fpml/LimitReportStatusFromTextPinLaw", 20), ("com/example/claimwire/claimwire/fpml/LimitReportStatusFromTextPinLaw", 22), ("java/lang/String", 7)] _ _ _ (T387.setTop (mkF m 19 #[.val (.ref nm), .val (.ref r), .val (.int (2 : Int32)), .val (.int (0 : Int32)), .val (.ref e0)] []))
  refine Go.by (fun t9_ q9_ => XS.aload W388.here W388.hx rfl (hb hby dc_prog_44_method_5_code_19) rfl rfl q9_) ?_
  show Go p e below s Z [("com/example/claimwire/claimwire/fpml/LimitReportStatusFromTextPinLaw", 20), ("com/example/claimwire/claimwire/fpml/LimitReportStatusFromTextPinLaw", 22), ("java/lang/String", 7)] _ _ _ (T387.setTop (mkF m 21 #[.val (.ref nm), .val (.ref r), .val (.int (2 : Int32)), .val (.int (0 : Int32)), .val (.ref e0)] [(.ref e0)]))
  refine W388.getf (host := "") (Or.inl (wd94 hw)) Via.refl (FW0.ext W388.old) (hb hby dc_prog_44_method_5_code_21) ?_
  intro T390 W391
  show Go p e below s Z [("com/example/claimwire/claimwire/fpml/LimitReportStatusFromTextPinLaw", 20), ("com/example/claimwire/claimwire/fpml/LimitReportStatusFromTextPinLaw", 22), ("java/lang/String", 7)] _ _ _ (T390.setTop (mkF m 24 #[.val (.ref nm), .val (.ref r), .val (.int (2 : Int32)), .val (.int (0 : Int32)), .val (.ref e0)] [(.ref t0)]))
  refine Go.by (fun t9_ q9_ => XS.aloadN W391.here W391.hx rfl (hb hby dc_prog_44_method_5_code_24) rfl rfl q9_) ?_
  show Go p e below s Z [("com/example/claimwire/claimwire/fpml/LimitReportStatusFromTextPinLaw", 20), ("com/example/claimwire/claimwire/fpml/LimitReportStatusFromTextPinLaw", 22), ("java/lang/String", 7)] _ _ _ (T390.setTop (mkF m 25 #[.val (.ref nm), .val (.ref r), .val (.int (2 : Int32)), .val (.int (0 : Int32)), .val (.ref e0)] [(.ref nm), (.ref t0)]))
  refine W391.strEq (k_eq hw) (wd2 hw) (wd96 hw) (wd97 hw) (wd99 hw) (wd98 hw) (S0.ext W391.old) (SN.ext X1) (by decide) ln (SG1.ext W391.old) hG (by decide) (Wt := 0) (by decide) (by rw [hml]; rfl) (Nat.le_of_eq rfl) (by decide) (by decide) (hb hby dc_prog_44_method_5_code_25) ?_
  intro T392 rr0 W393 hrr0
  show Go p e below s Z [("com/example/claimwire/claimwire/fpml/LimitReportStatusFromTextPinLaw", 20), ("com/example/claimwire/claimwire/fpml/LimitReportStatusFromTextPinLaw", 22), ("java/lang/String", 7)] _ _ _ (T392.setTop (mkF m 28 #[.val (.ref nm), .val (.ref r), .val (.int (2 : Int32)), .val (.int (0 : Int32)), .val (.ref e0)] [(.int rr0)]))
  by_cases q0 : cs = [65, 99, 99, 101, 112, 116, 97, 98, 108, 101]
  · refine Go.by (fun t9_ q9_ => XS.ifNo W393.here W393.hx rfl (hb hby dc_prog_44_method_5_code_28) rfl ((if0 _ _).trans (feq (by rw [hrr0, if_pos q0.symm]; decide)).1) q9_) ?_
    show Go p e below s Z [("com/example/claimwire/claimwire/fpml/LimitReportStatusFromTextPinLaw", 20), ("com/example/claimwire/claimwire/fpml/LimitReportStatusFromTextPinLaw", 22), ("java/lang/String", 7)] _ _ _ (T392.setTop (mkF m 31 #[.val (.ref nm), .val (.ref r), .val (.int (2 : Int32)), .val (.int (0 : Int32)), .val (.ref e0)] []))
    refine Go.by (fun t9_ q9_ => XS.aload W393.here W393.hx rfl (hb hby dc_prog_44_method_5_code_31) rfl rfl q9_) ?_
    show Go p e below s Z [("com/example/claimwire/claimwire/fpml/LimitReportStatusFromTextPinLaw", 20), ("com/example/claimwire/claimwire/fpml/LimitReportStatusFromTextPinLaw", 22), ("java/lang/String", 7)] _ _ _ (T392.setTop (mkF m 33 #[.val (.ref nm), .val (.ref r), .val (.int (2 : Int32)), .val (.int (0 : Int32)), .val (.ref e0)] [(.ref e0)]))
    exact W393.retA (by decide) (by decide) hret rfl rfl (hb hby dc_prog_44_method_5_code_33) ⟨by unfold ftF; rw [if_pos q0], X1⟩
  · refine Go.by (fun t9_ q9_ => XS.ifYes W393.here W393.hx rfl (pc0 := 28) (pc' := 34) rfl (hb hby dc_prog_44_method_5_code_28) rfl ((if0 _ _).trans (teq (by rw [hrr0, if_neg (fun z => q0 z.symm)])).1) (by decide) (by decide) q9_) ?_
    show Go p e below s Z [("com/example/claimwire/claimwire/fpml/LimitReportStatusFromTextPinLaw", 20), ("com/example/claimwire/claimwire/fpml/LimitReportStatusFromTextPinLaw", 22), ("java/lang/String", 7)] _ _ _ (T392.setTop (mkF m 34 #[.val (.ref nm), .val (.ref r), .val (.int (2 : Int32)), .val (.int (0 : Int32)), .val (.ref e0)] []))
    refine Go.by (fun t9_ q9_ => XS.iinc W393.here W393.hx rfl (hb hby dc_prog_44_method_5_code_34) rfl (l' := #[.val (.ref nm), .val (.ref r), .val (.int (2 : Int32)), .val (.int ((0 : Int32) + (1 : Int32))), .val (.ref e0)]) rfl q9_) ?_
    show Go p e below s Z [("com/example/claimwire/claimwire/fpml/LimitReportStatusFromTextPinLaw", 20), ("com/example/claimwire/claimwire/fpml/LimitReportStatusFromTextPinLaw", 22), ("java/lang/String", 7)] _ _ _ (T392.setTop (mkF m 37 #[.val (.ref nm), .val (.ref r), .val (.int (2 : Int32)), .val (.int ((0 : Int32) + (1 : Int32))), .val (.ref e0)] []))
    show Go p e below s Z [("com/example/claimwire/claimwire/fpml/LimitReportStatusFromTextPinLaw", 20), ("com/example/claimwire/claimwire/fpml/LimitReportStatusFromTextPinLaw", 22), ("java/lang/String", 7)] _ _ _ (T392.setTop (mkF m 37 #[.val (.ref nm), .val (.ref r), .val (.int (2 : Int32)), .val (.int (1 : Int32)), .val (.ref e0)] []))
    refine Go.by (fun t9_ q9_ => XS.goto W393.here W393.hx rfl (pc0 := 37) (pc' := 9) rfl (hb hby dc_prog_44_method_5_code_37) (by decide) (by decide) q9_) ?_
    show Go p e below s Z [("com/example/claimwire/claimwire/fpml/LimitReportStatusFromTextPinLaw", 20), ("com/example/claimwire/claimwire/fpml/LimitReportStatusFromTextPinLaw", 22), ("java/lang/String", 7)] _ _ _ (T392.setTop (mkF m 9 #[.val (.ref nm), .val (.ref r), .val (.int (2 : Int32)), .val (.int (1 : Int32)), .val (.ref e0)] []))
    refine Go.by (fun t9_ q9_ => XS.iloadN W393.here W393.hx rfl (hb hby dc_prog_44_method_5_code_9) rfl q9_) ?_
    show Go p e below s Z [("com/example/claimwire/claimwire/fpml/LimitReportStatusFromTextPinLaw", 20), ("com/example/claimwire/claimwire/fpml/LimitReportStatusFromTextPinLaw", 22), ("java/lang/String", 7)] _ _ _ (T392.setTop (mkF m 10 #[.val (.ref nm), .val (.ref r), .val (.int (2 : Int32)), .val (.int (1 : Int32)), .val (.ref e0)] [(.int (1 : Int32))]))
    refine Go.by (fun t9_ q9_ => XS.iloadN W393.here W393.hx rfl (hb hby dc_prog_44_method_5_code_10) rfl q9_) ?_
    show Go p e below s Z [("com/example/claimwire/claimwire/fpml/LimitReportStatusFromTextPinLaw", 20), ("com/example/claimwire/claimwire/fpml/LimitReportStatusFromTextPinLaw", 22), ("java/lang/String", 7)] _ _ _ (T392.setTop (mkF m 11 #[.val (.ref nm), .val (.ref r), .val (.int (2 : Int32)), .val (.int (1 : Int32)), .val (.ref e0)] [(.int (2 : Int32)), (.int (1 : Int32))]))
    refine Go.by (fun t9_ q9_ => XS.icmpNo W393.here W393.hx rfl (hb hby dc_prog_44_method_5_code_11) rfl (tlt (by decide)).2.1 q9_) ?_
    show Go p e below s Z [("com/example/claimwire/claimwire/fpml/LimitReportStatusFromTextPinLaw", 20), ("com/example/claimwire/claimwire/fpml/LimitReportStatusFromTextPinLaw", 22), ("java/lang/String", 7)] _ _ _ (T392.setTop (mkF m 14 #[.val (.ref nm), .val (.ref r), .val (.int (2 : Int32)), .val (.int (1 : Int32)), .val (.ref e0)] []))
    refine Go.by (fun t9_ q9_ => XS.aloadN W393.here W393.hx rfl (hb hby dc_prog_44_method_5_code_14) rfl rfl q9_) ?_
    show Go p e below s Z [("com/example/claimwire/claimwire/fpml/LimitReportStatusFromTextPinLaw", 20), ("com/example/claimwire/claimwire/fpml/LimitReportStatusFromTextPinLaw", 22), ("java/lang/String", 7)] _ _ _ (T392.setTop (mkF m 15 #[.val (.ref nm), .val (.ref r), .val (.int (2 : Int32)), .val (.int (1 : Int32)), .val (.ref e0)] [(.ref r)]))
    refine Go.by (fun t9_ q9_ => XS.iloadN W393.here W393.hx rfl (hb hby dc_prog_44_method_5_code_15) rfl q9_) ?_
    show Go p e below s Z [("com/example/claimwire/claimwire/fpml/LimitReportStatusFromTextPinLaw", 20), ("com/example/claimwire/claimwire/fpml/LimitReportStatusFromTextPinLaw", 22), ("java/lang/String", 7)] _ _ _ (T392.setTop (mkF m 16 #[.val (.ref nm), .val (.ref r), .val (.int (2 : Int32)), .val (.int (1 : Int32)), .val (.ref e0)] [(.int (1 : Int32)), (.ref r)]))
    refine W393.aald A_r rfl ⟨by decide, by decide⟩ (v := (.ref e1)) rfl (hb hby dc_prog_44_method_5_code_16) ?_
    show Go p e below s Z [("com/example/claimwire/claimwire/fpml/LimitReportStatusFromTextPinLaw", 20), ("com/example/claimwire/claimwire/fpml/LimitReportStatusFromTextPinLaw", 22), ("java/lang/String", 7)] _ _ _ (T392.setTop (mkF m 17 #[.val (.ref nm), .val (.ref r), .val (.int (2 : Int32)), .val (.int (1 : Int32)), .val (.ref e0)] [(.ref e1)]))
    refine Go.by (fun t9_ q9_ => XS.astore W393.here W393.hx rfl (hb hby dc_prog_44_method_5_code_17) rfl rfl (l' := #[.val (.ref nm), .val (.ref r), .val (.int (2 : Int32)), .val (.int (1 : Int32)), .val (.ref e1)]) rfl q9_) ?_
    show Go p e below s Z [("com/example/claimwire/claimwire/fpml/LimitReportStatusFromTextPinLaw", 20), ("com/example/claimwire/claimwire/fpml/LimitReportStatusFromTextPinLaw", 22), ("java/lang/String", 7)] _ _ _ (T392.setTop (mkF m 19 #[.val (.ref nm), .val (.ref r), .val (.int (2 : Int32)), .val (.int (1 : Int32)), .val (.ref e1)] []))
    refine Go.by (fun t9_ q9_ => XS.aload W393.here W393.hx rfl (hb hby dc_prog_44_method_5_code_19) rfl rfl q9_) ?_
    show Go p e below s Z [("com/example/claimwire/claimwire/fpml/LimitReportStatusFromTextPinLaw", 20), ("com/example/claimwire/claimwire/fpml/LimitReportStatusFromTextPinLaw", 22), ("java/lang/String", 7)] _ _ _ (T392.setTop (mkF m 21 #[.val (.ref nm), .val (.ref r), .val (.int (2 : Int32)), .val (.int (1 : Int32)), .val (.ref e1)] [(.ref e1)]))
    refine W393.getf (host := "") (Or.inl (wd94 hw)) Via.refl (FW1.ext W393.old) (hb hby dc_prog_44_method_5_code_21) ?_
    intro T394 W395
    show Go p e below s Z [("com/example/claimwire/claimwire/fpml/LimitReportStatusFromTextPinLaw", 20), ("com/example/claimwire/claimwire/fpml/LimitReportStatusFromTextPinLaw", 22), ("java/lang/String", 7)] _ _ _ (T394.setTop (mkF m 24 #[.val (.ref nm), .val (.ref r), .val (.int (2 : Int32)), .val (.int (1 : Int32)), .val (.ref e1)] [(.ref t1)]))
    refine Go.by (fun t9_ q9_ => XS.aloadN W395.here W395.hx rfl (hb hby dc_prog_44_method_5_code_24) rfl rfl q9_) ?_
    show Go p e below s Z [("com/example/claimwire/claimwire/fpml/LimitReportStatusFromTextPinLaw", 20), ("com/example/claimwire/claimwire/fpml/LimitReportStatusFromTextPinLaw", 22), ("java/lang/String", 7)] _ _ _ (T394.setTop (mkF m 25 #[.val (.ref nm), .val (.ref r), .val (.int (2 : Int32)), .val (.int (1 : Int32)), .val (.ref e1)] [(.ref nm), (.ref t1)]))
    refine W395.strEq (k_eq hw) (wd2 hw) (wd96 hw) (wd97 hw) (wd99 hw) (wd98 hw) (S1.ext W395.old) (SN.ext X1) (by decide) ln (SG1.ext W395.old) hG (by decide) (Wt := 0) (by decide) (by rw [hml]; rfl) (Nat.le_of_eq rfl) (by decide) (by decide) (hb hby dc_prog_44_method_5_code_25) ?_
    intro T396 rr1 W397 hrr1
    show Go p e below s Z [("com/example/claimwire/claimwire/fpml/LimitReportStatusFromTextPinLaw", 20), ("com/example/claimwire/claimwire/fpml/LimitReportStatusFromTextPinLaw", 22), ("java/lang/String", 7)] _ _ _ (T396.setTop (mkF m 28 #[.val (.ref nm), .val (.ref r), .val (.int (2 : Int32)), .val (.int (1 : Int32)), .val (.ref e1)] [(.int rr1)]))
    by_cases q1 : cs = [69, 120, 99, 101, 101, 100, 101, 100]
    · refine Go.by (fun t9_ q9_ => XS.ifNo W397.here W397.hx rfl (hb hby dc_prog_44_method_5_code_28) rfl ((if0 _ _).trans (feq (by rw [hrr1, if_pos q1.symm]; decide)).1) q9_) ?_
      show Go p e below s Z [("com/example/claimwire/claimwire/fpml/LimitReportStatusFromTextPinLaw", 20), ("com/example/claimwire/claimwire/fpml/LimitReportStatusFromTextPinLaw", 22), ("java/lang/String", 7)] _ _ _ (T396.setTop (mkF m 31 #[.val (.ref nm), .val (.ref r), .val (.int (2 : Int32)), .val (.int (1 : Int32)), .val (.ref e1)] []))
      refine Go.by (fun t9_ q9_ => XS.aload W397.here W397.hx rfl (hb hby dc_prog_44_method_5_code_31) rfl rfl q9_) ?_
      show Go p e below s Z [("com/example/claimwire/claimwire/fpml/LimitReportStatusFromTextPinLaw", 20), ("com/example/claimwire/claimwire/fpml/LimitReportStatusFromTextPinLaw", 22), ("java/lang/String", 7)] _ _ _ (T396.setTop (mkF m 33 #[.val (.ref nm), .val (.ref r), .val (.int (2 : Int32)), .val (.int (1 : Int32)), .val (.ref e1)] [(.ref e1)]))
      exact W397.retA (by decide) (by decide) hret rfl rfl (hb hby dc_prog_44_method_5_code_33) ⟨by unfold ftF; rw [if_neg q0, if_pos q1], X1⟩
    · refine Go.by (fun t9_ q9_ => XS.ifYes W397.here W397.hx rfl (pc0 := 28) (pc' := 34) rfl (hb hby dc_prog_44_method_5_code_28) rfl ((if0 _ _).trans (teq (by rw [hrr1, if_neg (fun z => q1 z.symm)])).1) (by decide) (by decide) q9_) ?_
      show Go p e below s Z [("com/example/claimwire/claimwire/fpml/LimitReportStatusFromTextPinLaw", 20), ("com/example/claimwire/claimwire/fpml/LimitReportStatusFromTextPinLaw", 22), ("java/lang/String", 7)] _ _ _ (T396.setTop (mkF m 34 #[.val (.ref nm), .val (.ref r), .val (.int (2 : Int32)), .val (.int (1 : Int32)), .val (.ref e1)] []))
      refine Go.by (fun t9_ q9_ => XS.iinc W397.here W397.hx rfl (hb hby dc_prog_44_method_5_code_34) rfl (l' := #[.val (.ref nm), .val (.ref r), .val (.int (2 : Int32)), .val (.int ((1 : Int32) + (1 : Int32))), .val (.ref e1)]) rfl q9_) ?_
      show Go p e below s Z [("com/example/claimwire/claimwire/fpml/LimitReportStatusFromTextPinLaw", 20), ("com/example/claimwire/claimwire/fpml/LimitReportStatusFromTextPinLaw", 22), ("java/lang/String", 7)] _ _ _ (T396.setTop (mkF m 37 #[.val (.ref nm), .val (.ref r), .val (.int (2 : Int32)), .val (.int ((1 : Int32) + (1 : Int32))), .val (.ref e1)] []))
      show Go p e below s Z [("com/example/claimwire/claimwire/fpml/LimitReportStatusFromTextPinLaw", 20), ("com/example/claimwire/claimwire/fpml/LimitReportStatusFromTextPinLaw", 22), ("java/lang/String", 7)] _ _ _ (T396.setTop (mkF m 37 #[.val (.ref nm), .val (.ref r), .val (.int (2 : Int32)), .val (.int (2 : Int32)), .val (.ref e1)] []))
      refine Go.by (fun t9_ q9_ => XS.goto W397.here W397.hx rfl (pc0 := 37) (pc' := 9) rfl (hb hby dc_prog_44_method_5_code_37) (by decide) (by decide) q9_) ?_
      show Go p e below s Z [("com/example/claimwire/claimwire/fpml/LimitReportStatusFromTextPinLaw", 20), ("com/example/claimwire/claimwire/fpml/LimitReportStatusFromTextPinLaw", 22), ("java/lang/String", 7)] _ _ _ (T396.setTop (mkF m 9 #[.val (.ref nm), .val (.ref r), .val (.int (2 : Int32)), .val (.int (2 : Int32)), .val (.ref e1)] []))
      refine Go.by (fun t9_ q9_ => XS.iloadN W397.here W397.hx rfl (hb hby dc_prog_44_method_5_code_9) rfl q9_) ?_
      show Go p e below s Z [("com/example/claimwire/claimwire/fpml/LimitReportStatusFromTextPinLaw", 20), ("com/example/claimwire/claimwire/fpml/LimitReportStatusFromTextPinLaw", 22), ("java/lang/String", 7)] _ _ _ (T396.setTop (mkF m 10 #[.val (.ref nm), .val (.ref r), .val (.int (2 : Int32)), .val (.int (2 : Int32)), .val (.ref e1)] [(.int (2 : Int32))]))
      refine Go.by (fun t9_ q9_ => XS.iloadN W397.here W397.hx rfl (hb hby dc_prog_44_method_5_code_10) rfl q9_) ?_
      show Go p e below s Z [("com/example/claimwire/claimwire/fpml/LimitReportStatusFromTextPinLaw", 20), ("com/example/claimwire/claimwire/fpml/LimitReportStatusFromTextPinLaw", 22), ("java/lang/String", 7)] _ _ _ (T396.setTop (mkF m 11 #[.val (.ref nm), .val (.ref r), .val (.int (2 : Int32)), .val (.int (2 : Int32)), .val (.ref e1)] [(.int (2 : Int32)), (.int (2 : Int32))]))
      refine Go.by (fun t9_ q9_ => XS.icmpYes W397.here W397.hx rfl (pc0 := 11) (pc' := 40) rfl (hb hby dc_prog_44_method_5_code_11) rfl (flt (by decide)).2.1 (by decide) (by decide) q9_) ?_
      show Go p e below s Z [("com/example/claimwire/claimwire/fpml/LimitReportStatusFromTextPinLaw", 20), ("com/example/claimwire/claimwire/fpml/LimitReportStatusFromTextPinLaw", 22), ("java/lang/String", 7)] _ _ _ (T396.setTop (mkF m 40 #[.val (.ref nm), .val (.ref r), .val (.int (2 : Int32)), .val (.int (2 : Int32)), .val (.ref e1)] []))
      refine Go.by (fun t9_ q9_ => XS.aconstNull W397.here W397.hx rfl (hb hby dc_prog_44_method_5_code_40) q9_) ?_
      show Go p e below s Z [("com/example/claimwire/claimwire/fpml/LimitReportStatusFromTextPinLaw", 20), ("com/example/claimwire/claimwire/fpml/LimitReportStatusFromTextPinLaw", 22), ("java/lang/String", 7)] _ _ _ (T396.setTop (mkF m 41 #[.val (.ref nm), .val (.ref r), .val (.int (2 : Int32)), .val (.int (2 : Int32)), .val (.ref e1)] [.null]))
      exact W397.retA (by decide) (by decide) hret rfl rfl (hb hby dc_prog_44_method_5_code_41) ⟨by unfold ftF; rw [if_neg q0, if_neg q1], X1⟩
set_option maxRecDepth 65536 in
set_option maxHeartbeats 40000000 in
theorem c_law (l : Launch) (Z : State) (a0 : Array Value) (hw : ∀ d ∈ tables_1, d.before a0 Z = true) (hEL : EW Z a0 [("com/example/claimwire/claimwire/fpml/LimitReportStatusFromTextPinLaw", 20), ("com/example/claimwire/claimwire/fpml/LimitReportStatusFromTextPinLaw", 22), ("java/lang/String", 7)]) (h0 : Heap) (hE0 : Ext Z.heap h0) (p0 p1 p2 p3 G1 : Int32) (fm : Value) (av e0 e1 t0 t1 : Addr) (kv : ClassId) (SG1 : Sta Z Z.heap "java/lang/String" "COMPACT_STRINGS" "Z" (.int G1)) (hG : ¬ G1 = 0) (SFM : Sta Z Z.heap "jdk/internal/util/Preconditions" "SIOOBE_FORMATTER" "Ljava/util/function/BiFunction;" fm) (rfm : fm.isRef = true) (SV : Sta Z Z.heap "com/example/claimwire/claimwire/fpml/LimitReportStatus" "$VALUES" "[Lcom/example/claimwire/claimwire/fpml/LimitReportStatus;" (.ref av)) (AV : Arv Z Z.heap av kv (.object "com/example/claimwire/claimwire/fpml/LimitReportStatus") 2 [(.ref e0), (.ref e1)] .null) (XV : Exa Z Z.heap av "[Lcom/example/claimwire/claimwire/fpml/LimitReportStatus;") (FW0 : Fld Z Z.heap e0 "com/example/claimwire/claimwire/fpml/LimitReportStatus" "text" "Ljava/lang/String;" (.ref t0)) (FW1 : Fld Z Z.heap e1 "com/example/claimwire/claimwire/fpml/LimitReportStatus" "text" "Ljava/lang/String;" (.ref t1)) (S0 : Str Z Z.heap t0 [65, 99, 99, 101, 112, 116, 97, 98, 108, 101]) (S1 : Str Z Z.heap t1 [69, 120, 99, 101, 101, 100, 101, 100]) (ST0 : Sta Z Z.heap "com/example/claimwire/claimwire/fpml/LimitReportStatus" "ACCEPTABLE" "Lcom/example/claimwire/claimwire/fpml/LimitReportStatus;" (.ref e0)) (ST1 : Sta Z Z.heap "com/example/claimwire/claimwire/fpml/LimitReportStatus" "EXCEEDED" "Lcom/example/claimwire/claimwire/fpml/LimitReportStatus;" (.ref e1)) :
    Con l Z [("com/example/claimwire/claimwire/fpml/LimitReportStatusFromTextPinLaw", 20), ("com/example/claimwire/claimwire/fpml/LimitReportStatusFromTextPinLaw", 22), ("java/lang/String", 7)] [] x code maxLocals ret tables_1 room_1 #[(.int p0), (.int p1), (.int p2), (.int p3)] h0 (fun v h' => v = some (.int 1)) := by
  refine Con.mk (plainFor_of_name pn_1) hEL hE0 (fun x hx => by cases hx) ?_
  intro p e s m below meth c T0 hby hml hret hnm W0
  rw [(show entryFrame m #[(.int p0), (.int p1), (.int p2), (.int p3)] maxLocals = mkF m 0 #[.val (.int p0), .val (.int p1), .val (.int p2), .val (.int p3), .unset, .unset, .unset, .unset, .unset, .unset, .unset, .unset, .unset, .unset, .unset] [] from by first | (simp [entryFrame, mkF, argsToLocals, Value.category, maxLocals]; done) | rfl)]
  refine Go.by (fun t9_ q9_ => XS.iloadN W0.here W0.hx rfl (hb hby at_0) rfl q9_) ?_
  show Go p e below s Z [("com/example/claimwire/claimwire/fpml/LimitReportStatusFromTextPinLaw", 20), ("com/example/claimwire/claimwire/fpml/LimitReportStatusFromTextPinLaw", 22), ("java/lang/String", 7)] _ _ _ (T0.setTop (mkF m 1 #[.val (.int p0), .val (.int p1), .val (.int p2), .val (.int p3), .unset, .unset, .unset, .unset, .unset, .unset, .unset, .unset, .unset, .unset, .unset] [(.int p0)]))
  refine Go.by (fun t9_ q9_ => XS.iconst W0.here W0.hx rfl (hb hby at_1) q9_) ?_
  show Go p e below s Z [("com/example/claimwire/claimwire/fpml/LimitReportStatusFromTextPinLaw", 20), ("com/example/claimwire/claimwire/fpml/LimitReportStatusFromTextPinLaw", 22), ("java/lang/String", 7)] _ _ _ (T0.setTop (mkF m 2 #[.val (.int p0), .val (.int p1), .val (.int p2), .val (.int p3), .unset, .unset, .unset, .unset, .unset, .unset, .unset, .unset, .unset, .unset, .unset] [(.int (1 : Int32)), (.int p0)]))
  refine Go.by (fun t9_ q9_ => XS.iand W0.here W0.hx rfl (hb hby at_2) rfl q9_) ?_
  show Go p e below s Z [("com/example/claimwire/claimwire/fpml/LimitReportStatusFromTextPinLaw", 20), ("com/example/claimwire/claimwire/fpml/LimitReportStatusFromTextPinLaw", 22), ("java/lang/String", 7)] _ _ _ (T0.setTop (mkF m 3 #[.val (.int p0), .val (.int p1), .val (.int p2), .val (.int p3), .unset, .unset, .unset, .unset, .unset, .unset, .unset, .unset, .unset, .unset, .unset] [(.int (p0 &&& (1 : Int32)))]))
  suffices J398 : ∀ (T399 : State) (h401 : Heap) (ba : Addr) (bs : List Int32), Wk p l e room_1 s m #[(.int p0), (.int p1), (.int p2), (.int p3)] below meth c Z a0 [("com/example/claimwire/claimwire/fpml/LimitReportStatusFromTextPinLaw", 20), ("com/example/claimwire/claimwire/fpml/LimitReportStatusFromTextPinLaw", 22), ("java/lang/String", 7)] "com/example/claimwire/claimwire/fpml/LimitReportStatusFromTextPinLaw" [] T399 h401 2 44 → Str Z h401 ba bs → (∀ c ∈ bs, ¬ c < 0 ∧ ¬ (255 : Int32) < c) → bs.length ≤ 10 → Go p e below s Z [("com/example/claimwire/claimwire/fpml/LimitReportStatusFromTextPinLaw", 20), ("com/example/claimwire/claimwire/fpml/LimitReportStatusFromTextPinLaw", 22), ("java/lang/String", 7)] room_1.cells room_1.slots (fun v h' => v = some (.int 1)) (T399.setTop (mkF m 13 #[.val (.int p0), .val (.int p1), .val (.int p2), .val (.int p3), .unset, .unset, .unset, .unset, .unset, .unset, .unset, .unset, .unset, .unset, .unset] [(.ref ba)])) by
    by_cases h0b : (p0 &&& (1 : Int32)) = (0 : Int32)
    · refine Go.by (fun t9_ q9_ => XS.ifNo W0.here W0.hx rfl (hb hby at_3) rfl ((if0 _ _).trans (teq h0b).2) q9_) ?_
      show Go p e below s Z [("com/example/claimwire/claimwire/fpml/LimitReportStatusFromTextPinLaw", 20), ("com/example/claimwire/claimwire/fpml/LimitReportStatusFromTextPinLaw", 22), ("java/lang/String", 7)] _ _ _ (T0.setTop (mkF m 6 #[.val (.int p0), .val (.int p1), .val (.int p2), .val (.int p3), .unset, .unset, .unset, .unset, .unset, .unset, .unset, .unset, .unset, .unset, .unset] []))
      refine W0.ldcC (cs := [65, 99, 99, 101, 112, 116, 97, 98, 108, 101]) (wd0 hw) (k_sa hw) (List.mem_of_getElem? (i := 0) rfl) ⟨by decide +kernel, by decide +kernel⟩ (by decide) (by decide) (by decide) (hb hby at_6) (q := 40) (by decide +kernel) (by decide) (k' := 2) (n' := 44) rfl rfl (by decide) (by decide) ?_
      intro T402 h403 da W404 E405 S_da ne_da
      show Go p e below s Z [("com/example/claimwire/claimwire/fpml/LimitReportStatusFromTextPinLaw", 20), ("com/example/claimwire/claimwire/fpml/LimitReportStatusFromTextPinLaw", 22), ("java/lang/String", 7)] _ _ _ (T402.setTop (mkF m 8 #[.val (.int p0), .val (.int p1), .val (.int p2), .val (.int p3), .unset, .unset, .unset, .unset, .unset, .unset, .unset, .unset, .unset, .unset, .unset] [(.ref da)]))
      refine Go.by (fun t9_ q9_ => XS.goto W404.here W404.hx rfl (pc0 := 8) (pc' := 13) rfl (hb hby at_8) (by decide) (by decide) q9_) ?_
      show Go p e below s Z [("com/example/claimwire/claimwire/fpml/LimitReportStatusFromTextPinLaw", 20), ("com/example/claimwire/claimwire/fpml/LimitReportStatusFromTextPinLaw", 22), ("java/lang/String", 7)] _ _ _ (T402.setTop (mkF m 13 #[.val (.int p0), .val (.int p1), .val (.int p2), .val (.int p3), .unset, .unset, .unset, .unset, .unset, .unset, .unset, .unset, .unset, .unset, .unset] [(.ref da)]))
      exact J398 _ _ _ _ ((W404.less all0).mono (by decide) (by decide)) S_da (by decide) (by decide)
    · refine Go.by (fun t9_ q9_ => XS.ifYes W0.here W0.hx rfl (pc0 := 3) (pc' := 11) rfl (hb hby at_3) rfl ((if0 _ _).trans (feq h0b).2) (by decide) (by decide) q9_) ?_
      show Go p e below s Z [("com/example/claimwire/claimwire/fpml/LimitReportStatusFromTextPinLaw", 20), ("com/example/claimwire/claimwire/fpml/LimitReportStatusFromTextPinLaw", 22), ("java/lang/String", 7)] _ _ _ (T0.setTop (mkF m 11 #[.val (.int p0), .val (.int p1), .val (.int p2), .val (.int p3), .unset, .unset, .unset, .unset, .unset, .unset, .unset, .unset, .unset, .unset, .unset] []))
      refine W0.ldcC (cs := [69, 120, 99, 101, 101, 100, 101, 100]) (wd106 hw) (k_sa hw) (List.mem_of_getElem? (i := 1) rfl) ⟨by decide +kernel, by decide +kernel⟩ (by decide) (by decide) (by decide) (hb hby at_11) (q := 32) (by decide +kernel) (by decide) (k' := 2) (n' := 36) rfl rfl (by decide) (by decide) ?_
      intro T406 h407 db W408 E409 S_db ne_db
      show Go p e below s Z [("com/example/claimwire/claimwire/fpml/LimitReportStatusFromTextPinLaw", 20), ("com/example/claimwire/claimwire/fpml/LimitReportStatusFromTextPinLaw", 22), ("java/lang/String", 7)] _ _ _ (T406.setTop (mkF m 13 #[.val (.int p0), .val (.int p1), .val (.int p2), .val (.int p3), .unset, .unset, .unset, .unset, .unset, .unset, .unset, .unset, .unset, .unset, .unset] [(.ref db)]))
      exact J398 _ _ _ _ ((W408.less all0).mono (by decide) (by decide)) S_db (by decide) (by decide)
  intro T399 h401 ba bs W400 SB hbs lb
  refine Go.by (fun t9_ q9_ => XS.astore W400.here W400.hx rfl (hb hby at_13) rfl rfl (l' := #[.val (.int p0), .val (.int p1), .val (.int p2), .val (.int p3), .val (.ref ba), .unset, .unset, .unset, .unset, .unset, .unset, .unset, .unset, .unset, .unset]) rfl q9_) ?_
  show Go p e below s Z [("com/example/claimwire/claimwire/fpml/LimitReportStatusFromTextPinLaw", 20), ("com/example/claimwire/claimwire/fpml/LimitReportStatusFromTextPinLaw", 22), ("java/lang/String", 7)] _ _ _ (T399.setTop (mkF m 15 #[.val (.int p0), .val (.int p1), .val (.int p2), .val (.int p3), .val (.ref ba), .unset, .unset, .unset, .unset, .unset, .unset, .unset, .unset, .unset, .unset] []))
  refine Go.by (fun t9_ q9_ => XS.iloadN W400.here W400.hx rfl (hb hby at_15) rfl q9_) ?_
  show Go p e below s Z [("com/example/claimwire/claimwire/fpml/LimitReportStatusFromTextPinLaw", 20), ("com/example/claimwire/claimwire/fpml/LimitReportStatusFromTextPinLaw", 22), ("java/lang/String", 7)] _ _ _ (T399.setTop (mkF m 16 #[.val (.int p0), .val (.int p1), .val (.int p2), .val (.int p3), .val (.ref ba), .unset, .unset, .unset, .unset, .unset, .unset, .unset, .unset, .unset, .unset] [(.int p0)]))
  refine Go.by (fun t9_ q9_ => XS.iconst W400.here W400.hx rfl (hb hby at_16) q9_) ?_
  show Go p e below s Z [("com/example/claimwire/claimwire/fpml/LimitReportStatusFromTextPinLaw", 20), ("com/example/claimwire/claimwire/fpml/LimitReportStatusFromTextPinLaw", 22), ("java/lang/String", 7)] _ _ _ (T399.setTop (mkF m 17 #[.val (.int p0), .val (.int p1), .val (.int p2), .val (.int p3), .val (.ref ba), .unset, .unset, .unset, .unset, .unset, .unset, .unset, .unset, .unset, .unset] [(.int (2 : Int32)), (.int p0)]))
  refine Go.by (fun t9_ q9_ => XS.iand W400.here W400.hx rfl (hb hby at_17) rfl q9_) ?_
  show Go p e below s Z [("com/example/claimwire/claimwire/fpml/LimitReportStatusFromTextPinLaw", 20), ("com/example/claimwire/claimwire/fpml/LimitReportStatusFromTextPinLaw", 22), ("java/lang/String", 7)] _ _ _ (T399.setTop (mkF m 18 #[.val (.int p0), .val (.int p1), .val (.int p2), .val (.int p3), .val (.ref ba), .unset, .unset, .unset, .unset, .unset, .unset, .unset, .unset, .unset, .unset] [(.int (p0 &&& (2 : Int32)))]))
  obtain ⟨pt, h_pt⟩ : ∃ z : Int32, z = (if (p0 &&& (2 : Int32)) = (0 : Int32) then (0 : Int32) else (1 : Int32)) := ⟨_, rfl⟩
  have mg_pt : ∀ t, Steps p.tables e below (T399.setTop (mkF m 26 #[.val (.int p0), .val (.int p1), .val (.int p2), .val (.int p3), .val (.ref ba), .unset, .unset, .unset, .unset, .unset, .unset, .unset, .unset, .unset, .unset] [(.int pt)])) t → Steps p.tables e below (T399.setTop (mkF m 18 #[.val (.int p0), .val (.int p1), .val (.int p2), .val (.int p3), .val (.ref ba), .unset, .unset, .unset, .unset, .unset, .unset, .unset, .unset, .unset, .unset] [(.int (p0 &&& (2 : Int32)))])) t := by
    intro t q
    by_cases hm410 : (p0 &&& (2 : Int32)) = (0 : Int32)
    · refine XS.ifYes W400.here W400.hx rfl (pc0 := 18) (pc' := 25) rfl (hb hby at_18) rfl ((if0 _ _).trans (teq hm410).1) (by decide) (by decide) ?_
      show Steps p.tables e below (T399.setTop (mkF m 25 #[.val (.int p0), .val (.int p1), .val (.int p2), .val (.int p3), .val (.ref ba), .unset, .unset, .unset, .unset, .unset, .unset, .unset, .unset, .unset, .unset] [])) _
      refine XS.iconst W400.here W400.hx rfl (hb hby at_25) ?_
      show Steps p.tables e below (T399.setTop (mkF m 26 #[.val (.int p0), .val (.int p1), .val (.int p2), .val (.int p3), .val (.ref ba), .unset, .unset, .unset, .unset, .unset, .unset, .unset, .unset, .unset, .unset] [(.int (0 : Int32))])) _
      rw [if_pos hm410] at h_pt
      subst h_pt
      exact q
    · refine XS.ifNo W400.here W400.hx rfl (hb hby at_18) rfl ((if0 _ _).trans (feq hm410).1) ?_
      show Steps p.tables e below (T399.setTop (mkF m 21 #[.val (.int p0), .val (.int p1), .val (.int p2), .val (.int p3), .val (.ref ba), .unset, .unset, .unset, .unset, .unset, .unset, .unset, .unset, .unset, .unset] [])) _
      refine XS.iconst W400.here W400.hx rfl (hb hby at_21) ?_
      show Steps p.tables e below (T399.setTop (mkF m 22 #[.val (.int p0), .val (.int p1), .val (.int p2), .val (.int p3), .val (.ref ba), .unset, .unset, .unset, .unset, .unset, .unset, .unset, .unset, .unset, .unset] [(.int (1 : Int32))])) _
      refine XS.goto W400.here W400.hx rfl (pc0 := 22) (pc' := 26) rfl (hb hby at_22) (by decide) (by decide) ?_
      show Steps p.tables e below (T399.setTop (mkF m 26 #[.val (.int p0), .val (.int p1), .val (.int p2), .val (.int p3), .val (.ref ba), .unset, .unset, .unset, .unset, .unset, .unset, .unset, .unset, .unset, .unset] [(.int (1 : Int32))])) _
      rw [if_neg hm410] at h_pt
      subst h_pt
      exact q
  refine Go.by mg_pt ?_
  show Go p e below s Z [("com/example/claimwire/claimwire/fpml/LimitReportStatusFromTextPinLaw", 20), ("com/example/claimwire/claimwire/fpml/LimitReportStatusFromTextPinLaw", 22), ("java/lang/String", 7)] _ _ _ (T399.setTop (mkF m 26 #[.val (.int p0), .val (.int p1), .val (.int p2), .val (.int p3), .val (.ref ba), .unset, .unset, .unset, .unset, .unset, .unset, .unset, .unset, .unset, .unset] [(.int pt)]))
  clear h_pt mg_pt
  refine Go.by (fun t9_ q9_ => XS.istore W400.here W400.hx rfl (hb hby at_26) rfl (l' := #[.val (.int p0), .val (.int p1), .val (.int p2), .val (.int p3), .val (.ref ba), .val (.int pt), .unset, .unset, .unset, .unset, .unset, .unset, .unset, .unset, .unset]) rfl q9_) ?_
  show Go p e below s Z [("com/example/claimwire/claimwire/fpml/LimitReportStatusFromTextPinLaw", 20), ("com/example/claimwire/claimwire/fpml/LimitReportStatusFromTextPinLaw", 22), ("java/lang/String", 7)] _ _ _ (T399.setTop (mkF m 28 #[.val (.int p0), .val (.int p1), .val (.int p2), .val (.int p3), .val (.ref ba), .val (.int pt), .unset, .unset, .unset, .unset, .unset, .unset, .unset, .unset, .unset] []))
  refine Go.by (fun t9_ q9_ => XS.iloadN W400.here W400.hx rfl (hb hby at_28) rfl q9_) ?_
  show Go p e below s Z [("com/example/claimwire/claimwire/fpml/LimitReportStatusFromTextPinLaw", 20), ("com/example/claimwire/claimwire/fpml/LimitReportStatusFromTextPinLaw", 22), ("java/lang/String", 7)] _ _ _ (T399.setTop (mkF m 29 #[.val (.int p0), .val (.int p1), .val (.int p2), .val (.int p3), .val (.ref ba), .val (.int pt), .unset, .unset, .unset, .unset, .unset, .unset, .unset, .unset, .unset] [(.int p2)]))
  refine W400.ldcI (wd8 hw) (hb hby at_29) ?_
  show Go p e below s Z [("com/example/claimwire/claimwire/fpml/LimitReportStatusFromTextPinLaw", 20), ("com/example/claimwire/claimwire/fpml/LimitReportStatusFromTextPinLaw", 22), ("java/lang/String", 7)] _ _ _ (T399.setTop (mkF m 31 #[.val (.int p0), .val (.int p1), .val (.int p2), .val (.int p3), .val (.ref ba), .val (.int pt), .unset, .unset, .unset, .unset, .unset, .unset, .unset, .unset, .unset] [(.int (2147483647 : Int32)), (.int p2)]))
  refine Go.by (fun t9_ q9_ => XS.iand W400.here W400.hx rfl (hb hby at_31) rfl q9_) ?_
  show Go p e below s Z [("com/example/claimwire/claimwire/fpml/LimitReportStatusFromTextPinLaw", 20), ("com/example/claimwire/claimwire/fpml/LimitReportStatusFromTextPinLaw", 22), ("java/lang/String", 7)] _ _ _ (T399.setTop (mkF m 32 #[.val (.int p0), .val (.int p1), .val (.int p2), .val (.int p3), .val (.ref ba), .val (.int pt), .unset, .unset, .unset, .unset, .unset, .unset, .unset, .unset, .unset] [(.int (p2 &&& (2147483647 : Int32)))]))
  refine Go.by (fun t9_ q9_ => XS.bipush W400.here W400.hx rfl (hb hby at_32) q9_) ?_
  show Go p e below s Z [("com/example/claimwire/claimwire/fpml/LimitReportStatusFromTextPinLaw", 20), ("com/example/claimwire/claimwire/fpml/LimitReportStatusFromTextPinLaw", 22), ("java/lang/String", 7)] _ _ _ (T399.setTop (mkF m 34 #[.val (.int p0), .val (.int p1), .val (.int p2), .val (.int p3), .val (.ref ba), .val (.int pt), .unset, .unset, .unset, .unset, .unset, .unset, .unset, .unset, .unset] [(.int (11 : Int32)), (.int (p2 &&& (2147483647 : Int32)))]))
  refine Go.by (fun t9_ q9_ => iremW W400.here W400.hx rfl (hb hby at_34) rfl (by decide) q9_) ?_
  show Go p e below s Z [("com/example/claimwire/claimwire/fpml/LimitReportStatusFromTextPinLaw", 20), ("com/example/claimwire/claimwire/fpml/LimitReportStatusFromTextPinLaw", 22), ("java/lang/String", 7)] _ _ _ (T399.setTop (mkF m 35 #[.val (.int p0), .val (.int p1), .val (.int p2), .val (.int p3), .val (.ref ba), .val (.int pt), .unset, .unset, .unset, .unset, .unset, .unset, .unset, .unset, .unset] [(.int ((p2 &&& (2147483647 : Int32)) % (11 : Int32)))]))
  refine Go.by (fun t9_ q9_ => XS.istore W400.here W400.hx rfl (hb hby at_35) rfl (l' := #[.val (.int p0), .val (.int p1), .val (.int p2), .val (.int p3), .val (.ref ba), .val (.int pt), .val (.int ((p2 &&& (2147483647 : Int32)) % (11 : Int32))), .unset, .unset, .unset, .unset, .unset, .unset, .unset, .unset]) rfl q9_) ?_
  show Go p e below s Z [("com/example/claimwire/claimwire/fpml/LimitReportStatusFromTextPinLaw", 20), ("com/example/claimwire/claimwire/fpml/LimitReportStatusFromTextPinLaw", 22), ("java/lang/String", 7)] _ _ _ (T399.setTop (mkF m 37 #[.val (.int p0), .val (.int p1), .val (.int p2), .val (.int p3), .val (.ref ba), .val (.int pt), .val (.int ((p2 &&& (2147483647 : Int32)) % (11 : Int32))), .unset, .unset, .unset, .unset, .unset, .unset, .unset, .unset] []))
  obtain ⟨pp, h_pp⟩ : ∃ z : Int32, z = ((p2 &&& (2147483647 : Int32)) % (11 : Int32)) := ⟨_, rfl⟩
  rw [← h_pp]
  show Go p e below s Z [("com/example/claimwire/claimwire/fpml/LimitReportStatusFromTextPinLaw", 20), ("com/example/claimwire/claimwire/fpml/LimitReportStatusFromTextPinLaw", 22), ("java/lang/String", 7)] _ _ _ (T399.setTop (mkF m 37 #[.val (.int p0), .val (.int p1), .val (.int p2), .val (.int p3), .val (.ref ba), .val (.int pt), .val (.int pp), .unset, .unset, .unset, .unset, .unset, .unset, .unset, .unset] []))
  clear h_pp
  refine Go.by (fun t9_ q9_ => XS.iloadN W400.here W400.hx rfl (hb hby at_37) rfl q9_) ?_
  show Go p e below s Z [("com/example/claimwire/claimwire/fpml/LimitReportStatusFromTextPinLaw", 20), ("com/example/claimwire/claimwire/fpml/LimitReportStatusFromTextPinLaw", 22), ("java/lang/String", 7)] _ _ _ (T399.setTop (mkF m 38 #[.val (.int p0), .val (.int p1), .val (.int p2), .val (.int p3), .val (.ref ba), .val (.int pt), .val (.int pp), .unset, .unset, .unset, .unset, .unset, .unset, .unset, .unset] [(.int p3)]))
  refine Go.by (fun t9_ q9_ => XS.sipush W400.here W400.hx rfl (hb hby at_38) q9_) ?_
  show Go p e below s Z [("com/example/claimwire/claimwire/fpml/LimitReportStatusFromTextPinLaw", 20), ("com/example/claimwire/claimwire/fpml/LimitReportStatusFromTextPinLaw", 22), ("java/lang/String", 7)] _ _ _ (T399.setTop (mkF m 41 #[.val (.int p0), .val (.int p1), .val (.int p2), .val (.int p3), .val (.ref ba), .val (.int pt), .val (.int pp), .unset, .unset, .unset, .unset, .unset, .unset, .unset, .unset] [(.int (255 : Int32)), (.int p3)]))
  refine Go.by (fun t9_ q9_ => XS.iand W400.here W400.hx rfl (hb hby at_41) rfl q9_) ?_
  show Go p e below s Z [("com/example/claimwire/claimwire/fpml/LimitReportStatusFromTextPinLaw", 20), ("com/example/claimwire/claimwire/fpml/LimitReportStatusFromTextPinLaw", 22), ("java/lang/String", 7)] _ _ _ (T399.setTop (mkF m 42 #[.val (.int p0), .val (.int p1), .val (.int p2), .val (.int p3), .val (.ref ba), .val (.int pt), .val (.int pp), .unset, .unset, .unset, .unset, .unset, .unset, .unset, .unset] [(.int (p3 &&& (255 : Int32)))]))
  refine Go.by (fun t9_ q9_ => XS.i2c W400.here W400.hx rfl (hb hby at_42) rfl q9_) ?_
  show Go p e below s Z [("com/example/claimwire/claimwire/fpml/LimitReportStatusFromTextPinLaw", 20), ("com/example/claimwire/claimwire/fpml/LimitReportStatusFromTextPinLaw", 22), ("java/lang/String", 7)] _ _ _ (T399.setTop (mkF m 43 #[.val (.int p0), .val (.int p1), .val (.int p2), .val (.int p3), .val (.ref ba), .val (.int pt), .val (.int pp), .unset, .unset, .unset, .unset, .unset, .unset, .unset, .unset] [(.int ((p3 &&& (255 : Int32)).toUInt32.toUInt16.toUInt32.toInt32))]))
  refine Go.by (fun t9_ q9_ => XS.istore W400.here W400.hx rfl (hb hby at_43) rfl (l' := #[.val (.int p0), .val (.int p1), .val (.int p2), .val (.int p3), .val (.ref ba), .val (.int pt), .val (.int pp), .val (.int ((p3 &&& (255 : Int32)).toUInt32.toUInt16.toUInt32.toInt32)), .unset, .unset, .unset, .unset, .unset, .unset, .unset]) rfl q9_) ?_
  show Go p e below s Z [("com/example/claimwire/claimwire/fpml/LimitReportStatusFromTextPinLaw", 20), ("com/example/claimwire/claimwire/fpml/LimitReportStatusFromTextPinLaw", 22), ("java/lang/String", 7)] _ _ _ (T399.setTop (mkF m 45 #[.val (.int p0), .val (.int p1), .val (.int p2), .val (.int p3), .val (.ref ba), .val (.int pt), .val (.int pp), .val (.int ((p3 &&& (255 : Int32)).toUInt32.toUInt16.toUInt32.toInt32)), .unset, .unset, .unset, .unset, .unset, .unset, .unset] []))
  obtain ⟨x_, h_x_⟩ : ∃ z : Int32, z = ((p3 &&& (255 : Int32)).toUInt32.toUInt16.toUInt32.toInt32) := ⟨_, rfl⟩
  rw [← h_x_]
  show Go p e below s Z [("com/example/claimwire/claimwire/fpml/LimitReportStatusFromTextPinLaw", 20), ("com/example/claimwire/claimwire/fpml/LimitReportStatusFromTextPinLaw", 22), ("java/lang/String", 7)] _ _ _ (T399.setTop (mkF m 45 #[.val (.int p0), .val (.int p1), .val (.int p2), .val (.int p3), .val (.ref ba), .val (.int pt), .val (.int pp), .val (.int x_), .unset, .unset, .unset, .unset, .unset, .unset, .unset] []))
  have r_x : ¬ x_ < 0 ∧ ¬ (255 : Int32) < x_ := by rw [h_x_]; exact k_mask _
  clear h_x_
  refine Go.by (fun t9_ q9_ => XS.iloadN W400.here W400.hx rfl (hb hby at_45) rfl q9_) ?_
  show Go p e below s Z [("com/example/claimwire/claimwire/fpml/LimitReportStatusFromTextPinLaw", 20), ("com/example/claimwire/claimwire/fpml/LimitReportStatusFromTextPinLaw", 22), ("java/lang/String", 7)] _ _ _ (T399.setTop (mkF m 46 #[.val (.int p0), .val (.int p1), .val (.int p2), .val (.int p3), .val (.ref ba), .val (.int pt), .val (.int pp), .val (.int x_), .unset, .unset, .unset, .unset, .unset, .unset, .unset] [(.int p3)]))
  refine Go.by (fun t9_ q9_ => XS.bipush W400.here W400.hx rfl (hb hby at_46) q9_) ?_
  show Go p e below s Z [("com/example/claimwire/claimwire/fpml/LimitReportStatusFromTextPinLaw", 20), ("com/example/claimwire/claimwire/fpml/LimitReportStatusFromTextPinLaw", 22), ("java/lang/String", 7)] _ _ _ (T399.setTop (mkF m 48 #[.val (.int p0), .val (.int p1), .val (.int p2), .val (.int p3), .val (.ref ba), .val (.int pt), .val (.int pp), .val (.int x_), .unset, .unset, .unset, .unset, .unset, .unset, .unset] [(.int (8 : Int32)), (.int p3)]))
  refine Go.by (fun t9_ q9_ => XS.iushr W400.here W400.hx rfl (hb hby at_48) rfl q9_) ?_
  show Go p e below s Z [("com/example/claimwire/claimwire/fpml/LimitReportStatusFromTextPinLaw", 20), ("com/example/claimwire/claimwire/fpml/LimitReportStatusFromTextPinLaw", 22), ("java/lang/String", 7)] _ _ _ (T399.setTop (mkF m 49 #[.val (.int p0), .val (.int p1), .val (.int p2), .val (.int p3), .val (.ref ba), .val (.int pt), .val (.int pp), .val (.int x_), .unset, .unset, .unset, .unset, .unset, .unset, .unset] [(.int ((p3.toUInt32 >>> ((8 : Int32) &&& 31).toUInt32).toInt32))]))
  refine Go.by (fun t9_ q9_ => XS.sipush W400.here W400.hx rfl (hb hby at_49) q9_) ?_
  show Go p e below s Z [("com/example/claimwire/claimwire/fpml/LimitReportStatusFromTextPinLaw", 20), ("com/example/claimwire/claimwire/fpml/LimitReportStatusFromTextPinLaw", 22), ("java/lang/String", 7)] _ _ _ (T399.setTop (mkF m 52 #[.val (.int p0), .val (.int p1), .val (.int p2), .val (.int p3), .val (.ref ba), .val (.int pt), .val (.int pp), .val (.int x_), .unset, .unset, .unset, .unset, .unset, .unset, .unset] [(.int (255 : Int32)), (.int ((p3.toUInt32 >>> ((8 : Int32) &&& 31).toUInt32).toInt32))]))
  refine Go.by (fun t9_ q9_ => XS.iand W400.here W400.hx rfl (hb hby at_52) rfl q9_) ?_
  show Go p e below s Z [("com/example/claimwire/claimwire/fpml/LimitReportStatusFromTextPinLaw", 20), ("com/example/claimwire/claimwire/fpml/LimitReportStatusFromTextPinLaw", 22), ("java/lang/String", 7)] _ _ _ (T399.setTop (mkF m 53 #[.val (.int p0), .val (.int p1), .val (.int p2), .val (.int p3), .val (.ref ba), .val (.int pt), .val (.int pp), .val (.int x_), .unset, .unset, .unset, .unset, .unset, .unset, .unset] [(.int (((p3.toUInt32 >>> ((8 : Int32) &&& 31).toUInt32).toInt32) &&& (255 : Int32)))]))
  refine Go.by (fun t9_ q9_ => XS.i2c W400.here W400.hx rfl (hb hby at_53) rfl q9_) ?_
  show Go p e below s Z [("com/example/claimwire/claimwire/fpml/LimitReportStatusFromTextPinLaw", 20), ("com/example/claimwire/claimwire/fpml/LimitReportStatusFromTextPinLaw", 22), ("java/lang/String", 7)] _ _ _ (T399.setTop (mkF m 54 #[.val (.int p0), .val (.int p1), .val (.int p2), .val (.int p3), .val (.ref ba), .val (.int pt), .val (.int pp), .val (.int x_), .unset, .unset, .unset, .unset, .unset, .unset, .unset] [(.int ((((p3.toUInt32 >>> ((8 : Int32) &&& 31).toUInt32).toInt32) &&& (255 : Int32)).toUInt32.toUInt16.toUInt32.toInt32))]))
  refine Go.by (fun t9_ q9_ => XS.istore W400.here W400.hx rfl (hb hby at_54) rfl (l' := #[.val (.int p0), .val (.int p1), .val (.int p2), .val (.int p3), .val (.ref ba), .val (.int pt), .val (.int pp), .val (.int x_), .val (.int ((((p3.toUInt32 >>> ((8 : Int32) &&& 31).toUInt32).toInt32) &&& (255 : Int32)).toUInt32.toUInt16.toUInt32.toInt32)), .unset, .unset, .unset, .unset, .unset, .unset]) rfl q9_) ?_
  show Go p e below s Z [("com/example/claimwire/claimwire/fpml/LimitReportStatusFromTextPinLaw", 20), ("com/example/claimwire/claimwire/fpml/LimitReportStatusFromTextPinLaw", 22), ("java/lang/String", 7)] _ _ _ (T399.setTop (mkF m 56 #[.val (.int p0), .val (.int p1), .val (.int p2), .val (.int p3), .val (.ref ba), .val (.int pt), .val (.int pp), .val (.int x_), .val (.int ((((p3.toUInt32 >>> ((8 : Int32) &&& 31).toUInt32).toInt32) &&& (255 : Int32)).toUInt32.toUInt16.toUInt32.toInt32)), .unset, .unset, .unset, .unset, .unset, .unset] []))
  obtain ⟨y_, h_y_⟩ : ∃ z : Int32, z = ((((p3.toUInt32 >>> ((8 : Int32) &&& 31).toUInt32).toInt32) &&& (255 : Int32)).toUInt32.toUInt16.toUInt32.toInt32) := ⟨_, rfl⟩
  rw [← h_y_]
  show Go p e below s Z [("com/example/claimwire/claimwire/fpml/LimitReportStatusFromTextPinLaw", 20), ("com/example/claimwire/claimwire/fpml/LimitReportStatusFromTextPinLaw", 22), ("java/lang/String", 7)] _ _ _ (T399.setTop (mkF m 56 #[.val (.int p0), .val (.int p1), .val (.int p2), .val (.int p3), .val (.ref ba), .val (.int pt), .val (.int pp), .val (.int x_), .val (.int y_), .unset, .unset, .unset, .unset, .unset, .unset] []))
  have r_y : ¬ y_ < 0 ∧ ¬ (255 : Int32) < y_ := by rw [h_y_]; exact k_mask _
  clear h_y_
  refine Go.by (fun t9_ q9_ => XS.iloadN W400.here W400.hx rfl (hb hby at_56) rfl q9_) ?_
  show Go p e below s Z [("com/example/claimwire/claimwire/fpml/LimitReportStatusFromTextPinLaw", 20), ("com/example/claimwire/claimwire/fpml/LimitReportStatusFromTextPinLaw", 22), ("java/lang/String", 7)] _ _ _ (T399.setTop (mkF m 57 #[.val (.int p0), .val (.int p1), .val (.int p2), .val (.int p3), .val (.ref ba), .val (.int pt), .val (.int pp), .val (.int x_), .val (.int y_), .unset, .unset, .unset, .unset, .unset, .unset] [(.int p1)]))
  refine W400.ldcI (wd8 hw) (hb hby at_57) ?_
  show Go p e below s Z [("com/example/claimwire/claimwire/fpml/LimitReportStatusFromTextPinLaw", 20), ("com/example/claimwire/claimwire/fpml/LimitReportStatusFromTextPinLaw", 22), ("java/lang/String", 7)] _ _ _ (T399.setTop (mkF m 59 #[.val (.int p0), .val (.int p1), .val (.int p2), .val (.int p3), .val (.ref ba), .val (.int pt), .val (.int pp), .val (.int x_), .val (.int y_), .unset, .unset, .unset, .unset, .unset, .unset] [(.int (2147483647 : Int32)), (.int p1)]))
  refine Go.by (fun t9_ q9_ => XS.iand W400.here W400.hx rfl (hb hby at_59) rfl q9_) ?_
  show Go p e below s Z [("com/example/claimwire/claimwire/fpml/LimitReportStatusFromTextPinLaw", 20), ("com/example/claimwire/claimwire/fpml/LimitReportStatusFromTextPinLaw", 22), ("java/lang/String", 7)] _ _ _ (T399.setTop (mkF m 60 #[.val (.int p0), .val (.int p1), .val (.int p2), .val (.int p3), .val (.ref ba), .val (.int pt), .val (.int pp), .val (.int x_), .val (.int y_), .unset, .unset, .unset, .unset, .unset, .unset] [(.int (p1 &&& (2147483647 : Int32)))]))
  refine Go.by (fun t9_ q9_ => XS.bipush W400.here W400.hx rfl (hb hby at_60) q9_) ?_
  show Go p e below s Z [("com/example/claimwire/claimwire/fpml/LimitReportStatusFromTextPinLaw", 20), ("com/example/claimwire/claimwire/fpml/LimitReportStatusFromTextPinLaw", 22), ("java/lang/String", 7)] _ _ _ (T399.setTop (mkF m 62 #[.val (.int p0), .val (.int p1), .val (.int p2), .val (.int p3), .val (.ref ba), .val (.int pt), .val (.int pp), .val (.int x_), .val (.int y_), .unset, .unset, .unset, .unset, .unset, .unset] [(.int (7 : Int32)), (.int (p1 &&& (2147483647 : Int32)))]))
  refine Go.by (fun t9_ q9_ => iremW W400.here W400.hx rfl (hb hby at_62) rfl (by decide) q9_) ?_
  show Go p e below s Z [("com/example/claimwire/claimwire/fpml/LimitReportStatusFromTextPinLaw", 20), ("com/example/claimwire/claimwire/fpml/LimitReportStatusFromTextPinLaw", 22), ("java/lang/String", 7)] _ _ _ (T399.setTop (mkF m 63 #[.val (.int p0), .val (.int p1), .val (.int p2), .val (.int p3), .val (.ref ba), .val (.int pt), .val (.int pp), .val (.int x_), .val (.int y_), .unset, .unset, .unset, .unset, .unset, .unset] [(.int ((p1 &&& (2147483647 : Int32)) % (7 : Int32)))]))
  refine Go.by (fun t9_ q9_ => XS.istore W400.here W400.hx rfl (hb hby at_63) rfl (l' := #[.val (.int p0), .val (.int p1), .val (.int p2), .val (.int p3), .val (.ref ba), .val (.int pt), .val (.int pp), .val (.int x_), .val (.int y_), .val (.int ((p1 &&& (2147483647 : Int32)) % (7 : Int32))), .unset, .unset, .unset, .unset, .unset]) rfl q9_) ?_
  show Go p e below s Z [("com/example/claimwire/claimwire/fpml/LimitReportStatusFromTextPinLaw", 20), ("com/example/claimwire/claimwire/fpml/LimitReportStatusFromTextPinLaw", 22), ("java/lang/String", 7)] _ _ _ (T399.setTop (mkF m 65 #[.val (.int p0), .val (.int p1), .val (.int p2), .val (.int p3), .val (.ref ba), .val (.int pt), .val (.int pp), .val (.int x_), .val (.int y_), .val (.int ((p1 &&& (2147483647 : Int32)) % (7 : Int32))), .unset, .unset, .unset, .unset, .unset] []))
  obtain ⟨kk, h_kk⟩ : ∃ z : Int32, z = ((p1 &&& (2147483647 : Int32)) % (7 : Int32)) := ⟨_, rfl⟩
  rw [← h_kk]
  show Go p e below s Z [("com/example/claimwire/claimwire/fpml/LimitReportStatusFromTextPinLaw", 20), ("com/example/claimwire/claimwire/fpml/LimitReportStatusFromTextPinLaw", 22), ("java/lang/String", 7)] _ _ _ (T399.setTop (mkF m 65 #[.val (.int p0), .val (.int p1), .val (.int p2), .val (.int p3), .val (.ref ba), .val (.int pt), .val (.int pp), .val (.int x_), .val (.int y_), .val (.int kk), .unset, .unset, .unset, .unset, .unset] []))
  clear h_kk
  refine Go.by (fun t9_ q9_ => XS.iload W400.here W400.hx rfl (hb hby at_65) rfl q9_) ?_
  show Go p e below s Z [("com/example/claimwire/claimwire/fpml/LimitReportStatusFromTextPinLaw", 20), ("com/example/claimwire/claimwire/fpml/LimitReportStatusFromTextPinLaw", 22), ("java/lang/String", 7)] _ _ _ (T399.setTop (mkF m 67 #[.val (.int p0), .val (.int p1), .val (.int p2), .val (.int p3), .val (.ref ba), .val (.int pt), .val (.int pp), .val (.int x_), .val (.int y_), .val (.int kk), .unset, .unset, .unset, .unset, .unset] [(.int kk)]))
  obtain ⟨ln, h_ln⟩ : ∃ z : Int32, z = (if kk = (0 : Int32) then (0 : Int32) else (if kk = (1 : Int32) then (1 : Int32) else (kk + (5 : Int32)))) := ⟨_, rfl⟩
  have mg_ln : ∀ t, Steps p.tables e below (T399.setTop (mkF m 88 #[.val (.int p0), .val (.int p1), .val (.int p2), .val (.int p3), .val (.ref ba), .val (.int pt), .val (.int pp), .val (.int x_), .val (.int y_), .val (.int kk), .unset, .unset, .unset, .unset, .unset] [(.int ln)])) t → Steps p.tables e below (T399.setTop (mkF m 67 #[.val (.int p0), .val (.int p1), .val (.int p2), .val (.int p3), .val (.ref ba), .val (.int pt), .val (.int pp), .val (.int x_), .val (.int y_), .val (.int kk), .unset, .unset, .unset, .unset, .unset] [(.int kk)])) t := by
    intro t q
    by_cases hm411 : kk = (0 : Int32)
    · refine XS.ifNo W400.here W400.hx rfl (hb hby at_67) rfl ((if0 _ _).trans (teq hm411).2) ?_
      show Steps p.tables e below (T399.setTop (mkF m 70 #[.val (.int p0), .val (.int p1), .val (.int p2), .val (.int p3), .val (.ref ba), .val (.int pt), .val (.int pp), .val (.int x_), .val (.int y_), .val (.int kk), .unset, .unset, .unset, .unset, .unset] [])) _
      refine XS.iconst W400.here W400.hx rfl (hb hby at_70) ?_
      show Steps p.tables e below (T399.setTop (mkF m 71 #[.val (.int p0), .val (.int p1), .val (.int p2), .val (.int p3), .val (.ref ba), .val (.int pt), .val (.int pp), .val (.int x_), .val (.int y_), .val (.int kk), .unset, .unset, .unset, .unset, .unset] [(.int (0 : Int32))])) _
      refine XS.goto W400.here W400.hx rfl (pc0 := 71) (pc' := 88) rfl (hb hby at_71) (by decide) (by decide) ?_
      show Steps p.tables e below (T399.setTop (mkF m 88 #[.val (.int p0), .val (.int p1), .val (.int p2), .val (.int p3), .val (.ref ba), .val (.int pt), .val (.int pp), .val (.int x_), .val (.int y_), .val (.int kk), .unset, .unset, .unset, .unset, .unset] [(.int (0 : Int32))])) _
      rw [if_pos hm411] at h_ln
      subst h_ln
      exact q
    · refine XS.ifYes W400.here W400.hx rfl (pc0 := 67) (pc' := 74) rfl (hb hby at_67) rfl ((if0 _ _).trans (feq hm411).2) (by decide) (by decide) ?_
      show Steps p.tables e below (T399.setTop (mkF m 74 #[.val (.int p0), .val (.int p1), .val (.int p2), .val (.int p3), .val (.ref ba), .val (.int pt), .val (.int pp), .val (.int x_), .val (.int y_), .val (.int kk), .unset, .unset, .unset, .unset, .unset] [])) _
      refine XS.iload W400.here W400.hx rfl (hb hby at_74) rfl ?_
      show Steps p.tables e below (T399.setTop (mkF m 76 #[.val (.int p0), .val (.int p1), .val (.int p2), .val (.int p3), .val (.ref ba), .val (.int pt), .val (.int pp), .val (.int x_), .val (.int y_), .val (.int kk), .unset, .unset, .unset, .unset, .unset] [(.int kk)])) _
      refine XS.iconst W400.here W400.hx rfl (hb hby at_76) ?_
      show Steps p.tables e below (T399.setTop (mkF m 77 #[.val (.int p0), .val (.int p1), .val (.int p2), .val (.int p3), .val (.ref ba), .val (.int pt), .val (.int pp), .val (.int x_), .val (.int y_), .val (.int kk), .unset, .unset, .unset, .unset, .unset] [(.int (1 : Int32)), (.int kk)])) _
      by_cases hm412 : kk = (1 : Int32)
      · refine XS.icmpNo W400.here W400.hx rfl (hb hby at_77) rfl (teq hm412).2 ?_
        show Steps p.tables e below (T399.setTop (mkF m 80 #[.val (.int p0), .val (.int p1), .val (.int p2), .val (.int p3), .val (.ref ba), .val (.int pt), .val (.int pp), .val (.int x_), .val (.int y_), .val (.int kk), .unset, .unset, .unset, .unset, .unset] [])) _
        refine XS.iconst W400.here W400.hx rfl (hb hby at_80) ?_
        show Steps p.tables e below (T399.setTop (mkF m 81 #[.val (.int p0), .val (.int p1), .val (.int p2), .val (.int p3), .val (.ref ba), .val (.int pt), .val (.int pp), .val (.int x_), .val (.int y_), .val (.int kk), .unset, .unset, .unset, .unset, .unset] [(.int (1 : Int32))])) _
        refine XS.goto W400.here W400.hx rfl (pc0 := 81) (pc' := 88) rfl (hb hby at_81) (by decide) (by decide) ?_
        show Steps p.tables e below (T399.setTop (mkF m 88 #[.val (.int p0), .val (.int p1), .val (.int p2), .val (.int p3), .val (.ref ba), .val (.int pt), .val (.int pp), .val (.int x_), .val (.int y_), .val (.int kk), .unset, .unset, .unset, .unset, .unset] [(.int (1 : Int32))])) _
        rw [if_neg hm411, if_pos hm412] at h_ln
        subst h_ln
        exact q
      · refine XS.icmpYes W400.here W400.hx rfl (pc0 := 77) (pc' := 84) rfl (hb hby at_77) rfl (feq hm412).2 (by decide) (by decide) ?_
        show Steps p.tables e below (T399.setTop (mkF m 84 #[.val (.int p0), .val (.int p1), .val (.int p2), .val (.int p3), .val (.ref ba), .val (.int pt), .val (.int pp), .val (.int x_), .val (.int y_), .val (.int kk), .unset, .unset, .unset, .unset, .unset] [])) _
        refine XS.iload W400.here W400.hx rfl (hb hby at_84) rfl ?_
        show Steps p.tables e below (T399.setTop (mkF m 86 #[.val (.int p0), .val (.int p1), .val (.int p2), .val (.int p3), .val (.ref ba), .val (.int pt), .val (.int pp), .val (.int x_), .val (.int y_), .val (.int kk), .unset, .unset, .unset, .unset, .unset] [(.int kk)])) _
        refine XS.iconst W400.here W400.hx rfl (hb hby at_86) ?_
        show Steps p.tables e below (T399.setTop (mkF m 87 #[.val (.int p0), .val (.int p1), .val (.int p2), .val (.int p3), .val (.ref ba), .val (.int pt), .val (.int pp), .val (.int x_), .val (.int y_), .val (.int kk), .unset, .unset, .unset, .unset, .unset] [(.int (5 : Int32)), (.int kk)])) _
        refine XS.iadd W400.here W400.hx rfl (hb hby at_87) rfl ?_
        show Steps p.tables e below (T399.setTop (mkF m 88 #[.val (.int p0), .val (.int p1), .val (.int p2), .val (.int p3), .val (.ref ba), .val (.int pt), .val (.int pp), .val (.int x_), .val (.int y_), .val (.int kk), .unset, .unset, .unset, .unset, .unset] [(.int (kk + (5 : Int32)))])) _
        rw [if_neg hm411, if_neg hm412] at h_ln
        subst h_ln
        exact q
  refine Go.by mg_ln ?_
  show Go p e below s Z [("com/example/claimwire/claimwire/fpml/LimitReportStatusFromTextPinLaw", 20), ("com/example/claimwire/claimwire/fpml/LimitReportStatusFromTextPinLaw", 22), ("java/lang/String", 7)] _ _ _ (T399.setTop (mkF m 88 #[.val (.int p0), .val (.int p1), .val (.int p2), .val (.int p3), .val (.ref ba), .val (.int pt), .val (.int pp), .val (.int x_), .val (.int y_), .val (.int kk), .unset, .unset, .unset, .unset, .unset] [(.int ln)]))
  clear h_ln mg_ln
  refine Go.by (fun t9_ q9_ => XS.istore W400.here W400.hx rfl (hb hby at_88) rfl (l' := #[.val (.int p0), .val (.int p1), .val (.int p2), .val (.int p3), .val (.ref ba), .val (.int pt), .val (.int pp), .val (.int x_), .val (.int y_), .val (.int kk), .val (.int ln), .unset, .unset, .unset, .unset]) rfl q9_) ?_
  show Go p e below s Z [("com/example/claimwire/claimwire/fpml/LimitReportStatusFromTextPinLaw", 20), ("com/example/claimwire/claimwire/fpml/LimitReportStatusFromTextPinLaw", 22), ("java/lang/String", 7)] _ _ _ (T399.setTop (mkF m 90 #[.val (.int p0), .val (.int p1), .val (.int p2), .val (.int p3), .val (.ref ba), .val (.int pt), .val (.int pp), .val (.int x_), .val (.int y_), .val (.int kk), .val (.int ln), .unset, .unset, .unset, .unset] []))
  refine Go.by (fun t9_ q9_ => XS.bipush W400.here W400.hx rfl (hb hby at_90) q9_) ?_
  show Go p e below s Z [("com/example/claimwire/claimwire/fpml/LimitReportStatusFromTextPinLaw", 20), ("com/example/claimwire/claimwire/fpml/LimitReportStatusFromTextPinLaw", 22), ("java/lang/String", 7)] _ _ _ (T399.setTop (mkF m 92 #[.val (.int p0), .val (.int p1), .val (.int p2), .val (.int p3), .val (.ref ba), .val (.int pt), .val (.int pp), .val (.int x_), .val (.int y_), .val (.int kk), .val (.int ln), .unset, .unset, .unset, .unset] [(.int (11 : Int32))]))
  refine W400.newp (aty := .char) (wd9 hw) (hb hby at_92) (by decide) (cap := 11) (by decide) (by decide) (k' := 3) (n' := 55) rfl rfl (by decide) (by decide) (ad := "[C") rfl ?_
  intro T413 h414 ea k_ea W415 E416 g_ea z_ea A_ea V_ea
  have V1_ea : Arv Z h414 ea k_ea .char (11 : Int32) [(.int (0 : Int32)), (.int (0 : Int32)), (.int (0 : Int32)), (.int (0 : Int32)), (.int (0 : Int32)), (.int (0 : Int32)), (.int (0 : Int32)), (.int (0 : Int32)), (.int (0 : Int32)), (.int (0 : Int32)), (.int (0 : Int32))] (.int (0 : Int32)) := V_ea.pad (pad_rep [] (.int (0 : Int32)) 11)
  show Go p e below s Z [("com/example/claimwire/claimwire/fpml/LimitReportStatusFromTextPinLaw", 20), ("com/example/claimwire/claimwire/fpml/LimitReportStatusFromTextPinLaw", 22), ("java/lang/String", 7)] _ _ _ (T413.setTop (mkF m 94 #[.val (.int p0), .val (.int p1), .val (.int p2), .val (.int p3), .val (.ref ba), .val (.int pt), .val (.int pp), .val (.int x_), .val (.int y_), .val (.int kk), .val (.int ln), .unset, .unset, .unset, .unset] [(.ref ea)]))
  refine Go.by (fun t9_ q9_ => XS.dup W415.here W415.hx rfl (hb hby at_94) rfl rfl q9_) ?_
  show Go p e below s Z [("com/example/claimwire/claimwire/fpml/LimitReportStatusFromTextPinLaw", 20), ("com/example/claimwire/claimwire/fpml/LimitReportStatusFromTextPinLaw", 22), ("java/lang/String", 7)] _ _ _ (T413.setTop (mkF m 95 #[.val (.int p0), .val (.int p1), .val (.int p2), .val (.int p3), .val (.ref ba), .val (.int pt), .val (.int pp), .val (.int x_), .val (.int y_), .val (.int kk), .val (.int ln), .unset, .unset, .unset, .unset] [(.ref ea), (.ref ea)]))
  refine Go.by (fun t9_ q9_ => XS.iconst W415.here W415.hx rfl (hb hby at_95) q9_) ?_
  show Go p e below s Z [("com/example/claimwire/claimwire/fpml/LimitReportStatusFromTextPinLaw", 20), ("com/example/claimwire/claimwire/fpml/LimitReportStatusFromTextPinLaw", 22), ("java/lang/String", 7)] _ _ _ (T413.setTop (mkF m 96 #[.val (.int p0), .val (.int p1), .val (.int p2), .val (.int p3), .val (.ref ba), .val (.int pt), .val (.int pp), .val (.int x_), .val (.int y_), .val (.int kk), .val (.int ln), .unset, .unset, .unset, .unset] [(.int (0 : Int32)), (.ref ea), (.ref ea)]))
  refine Go.by (fun t9_ q9_ => XS.aload W415.here W415.hx rfl (hb hby at_96) rfl rfl q9_) ?_
  show Go p e below s Z [("com/example/claimwire/claimwire/fpml/LimitReportStatusFromTextPinLaw", 20), ("com/example/claimwire/claimwire/fpml/LimitReportStatusFromTextPinLaw", 22), ("java/lang/String", 7)] _ _ _ (T413.setTop (mkF m 98 #[.val (.int p0), .val (.int p1), .val (.int p2), .val (.int p3), .val (.ref ba), .val (.int pt), .val (.int pp), .val (.int x_), .val (.int y_), .val (.int kk), .val (.int ln), .unset, .unset, .unset, .unset] [(.ref ba), (.int (0 : Int32)), (.ref ea), (.ref ea)]))
  refine Go.by (fun t9_ q9_ => XS.iconst W415.here W415.hx rfl (hb hby at_98) q9_) ?_
  show Go p e below s Z [("com/example/claimwire/claimwire/fpml/LimitReportStatusFromTextPinLaw", 20), ("com/example/claimwire/claimwire/fpml/LimitReportStatusFromTextPinLaw", 22), ("java/lang/String", 7)] _ _ _ (T413.setTop (mkF m 99 #[.val (.int p0), .val (.int p1), .val (.int p2), .val (.int p3), .val (.ref ba), .val (.int pt), .val (.int pp), .val (.int x_), .val (.int y_), .val (.int kk), .val (.int ln), .unset, .unset, .unset, .unset] [(.int (0 : Int32)), (.ref ba), (.int (0 : Int32)), (.ref ea), (.ref ea)]))
  refine Go.by (fun t9_ q9_ => XS.iload W415.here W415.hx rfl (hb hby at_99) rfl q9_) ?_
  show Go p e below s Z [("com/example/claimwire/claimwire/fpml/LimitReportStatusFromTextPinLaw", 20), ("com/example/claimwire/claimwire/fpml/LimitReportStatusFromTextPinLaw", 22), ("java/lang/String", 7)] _ _ _ (T413.setTop (mkF m 101 #[.val (.int p0), .val (.int p1), .val (.int p2), .val (.int p3), .val (.ref ba), .val (.int pt), .val (.int pp), .val (.int x_), .val (.int y_), .val (.int kk), .val (.int ln), .unset, .unset, .unset, .unset] [(.int pp), (.int (0 : Int32)), (.ref ba), (.int (0 : Int32)), (.ref ea), (.ref ea)]))
  refine Go.by (fun t9_ q9_ => XS.iload W415.here W415.hx rfl (hb hby at_101) rfl q9_) ?_
  show Go p e below s Z [("com/example/claimwire/claimwire/fpml/LimitReportStatusFromTextPinLaw", 20), ("com/example/claimwire/claimwire/fpml/LimitReportStatusFromTextPinLaw", 22), ("java/lang/String", 7)] _ _ _ (T413.setTop (mkF m 103 #[.val (.int p0), .val (.int p1), .val (.int p2), .val (.int p3), .val (.ref ba), .val (.int pt), .val (.int pp), .val (.int x_), .val (.int y_), .val (.int kk), .val (.int ln), .unset, .unset, .unset, .unset] [(.int pt), (.int pp), (.int (0 : Int32)), (.ref ba), (.int (0 : Int32)), (.ref ea), (.ref ea)]))
  refine Go.by (fun t9_ q9_ => XS.iload W415.here W415.hx rfl (hb hby at_103) rfl q9_) ?_
  show Go p e below s Z [("com/example/claimwire/claimwire/fpml/LimitReportStatusFromTextPinLaw", 20), ("com/example/claimwire/claimwire/fpml/LimitReportStatusFromTextPinLaw", 22), ("java/lang/String", 7)] _ _ _ (T413.setTop (mkF m 105 #[.val (.int p0), .val (.int p1), .val (.int p2), .val (.int p3), .val (.ref ba), .val (.int pt), .val (.int pp), .val (.int x_), .val (.int y_), .val (.int kk), .val (.int ln), .unset, .unset, .unset, .unset] [(.int x_), (.int pt), (.int pp), (.int (0 : Int32)), (.ref ba), (.int (0 : Int32)), (.ref ea), (.ref ea)]))
  refine Go.by (fun t9_ q9_ => XS.iload W415.here W415.hx rfl (hb hby at_105) rfl q9_) ?_
  show Go p e below s Z [("com/example/claimwire/claimwire/fpml/LimitReportStatusFromTextPinLaw", 20), ("com/example/claimwire/claimwire/fpml/LimitReportStatusFromTextPinLaw", 22), ("java/lang/String", 7)] _ _ _ (T413.setTop (mkF m 107 #[.val (.int p0), .val (.int p1), .val (.int p2), .val (.int p3), .val (.ref ba), .val (.int pt), .val (.int pp), .val (.int x_), .val (.int y_), .val (.int kk), .val (.int ln), .unset, .unset, .unset, .unset] [(.int y_), (.int x_), (.int pt), (.int pp), (.int (0 : Int32)), (.ref ba), (.int (0 : Int32)), (.ref ea), (.ref ea)]))
  refine W415.callSr (y := (⟨"com/example/claimwire/claimwire/fpml/LimitReportStatusFromTextPinLaw", "ch", "(Ljava/lang/String;IIZCC)C"⟩ : MethodName)) (wd10 hw) (wd11 hw) (wd12 hw) (wd13 hw) (by decide) (c_ch l Z a0 hw hEL h414 W415.old ba bs 0 pp pt x_ y_ G1 fm SG1 hG SFM rfm (SB.ext E416) hbs lb (by decide) r_x r_y) all0 (by decide) (by decide) (k' := 3) (n' := 55) rfl rfl (by decide) (by decide) (by rw [hml]; rfl) (argsL := [(.ref ba), (.int (0 : Int32)), (.int pp), (.int pt), (.int x_), (.int y_)]) (rest := [(.int (0 : Int32)), (.ref ea), (.ref ea)]) (lenOf pd_3 rfl) rfl rfl (Wt := 3) (Nat.le_of_eq rfl) (hb hby at_107) ?_
  intro v_ T417 W418 hq_
  obtain ⟨u0, rfl, r_u0⟩ := hq_
  show Go p e below s Z [("com/example/claimwire/claimwire/fpml/LimitReportStatusFromTextPinLaw", 20), ("com/example/claimwire/claimwire/fpml/LimitReportStatusFromTextPinLaw", 22), ("java/lang/String", 7)] _ _ _ (T417.setTop (mkF m 110 #[.val (.int p0), .val (.int p1), .val (.int p2), .val (.int p3), .val (.ref ba), .val (.int pt), .val (.int pp), .val (.int x_), .val (.int y_), .val (.int kk), .val (.int ln), .unset, .unset, .unset, .unset] [(.int u0), (.int (0 : Int32)), (.ref ea), (.ref ea)]))
  show Go p e below s Z [("com/example/claimwire/claimwire/fpml/LimitReportStatusFromTextPinLaw", 20), ("com/example/claimwire/claimwire/fpml/LimitReportStatusFromTextPinLaw", 22), ("java/lang/String", 7)] _ _ _ (T417.setTop (mkF m 110 #[.val (.int p0), .val (.int p1), .val (.int p2), .val (.int p3), .val (.ref ba), .val (.int pt), .val (.int pp), .val (.int x_), .val (.int y_), .val (.int kk), .val (.int ln), .unset, .unset, .unset, .unset] [(.int u0), (.int (0 : Int32)), (.ref ea), (.ref ea)]))
  refine W418.cast_ V1_ea ⟨by decide, by decide⟩ (i := 0) rfl (by simp) (v' := u0) (nar_id (up16 r_u0)) z_ea (List.mem_of_getElem? (i := 0) rfl) (hb hby at_110) ?_
  intro T419 h420 W421 Wr422 V423_ea'
  have V423_ea : Arv Z h420 ea k_ea .char (11 : Int32) [(.int u0), (.int (0 : Int32)), (.int (0 : Int32)), (.int (0 : Int32)), (.int (0 : Int32)), (.int (0 : Int32)), (.int (0 : Int32)), (.int (0 : Int32)), (.int (0 : Int32)), (.int (0 : Int32)), (.int (0 : Int32))] (.int (0 : Int32)) := V423_ea'
  show Go p e below s Z [("com/example/claimwire/claimwire/fpml/LimitReportStatusFromTextPinLaw", 20), ("com/example/claimwire/claimwire/fpml/LimitReportStatusFromTextPinLaw", 22), ("java/lang/String", 7)] _ _ _ (T419.setTop (mkF m 111 #[.val (.int p0), .val (.int p1), .val (.int p2), .val (.int p3), .val (.ref ba), .val (.int pt), .val (.int pp), .val (.int x_), .val (.int y_), .val (.int kk), .val (.int ln), .unset, .unset, .unset, .unset] [(.ref ea)]))
  refine Go.by (fun t9_ q9_ => XS.dup W421.here W421.hx rfl (hb hby at_111) rfl rfl q9_) ?_
  show Go p e below s Z [("com/example/claimwire/claimwire/fpml/LimitReportStatusFromTextPinLaw", 20), ("com/example/claimwire/claimwire/fpml/LimitReportStatusFromTextPinLaw", 22), ("java/lang/String", 7)] _ _ _ (T419.setTop (mkF m 112 #[.val (.int p0), .val (.int p1), .val (.int p2), .val (.int p3), .val (.ref ba), .val (.int pt), .val (.int pp), .val (.int x_), .val (.int y_), .val (.int kk), .val (.int ln), .unset, .unset, .unset, .unset] [(.ref ea), (.ref ea)]))
  refine Go.by (fun t9_ q9_ => XS.iconst W421.here W421.hx rfl (hb hby at_112) q9_) ?_
  show Go p e below s Z [("com/example/claimwire/claimwire/fpml/LimitReportStatusFromTextPinLaw", 20), ("com/example/claimwire/claimwire/fpml/LimitReportStatusFromTextPinLaw", 22), ("java/lang/String", 7)] _ _ _ (T419.setTop (mkF m 113 #[.val (.int p0), .val (.int p1), .val (.int p2), .val (.int p3), .val (.ref ba), .val (.int pt), .val (.int pp), .val (.int x_), .val (.int y_), .val (.int kk), .val (.int ln), .unset, .unset, .unset, .unset] [(.int (1 : Int32)), (.ref ea), (.ref ea)]))
  refine Go.by (fun t9_ q9_ => XS.aload W421.here W421.hx rfl (hb hby at_113) rfl rfl q9_) ?_
  show Go p e below s Z [("com/example/claimwire/claimwire/fpml/LimitReportStatusFromTextPinLaw", 20), ("com/example/claimwire/claimwire/fpml/LimitReportStatusFromTextPinLaw", 22), ("java/lang/String", 7)] _ _ _ (T419.setTop (mkF m 115 #[.val (.int p0), .val (.int p1), .val (.int p2), .val (.int p3), .val (.ref ba), .val (.int pt), .val (.int pp), .val (.int x_), .val (.int y_), .val (.int kk), .val (.int ln), .unset, .unset, .unset, .unset] [(.ref ba), (.int (1 : Int32)), (.ref ea), (.ref ea)]))
  refine Go.by (fun t9_ q9_ => XS.iconst W421.here W421.hx rfl (hb hby at_115) q9_) ?_
  show Go p e below s Z [("com/example/claimwire/claimwire/fpml/LimitReportStatusFromTextPinLaw", 20), ("com/example/claimwire/claimwire/fpml/LimitReportStatusFromTextPinLaw", 22), ("java/lang/String", 7)] _ _ _ (T419.setTop (mkF m 116 #[.val (.int p0), .val (.int p1), .val (.int p2), .val (.int p3), .val (.ref ba), .val (.int pt), .val (.int pp), .val (.int x_), .val (.int y_), .val (.int kk), .val (.int ln), .unset, .unset, .unset, .unset] [(.int (1 : Int32)), (.ref ba), (.int (1 : Int32)), (.ref ea), (.ref ea)]))
  refine Go.by (fun t9_ q9_ => XS.iload W421.here W421.hx rfl (hb hby at_116) rfl q9_) ?_
  show Go p e below s Z [("com/example/claimwire/claimwire/fpml/LimitReportStatusFromTextPinLaw", 20), ("com/example/claimwire/claimwire/fpml/LimitReportStatusFromTextPinLaw", 22), ("java/lang/String", 7)] _ _ _ (T419.setTop (mkF m 118 #[.val (.int p0), .val (.int p1), .val (.int p2), .val (.int p3), .val (.ref ba), .val (.int pt), .val (.int pp), .val (.int x_), .val (.int y_), .val (.int kk), .val (.int ln), .unset, .unset, .unset, .unset] [(.int pp), (.int (1 : Int32)), (.ref ba), (.int (1 : Int32)), (.ref ea), (.ref ea)]))
  refine Go.by (fun t9_ q9_ => XS.iload W421.here W421.hx rfl (hb hby at_118) rfl q9_) ?_
  show Go p e below s Z [("com/example/claimwire/claimwire/fpml/LimitReportStatusFromTextPinLaw", 20), ("com/example/claimwire/claimwire/fpml/LimitReportStatusFromTextPinLaw", 22), ("java/lang/String", 7)] _ _ _ (T419.setTop (mkF m 120 #[.val (.int p0), .val (.int p1), .val (.int p2), .val (.int p3), .val (.ref ba), .val (.int pt), .val (.int pp), .val (.int x_), .val (.int y_), .val (.int kk), .val (.int ln), .unset, .unset, .unset, .unset] [(.int pt), (.int pp), (.int (1 : Int32)), (.ref ba), (.int (1 : Int32)), (.ref ea), (.ref ea)]))
  refine Go.by (fun t9_ q9_ => XS.iload W421.here W421.hx rfl (hb hby at_120) rfl q9_) ?_
  show Go p e below s Z [("com/example/claimwire/claimwire/fpml/LimitReportStatusFromTextPinLaw", 20), ("com/example/claimwire/claimwire/fpml/LimitReportStatusFromTextPinLaw", 22), ("java/lang/String", 7)] _ _ _ (T419.setTop (mkF m 122 #[.val (.int p0), .val (.int p1), .val (.int p2), .val (.int p3), .val (.ref ba), .val (.int pt), .val (.int pp), .val (.int x_), .val (.int y_), .val (.int kk), .val (.int ln), .unset, .unset, .unset, .unset] [(.int x_), (.int pt), (.int pp), (.int (1 : Int32)), (.ref ba), (.int (1 : Int32)), (.ref ea), (.ref ea)]))
  refine Go.by (fun t9_ q9_ => XS.iload W421.here W421.hx rfl (hb hby at_122) rfl q9_) ?_
  show Go p e below s Z [("com/example/claimwire/claimwire/fpml/LimitReportStatusFromTextPinLaw", 20), ("com/example/claimwire/claimwire/fpml/LimitReportStatusFromTextPinLaw", 22), ("java/lang/String", 7)] _ _ _ (T419.setTop (mkF m 124 #[.val (.int p0), .val (.int p1), .val (.int p2), .val (.int p3), .val (.ref ba), .val (.int pt), .val (.int pp), .val (.int x_), .val (.int y_), .val (.int kk), .val (.int ln), .unset, .unset, .unset, .unset] [(.int y_), (.int x_), (.int pt), (.int pp), (.int (1 : Int32)), (.ref ba), (.int (1 : Int32)), (.ref ea), (.ref ea)]))
  have X424 : Ext h401 h420 := (Ext.wr' E416 Wr422 (Nat.le_of_eq g_ea))
  refine W421.callSr (y := (⟨"com/example/claimwire/claimwire/fpml/LimitReportStatusFromTextPinLaw", "ch", "(Ljava/lang/String;IIZCC)C"⟩ : MethodName)) (wd10 hw) (wd11 hw) (wd12 hw) (wd13 hw) (by decide) (c_ch l Z a0 hw hEL h420 W421.old ba bs 1 pp pt x_ y_ G1 fm SG1 hG SFM rfm (SB.ext X424) hbs lb (by decide) r_x r_y) all0 (by decide) (by decide) (k' := 3) (n' := 55) rfl rfl (by decide) (by decide) (by rw [hml]; rfl) (argsL := [(.ref ba), (.int (1 : Int32)), (.int pp), (.int pt), (.int x_), (.int y_)]) (rest := [(.int (1 : Int32)), (.ref ea), (.ref ea)]) (lenOf pd_3 rfl) rfl rfl (Wt := 3) (Nat.le_of_eq rfl) (hb hby at_124) ?_
  intro v_ T425 W426 hq_
  obtain ⟨u1, rfl, r_u1⟩ := hq_
  show Go p e below s Z [("com/example/claimwire/claimwire/fpml/LimitReportStatusFromTextPinLaw", 20), ("com/example/claimwire/claimwire/fpml/LimitReportStatusFromTextPinLaw", 22), ("java/lang/String", 7)] _ _ _ (T425.setTop (mkF m 127 #[.val (.int p0), .val (.int p1), .val (.int p2), .val (.int p3), .val (.ref ba), .val (.int pt), .val (.int pp), .val (.int x_), .val (.int y_), .val (.int kk), .val (.int ln), .unset, .unset, .unset, .unset] [(.int u1), (.int (1 : Int32)), (.ref ea), (.ref ea)]))
  show Go p e below s Z [("com/example/claimwire/claimwire/fpml/LimitReportStatusFromTextPinLaw", 20), ("com/example/claimwire/claimwire/fpml/LimitReportStatusFromTextPinLaw", 22), ("java/lang/String", 7)] _ _ _ (T425.setTop (mkF m 127 #[.val (.int p0), .val (.int p1), .val (.int p2), .val (.int p3), .val (.ref ba), .val (.int pt), .val (.int pp), .val (.int x_), .val (.int y_), .val (.int kk), .val (.int ln), .unset, .unset, .unset, .unset] [(.int u1), (.int (1 : Int32)), (.ref ea), (.ref ea)]))
  refine W426.cast_ V423_ea ⟨by decide, by decide⟩ (i := 1) rfl (by simp) (v' := u1) (nar_id (up16 r_u1)) z_ea (List.mem_of_getElem? (i := 0) rfl) (hb hby at_127) ?_
  intro T427 h428 W429 Wr430 V431_ea'
  have V431_ea : Arv Z h428 ea k_ea .char (11 : Int32) [(.int u0), (.int u1), (.int (0 : Int32)), (.int (0 : Int32)), (.int (0 : Int32)), (.int (0 : Int32)), (.int (0 : Int32)), (.int (0 : Int32)), (.int (0 : Int32)), (.int (0 : Int32)), (.int (0 : Int32))] (.int (0 : Int32)) := V431_ea'
  show Go p e below s Z [("com/example/claimwire/claimwire/fpml/LimitReportStatusFromTextPinLaw", 20), ("com/example/claimwire/claimwire/fpml/LimitReportStatusFromTextPinLaw", 22), ("java/lang/String", 7)] _ _ _ (T427.setTop (mkF m 128 #[.val (.int p0), .val (.int p1), .val (.int p2), .val (.int p3), .val (.ref ba), .val (.int pt), .val (.int pp), .val (.int x_), .val (.int y_), .val (.int kk), .val (.int ln), .unset, .unset, .unset, .unset] [(.ref ea)]))
  refine Go.by (fun t9_ q9_ => XS.dup W429.here W429.hx rfl (hb hby at_128) rfl rfl q9_) ?_
  show Go p e below s Z [("com/example/claimwire/claimwire/fpml/LimitReportStatusFromTextPinLaw", 20), ("com/example/claimwire/claimwire/fpml/LimitReportStatusFromTextPinLaw", 22), ("java/lang/String", 7)] _ _ _ (T427.setTop (mkF m 129 #[.val (.int p0), .val (.int p1), .val (.int p2), .val (.int p3), .val (.ref ba), .val (.int pt), .val (.int pp), .val (.int x_), .val (.int y_), .val (.int kk), .val (.int ln), .unset, .unset, .unset, .unset] [(.ref ea), (.ref ea)]))
  refine Go.by (fun t9_ q9_ => XS.iconst W429.here W429.hx rfl (hb hby at_129) q9_) ?_
  show Go p e below s Z [("com/example/claimwire/claimwire/fpml/LimitReportStatusFromTextPinLaw", 20), ("com/example/claimwire/claimwire/fpml/LimitReportStatusFromTextPinLaw", 22), ("java/lang/String", 7)] _ _ _ (T427.setTop (mkF m 130 #[.val (.int p0), .val (.int p1), .val (.int p2), .val (.int p3), .val (.ref ba), .val (.int pt), .val (.int pp), .val (.int x_), .val (.int y_), .val (.int kk), .val (.int ln), .unset, .unset, .unset, .unset] [(.int (2 : Int32)), (.ref ea), (.ref ea)]))
  refine Go.by (fun t9_ q9_ => XS.aload W429.here W429.hx rfl (hb hby at_130) rfl rfl q9_) ?_
  show Go p e below s Z [("com/example/claimwire/claimwire/fpml/LimitReportStatusFromTextPinLaw", 20), ("com/example/claimwire/claimwire/fpml/LimitReportStatusFromTextPinLaw", 22), ("java/lang/String", 7)] _ _ _ (T427.setTop (mkF m 132 #[.val (.int p0), .val (.int p1), .val (.int p2), .val (.int p3), .val (.ref ba), .val (.int pt), .val (.int pp), .val (.int x_), .val (.int y_), .val (.int kk), .val (.int ln), .unset, .unset, .unset, .unset] [(.ref ba), (.int (2 : Int32)), (.ref ea), (.ref ea)]))
  refine Go.by (fun t9_ q9_ => XS.iconst W429.here W429.hx rfl (hb hby at_132) q9_) ?_
  show Go p e below s Z [("com/example/claimwire/claimwire/fpml/LimitReportStatusFromTextPinLaw", 20), ("com/example/claimwire/claimwire/fpml/LimitReportStatusFromTextPinLaw", 22), ("java/lang/String", 7)] _ _ _ (T427.setTop (mkF m 133 #[.val (.int p0), .val (.int p1), .val (.int p2), .val (.int p3), .val (.ref ba), .val (.int pt), .val (.int pp), .val (.int x_), .val (.int y_), .val (.int kk), .val (.int ln), .unset, .unset, .unset, .unset] [(.int (2 : Int32)), (.ref ba), (.int (2 : Int32)), (.ref ea), (.ref ea)]))
  refine Go.by (fun t9_ q9_ => XS.iload W429.here W429.hx rfl (hb hby at_133) rfl q9_) ?_
  show Go p e below s Z [("com/example/claimwire/claimwire/fpml/LimitReportStatusFromTextPinLaw", 20), ("com/example/claimwire/claimwire/fpml/LimitReportStatusFromTextPinLaw", 22), ("java/lang/String", 7)] _ _ _ (T427.setTop (mkF m 135 #[.val (.int p0), .val (.int p1), .val (.int p2), .val (.int p3), .val (.ref ba), .val (.int pt), .val (.int pp), .val (.int x_), .val (.int y_), .val (.int kk), .val (.int ln), .unset, .unset, .unset, .unset] [(.int pp), (.int (2 : Int32)), (.ref ba), (.int (2 : Int32)), (.ref ea), (.ref ea)]))
  refine Go.by (fun t9_ q9_ => XS.iload W429.here W429.hx rfl (hb hby at_135) rfl q9_) ?_
  show Go p e below s Z [("com/example/claimwire/claimwire/fpml/LimitReportStatusFromTextPinLaw", 20), ("com/example/claimwire/claimwire/fpml/LimitReportStatusFromTextPinLaw", 22), ("java/lang/String", 7)] _ _ _ (T427.setTop (mkF m 137 #[.val (.int p0), .val (.int p1), .val (.int p2), .val (.int p3), .val (.ref ba), .val (.int pt), .val (.int pp), .val (.int x_), .val (.int y_), .val (.int kk), .val (.int ln), .unset, .unset, .unset, .unset] [(.int pt), (.int pp), (.int (2 : Int32)), (.ref ba), (.int (2 : Int32)), (.ref ea), (.ref ea)]))
  refine Go.by (fun t9_ q9_ => XS.iload W429.here W429.hx rfl (hb hby at_137) rfl q9_) ?_
  show Go p e below s Z [("com/example/claimwire/claimwire/fpml/LimitReportStatusFromTextPinLaw", 20), ("com/example/claimwire/claimwire/fpml/LimitReportStatusFromTextPinLaw", 22), ("java/lang/String", 7)] _ _ _ (T427.setTop (mkF m 139 #[.val (.int p0), .val (.int p1), .val (.int p2), .val (.int p3), .val (.ref ba), .val (.int pt), .val (.int pp), .val (.int x_), .val (.int y_), .val (.int kk), .val (.int ln), .unset, .unset, .unset, .unset] [(.int x_), (.int pt), (.int pp), (.int (2 : Int32)), (.ref ba), (.int (2 : Int32)), (.ref ea), (.ref ea)]))
  refine Go.by (fun t9_ q9_ => XS.iload W429.here W429.hx rfl (hb hby at_139) rfl q9_) ?_
  show Go p e below s Z [("com/example/claimwire/claimwire/fpml/LimitReportStatusFromTextPinLaw", 20), ("com/example/claimwire/claimwire/fpml/LimitReportStatusFromTextPinLaw", 22), ("java/lang/String", 7)] _ _ _ (T427.setTop (mkF m 141 #[.val (.int p0), .val (.int p1), .val (.int p2), .val (.int p3), .val (.ref ba), .val (.int pt), .val (.int pp), .val (.int x_), .val (.int y_), .val (.int kk), .val (.int ln), .unset, .unset, .unset, .unset] [(.int y_), (.int x_), (.int pt), (.int pp), (.int (2 : Int32)), (.ref ba), (.int (2 : Int32)), (.ref ea), (.ref ea)]))
  have X432 : Ext h401 h428 := (Ext.wr' X424 Wr430 (Nat.le_of_eq g_ea))
  refine W429.callSr (y := (⟨"com/example/claimwire/claimwire/fpml/LimitReportStatusFromTextPinLaw", "ch", "(Ljava/lang/String;IIZCC)C"⟩ : MethodName)) (wd10 hw) (wd11 hw) (wd12 hw) (wd13 hw) (by decide) (c_ch l Z a0 hw hEL h428 W429.old ba bs 2 pp pt x_ y_ G1 fm SG1 hG SFM rfm (SB.ext X432) hbs lb (by decide) r_x r_y) all0 (by decide) (by decide) (k' := 3) (n' := 55) rfl rfl (by decide) (by decide) (by rw [hml]; rfl) (argsL := [(.ref ba), (.int (2 : Int32)), (.int pp), (.int pt), (.int x_), (.int y_)]) (rest := [(.int (2 : Int32)), (.ref ea), (.ref ea)]) (lenOf pd_3 rfl) rfl rfl (Wt := 3) (Nat.le_of_eq rfl) (hb hby at_141) ?_
  intro v_ T433 W434 hq_
  obtain ⟨u2, rfl, r_u2⟩ := hq_
  show Go p e below s Z [("com/example/claimwire/claimwire/fpml/LimitReportStatusFromTextPinLaw", 20), ("com/example/claimwire/claimwire/fpml/LimitReportStatusFromTextPinLaw", 22), ("java/lang/String", 7)] _ _ _ (T433.setTop (mkF m 144 #[.val (.int p0), .val (.int p1), .val (.int p2), .val (.int p3), .val (.ref ba), .val (.int pt), .val (.int pp), .val (.int x_), .val (.int y_), .val (.int kk), .val (.int ln), .unset, .unset, .unset, .unset] [(.int u2), (.int (2 : Int32)), (.ref ea), (.ref ea)]))
  show Go p e below s Z [("com/example/claimwire/claimwire/fpml/LimitReportStatusFromTextPinLaw", 20), ("com/example/claimwire/claimwire/fpml/LimitReportStatusFromTextPinLaw", 22), ("java/lang/String", 7)] _ _ _ (T433.setTop (mkF m 144 #[.val (.int p0), .val (.int p1), .val (.int p2), .val (.int p3), .val (.ref ba), .val (.int pt), .val (.int pp), .val (.int x_), .val (.int y_), .val (.int kk), .val (.int ln), .unset, .unset, .unset, .unset] [(.int u2), (.int (2 : Int32)), (.ref ea), (.ref ea)]))
  refine W434.cast_ V431_ea ⟨by decide, by decide⟩ (i := 2) rfl (by simp) (v' := u2) (nar_id (up16 r_u2)) z_ea (List.mem_of_getElem? (i := 0) rfl) (hb hby at_144) ?_
  intro T435 h436 W437 Wr438 V439_ea'
  have V439_ea : Arv Z h436 ea k_ea .char (11 : Int32) [(.int u0), (.int u1), (.int u2), (.int (0 : Int32)), (.int (0 : Int32)), (.int (0 : Int32)), (.int (0 : Int32)), (.int (0 : Int32)), (.int (0 : Int32)), (.int (0 : Int32)), (.int (0 : Int32))] (.int (0 : Int32)) := V439_ea'
  show Go p e below s Z [("com/example/claimwire/claimwire/fpml/LimitReportStatusFromTextPinLaw", 20), ("com/example/claimwire/claimwire/fpml/LimitReportStatusFromTextPinLaw", 22), ("java/lang/String", 7)] _ _ _ (T435.setTop (mkF m 145 #[.val (.int p0), .val (.int p1), .val (.int p2), .val (.int p3), .val (.ref ba), .val (.int pt), .val (.int pp), .val (.int x_), .val (.int y_), .val (.int kk), .val (.int ln), .unset, .unset, .unset, .unset] [(.ref ea)]))
  refine Go.by (fun t9_ q9_ => XS.dup W437.here W437.hx rfl (hb hby at_145) rfl rfl q9_) ?_
  show Go p e below s Z [("com/example/claimwire/claimwire/fpml/LimitReportStatusFromTextPinLaw", 20), ("com/example/claimwire/claimwire/fpml/LimitReportStatusFromTextPinLaw", 22), ("java/lang/String", 7)] _ _ _ (T435.setTop (mkF m 146 #[.val (.int p0), .val (.int p1), .val (.int p2), .val (.int p3), .val (.ref ba), .val (.int pt), .val (.int pp), .val (.int x_), .val (.int y_), .val (.int kk), .val (.int ln), .unset, .unset, .unset, .unset] [(.ref ea), (.ref ea)]))
  refine Go.by (fun t9_ q9_ => XS.iconst W437.here W437.hx rfl (hb hby at_146) q9_) ?_
  show Go p e below s Z [("com/example/claimwire/claimwire/fpml/LimitReportStatusFromTextPinLaw", 20), ("com/example/claimwire/claimwire/fpml/LimitReportStatusFromTextPinLaw", 22), ("java/lang/String", 7)] _ _ _ (T435.setTop (mkF m 147 #[.val (.int p0), .val (.int p1), .val (.int p2), .val (.int p3), .val (.ref ba), .val (.int pt), .val (.int pp), .val (.int x_), .val (.int y_), .val (.int kk), .val (.int ln), .unset, .unset, .unset, .unset] [(.int (3 : Int32)), (.ref ea), (.ref ea)]))
  refine Go.by (fun t9_ q9_ => XS.aload W437.here W437.hx rfl (hb hby at_147) rfl rfl q9_) ?_
  show Go p e below s Z [("com/example/claimwire/claimwire/fpml/LimitReportStatusFromTextPinLaw", 20), ("com/example/claimwire/claimwire/fpml/LimitReportStatusFromTextPinLaw", 22), ("java/lang/String", 7)] _ _ _ (T435.setTop (mkF m 149 #[.val (.int p0), .val (.int p1), .val (.int p2), .val (.int p3), .val (.ref ba), .val (.int pt), .val (.int pp), .val (.int x_), .val (.int y_), .val (.int kk), .val (.int ln), .unset, .unset, .unset, .unset] [(.ref ba), (.int (3 : Int32)), (.ref ea), (.ref ea)]))
  refine Go.by (fun t9_ q9_ => XS.iconst W437.here W437.hx rfl (hb hby at_149) q9_) ?_
  show Go p e below s Z [("com/example/claimwire/claimwire/fpml/LimitReportStatusFromTextPinLaw", 20), ("com/example/claimwire/claimwire/fpml/LimitReportStatusFromTextPinLaw", 22), ("java/lang/String", 7)] _ _ _ (T435.setTop (mkF m 150 #[.val (.int p0), .val (.int p1), .val (.int p2), .val (.int p3), .val (.ref ba), .val (.int pt), .val (.int pp), .val (.int x_), .val (.int y_), .val (.int kk), .val (.int ln), .unset, .unset, .unset, .unset] [(.int (3 : Int32)), (.ref ba), (.int (3 : Int32)), (.ref ea), (.ref ea)]))
  refine Go.by (fun t9_ q9_ => XS.iload W437.here W437.hx rfl (hb hby at_150) rfl q9_) ?_
  show Go p e below s Z [("com/example/claimwire/claimwire/fpml/LimitReportStatusFromTextPinLaw", 20), ("com/example/claimwire/claimwire/fpml/LimitReportStatusFromTextPinLaw", 22), ("java/lang/String", 7)] _ _ _ (T435.setTop (mkF m 152 #[.val (.int p0), .val (.int p1), .val (.int p2), .val (.int p3), .val (.ref ba), .val (.int pt), .val (.int pp), .val (.int x_), .val (.int y_), .val (.int kk), .val (.int ln), .unset, .unset, .unset, .unset] [(.int pp), (.int (3 : Int32)), (.ref ba), (.int (3 : Int32)), (.ref ea), (.ref ea)]))
  refine Go.by (fun t9_ q9_ => XS.iload W437.here W437.hx rfl (hb hby at_152) rfl q9_) ?_
  show Go p e below s Z [("com/example/claimwire/claimwire/fpml/LimitReportStatusFromTextPinLaw", 20), ("com/example/claimwire/claimwire/fpml/LimitReportStatusFromTextPinLaw", 22), ("java/lang/String", 7)] _ _ _ (T435.setTop (mkF m 154 #[.val (.int p0), .val (.int p1), .val (.int p2), .val (.int p3), .val (.ref ba), .val (.int pt), .val (.int pp), .val (.int x_), .val (.int y_), .val (.int kk), .val (.int ln), .unset, .unset, .unset, .unset] [(.int pt), (.int pp), (.int (3 : Int32)), (.ref ba), (.int (3 : Int32)), (.ref ea), (.ref ea)]))
  refine Go.by (fun t9_ q9_ => XS.iload W437.here W437.hx rfl (hb hby at_154) rfl q9_) ?_
  show Go p e below s Z [("com/example/claimwire/claimwire/fpml/LimitReportStatusFromTextPinLaw", 20), ("com/example/claimwire/claimwire/fpml/LimitReportStatusFromTextPinLaw", 22), ("java/lang/String", 7)] _ _ _ (T435.setTop (mkF m 156 #[.val (.int p0), .val (.int p1), .val (.int p2), .val (.int p3), .val (.ref ba), .val (.int pt), .val (.int pp), .val (.int x_), .val (.int y_), .val (.int kk), .val (.int ln), .unset, .unset, .unset, .unset] [(.int x_), (.int pt), (.int pp), (.int (3 : Int32)), (.ref ba), (.int (3 : Int32)), (.ref ea), (.ref ea)]))
  refine Go.by (fun t9_ q9_ => XS.iload W437.here W437.hx rfl (hb hby at_156) rfl q9_) ?_
  show Go p e below s Z [("com/example/claimwire/claimwire/fpml/LimitReportStatusFromTextPinLaw", 20), ("com/example/claimwire/claimwire/fpml/LimitReportStatusFromTextPinLaw", 22), ("java/lang/String", 7)] _ _ _ (T435.setTop (mkF m 158 #[.val (.int p0), .val (.int p1), .val (.int p2), .val (.int p3), .val (.ref ba), .val (.int pt), .val (.int pp), .val (.int x_), .val (.int y_), .val (.int kk), .val (.int ln), .unset, .unset, .unset, .unset] [(.int y_), (.int x_), (.int pt), (.int pp), (.int (3 : Int32)), (.ref ba), (.int (3 : Int32)), (.ref ea), (.ref ea)]))
  have X440 : Ext h401 h436 := (Ext.wr' X432 Wr438 (Nat.le_of_eq g_ea))
  refine W437.callSr (y := (⟨"com/example/claimwire/claimwire/fpml/LimitReportStatusFromTextPinLaw", "ch", "(Ljava/lang/String;IIZCC)C"⟩ : MethodName)) (wd10 hw) (wd11 hw) (wd12 hw) (wd13 hw) (by decide) (c_ch l Z a0 hw hEL h436 W437.old ba bs 3 pp pt x_ y_ G1 fm SG1 hG SFM rfm (SB.ext X440) hbs lb (by decide) r_x r_y) all0 (by decide) (by decide) (k' := 3) (n' := 55) rfl rfl (by decide) (by decide) (by rw [hml]; rfl) (argsL := [(.ref ba), (.int (3 : Int32)), (.int pp), (.int pt), (.int x_), (.int y_)]) (rest := [(.int (3 : Int32)), (.ref ea), (.ref ea)]) (lenOf pd_3 rfl) rfl rfl (Wt := 3) (Nat.le_of_eq rfl) (hb hby at_158) ?_
  intro v_ T441 W442 hq_
  obtain ⟨u3, rfl, r_u3⟩ := hq_
  show Go p e below s Z [("com/example/claimwire/claimwire/fpml/LimitReportStatusFromTextPinLaw", 20), ("com/example/claimwire/claimwire/fpml/LimitReportStatusFromTextPinLaw", 22), ("java/lang/String", 7)] _ _ _ (T441.setTop (mkF m 161 #[.val (.int p0), .val (.int p1), .val (.int p2), .val (.int p3), .val (.ref ba), .val (.int pt), .val (.int pp), .val (.int x_), .val (.int y_), .val (.int kk), .val (.int ln), .unset, .unset, .unset, .unset] [(.int u3), (.int (3 : Int32)), (.ref ea), (.ref ea)]))
  show Go p e below s Z [("com/example/claimwire/claimwire/fpml/LimitReportStatusFromTextPinLaw", 20), ("com/example/claimwire/claimwire/fpml/LimitReportStatusFromTextPinLaw", 22), ("java/lang/String", 7)] _ _ _ (T441.setTop (mkF m 161 #[.val (.int p0), .val (.int p1), .val (.int p2), .val (.int p3), .val (.ref ba), .val (.int pt), .val (.int pp), .val (.int x_), .val (.int y_), .val (.int kk), .val (.int ln), .unset, .unset, .unset, .unset] [(.int u3), (.int (3 : Int32)), (.ref ea), (.ref ea)]))
  refine W442.cast_ V439_ea ⟨by decide, by decide⟩ (i := 3) rfl (by simp) (v' := u3) (nar_id (up16 r_u3)) z_ea (List.mem_of_getElem? (i := 0) rfl) (hb hby at_161) ?_
  intro T443 h444 W445 Wr446 V447_ea'
  have V447_ea : Arv Z h444 ea k_ea .char (11 : Int32) [(.int u0), (.int u1), (.int u2), (.int u3), (.int (0 : Int32)), (.int (0 : Int32)), (.int (0 : Int32)), (.int (0 : Int32)), (.int (0 : Int32)), (.int (0 : Int32)), (.int (0 : Int32))] (.int (0 : Int32)) := V447_ea'
  show Go p e below s Z [("com/example/claimwire/claimwire/fpml/LimitReportStatusFromTextPinLaw", 20), ("com/example/claimwire/claimwire/fpml/LimitReportStatusFromTextPinLaw", 22), ("java/lang/String", 7)] _ _ _ (T443.setTop (mkF m 162 #[.val (.int p0), .val (.int p1), .val (.int p2), .val (.int p3), .val (.ref ba), .val (.int pt), .val (.int pp), .val (.int x_), .val (.int y_), .val (.int kk), .val (.int ln), .unset, .unset, .unset, .unset] [(.ref ea)]))
  refine Go.by (fun t9_ q9_ => XS.dup W445.here W445.hx rfl (hb hby at_162) rfl rfl q9_) ?_
  show Go p e below s Z [("com/example/claimwire/claimwire/fpml/LimitReportStatusFromTextPinLaw", 20), ("com/example/claimwire/claimwire/fpml/LimitReportStatusFromTextPinLaw", 22), ("java/lang/String", 7)] _ _ _ (T443.setTop (mkF m 163 #[.val (.int p0), .val (.int p1), .val (.int p2), .val (.int p3), .val (.ref ba), .val (.int pt), .val (.int pp), .val (.int x_), .val (.int y_), .val (.int kk), .val (.int ln), .unset, .unset, .unset, .unset] [(.ref ea), (.ref ea)]))
  refine Go.by (fun t9_ q9_ => XS.iconst W445.here W445.hx rfl (hb hby at_163) q9_) ?_
  show Go p e below s Z [("com/example/claimwire/claimwire/fpml/LimitReportStatusFromTextPinLaw", 20), ("com/example/claimwire/claimwire/fpml/LimitReportStatusFromTextPinLaw", 22), ("java/lang/String", 7)] _ _ _ (T443.setTop (mkF m 164 #[.val (.int p0), .val (.int p1), .val (.int p2), .val (.int p3), .val (.ref ba), .val (.int pt), .val (.int pp), .val (.int x_), .val (.int y_), .val (.int kk), .val (.int ln), .unset, .unset, .unset, .unset] [(.int (4 : Int32)), (.ref ea), (.ref ea)]))
  refine Go.by (fun t9_ q9_ => XS.aload W445.here W445.hx rfl (hb hby at_164) rfl rfl q9_) ?_
  show Go p e below s Z [("com/example/claimwire/claimwire/fpml/LimitReportStatusFromTextPinLaw", 20), ("com/example/claimwire/claimwire/fpml/LimitReportStatusFromTextPinLaw", 22), ("java/lang/String", 7)] _ _ _ (T443.setTop (mkF m 166 #[.val (.int p0), .val (.int p1), .val (.int p2), .val (.int p3), .val (.ref ba), .val (.int pt), .val (.int pp), .val (.int x_), .val (.int y_), .val (.int kk), .val (.int ln), .unset, .unset, .unset, .unset] [(.ref ba), (.int (4 : Int32)), (.ref ea), (.ref ea)]))
  refine Go.by (fun t9_ q9_ => XS.iconst W445.here W445.hx rfl (hb hby at_166) q9_) ?_
  show Go p e below s Z [("com/example/claimwire/claimwire/fpml/LimitReportStatusFromTextPinLaw", 20), ("com/example/claimwire/claimwire/fpml/LimitReportStatusFromTextPinLaw", 22), ("java/lang/String", 7)] _ _ _ (T443.setTop (mkF m 167 #[.val (.int p0), .val (.int p1), .val (.int p2), .val (.int p3), .val (.ref ba), .val (.int pt), .val (.int pp), .val (.int x_), .val (.int y_), .val (.int kk), .val (.int ln), .unset, .unset, .unset, .unset] [(.int (4 : Int32)), (.ref ba), (.int (4 : Int32)), (.ref ea), (.ref ea)]))
  refine Go.by (fun t9_ q9_ => XS.iload W445.here W445.hx rfl (hb hby at_167) rfl q9_) ?_
  show Go p e below s Z [("com/example/claimwire/claimwire/fpml/LimitReportStatusFromTextPinLaw", 20), ("com/example/claimwire/claimwire/fpml/LimitReportStatusFromTextPinLaw", 22), ("java/lang/String", 7)] _ _ _ (T443.setTop (mkF m 169 #[.val (.int p0), .val (.int p1), .val (.int p2), .val (.int p3), .val (.ref ba), .val (.int pt), .val (.int pp), .val (.int x_), .val (.int y_), .val (.int kk), .val (.int ln), .unset, .unset, .unset, .unset] [(.int pp), (.int (4 : Int32)), (.ref ba), (.int (4 : Int32)), (.ref ea), (.ref ea)]))
  refine Go.by (fun t9_ q9_ => XS.iload W445.here W445.hx rfl (hb hby at_169) rfl q9_) ?_
  show Go p e below s Z [("com/example/claimwire/claimwire/fpml/LimitReportStatusFromTextPinLaw", 20), ("com/example/claimwire/claimwire/fpml/LimitReportStatusFromTextPinLaw", 22), ("java/lang/String", 7)] _ _ _ (T443.setTop (mkF m 171 #[.val (.int p0), .val (.int p1), .val (.int p2), .val (.int p3), .val (.ref ba), .val (.int pt), .val (.int pp), .val (.int x_), .val (.int y_), .val (.int kk), .val (.int ln), .unset, .unset, .unset, .unset] [(.int pt), (.int pp), (.int (4 : Int32)), (.ref ba), (.int (4 : Int32)), (.ref ea), (.ref ea)]))
  refine Go.by (fun t9_ q9_ => XS.iload W445.here W445.hx rfl (hb hby at_171) rfl q9_) ?_
  show Go p e below s Z [("com/example/claimwire/claimwire/fpml/LimitReportStatusFromTextPinLaw", 20), ("com/example/claimwire/claimwire/fpml/LimitReportStatusFromTextPinLaw", 22), ("java/lang/String", 7)] _ _ _ (T443.setTop (mkF m 173 #[.val (.int p0), .val (.int p1), .val (.int p2), .val (.int p3), .val (.ref ba), .val (.int pt), .val (.int pp), .val (.int x_), .val (.int y_), .val (.int kk), .val (.int ln), .unset, .unset, .unset, .unset] [(.int x_), (.int pt), (.int pp), (.int (4 : Int32)), (.ref ba), (.int (4 : Int32)), (.ref ea), (.ref ea)]))
  refine Go.by (fun t9_ q9_ => XS.iload W445.here W445.hx rfl (hb hby at_173) rfl q9_) ?_
  show Go p e below s Z [("com/example/claimwire/claimwire/fpml/LimitReportStatusFromTextPinLaw", 20), ("com/example/claimwire/claimwire/fpml/LimitReportStatusFromTextPinLaw", 22), ("java/lang/String", 7)] _ _ _ (T443.setTop (mkF m 175 #[.val (.int p0), .val (.int p1), .val (.int p2), .val (.int p3), .val (.ref ba), .val (.int pt), .val (.int pp), .val (.int x_), .val (.int y_), .val (.int kk), .val (.int ln), .unset, .unset, .unset, .unset] [(.int y_), (.int x_), (.int pt), (.int pp), (.int (4 : Int32)), (.ref ba), (.int (4 : Int32)), (.ref ea), (.ref ea)]))
  have X448 : Ext h401 h444 := (Ext.wr' X440 Wr446 (Nat.le_of_eq g_ea))
  refine W445.callSr (y := (⟨"com/example/claimwire/claimwire/fpml/LimitReportStatusFromTextPinLaw", "ch", "(Ljava/lang/String;IIZCC)C"⟩ : MethodName)) (wd10 hw) (wd11 hw) (wd12 hw) (wd13 hw) (by decide) (c_ch l Z a0 hw hEL h444 W445.old ba bs 4 pp pt x_ y_ G1 fm SG1 hG SFM rfm (SB.ext X448) hbs lb (by decide) r_x r_y) all0 (by decide) (by decide) (k' := 3) (n' := 55) rfl rfl (by decide) (by decide) (by rw [hml]; rfl) (argsL := [(.ref ba), (.int (4 : Int32)), (.int pp), (.int pt), (.int x_), (.int y_)]) (rest := [(.int (4 : Int32)), (.ref ea), (.ref ea)]) (lenOf pd_3 rfl) rfl rfl (Wt := 3) (Nat.le_of_eq rfl) (hb hby at_175) ?_
  intro v_ T449 W450 hq_
  obtain ⟨u4, rfl, r_u4⟩ := hq_
  show Go p e below s Z [("com/example/claimwire/claimwire/fpml/LimitReportStatusFromTextPinLaw", 20), ("com/example/claimwire/claimwire/fpml/LimitReportStatusFromTextPinLaw", 22), ("java/lang/String", 7)] _ _ _ (T449.setTop (mkF m 178 #[.val (.int p0), .val (.int p1), .val (.int p2), .val (.int p3), .val (.ref ba), .val (.int pt), .val (.int pp), .val (.int x_), .val (.int y_), .val (.int kk), .val (.int ln), .unset, .unset, .unset, .unset] [(.int u4), (.int (4 : Int32)), (.ref ea), (.ref ea)]))
  show Go p e below s Z [("com/example/claimwire/claimwire/fpml/LimitReportStatusFromTextPinLaw", 20), ("com/example/claimwire/claimwire/fpml/LimitReportStatusFromTextPinLaw", 22), ("java/lang/String", 7)] _ _ _ (T449.setTop (mkF m 178 #[.val (.int p0), .val (.int p1), .val (.int p2), .val (.int p3), .val (.ref ba), .val (.int pt), .val (.int pp), .val (.int x_), .val (.int y_), .val (.int kk), .val (.int ln), .unset, .unset, .unset, .unset] [(.int u4), (.int (4 : Int32)), (.ref ea), (.ref ea)]))
  refine W450.cast_ V447_ea ⟨by decide, by decide⟩ (i := 4) rfl (by simp) (v' := u4) (nar_id (up16 r_u4)) z_ea (List.mem_of_getElem? (i := 0) rfl) (hb hby at_178) ?_
  intro T451 h452 W453 Wr454 V455_ea'
  have V455_ea : Arv Z h452 ea k_ea .char (11 : Int32) [(.int u0), (.int u1), (.int u2), (.int u3), (.int u4), (.int (0 : Int32)), (.int (0 : Int32)), (.int (0 : Int32)), (.int (0 : Int32)), (.int (0 : Int32)), (.int (0 : Int32))] (.int (0 : Int32)) := V455_ea'
  show Go p e below s Z [("com/example/claimwire/claimwire/fpml/LimitReportStatusFromTextPinLaw", 20), ("com/example/claimwire/claimwire/fpml/LimitReportStatusFromTextPinLaw", 22), ("java/lang/String", 7)] _ _ _ (T451.setTop (mkF m 179 #[.val (.int p0), .val (.int p1), .val (.int p2), .val (.int p3), .val (.ref ba), .val (.int pt), .val (.int pp), .val (.int x_), .val (.int y_), .val (.int kk), .val (.int ln), .unset, .unset, .unset, .unset] [(.ref ea)]))
  refine Go.by (fun t9_ q9_ => XS.dup W453.here W453.hx rfl (hb hby at_179) rfl rfl q9_) ?_
  show Go p e below s Z [("com/example/claimwire/claimwire/fpml/LimitReportStatusFromTextPinLaw", 20), ("com/example/claimwire/claimwire/fpml/LimitReportStatusFromTextPinLaw", 22), ("java/lang/String", 7)] _ _ _ (T451.setTop (mkF m 180 #[.val (.int p0), .val (.int p1), .val (.int p2), .val (.int p3), .val (.ref ba), .val (.int pt), .val (.int pp), .val (.int x_), .val (.int y_), .val (.int kk), .val (.int ln), .unset, .unset, .unset, .unset] [(.ref ea), (.ref ea)]))
  refine Go.by (fun t9_ q9_ => XS.iconst W453.here W453.hx rfl (hb hby at_180) q9_) ?_
  show Go p e below s Z [("com/example/claimwire/claimwire/fpml/LimitReportStatusFromTextPinLaw", 20), ("com/example/claimwire/claimwire/fpml/LimitReportStatusFromTextPinLaw", 22), ("java/lang/String", 7)] _ _ _ (T451.setTop (mkF m 181 #[.val (.int p0), .val (.int p1), .val (.int p2), .val (.int p3), .val (.ref ba), .val (.int pt), .val (.int pp), .val (.int x_), .val (.int y_), .val (.int kk), .val (.int ln), .unset, .unset, .unset, .unset] [(.int (5 : Int32)), (.ref ea), (.ref ea)]))
  refine Go.by (fun t9_ q9_ => XS.aload W453.here W453.hx rfl (hb hby at_181) rfl rfl q9_) ?_
  show Go p e below s Z [("com/example/claimwire/claimwire/fpml/LimitReportStatusFromTextPinLaw", 20), ("com/example/claimwire/claimwire/fpml/LimitReportStatusFromTextPinLaw", 22), ("java/lang/String", 7)] _ _ _ (T451.setTop (mkF m 183 #[.val (.int p0), .val (.int p1), .val (.int p2), .val (.int p3), .val (.ref ba), .val (.int pt), .val (.int pp), .val (.int x_), .val (.int y_), .val (.int kk), .val (.int ln), .unset, .unset, .unset, .unset] [(.ref ba), (.int (5 : Int32)), (.ref ea), (.ref ea)]))
  refine Go.by (fun t9_ q9_ => XS.iconst W453.here W453.hx rfl (hb hby at_183) q9_) ?_
  show Go p e below s Z [("com/example/claimwire/claimwire/fpml/LimitReportStatusFromTextPinLaw", 20), ("com/example/claimwire/claimwire/fpml/LimitReportStatusFromTextPinLaw", 22), ("java/lang/String", 7)] _ _ _ (T451.setTop (mkF m 184 #[.val (.int p0), .val (.int p1), .val (.int p2), .val (.int p3), .val (.ref ba), .val (.int pt), .val (.int pp), .val (.int x_), .val (.int y_), .val (.int kk), .val (.int ln), .unset, .unset, .unset, .unset] [(.int (5 : Int32)), (.ref ba), (.int (5 : Int32)), (.ref ea), (.ref ea)]))
  refine Go.by (fun t9_ q9_ => XS.iload W453.here W453.hx rfl (hb hby at_184) rfl q9_) ?_
  show Go p e below s Z [("com/example/claimwire/claimwire/fpml/LimitReportStatusFromTextPinLaw", 20), ("com/example/claimwire/claimwire/fpml/LimitReportStatusFromTextPinLaw", 22), ("java/lang/String", 7)] _ _ _ (T451.setTop (mkF m 186 #[.val (.int p0), .val (.int p1), .val (.int p2), .val (.int p3), .val (.ref ba), .val (.int pt), .val (.int pp), .val (.int x_), .val (.int y_), .val (.int kk), .val (.int ln), .unset, .unset, .unset, .unset] [(.int pp), (.int (5 : Int32)), (.ref ba), (.int (5 : Int32)), (.ref ea), (.ref ea)]))
  refine Go.by (fun t9_ q9_ => XS.iload W453.here W453.hx rfl (hb hby at_186) rfl q9_) ?_
  show Go p e below s Z [("com/example/claimwire/claimwire/fpml/LimitReportStatusFromTextPinLaw", 20), ("com/example/claimwire/claimwire/fpml/LimitReportStatusFromTextPinLaw", 22), ("java/lang/String", 7)] _ _ _ (T451.setTop (mkF m 188 #[.val (.int p0), .val (.int p1), .val (.int p2), .val (.int p3), .val (.ref ba), .val (.int pt), .val (.int pp), .val (.int x_), .val (.int y_), .val (.int kk), .val (.int ln), .unset, .unset, .unset, .unset] [(.int pt), (.int pp), (.int (5 : Int32)), (.ref ba), (.int (5 : Int32)), (.ref ea), (.ref ea)]))
  refine Go.by (fun t9_ q9_ => XS.iload W453.here W453.hx rfl (hb hby at_188) rfl q9_) ?_
  show Go p e below s Z [("com/example/claimwire/claimwire/fpml/LimitReportStatusFromTextPinLaw", 20), ("com/example/claimwire/claimwire/fpml/LimitReportStatusFromTextPinLaw", 22), ("java/lang/String", 7)] _ _ _ (T451.setTop (mkF m 190 #[.val (.int p0), .val (.int p1), .val (.int p2), .val (.int p3), .val (.ref ba), .val (.int pt), .val (.int pp), .val (.int x_), .val (.int y_), .val (.int kk), .val (.int ln), .unset, .unset, .unset, .unset] [(.int x_), (.int pt), (.int pp), (.int (5 : Int32)), (.ref ba), (.int (5 : Int32)), (.ref ea), (.ref ea)]))
  refine Go.by (fun t9_ q9_ => XS.iload W453.here W453.hx rfl (hb hby at_190) rfl q9_) ?_
  show Go p e below s Z [("com/example/claimwire/claimwire/fpml/LimitReportStatusFromTextPinLaw", 20), ("com/example/claimwire/claimwire/fpml/LimitReportStatusFromTextPinLaw", 22), ("java/lang/String", 7)] _ _ _ (T451.setTop (mkF m 192 #[.val (.int p0), .val (.int p1), .val (.int p2), .val (.int p3), .val (.ref ba), .val (.int pt), .val (.int pp), .val (.int x_), .val (.int y_), .val (.int kk), .val (.int ln), .unset, .unset, .unset, .unset] [(.int y_), (.int x_), (.int pt), (.int pp), (.int (5 : Int32)), (.ref ba), (.int (5 : Int32)), (.ref ea), (.ref ea)]))
  have X456 : Ext h401 h452 := (Ext.wr' X448 Wr454 (Nat.le_of_eq g_ea))
  refine W453.callSr (y := (⟨"com/example/claimwire/claimwire/fpml/LimitReportStatusFromTextPinLaw", "ch", "(Ljava/lang/String;IIZCC)C"⟩ : MethodName)) (wd10 hw) (wd11 hw) (wd12 hw) (wd13 hw) (by decide) (c_ch l Z a0 hw hEL h452 W453.old ba bs 5 pp pt x_ y_ G1 fm SG1 hG SFM rfm (SB.ext X456) hbs lb (by decide) r_x r_y) all0 (by decide) (by decide) (k' := 3) (n' := 55) rfl rfl (by decide) (by decide) (by rw [hml]; rfl) (argsL := [(.ref ba), (.int (5 : Int32)), (.int pp), (.int pt), (.int x_), (.int y_)]) (rest := [(.int (5 : Int32)), (.ref ea), (.ref ea)]) (lenOf pd_3 rfl) rfl rfl (Wt := 3) (Nat.le_of_eq rfl) (hb hby at_192) ?_
  intro v_ T457 W458 hq_
  obtain ⟨u5, rfl, r_u5⟩ := hq_
  show Go p e below s Z [("com/example/claimwire/claimwire/fpml/LimitReportStatusFromTextPinLaw", 20), ("com/example/claimwire/claimwire/fpml/LimitReportStatusFromTextPinLaw", 22), ("java/lang/String", 7)] _ _ _ (T457.setTop (mkF m 195 #[.val (.int p0), .val (.int p1), .val (.int p2), .val (.int p3), .val (.ref ba), .val (.int pt), .val (.int pp), .val (.int x_), .val (.int y_), .val (.int kk), .val (.int ln), .unset, .unset, .unset, .unset] [(.int u5), (.int (5 : Int32)), (.ref ea), (.ref ea)]))
  show Go p e below s Z [("com/example/claimwire/claimwire/fpml/LimitReportStatusFromTextPinLaw", 20), ("com/example/claimwire/claimwire/fpml/LimitReportStatusFromTextPinLaw", 22), ("java/lang/String", 7)] _ _ _ (T457.setTop (mkF m 195 #[.val (.int p0), .val (.int p1), .val (.int p2), .val (.int p3), .val (.ref ba), .val (.int pt), .val (.int pp), .val (.int x_), .val (.int y_), .val (.int kk), .val (.int ln), .unset, .unset, .unset, .unset] [(.int u5), (.int (5 : Int32)), (.ref ea), (.ref ea)]))
  refine W458.cast_ V455_ea ⟨by decide, by decide⟩ (i := 5) rfl (by simp) (v' := u5) (nar_id (up16 r_u5)) z_ea (List.mem_of_getElem? (i := 0) rfl) (hb hby at_195) ?_
  intro T459 h460 W461 Wr462 V463_ea'
  have V463_ea : Arv Z h460 ea k_ea .char (11 : Int32) [(.int u0), (.int u1), (.int u2), (.int u3), (.int u4), (.int u5), (.int (0 : Int32)), (.int (0 : Int32)), (.int (0 : Int32)), (.int (0 : Int32)), (.int (0 : Int32))] (.int (0 : Int32)) := V463_ea'
  show Go p e below s Z [("com/example/claimwire/claimwire/fpml/LimitReportStatusFromTextPinLaw", 20), ("com/example/claimwire/claimwire/fpml/LimitReportStatusFromTextPinLaw", 22), ("java/lang/String", 7)] _ _ _ (T459.setTop (mkF m 196 #[.val (.int p0), .val (.int p1), .val (.int p2), .val (.int p3), .val (.ref ba), .val (.int pt), .val (.int pp), .val (.int x_), .val (.int y_), .val (.int kk), .val (.int ln), .unset, .unset, .unset, .unset] [(.ref ea)]))
  refine Go.by (fun t9_ q9_ => XS.dup W461.here W461.hx rfl (hb hby at_196) rfl rfl q9_) ?_
  show Go p e below s Z [("com/example/claimwire/claimwire/fpml/LimitReportStatusFromTextPinLaw", 20), ("com/example/claimwire/claimwire/fpml/LimitReportStatusFromTextPinLaw", 22), ("java/lang/String", 7)] _ _ _ (T459.setTop (mkF m 197 #[.val (.int p0), .val (.int p1), .val (.int p2), .val (.int p3), .val (.ref ba), .val (.int pt), .val (.int pp), .val (.int x_), .val (.int y_), .val (.int kk), .val (.int ln), .unset, .unset, .unset, .unset] [(.ref ea), (.ref ea)]))
  refine Go.by (fun t9_ q9_ => XS.bipush W461.here W461.hx rfl (hb hby at_197) q9_) ?_
  show Go p e below s Z [("com/example/claimwire/claimwire/fpml/LimitReportStatusFromTextPinLaw", 20), ("com/example/claimwire/claimwire/fpml/LimitReportStatusFromTextPinLaw", 22), ("java/lang/String", 7)] _ _ _ (T459.setTop (mkF m 199 #[.val (.int p0), .val (.int p1), .val (.int p2), .val (.int p3), .val (.ref ba), .val (.int pt), .val (.int pp), .val (.int x_), .val (.int y_), .val (.int kk), .val (.int ln), .unset, .unset, .unset, .unset] [(.int (6 : Int32)), (.ref ea), (.ref ea)]))
  refine Go.by (fun t9_ q9_ => XS.aload W461.here W461.hx rfl (hb hby at_199) rfl rfl q9_) ?_
  show Go p e below s Z [("com/example/claimwire/claimwire/fpml/LimitReportStatusFromTextPinLaw", 20), ("com/example/claimwire/claimwire/fpml/LimitReportStatusFromTextPinLaw", 22), ("java/lang/String", 7)] _ _ _ (T459.setTop (mkF m 201 #[.val (.int p0), .val (.int p1), .val (.int p2), .val (.int p3), .val (.ref ba), .val (.int pt), .val (.int pp), .val (.int x_), .val (.int y_), .val (.int kk), .val (.int ln), .unset, .unset, .unset, .unset] [(.ref ba), (.int (6 : Int32)), (.ref ea), (.ref ea)]))
  refine Go.by (fun t9_ q9_ => XS.bipush W461.here W461.hx rfl (hb hby at_201) q9_) ?_
  show Go p e below s Z [("com/example/claimwire/claimwire/fpml/LimitReportStatusFromTextPinLaw", 20), ("com/example/claimwire/claimwire/fpml/LimitReportStatusFromTextPinLaw", 22), ("java/lang/String", 7)] _ _ _ (T459.setTop (mkF m 203 #[.val (.int p0), .val (.int p1), .val (.int p2), .val (.int p3), .val (.ref ba), .val (.int pt), .val (.int pp), .val (.int x_), .val (.int y_), .val (.int kk), .val (.int ln), .unset, .unset, .unset, .unset] [(.int (6 : Int32)), (.ref ba), (.int (6 : Int32)), (.ref ea), (.ref ea)]))
  refine Go.by (fun t9_ q9_ => XS.iload W461.here W461.hx rfl (hb hby at_203) rfl q9_) ?_
  show Go p e below s Z [("com/example/claimwire/claimwire/fpml/LimitReportStatusFromTextPinLaw", 20), ("com/example/claimwire/claimwire/fpml/LimitReportStatusFromTextPinLaw", 22), ("java/lang/String", 7)] _ _ _ (T459.setTop (mkF m 205 #[.val (.int p0), .val (.int p1), .val (.int p2), .val (.int p3), .val (.ref ba), .val (.int pt), .val (.int pp), .val (.int x_), .val (.int y_), .val (.int kk), .val (.int ln), .unset, .unset, .unset, .unset] [(.int pp), (.int (6 : Int32)), (.ref ba), (.int (6 : Int32)), (.ref ea), (.ref ea)]))
  refine Go.by (fun t9_ q9_ => XS.iload W461.here W461.hx rfl (hb hby at_205) rfl q9_) ?_
  show Go p e below s Z [("com/example/claimwire/claimwire/fpml/LimitReportStatusFromTextPinLaw", 20), ("com/example/claimwire/claimwire/fpml/LimitReportStatusFromTextPinLaw", 22), ("java/lang/String", 7)] _ _ _ (T459.setTop (mkF m 207 #[.val (.int p0), .val (.int p1), .val (.int p2), .val (.int p3), .val (.ref ba), .val (.int pt), .val (.int pp), .val (.int x_), .val (.int y_), .val (.int kk), .val (.int ln), .unset, .unset, .unset, .unset] [(.int pt), (.int pp), (.int (6 : Int32)), (.ref ba), (.int (6 : Int32)), (.ref ea), (.ref ea)]))
  refine Go.by (fun t9_ q9_ => XS.iload W461.here W461.hx rfl (hb hby at_207) rfl q9_) ?_
  show Go p e below s Z [("com/example/claimwire/claimwire/fpml/LimitReportStatusFromTextPinLaw", 20), ("com/example/claimwire/claimwire/fpml/LimitReportStatusFromTextPinLaw", 22), ("java/lang/String", 7)] _ _ _ (T459.setTop (mkF m 209 #[.val (.int p0), .val (.int p1), .val (.int p2), .val (.int p3), .val (.ref ba), .val (.int pt), .val (.int pp), .val (.int x_), .val (.int y_), .val (.int kk), .val (.int ln), .unset, .unset, .unset, .unset] [(.int x_), (.int pt), (.int pp), (.int (6 : Int32)), (.ref ba), (.int (6 : Int32)), (.ref ea), (.ref ea)]))
  refine Go.by (fun t9_ q9_ => XS.iload W461.here W461.hx rfl (hb hby at_209) rfl q9_) ?_
  show Go p e below s Z [("com/example/claimwire/claimwire/fpml/LimitReportStatusFromTextPinLaw", 20), ("com/example/claimwire/claimwire/fpml/LimitReportStatusFromTextPinLaw", 22), ("java/lang/String", 7)] _ _ _ (T459.setTop (mkF m 211 #[.val (.int p0), .val (.int p1), .val (.int p2), .val (.int p3), .val (.ref ba), .val (.int pt), .val (.int pp), .val (.int x_), .val (.int y_), .val (.int kk), .val (.int ln), .unset, .unset, .unset, .unset] [(.int y_), (.int x_), (.int pt), (.int pp), (.int (6 : Int32)), (.ref ba), (.int (6 : Int32)), (.ref ea), (.ref ea)]))
  have X464 : Ext h401 h460 := (Ext.wr' X456 Wr462 (Nat.le_of_eq g_ea))
  refine W461.callSr (y := (⟨"com/example/claimwire/claimwire/fpml/LimitReportStatusFromTextPinLaw", "ch", "(Ljava/lang/String;IIZCC)C"⟩ : MethodName)) (wd10 hw) (wd11 hw) (wd12 hw) (wd13 hw) (by decide) (c_ch l Z a0 hw hEL h460 W461.old ba bs 6 pp pt x_ y_ G1 fm SG1 hG SFM rfm (SB.ext X464) hbs lb (by decide) r_x r_y) all0 (by decide) (by decide) (k' := 3) (n' := 55) rfl rfl (by decide) (by decide) (by rw [hml]; rfl) (argsL := [(.ref ba), (.int (6 : Int32)), (.int pp), (.int pt), (.int x_), (.int y_)]) (rest := [(.int (6 : Int32)), (.ref ea), (.ref ea)]) (lenOf pd_3 rfl) rfl rfl (Wt := 3) (Nat.le_of_eq rfl) (hb hby at_211) ?_
  intro v_ T465 W466 hq_
  obtain ⟨u6, rfl, r_u6⟩ := hq_
  show Go p e below s Z [("com/example/claimwire/claimwire/fpml/LimitReportStatusFromTextPinLaw", 20), ("com/example/claimwire/claimwire/fpml/LimitReportStatusFromTextPinLaw", 22), ("java/lang/String", 7)] _ _ _ (T465.setTop (mkF m 214 #[.val (.int p0), .val (.int p1), .val (.int p2), .val (.int p3), .val (.ref ba), .val (.int pt), .val (.int pp), .val (.int x_), .val (.int y_), .val (.int kk), .val (.int ln), .unset, .unset, .unset, .unset] [(.int u6), (.int (6 : Int32)), (.ref ea), (.ref ea)]))
  show Go p e below s Z [("com/example/claimwire/claimwire/fpml/LimitReportStatusFromTextPinLaw", 20), ("com/example/claimwire/claimwire/fpml/LimitReportStatusFromTextPinLaw", 22), ("java/lang/String", 7)] _ _ _ (T465.setTop (mkF m 214 #[.val (.int p0), .val (.int p1), .val (.int p2), .val (.int p3), .val (.ref ba), .val (.int pt), .val (.int pp), .val (.int x_), .val (.int y_), .val (.int kk), .val (.int ln), .unset, .unset, .unset, .unset] [(.int u6), (.int (6 : Int32)), (.ref ea), (.ref ea)]))
  refine W466.cast_ V463_ea ⟨by decide, by decide⟩ (i := 6) rfl (by simp) (v' := u6) (nar_id (up16 r_u6)) z_ea (List.mem_of_getElem? (i := 0) rfl) (hb hby at_214) ?_
  intro T467 h468 W469 Wr470 V471_ea'
  have V471_ea : Arv Z h468 ea k_ea .char (11 : Int32) [(.int u0), (.int u1), (.int u2), (.int u3), (.int u4), (.int u5), (.int u6), (.int (0 : Int32)), (.int (0 : Int32)), (.int (0 : Int32)), (.int (0 : Int32))] (.int (0 : Int32)) := V471_ea'
  show Go p e below s Z [("com/example/claimwire/claimwire/fpml/LimitReportStatusFromTextPinLaw", 20), ("com/example/claimwire/claimwire/fpml/LimitReportStatusFromTextPinLaw", 22), ("java/lang/String", 7)] _ _ _ (T467.setTop (mkF m 215 #[.val (.int p0), .val (.int p1), .val (.int p2), .val (.int p3), .val (.ref ba), .val (.int pt), .val (.int pp), .val (.int x_), .val (.int y_), .val (.int kk), .val (.int ln), .unset, .unset, .unset, .unset] [(.ref ea)]))
  refine Go.by (fun t9_ q9_ => XS.dup W469.here W469.hx rfl (hb hby at_215) rfl rfl q9_) ?_
  show Go p e below s Z [("com/example/claimwire/claimwire/fpml/LimitReportStatusFromTextPinLaw", 20), ("com/example/claimwire/claimwire/fpml/LimitReportStatusFromTextPinLaw", 22), ("java/lang/String", 7)] _ _ _ (T467.setTop (mkF m 216 #[.val (.int p0), .val (.int p1), .val (.int p2), .val (.int p3), .val (.ref ba), .val (.int pt), .val (.int pp), .val (.int x_), .val (.int y_), .val (.int kk), .val (.int ln), .unset, .unset, .unset, .unset] [(.ref ea), (.ref ea)]))
  refine Go.by (fun t9_ q9_ => XS.bipush W469.here W469.hx rfl (hb hby at_216) q9_) ?_
  show Go p e below s Z [("com/example/claimwire/claimwire/fpml/LimitReportStatusFromTextPinLaw", 20), ("com/example/claimwire/claimwire/fpml/LimitReportStatusFromTextPinLaw", 22), ("java/lang/String", 7)] _ _ _ (T467.setTop (mkF m 218 #[.val (.int p0), .val (.int p1), .val (.int p2), .val (.int p3), .val (.ref ba), .val (.int pt), .val (.int pp), .val (.int x_), .val (.int y_), .val (.int kk), .val (.int ln), .unset, .unset, .unset, .unset] [(.int (7 : Int32)), (.ref ea), (.ref ea)]))
  refine Go.by (fun t9_ q9_ => XS.aload W469.here W469.hx rfl (hb hby at_218) rfl rfl q9_) ?_
  show Go p e below s Z [("com/example/claimwire/claimwire/fpml/LimitReportStatusFromTextPinLaw", 20), ("com/example/claimwire/claimwire/fpml/LimitReportStatusFromTextPinLaw", 22), ("java/lang/String", 7)] _ _ _ (T467.setTop (mkF m 220 #[.val (.int p0), .val (.int p1), .val (.int p2), .val (.int p3), .val (.ref ba), .val (.int pt), .val (.int pp), .val (.int x_), .val (.int y_), .val (.int kk), .val (.int ln), .unset, .unset, .unset, .unset] [(.ref ba), (.int (7 : Int32)), (.ref ea), (.ref ea)]))
  refine Go.by (fun t9_ q9_ => XS.bipush W469.here W469.hx rfl (hb hby at_220) q9_) ?_
  show Go p e below s Z [("com/example/claimwire/claimwire/fpml/LimitReportStatusFromTextPinLaw", 20), ("com/example/claimwire/claimwire/fpml/LimitReportStatusFromTextPinLaw", 22), ("java/lang/String", 7)] _ _ _ (T467.setTop (mkF m 222 #[.val (.int p0), .val (.int p1), .val (.int p2), .val (.int p3), .val (.ref ba), .val (.int pt), .val (.int pp), .val (.int x_), .val (.int y_), .val (.int kk), .val (.int ln), .unset, .unset, .unset, .unset] [(.int (7 : Int32)), (.ref ba), (.int (7 : Int32)), (.ref ea), (.ref ea)]))
  refine Go.by (fun t9_ q9_ => XS.iload W469.here W469.hx rfl (hb hby at_222) rfl q9_) ?_
  show Go p e below s Z [("com/example/claimwire/claimwire/fpml/LimitReportStatusFromTextPinLaw", 20), ("com/example/claimwire/claimwire/fpml/LimitReportStatusFromTextPinLaw", 22), ("java/lang/String", 7)] _ _ _ (T467.setTop (mkF m 224 #[.val (.int p0), .val (.int p1), .val (.int p2), .val (.int p3), .val (.ref ba), .val (.int pt), .val (.int pp), .val (.int x_), .val (.int y_), .val (.int kk), .val (.int ln), .unset, .unset, .unset, .unset] [(.int pp), (.int (7 : Int32)), (.ref ba), (.int (7 : Int32)), (.ref ea), (.ref ea)]))
  refine Go.by (fun t9_ q9_ => XS.iload W469.here W469.hx rfl (hb hby at_224) rfl q9_) ?_
  show Go p e below s Z [("com/example/claimwire/claimwire/fpml/LimitReportStatusFromTextPinLaw", 20), ("com/example/claimwire/claimwire/fpml/LimitReportStatusFromTextPinLaw", 22), ("java/lang/String", 7)] _ _ _ (T467.setTop (mkF m 226 #[.val (.int p0), .val (.int p1), .val (.int p2), .val (.int p3), .val (.ref ba), .val (.int pt), .val (.int pp), .val (.int x_), .val (.int y_), .val (.int kk), .val (.int ln), .unset, .unset, .unset, .unset] [(.int pt), (.int pp), (.int (7 : Int32)), (.ref ba), (.int (7 : Int32)), (.ref ea), (.ref ea)]))
  refine Go.by (fun t9_ q9_ => XS.iload W469.here W469.hx rfl (hb hby at_226) rfl q9_) ?_
  show Go p e below s Z [("com/example/claimwire/claimwire/fpml/LimitReportStatusFromTextPinLaw", 20), ("com/example/claimwire/claimwire/fpml/LimitReportStatusFromTextPinLaw", 22), ("java/lang/String", 7)] _ _ _ (T467.setTop (mkF m 228 #[.val (.int p0), .val (.int p1), .val (.int p2), .val (.int p3), .val (.ref ba), .val (.int pt), .val (.int pp), .val (.int x_), .val (.int y_), .val (.int kk), .val (.int ln), .unset, .unset, .unset, .unset] [(.int x_), (.int pt), (.int pp), (.int (7 : Int32)), (.ref ba), (.int (7 : Int32)), (.ref ea), (.ref ea)]))
  refine Go.by (fun t9_ q9_ => XS.iload W469.here W469.hx rfl (hb hby at_228) rfl q9_) ?_
  show Go p e below s Z [("com/example/claimwire/claimwire/fpml/LimitReportStatusFromTextPinLaw", 20), ("com/example/claimwire/claimwire/fpml/LimitReportStatusFromTextPinLaw", 22), ("java/lang/String", 7)] _ _ _ (T467.setTop (mkF m 230 #[.val (.int p0), .val (.int p1), .val (.int p2), .val (.int p3), .val (.ref ba), .val (.int pt), .val (.int pp), .val (.int x_), .val (.int y_), .val (.int kk), .val (.int ln), .unset, .unset, .unset, .unset] [(.int y_), (.int x_), (.int pt), (.int pp), (.int (7 : Int32)), (.ref ba), (.int (7 : Int32)), (.ref ea), (.ref ea)]))
  have X472 : Ext h401 h468 := (Ext.wr' X464 Wr470 (Nat.le_of_eq g_ea))
  refine W469.callSr (y := (⟨"com/example/claimwire/claimwire/fpml/LimitReportStatusFromTextPinLaw", "ch", "(Ljava/lang/String;IIZCC)C"⟩ : MethodName)) (wd10 hw) (wd11 hw) (wd12 hw) (wd13 hw) (by decide) (c_ch l Z a0 hw hEL h468 W469.old ba bs 7 pp pt x_ y_ G1 fm SG1 hG SFM rfm (SB.ext X472) hbs lb (by decide) r_x r_y) all0 (by decide) (by decide) (k' := 3) (n' := 55) rfl rfl (by decide) (by decide) (by rw [hml]; rfl) (argsL := [(.ref ba), (.int (7 : Int32)), (.int pp), (.int pt), (.int x_), (.int y_)]) (rest := [(.int (7 : Int32)), (.ref ea), (.ref ea)]) (lenOf pd_3 rfl) rfl rfl (Wt := 3) (Nat.le_of_eq rfl) (hb hby at_230) ?_
  intro v_ T473 W474 hq_
  obtain ⟨u7, rfl, r_u7⟩ := hq_
  show Go p e below s Z [("com/example/claimwire/claimwire/fpml/LimitReportStatusFromTextPinLaw", 20), ("com/example/claimwire/claimwire/fpml/LimitReportStatusFromTextPinLaw", 22), ("java/lang/String", 7)] _ _ _ (T473.setTop (mkF m 233 #[.val (.int p0), .val (.int p1), .val (.int p2), .val (.int p3), .val (.ref ba), .val (.int pt), .val (.int pp), .val (.int x_), .val (.int y_), .val (.int kk), .val (.int ln), .unset, .unset, .unset, .unset] [(.int u7), (.int (7 : Int32)), (.ref ea), (.ref ea)]))
  show Go p e below s Z [("com/example/claimwire/claimwire/fpml/LimitReportStatusFromTextPinLaw", 20), ("com/example/claimwire/claimwire/fpml/LimitReportStatusFromTextPinLaw", 22), ("java/lang/String", 7)] _ _ _ (T473.setTop (mkF m 233 #[.val (.int p0), .val (.int p1), .val (.int p2), .val (.int p3), .val (.ref ba), .val (.int pt), .val (.int pp), .val (.int x_), .val (.int y_), .val (.int kk), .val (.int ln), .unset, .unset, .unset, .unset] [(.int u7), (.int (7 : Int32)), (.ref ea), (.ref ea)]))
  refine W474.cast_ V471_ea ⟨by decide, by decide⟩ (i := 7) rfl (by simp) (v' := u7) (nar_id (up16 r_u7)) z_ea (List.mem_of_getElem? (i := 0) rfl) (hb hby at_233) ?_
  intro T475 h476 W477 Wr478 V479_ea'
  have V479_ea : Arv Z h476 ea k_ea .char (11 : Int32) [(.int u0), (.int u1), (.int u2), (.int u3), (.int u4), (.int u5), (.int u6), (.int u7), (.int (0 : Int32)), (.int (0 : Int32)), (.int (0 : Int32))] (.int (0 : Int32)) := V479_ea'
  show Go p e below s Z [("com/example/claimwire/claimwire/fpml/LimitReportStatusFromTextPinLaw", 20), ("com/example/claimwire/claimwire/fpml/LimitReportStatusFromTextPinLaw", 22), ("java/lang/String", 7)] _ _ _ (T475.setTop (mkF m 234 #[.val (.int p0), .val (.int p1), .val (.int p2), .val (.int p3), .val (.ref ba), .val (.int pt), .val (.int pp), .val (.int x_), .val (.int y_), .val (.int kk), .val (.int ln), .unset, .unset, .unset, .unset] [(.ref ea)]))
  refine Go.by (fun t9_ q9_ => XS.dup W477.here W477.hx rfl (hb hby at_234) rfl rfl q9_) ?_
  show Go p e below s Z [("com/example/claimwire/claimwire/fpml/LimitReportStatusFromTextPinLaw", 20), ("com/example/claimwire/claimwire/fpml/LimitReportStatusFromTextPinLaw", 22), ("java/lang/String", 7)] _ _ _ (T475.setTop (mkF m 235 #[.val (.int p0), .val (.int p1), .val (.int p2), .val (.int p3), .val (.ref ba), .val (.int pt), .val (.int pp), .val (.int x_), .val (.int y_), .val (.int kk), .val (.int ln), .unset, .unset, .unset, .unset] [(.ref ea), (.ref ea)]))
  refine Go.by (fun t9_ q9_ => XS.bipush W477.here W477.hx rfl (hb hby at_235) q9_) ?_
  show Go p e below s Z [("com/example/claimwire/claimwire/fpml/LimitReportStatusFromTextPinLaw", 20), ("com/example/claimwire/claimwire/fpml/LimitReportStatusFromTextPinLaw", 22), ("java/lang/String", 7)] _ _ _ (T475.setTop (mkF m 237 #[.val (.int p0), .val (.int p1), .val (.int p2), .val (.int p3), .val (.ref ba), .val (.int pt), .val (.int pp), .val (.int x_), .val (.int y_), .val (.int kk), .val (.int ln), .unset, .unset, .unset, .unset] [(.int (8 : Int32)), (.ref ea), (.ref ea)]))
  refine Go.by (fun t9_ q9_ => XS.aload W477.here W477.hx rfl (hb hby at_237) rfl rfl q9_) ?_
  show Go p e below s Z [("com/example/claimwire/claimwire/fpml/LimitReportStatusFromTextPinLaw", 20), ("com/example/claimwire/claimwire/fpml/LimitReportStatusFromTextPinLaw", 22), ("java/lang/String", 7)] _ _ _ (T475.setTop (mkF m 239 #[.val (.int p0), .val (.int p1), .val (.int p2), .val (.int p3), .val (.ref ba), .val (.int pt), .val (.int pp), .val (.int x_), .val (.int y_), .val (.int kk), .val (.int ln), .unset, .unset, .unset, .unset] [(.ref ba), (.int (8 : Int32)), (.ref ea), (.ref ea)]))
  refine Go.by (fun t9_ q9_ => XS.bipush W477.here W477.hx rfl (hb hby at_239) q9_) ?_
  show Go p e below s Z [("com/example/claimwire/claimwire/fpml/LimitReportStatusFromTextPinLaw", 20), ("com/example/claimwire/claimwire/fpml/LimitReportStatusFromTextPinLaw", 22), ("java/lang/String", 7)] _ _ _ (T475.setTop (mkF m 241 #[.val (.int p0), .val (.int p1), .val (.int p2), .val (.int p3), .val (.ref ba), .val (.int pt), .val (.int pp), .val (.int x_), .val (.int y_), .val (.int kk), .val (.int ln), .unset, .unset, .unset, .unset] [(.int (8 : Int32)), (.ref ba), (.int (8 : Int32)), (.ref ea), (.ref ea)]))
  refine Go.by (fun t9_ q9_ => XS.iload W477.here W477.hx rfl (hb hby at_241) rfl q9_) ?_
  show Go p e below s Z [("com/example/claimwire/claimwire/fpml/LimitReportStatusFromTextPinLaw", 20), ("com/example/claimwire/claimwire/fpml/LimitReportStatusFromTextPinLaw", 22), ("java/lang/String", 7)] _ _ _ (T475.setTop (mkF m 243 #[.val (.int p0), .val (.int p1), .val (.int p2), .val (.int p3), .val (.ref ba), .val (.int pt), .val (.int pp), .val (.int x_), .val (.int y_), .val (.int kk), .val (.int ln), .unset, .unset, .unset, .unset] [(.int pp), (.int (8 : Int32)), (.ref ba), (.int (8 : Int32)), (.ref ea), (.ref ea)]))
  refine Go.by (fun t9_ q9_ => XS.iload W477.here W477.hx rfl (hb hby at_243) rfl q9_) ?_
  show Go p e below s Z [("com/example/claimwire/claimwire/fpml/LimitReportStatusFromTextPinLaw", 20), ("com/example/claimwire/claimwire/fpml/LimitReportStatusFromTextPinLaw", 22), ("java/lang/String", 7)] _ _ _ (T475.setTop (mkF m 245 #[.val (.int p0), .val (.int p1), .val (.int p2), .val (.int p3), .val (.ref ba), .val (.int pt), .val (.int pp), .val (.int x_), .val (.int y_), .val (.int kk), .val (.int ln), .unset, .unset, .unset, .unset] [(.int pt), (.int pp), (.int (8 : Int32)), (.ref ba), (.int (8 : Int32)), (.ref ea), (.ref ea)]))
  refine Go.by (fun t9_ q9_ => XS.iload W477.here W477.hx rfl (hb hby at_245) rfl q9_) ?_
  show Go p e below s Z [("com/example/claimwire/claimwire/fpml/LimitReportStatusFromTextPinLaw", 20), ("com/example/claimwire/claimwire/fpml/LimitReportStatusFromTextPinLaw", 22), ("java/lang/String", 7)] _ _ _ (T475.setTop (mkF m 247 #[.val (.int p0), .val (.int p1), .val (.int p2), .val (.int p3), .val (.ref ba), .val (.int pt), .val (.int pp), .val (.int x_), .val (.int y_), .val (.int kk), .val (.int ln), .unset, .unset, .unset, .unset] [(.int x_), (.int pt), (.int pp), (.int (8 : Int32)), (.ref ba), (.int (8 : Int32)), (.ref ea), (.ref ea)]))
  refine Go.by (fun t9_ q9_ => XS.iload W477.here W477.hx rfl (hb hby at_247) rfl q9_) ?_
  show Go p e below s Z [("com/example/claimwire/claimwire/fpml/LimitReportStatusFromTextPinLaw", 20), ("com/example/claimwire/claimwire/fpml/LimitReportStatusFromTextPinLaw", 22), ("java/lang/String", 7)] _ _ _ (T475.setTop (mkF m 249 #[.val (.int p0), .val (.int p1), .val (.int p2), .val (.int p3), .val (.ref ba), .val (.int pt), .val (.int pp), .val (.int x_), .val (.int y_), .val (.int kk), .val (.int ln), .unset, .unset, .unset, .unset] [(.int y_), (.int x_), (.int pt), (.int pp), (.int (8 : Int32)), (.ref ba), (.int (8 : Int32)), (.ref ea), (.ref ea)]))
  have X480 : Ext h401 h476 := (Ext.wr' X472 Wr478 (Nat.le_of_eq g_ea))
  refine W477.callSr (y := (⟨"com/example/claimwire/claimwire/fpml/LimitReportStatusFromTextPinLaw", "ch", "(Ljava/lang/String;IIZCC)C"⟩ : MethodName)) (wd10 hw) (wd11 hw) (wd12 hw) (wd13 hw) (by decide) (c_ch l Z a0 hw hEL h476 W477.old ba bs 8 pp pt x_ y_ G1 fm SG1 hG SFM rfm (SB.ext X480) hbs lb (by decide) r_x r_y) all0 (by decide) (by decide) (k' := 3) (n' := 55) rfl rfl (by decide) (by decide) (by rw [hml]; rfl) (argsL := [(.ref ba), (.int (8 : Int32)), (.int pp), (.int pt), (.int x_), (.int y_)]) (rest := [(.int (8 : Int32)), (.ref ea), (.ref ea)]) (lenOf pd_3 rfl) rfl rfl (Wt := 3) (Nat.le_of_eq rfl) (hb hby at_249) ?_
  intro v_ T481 W482 hq_
  obtain ⟨u8, rfl, r_u8⟩ := hq_
  show Go p e below s Z [("com/example/claimwire/claimwire/fpml/LimitReportStatusFromTextPinLaw", 20), ("com/example/claimwire/claimwire/fpml/LimitReportStatusFromTextPinLaw", 22), ("java/lang/String", 7)] _ _ _ (T481.setTop (mkF m 252 #[.val (.int p0), .val (.int p1), .val (.int p2), .val (.int p3), .val (.ref ba), .val (.int pt), .val (.int pp), .val (.int x_), .val (.int y_), .val (.int kk), .val (.int ln), .unset, .unset, .unset, .unset] [(.int u8), (.int (8 : Int32)), (.ref ea), (.ref ea)]))
  show Go p e below s Z [("com/example/claimwire/claimwire/fpml/LimitReportStatusFromTextPinLaw", 20), ("com/example/claimwire/claimwire/fpml/LimitReportStatusFromTextPinLaw", 22), ("java/lang/String", 7)] _ _ _ (T481.setTop (mkF m 252 #[.val (.int p0), .val (.int p1), .val (.int p2), .val (.int p3), .val (.ref ba), .val (.int pt), .val (.int pp), .val (.int x_), .val (.int y_), .val (.int kk), .val (.int ln), .unset, .unset, .unset, .unset] [(.int u8), (.int (8 : Int32)), (.ref ea), (.ref ea)]))
  refine W482.cast_ V479_ea ⟨by decide, by decide⟩ (i := 8) rfl (by simp) (v' := u8) (nar_id (up16 r_u8)) z_ea (List.mem_of_getElem? (i := 0) rfl) (hb hby at_252) ?_
  intro T483 h484 W485 Wr486 V487_ea'
  have V487_ea : Arv Z h484 ea k_ea .char (11 : Int32) [(.int u0), (.int u1), (.int u2), (.int u3), (.int u4), (.int u5), (.int u6), (.int u7), (.int u8), (.int (0 : Int32)), (.int (0 : Int32))] (.int (0 : Int32)) := V487_ea'
  show Go p e below s Z [("com/example/claimwire/claimwire/fpml/LimitReportStatusFromTextPinLaw", 20), ("com/example/claimwire/claimwire/fpml/LimitReportStatusFromTextPinLaw", 22), ("java/lang/String", 7)] _ _ _ (T483.setTop (mkF m 253 #[.val (.int p0), .val (.int p1), .val (.int p2), .val (.int p3), .val (.ref ba), .val (.int pt), .val (.int pp), .val (.int x_), .val (.int y_), .val (.int kk), .val (.int ln), .unset, .unset, .unset, .unset] [(.ref ea)]))
  refine Go.by (fun t9_ q9_ => XS.dup W485.here W485.hx rfl (hb hby at_253) rfl rfl q9_) ?_
  show Go p e below s Z [("com/example/claimwire/claimwire/fpml/LimitReportStatusFromTextPinLaw", 20), ("com/example/claimwire/claimwire/fpml/LimitReportStatusFromTextPinLaw", 22), ("java/lang/String", 7)] _ _ _ (T483.setTop (mkF m 254 #[.val (.int p0), .val (.int p1), .val (.int p2), .val (.int p3), .val (.ref ba), .val (.int pt), .val (.int pp), .val (.int x_), .val (.int y_), .val (.int kk), .val (.int ln), .unset, .unset, .unset, .unset] [(.ref ea), (.ref ea)]))
  refine Go.by (fun t9_ q9_ => XS.bipush W485.here W485.hx rfl (hb hby at_254) q9_) ?_
  show Go p e below s Z [("com/example/claimwire/claimwire/fpml/LimitReportStatusFromTextPinLaw", 20), ("com/example/claimwire/claimwire/fpml/LimitReportStatusFromTextPinLaw", 22), ("java/lang/String", 7)] _ _ _ (T483.setTop (mkF m 256 #[.val (.int p0), .val (.int p1), .val (.int p2), .val (.int p3), .val (.ref ba), .val (.int pt), .val (.int pp), .val (.int x_), .val (.int y_), .val (.int kk), .val (.int ln), .unset, .unset, .unset, .unset] [(.int (9 : Int32)), (.ref ea), (.ref ea)]))
  refine Go.by (fun t9_ q9_ => XS.aload W485.here W485.hx rfl (hb hby at_256) rfl rfl q9_) ?_
  show Go p e below s Z [("com/example/claimwire/claimwire/fpml/LimitReportStatusFromTextPinLaw", 20), ("com/example/claimwire/claimwire/fpml/LimitReportStatusFromTextPinLaw", 22), ("java/lang/String", 7)] _ _ _ (T483.setTop (mkF m 258 #[.val (.int p0), .val (.int p1), .val (.int p2), .val (.int p3), .val (.ref ba), .val (.int pt), .val (.int pp), .val (.int x_), .val (.int y_), .val (.int kk), .val (.int ln), .unset, .unset, .unset, .unset] [(.ref ba), (.int (9 : Int32)), (.ref ea), (.ref ea)]))
  refine Go.by (fun t9_ q9_ => XS.bipush W485.here W485.hx rfl (hb hby at_258) q9_) ?_
  show Go p e below s Z [("com/example/claimwire/claimwire/fpml/LimitReportStatusFromTextPinLaw", 20), ("com/example/claimwire/claimwire/fpml/LimitReportStatusFromTextPinLaw", 22), ("java/lang/String", 7)] _ _ _ (T483.setTop (mkF m 260 #[.val (.int p0), .val (.int p1), .val (.int p2), .val (.int p3), .val (.ref ba), .val (.int pt), .val (.int pp), .val (.int x_), .val (.int y_), .val (.int kk), .val (.int ln), .unset, .unset, .unset, .unset] [(.int (9 : Int32)), (.ref ba), (.int (9 : Int32)), (.ref ea), (.ref ea)]))
  refine Go.by (fun t9_ q9_ => XS.iload W485.here W485.hx rfl (hb hby at_260) rfl q9_) ?_
  show Go p e below s Z [("com/example/claimwire/claimwire/fpml/LimitReportStatusFromTextPinLaw", 20), ("com/example/claimwire/claimwire/fpml/LimitReportStatusFromTextPinLaw", 22), ("java/lang/String", 7)] _ _ _ (T483.setTop (mkF m 262 #[.val (.int p0), .val (.int p1), .val (.int p2), .val (.int p3), .val (.ref ba), .val (.int pt), .val (.int pp), .val (.int x_), .val (.int y_), .val (.int kk), .val (.int ln), .unset, .unset, .unset, .unset] [(.int pp), (.int (9 : Int32)), (.ref ba), (.int (9 : Int32)), (.ref ea), (.ref ea)]))
  refine Go.by (fun t9_ q9_ => XS.iload W485.here W485.hx rfl (hb hby at_262) rfl q9_) ?_
  show Go p e below s Z [("com/example/claimwire/claimwire/fpml/LimitReportStatusFromTextPinLaw", 20), ("com/example/claimwire/claimwire/fpml/LimitReportStatusFromTextPinLaw", 22), ("java/lang/String", 7)] _ _ _ (T483.setTop (mkF m 264 #[.val (.int p0), .val (.int p1), .val (.int p2), .val (.int p3), .val (.ref ba), .val (.int pt), .val (.int pp), .val (.int x_), .val (.int y_), .val (.int kk), .val (.int ln), .unset, .unset, .unset, .unset] [(.int pt), (.int pp), (.int (9 : Int32)), (.ref ba), (.int (9 : Int32)), (.ref ea), (.ref ea)]))
  refine Go.by (fun t9_ q9_ => XS.iload W485.here W485.hx rfl (hb hby at_264) rfl q9_) ?_
  show Go p e below s Z [("com/example/claimwire/claimwire/fpml/LimitReportStatusFromTextPinLaw", 20), ("com/example/claimwire/claimwire/fpml/LimitReportStatusFromTextPinLaw", 22), ("java/lang/String", 7)] _ _ _ (T483.setTop (mkF m 266 #[.val (.int p0), .val (.int p1), .val (.int p2), .val (.int p3), .val (.ref ba), .val (.int pt), .val (.int pp), .val (.int x_), .val (.int y_), .val (.int kk), .val (.int ln), .unset, .unset, .unset, .unset] [(.int x_), (.int pt), (.int pp), (.int (9 : Int32)), (.ref ba), (.int (9 : Int32)), (.ref ea), (.ref ea)]))
  refine Go.by (fun t9_ q9_ => XS.iload W485.here W485.hx rfl (hb hby at_266) rfl q9_) ?_
  show Go p e below s Z [("com/example/claimwire/claimwire/fpml/LimitReportStatusFromTextPinLaw", 20), ("com/example/claimwire/claimwire/fpml/LimitReportStatusFromTextPinLaw", 22), ("java/lang/String", 7)] _ _ _ (T483.setTop (mkF m 268 #[.val (.int p0), .val (.int p1), .val (.int p2), .val (.int p3), .val (.ref ba), .val (.int pt), .val (.int pp), .val (.int x_), .val (.int y_), .val (.int kk), .val (.int ln), .unset, .unset, .unset, .unset] [(.int y_), (.int x_), (.int pt), (.int pp), (.int (9 : Int32)), (.ref ba), (.int (9 : Int32)), (.ref ea), (.ref ea)]))
  have X488 : Ext h401 h484 := (Ext.wr' X480 Wr486 (Nat.le_of_eq g_ea))
  refine W485.callSr (y := (⟨"com/example/claimwire/claimwire/fpml/LimitReportStatusFromTextPinLaw", "ch", "(Ljava/lang/String;IIZCC)C"⟩ : MethodName)) (wd10 hw) (wd11 hw) (wd12 hw) (wd13 hw) (by decide) (c_ch l Z a0 hw hEL h484 W485.old ba bs 9 pp pt x_ y_ G1 fm SG1 hG SFM rfm (SB.ext X488) hbs lb (by decide) r_x r_y) all0 (by decide) (by decide) (k' := 3) (n' := 55) rfl rfl (by decide) (by decide) (by rw [hml]; rfl) (argsL := [(.ref ba), (.int (9 : Int32)), (.int pp), (.int pt), (.int x_), (.int y_)]) (rest := [(.int (9 : Int32)), (.ref ea), (.ref ea)]) (lenOf pd_3 rfl) rfl rfl (Wt := 3) (Nat.le_of_eq rfl) (hb hby at_268) ?_
  intro v_ T489 W490 hq_
  obtain ⟨u9, rfl, r_u9⟩ := hq_
  show Go p e below s Z [("com/example/claimwire/claimwire/fpml/LimitReportStatusFromTextPinLaw", 20), ("com/example/claimwire/claimwire/fpml/LimitReportStatusFromTextPinLaw", 22), ("java/lang/String", 7)] _ _ _ (T489.setTop (mkF m 271 #[.val (.int p0), .val (.int p1), .val (.int p2), .val (.int p3), .val (.ref ba), .val (.int pt), .val (.int pp), .val (.int x_), .val (.int y_), .val (.int kk), .val (.int ln), .unset, .unset, .unset, .unset] [(.int u9), (.int (9 : Int32)), (.ref ea), (.ref ea)]))
  show Go p e below s Z [("com/example/claimwire/claimwire/fpml/LimitReportStatusFromTextPinLaw", 20), ("com/example/claimwire/claimwire/fpml/LimitReportStatusFromTextPinLaw", 22), ("java/lang/String", 7)] _ _ _ (T489.setTop (mkF m 271 #[.val (.int p0), .val (.int p1), .val (.int p2), .val (.int p3), .val (.ref ba), .val (.int pt), .val (.int pp), .val (.int x_), .val (.int y_), .val (.int kk), .val (.int ln), .unset, .unset, .unset, .unset] [(.int u9), (.int (9 : Int32)), (.ref ea), (.ref ea)]))
  refine W490.cast_ V487_ea ⟨by decide, by decide⟩ (i := 9) rfl (by simp) (v' := u9) (nar_id (up16 r_u9)) z_ea (List.mem_of_getElem? (i := 0) rfl) (hb hby at_271) ?_
  intro T491 h492 W493 Wr494 V495_ea'
  have V495_ea : Arv Z h492 ea k_ea .char (11 : Int32) [(.int u0), (.int u1), (.int u2), (.int u3), (.int u4), (.int u5), (.int u6), (.int u7), (.int u8), (.int u9), (.int (0 : Int32))] (.int (0 : Int32)) := V495_ea'
  show Go p e below s Z [("com/example/claimwire/claimwire/fpml/LimitReportStatusFromTextPinLaw", 20), ("com/example/claimwire/claimwire/fpml/LimitReportStatusFromTextPinLaw", 22), ("java/lang/String", 7)] _ _ _ (T491.setTop (mkF m 272 #[.val (.int p0), .val (.int p1), .val (.int p2), .val (.int p3), .val (.ref ba), .val (.int pt), .val (.int pp), .val (.int x_), .val (.int y_), .val (.int kk), .val (.int ln), .unset, .unset, .unset, .unset] [(.ref ea)]))
  refine Go.by (fun t9_ q9_ => XS.dup W493.here W493.hx rfl (hb hby at_272) rfl rfl q9_) ?_
  show Go p e below s Z [("com/example/claimwire/claimwire/fpml/LimitReportStatusFromTextPinLaw", 20), ("com/example/claimwire/claimwire/fpml/LimitReportStatusFromTextPinLaw", 22), ("java/lang/String", 7)] _ _ _ (T491.setTop (mkF m 273 #[.val (.int p0), .val (.int p1), .val (.int p2), .val (.int p3), .val (.ref ba), .val (.int pt), .val (.int pp), .val (.int x_), .val (.int y_), .val (.int kk), .val (.int ln), .unset, .unset, .unset, .unset] [(.ref ea), (.ref ea)]))
  refine Go.by (fun t9_ q9_ => XS.bipush W493.here W493.hx rfl (hb hby at_273) q9_) ?_
  show Go p e below s Z [("com/example/claimwire/claimwire/fpml/LimitReportStatusFromTextPinLaw", 20), ("com/example/claimwire/claimwire/fpml/LimitReportStatusFromTextPinLaw", 22), ("java/lang/String", 7)] _ _ _ (T491.setTop (mkF m 275 #[.val (.int p0), .val (.int p1), .val (.int p2), .val (.int p3), .val (.ref ba), .val (.int pt), .val (.int pp), .val (.int x_), .val (.int y_), .val (.int kk), .val (.int ln), .unset, .unset, .unset, .unset] [(.int (10 : Int32)), (.ref ea), (.ref ea)]))
  refine Go.by (fun t9_ q9_ => XS.aload W493.here W493.hx rfl (hb hby at_275) rfl rfl q9_) ?_
  show Go p e below s Z [("com/example/claimwire/claimwire/fpml/LimitReportStatusFromTextPinLaw", 20), ("com/example/claimwire/claimwire/fpml/LimitReportStatusFromTextPinLaw", 22), ("java/lang/String", 7)] _ _ _ (T491.setTop (mkF m 277 #[.val (.int p0), .val (.int p1), .val (.int p2), .val (.int p3), .val (.ref ba), .val (.int pt), .val (.int pp), .val (.int x_), .val (.int y_), .val (.int kk), .val (.int ln), .unset, .unset, .unset, .unset] [(.ref ba), (.int (10 : Int32)), (.ref ea), (.ref ea)]))
  refine Go.by (fun t9_ q9_ => XS.bipush W493.here W493.hx rfl (hb hby at_277) q9_) ?_
  show Go p e below s Z [("com/example/claimwire/claimwire/fpml/LimitReportStatusFromTextPinLaw", 20), ("com/example/claimwire/claimwire/fpml/LimitReportStatusFromTextPinLaw", 22), ("java/lang/String", 7)] _ _ _ (T491.setTop (mkF m 279 #[.val (.int p0), .val (.int p1), .val (.int p2), .val (.int p3), .val (.ref ba), .val (.int pt), .val (.int pp), .val (.int x_), .val (.int y_), .val (.int kk), .val (.int ln), .unset, .unset, .unset, .unset] [(.int (10 : Int32)), (.ref ba), (.int (10 : Int32)), (.ref ea), (.ref ea)]))
  refine Go.by (fun t9_ q9_ => XS.iload W493.here W493.hx rfl (hb hby at_279) rfl q9_) ?_
  show Go p e below s Z [("com/example/claimwire/claimwire/fpml/LimitReportStatusFromTextPinLaw", 20), ("com/example/claimwire/claimwire/fpml/LimitReportStatusFromTextPinLaw", 22), ("java/lang/String", 7)] _ _ _ (T491.setTop (mkF m 281 #[.val (.int p0), .val (.int p1), .val (.int p2), .val (.int p3), .val (.ref ba), .val (.int pt), .val (.int pp), .val (.int x_), .val (.int y_), .val (.int kk), .val (.int ln), .unset, .unset, .unset, .unset] [(.int pp), (.int (10 : Int32)), (.ref ba), (.int (10 : Int32)), (.ref ea), (.ref ea)]))
  refine Go.by (fun t9_ q9_ => XS.iload W493.here W493.hx rfl (hb hby at_281) rfl q9_) ?_
  show Go p e below s Z [("com/example/claimwire/claimwire/fpml/LimitReportStatusFromTextPinLaw", 20), ("com/example/claimwire/claimwire/fpml/LimitReportStatusFromTextPinLaw", 22), ("java/lang/String", 7)] _ _ _ (T491.setTop (mkF m 283 #[.val (.int p0), .val (.int p1), .val (.int p2), .val (.int p3), .val (.ref ba), .val (.int pt), .val (.int pp), .val (.int x_), .val (.int y_), .val (.int kk), .val (.int ln), .unset, .unset, .unset, .unset] [(.int pt), (.int pp), (.int (10 : Int32)), (.ref ba), (.int (10 : Int32)), (.ref ea), (.ref ea)]))
  refine Go.by (fun t9_ q9_ => XS.iload W493.here W493.hx rfl (hb hby at_283) rfl q9_) ?_
  show Go p e below s Z [("com/example/claimwire/claimwire/fpml/LimitReportStatusFromTextPinLaw", 20), ("com/example/claimwire/claimwire/fpml/LimitReportStatusFromTextPinLaw", 22), ("java/lang/String", 7)] _ _ _ (T491.setTop (mkF m 285 #[.val (.int p0), .val (.int p1), .val (.int p2), .val (.int p3), .val (.ref ba), .val (.int pt), .val (.int pp), .val (.int x_), .val (.int y_), .val (.int kk), .val (.int ln), .unset, .unset, .unset, .unset] [(.int x_), (.int pt), (.int pp), (.int (10 : Int32)), (.ref ba), (.int (10 : Int32)), (.ref ea), (.ref ea)]))
  refine Go.by (fun t9_ q9_ => XS.iload W493.here W493.hx rfl (hb hby at_285) rfl q9_) ?_
  show Go p e below s Z [("com/example/claimwire/claimwire/fpml/LimitReportStatusFromTextPinLaw", 20), ("com/example/claimwire/claimwire/fpml/LimitReportStatusFromTextPinLaw", 22), ("java/lang/String", 7)] _ _ _ (T491.setTop (mkF m 287 #[.val (.int p0), .val (.int p1), .val (.int p2), .val (.int p3), .val (.ref ba), .val (.int pt), .val (.int pp), .val (.int x_), .val (.int y_), .val (.int kk), .val (.int ln), .unset, .unset, .unset, .unset] [(.int y_), (.int x_), (.int pt), (.int pp), (.int (10 : Int32)), (.ref ba), (.int (10 : Int32)), (.ref ea), (.ref ea)]))
  have X496 : Ext h401 h492 := (Ext.wr' X488 Wr494 (Nat.le_of_eq g_ea))
  refine W493.callSr (y := (⟨"com/example/claimwire/claimwire/fpml/LimitReportStatusFromTextPinLaw", "ch", "(Ljava/lang/String;IIZCC)C"⟩ : MethodName)) (wd10 hw) (wd11 hw) (wd12 hw) (wd13 hw) (by decide) (c_ch l Z a0 hw hEL h492 W493.old ba bs 10 pp pt x_ y_ G1 fm SG1 hG SFM rfm (SB.ext X496) hbs lb (by decide) r_x r_y) all0 (by decide) (by decide) (k' := 3) (n' := 55) rfl rfl (by decide) (by decide) (by rw [hml]; rfl) (argsL := [(.ref ba), (.int (10 : Int32)), (.int pp), (.int pt), (.int x_), (.int y_)]) (rest := [(.int (10 : Int32)), (.ref ea), (.ref ea)]) (lenOf pd_3 rfl) rfl rfl (Wt := 3) (Nat.le_of_eq rfl) (hb hby at_287) ?_
  intro v_ T497 W498 hq_
  obtain ⟨u10, rfl, r_u10⟩ := hq_
  show Go p e below s Z [("com/example/claimwire/claimwire/fpml/LimitReportStatusFromTextPinLaw", 20), ("com/example/claimwire/claimwire/fpml/LimitReportStatusFromTextPinLaw", 22), ("java/lang/String", 7)] _ _ _ (T497.setTop (mkF m 290 #[.val (.int p0), .val (.int p1), .val (.int p2), .val (.int p3), .val (.ref ba), .val (.int pt), .val (.int pp), .val (.int x_), .val (.int y_), .val (.int kk), .val (.int ln), .unset, .unset, .unset, .unset] [(.int u10), (.int (10 : Int32)), (.ref ea), (.ref ea)]))
  show Go p e below s Z [("com/example/claimwire/claimwire/fpml/LimitReportStatusFromTextPinLaw", 20), ("com/example/claimwire/claimwire/fpml/LimitReportStatusFromTextPinLaw", 22), ("java/lang/String", 7)] _ _ _ (T497.setTop (mkF m 290 #[.val (.int p0), .val (.int p1), .val (.int p2), .val (.int p3), .val (.ref ba), .val (.int pt), .val (.int pp), .val (.int x_), .val (.int y_), .val (.int kk), .val (.int ln), .unset, .unset, .unset, .unset] [(.int u10), (.int (10 : Int32)), (.ref ea), (.ref ea)]))
  refine W498.cast_ V495_ea ⟨by decide, by decide⟩ (i := 10) rfl (by simp) (v' := u10) (nar_id (up16 r_u10)) z_ea (List.mem_of_getElem? (i := 0) rfl) (hb hby at_290) ?_
  intro T499 h500 W501 Wr502 V503_ea'
  have V503_ea : Arv Z h500 ea k_ea .char (11 : Int32) [(.int u0), (.int u1), (.int u2), (.int u3), (.int u4), (.int u5), (.int u6), (.int u7), (.int u8), (.int u9), (.int u10)] (.int (0 : Int32)) := V503_ea'
  show Go p e below s Z [("com/example/claimwire/claimwire/fpml/LimitReportStatusFromTextPinLaw", 20), ("com/example/claimwire/claimwire/fpml/LimitReportStatusFromTextPinLaw", 22), ("java/lang/String", 7)] _ _ _ (T499.setTop (mkF m 291 #[.val (.int p0), .val (.int p1), .val (.int p2), .val (.int p3), .val (.ref ba), .val (.int pt), .val (.int pp), .val (.int x_), .val (.int y_), .val (.int kk), .val (.int ln), .unset, .unset, .unset, .unset] [(.ref ea)]))
  refine Go.by (fun t9_ q9_ => XS.astore W501.here W501.hx rfl (hb hby at_291) rfl rfl (l' := #[.val (.int p0), .val (.int p1), .val (.int p2), .val (.int p3), .val (.ref ba), .val (.int pt), .val (.int pp), .val (.int x_), .val (.int y_), .val (.int kk), .val (.int ln), .val (.ref ea), .unset, .unset, .unset]) rfl q9_) ?_
  show Go p e below s Z [("com/example/claimwire/claimwire/fpml/LimitReportStatusFromTextPinLaw", 20), ("com/example/claimwire/claimwire/fpml/LimitReportStatusFromTextPinLaw", 22), ("java/lang/String", 7)] _ _ _ (T499.setTop (mkF m 293 #[.val (.int p0), .val (.int p1), .val (.int p2), .val (.int p3), .val (.ref ba), .val (.int pt), .val (.int pp), .val (.int x_), .val (.int y_), .val (.int kk), .val (.int ln), .val (.ref ea), .unset, .unset, .unset] []))
  refine Go.by (fun t9_ q9_ => XS.aload W501.here W501.hx rfl (hb hby at_293) rfl rfl q9_) ?_
  show Go p e below s Z [("com/example/claimwire/claimwire/fpml/LimitReportStatusFromTextPinLaw", 20), ("com/example/claimwire/claimwire/fpml/LimitReportStatusFromTextPinLaw", 22), ("java/lang/String", 7)] _ _ _ (T499.setTop (mkF m 295 #[.val (.int p0), .val (.int p1), .val (.int p2), .val (.int p3), .val (.ref ba), .val (.int pt), .val (.int pp), .val (.int x_), .val (.int y_), .val (.int kk), .val (.int ln), .val (.ref ea), .unset, .unset, .unset] [(.ref ea)]))
  refine Go.by (fun t9_ q9_ => XS.iload W501.here W501.hx rfl (hb hby at_295) rfl q9_) ?_
  show Go p e below s Z [("com/example/claimwire/claimwire/fpml/LimitReportStatusFromTextPinLaw", 20), ("com/example/claimwire/claimwire/fpml/LimitReportStatusFromTextPinLaw", 22), ("java/lang/String", 7)] _ _ _ (T499.setTop (mkF m 297 #[.val (.int p0), .val (.int p1), .val (.int p2), .val (.int p3), .val (.ref ba), .val (.int pt), .val (.int pp), .val (.int x_), .val (.int y_), .val (.int kk), .val (.int ln), .val (.ref ea), .unset, .unset, .unset] [(.int ln), (.ref ea)]))
  refine W501.callS (y := (⟨"com/example/claimwire/claimwire/fpml/LimitReportStatusFromTextPinLaw", "cut", "([CI)Ljava/lang/String;"⟩ : MethodName)) (wd49 hw) (wd50 hw) (wd12 hw) (wd51 hw) (by decide) (c_cut l Z a0 hw hEL h500 W501.old ea k_ea ln G1 u0 u1 u2 u3 u4 u5 u6 u7 u8 u9 u10 SG1 hG V503_ea r_u0 r_u1 r_u2 r_u3 r_u4 r_u5 r_u6 r_u7 r_u8 r_u9 r_u10) all0 (by decide) (by decide) (k' := 9) (n' := 79) rfl rfl (by decide) (by decide) (by rw [hml]; rfl) (argsL := [(.ref ea), (.int ln)]) (rest := []) (lenOf pd_4 rfl) rfl rfl (Wt := 0) (Nat.le_of_eq rfl) (hb hby at_297) ?_
  intro v_ T504 h506 W505 hq_
  obtain ⟨nm, cs, rfl, X1, SN, lcs⟩ := hq_
  show Go p e below s Z [("com/example/claimwire/claimwire/fpml/LimitReportStatusFromTextPinLaw", 20), ("com/example/claimwire/claimwire/fpml/LimitReportStatusFromTextPinLaw", 22), ("java/lang/String", 7)] _ _ _ (T504.setTop (mkF m 300 #[.val (.int p0), .val (.int p1), .val (.int p2), .val (.int p3), .val (.ref ba), .val (.int pt), .val (.int pp), .val (.int x_), .val (.int y_), .val (.int kk), .val (.int ln), .val (.ref ea), .unset, .unset, .unset] [(.ref nm)]))
  refine Go.by (fun t9_ q9_ => XS.astore W505.here W505.hx rfl (hb hby at_300) rfl rfl (l' := #[.val (.int p0), .val (.int p1), .val (.int p2), .val (.int p3), .val (.ref ba), .val (.int pt), .val (.int pp), .val (.int x_), .val (.int y_), .val (.int kk), .val (.int ln), .val (.ref ea), .val (.ref nm), .unset, .unset]) rfl q9_) ?_
  show Go p e below s Z [("com/example/claimwire/claimwire/fpml/LimitReportStatusFromTextPinLaw", 20), ("com/example/claimwire/claimwire/fpml/LimitReportStatusFromTextPinLaw", 22), ("java/lang/String", 7)] _ _ _ (T504.setTop (mkF m 302 #[.val (.int p0), .val (.int p1), .val (.int p2), .val (.int p3), .val (.ref ba), .val (.int pt), .val (.int pp), .val (.int x_), .val (.int y_), .val (.int kk), .val (.int ln), .val (.ref ea), .val (.ref nm), .unset, .unset] []))
  refine Go.by (fun t9_ q9_ => XS.aload W505.here W505.hx rfl (hb hby at_302) rfl rfl q9_) ?_
  show Go p e below s Z [("com/example/claimwire/claimwire/fpml/LimitReportStatusFromTextPinLaw", 20), ("com/example/claimwire/claimwire/fpml/LimitReportStatusFromTextPinLaw", 22), ("java/lang/String", 7)] _ _ _ (T504.setTop (mkF m 304 #[.val (.int p0), .val (.int p1), .val (.int p2), .val (.int p3), .val (.ref ba), .val (.int pt), .val (.int pp), .val (.int x_), .val (.int y_), .val (.int kk), .val (.int ln), .val (.ref ea), .val (.ref nm), .unset, .unset] [(.ref nm)]))
  refine W505.callS (y := (⟨"com/example/claimwire/claimwire/fpml/LimitReportStatus", "fromText", "(Ljava/lang/String;)Lcom/example/claimwire/claimwire/fpml/LimitReportStatus;"⟩ : MethodName)) (wd73 hw) (wd74 hw) (wd75 hw) (wd76 hw) (by decide) (c_ft l Z a0 hw hEL h506 W505.old nm cs G1 av e0 e1 t0 t1 kv SG1 hG SV AV XV FW0 FW1 S0 S1 SN lcs) all0 (by decide) (by decide) (k' := 10) (n' := 81) rfl rfl (by decide) (by decide) (by rw [hml]; rfl) (argsL := [(.ref nm)]) (rest := []) (lenOf pd_5 rfl) rfl rfl (Wt := 0) (Nat.le_of_eq rfl) (hb hby at_304) ?_
  intro v_ T507 h509 W508 hq_
  obtain ⟨rfl, X2⟩ := hq_
  show Go p e below s Z [("com/example/claimwire/claimwire/fpml/LimitReportStatusFromTextPinLaw", 20), ("com/example/claimwire/claimwire/fpml/LimitReportStatusFromTextPinLaw", 22), ("java/lang/String", 7)] _ _ _ (T507.setTop (mkF m 307 #[.val (.int p0), .val (.int p1), .val (.int p2), .val (.int p3), .val (.ref ba), .val (.int pt), .val (.int pp), .val (.int x_), .val (.int y_), .val (.int kk), .val (.int ln), .val (.ref ea), .val (.ref nm), .unset, .unset] [(ftF cs e0 e1)]))
  obtain ⟨gv, h_gv⟩ : ∃ z : Value, z = ftF cs e0 e1 := ⟨_, rfl⟩
  rw [← h_gv]
  have hr_gv : gv.isRef = true := by rw [h_gv]; exact ftF_ref _ _ _
  show Go p e below s Z [("com/example/claimwire/claimwire/fpml/LimitReportStatusFromTextPinLaw", 20), ("com/example/claimwire/claimwire/fpml/LimitReportStatusFromTextPinLaw", 22), ("java/lang/String", 7)] _ _ _ (T507.setTop (mkF m 307 #[.val (.int p0), .val (.int p1), .val (.int p2), .val (.int p3), .val (.ref ba), .val (.int pt), .val (.int pp), .val (.int x_), .val (.int y_), .val (.int kk), .val (.int ln), .val (.ref ea), .val (.ref nm), .unset, .unset] [gv]))
  refine Go.by (fun t9_ q9_ => XS.astore W508.here W508.hx rfl (hb hby at_307) rfl hr_gv (l' := #[.val (.int p0), .val (.int p1), .val (.int p2), .val (.int p3), .val (.ref ba), .val (.int pt), .val (.int pp), .val (.int x_), .val (.int y_), .val (.int kk), .val (.int ln), .val (.ref ea), .val (.ref nm), .val gv, .unset]) (by rcases ref_cases hr_gv with h_ | ⟨q_, h_⟩ <;> rw [h_] <;> rfl) q9_) ?_
  show Go p e below s Z [("com/example/claimwire/claimwire/fpml/LimitReportStatusFromTextPinLaw", 20), ("com/example/claimwire/claimwire/fpml/LimitReportStatusFromTextPinLaw", 22), ("java/lang/String", 7)] _ _ _ (T507.setTop (mkF m 309 #[.val (.int p0), .val (.int p1), .val (.int p2), .val (.int p3), .val (.ref ba), .val (.int pt), .val (.int pp), .val (.int x_), .val (.int y_), .val (.int kk), .val (.int ln), .val (.ref ea), .val (.ref nm), .val gv, .unset] []))
  refine Go.by (fun t9_ q9_ => XS.aload W508.here W508.hx rfl (hb hby at_309) rfl rfl q9_) ?_
  show Go p e below s Z [("com/example/claimwire/claimwire/fpml/LimitReportStatusFromTextPinLaw", 20), ("com/example/claimwire/claimwire/fpml/LimitReportStatusFromTextPinLaw", 22), ("java/lang/String", 7)] _ _ _ (T507.setTop (mkF m 311 #[.val (.int p0), .val (.int p1), .val (.int p2), .val (.int p3), .val (.ref ba), .val (.int pt), .val (.int pp), .val (.int x_), .val (.int y_), .val (.int kk), .val (.int ln), .val (.ref ea), .val (.ref nm), .val gv, .unset] [(.ref nm)]))
  refine W508.ldcC (cs := [65, 99, 99, 101, 112, 116, 97, 98, 108, 101]) (wd0 hw) (k_sa hw) (List.mem_of_getElem? (i := 0) rfl) ⟨by decide +kernel, by decide +kernel⟩ (by decide) (by decide) (by decide) (hb hby at_311) (q := 40) (by decide +kernel) (by decide) (k' := 12) (n' := 125) rfl rfl (by decide) (by decide) ?_
  intro T510 h511 d1 W512 E513 S_d1 ne_d1
  show Go p e below s Z [("com/example/claimwire/claimwire/fpml/LimitReportStatusFromTextPinLaw", 20), ("com/example/claimwire/claimwire/fpml/LimitReportStatusFromTextPinLaw", 22), ("java/lang/String", 7)] _ _ _ (T510.setTop (mkF m 313 #[.val (.int p0), .val (.int p1), .val (.int p2), .val (.int p3), .val (.ref ba), .val (.int pt), .val (.int pp), .val (.int x_), .val (.int y_), .val (.int kk), .val (.int ln), .val (.ref ea), .val (.ref nm), .val gv, .unset] [(.ref d1), (.ref nm)]))
  have X514 : Ext h506 h511 := (Ext.trans' X2 E513)
  refine W512.strEq (k_eq hw) (wd2 hw) (wd105 hw) (wd97 hw) (wd99 hw) (wd98 hw) (SN.ext X514) S_d1 lcs (by decide) (SG1.ext W512.old) hG (by decide) (Wt := 0) (by decide) (by rw [hml]; rfl) (Nat.le_of_eq rfl) (by decide) (by decide) (hb hby at_313) ?_
  intro T515 q1 W516 hq1
  show Go p e below s Z [("com/example/claimwire/claimwire/fpml/LimitReportStatusFromTextPinLaw", 20), ("com/example/claimwire/claimwire/fpml/LimitReportStatusFromTextPinLaw", 22), ("java/lang/String", 7)] _ _ _ (T515.setTop (mkF m 316 #[.val (.int p0), .val (.int p1), .val (.int p2), .val (.int p3), .val (.ref ba), .val (.int pt), .val (.int pp), .val (.int x_), .val (.int y_), .val (.int kk), .val (.int ln), .val (.ref ea), .val (.ref nm), .val gv, .unset] [(.int q1)]))
  by_cases z1 : cs = [65, 99, 99, 101, 112, 116, 97, 98, 108, 101]
  · refine Go.by (fun t9_ q9_ => XS.ifNo W516.here W516.hx rfl (hb hby at_316) rfl ((if0 _ _).trans (feq (by rw [hq1, if_pos z1]; decide)).1) q9_) ?_
    show Go p e below s Z [("com/example/claimwire/claimwire/fpml/LimitReportStatusFromTextPinLaw", 20), ("com/example/claimwire/claimwire/fpml/LimitReportStatusFromTextPinLaw", 22), ("java/lang/String", 7)] _ _ _ (T515.setTop (mkF m 319 #[.val (.int p0), .val (.int p1), .val (.int p2), .val (.int p3), .val (.ref ba), .val (.int pt), .val (.int pp), .val (.int x_), .val (.int y_), .val (.int kk), .val (.int ln), .val (.ref ea), .val (.ref nm), .val gv, .unset] []))
    refine W516.gets (host := "") (Or.inl (wd108 hw)) Via.refl (ST0.ext W516.old) (hb hby at_319) ?_
    intro T517 W518
    show Go p e below s Z [("com/example/claimwire/claimwire/fpml/LimitReportStatusFromTextPinLaw", 20), ("com/example/claimwire/claimwire/fpml/LimitReportStatusFromTextPinLaw", 22), ("java/lang/String", 7)] _ _ _ (T517.setTop (mkF m 322 #[.val (.int p0), .val (.int p1), .val (.int p2), .val (.int p3), .val (.ref ba), .val (.int pt), .val (.int pp), .val (.int x_), .val (.int y_), .val (.int kk), .val (.int ln), .val (.ref ea), .val (.ref nm), .val gv, .unset] [(.ref e0)]))
    refine Go.by (fun t9_ q9_ => XS.astore W518.here W518.hx rfl (hb hby at_322) rfl rfl (l' := #[.val (.int p0), .val (.int p1), .val (.int p2), .val (.int p3), .val (.ref ba), .val (.int pt), .val (.int pp), .val (.int x_), .val (.int y_), .val (.int kk), .val (.int ln), .val (.ref ea), .val (.ref nm), .val gv, .val (.ref e0)]) rfl q9_) ?_
    show Go p e below s Z [("com/example/claimwire/claimwire/fpml/LimitReportStatusFromTextPinLaw", 20), ("com/example/claimwire/claimwire/fpml/LimitReportStatusFromTextPinLaw", 22), ("java/lang/String", 7)] _ _ _ (T517.setTop (mkF m 324 #[.val (.int p0), .val (.int p1), .val (.int p2), .val (.int p3), .val (.ref ba), .val (.int pt), .val (.int pp), .val (.int x_), .val (.int y_), .val (.int kk), .val (.int ln), .val (.ref ea), .val (.ref nm), .val gv, .val (.ref e0)] []))
    refine Go.by (fun t9_ q9_ => XS.goto W518.here W518.hx rfl (pc0 := 324) (pc' := 348) rfl (hb hby at_324) (by decide) (by decide) q9_) ?_
    show Go p e below s Z [("com/example/claimwire/claimwire/fpml/LimitReportStatusFromTextPinLaw", 20), ("com/example/claimwire/claimwire/fpml/LimitReportStatusFromTextPinLaw", 22), ("java/lang/String", 7)] _ _ _ (T517.setTop (mkF m 348 #[.val (.int p0), .val (.int p1), .val (.int p2), .val (.int p3), .val (.ref ba), .val (.int pt), .val (.int pp), .val (.int x_), .val (.int y_), .val (.int kk), .val (.int ln), .val (.ref ea), .val (.ref nm), .val gv, .val (.ref e0)] []))
    refine Go.by (fun t9_ q9_ => XS.aload W518.here W518.hx rfl (hb hby at_348) rfl hr_gv q9_) ?_
    show Go p e below s Z [("com/example/claimwire/claimwire/fpml/LimitReportStatusFromTextPinLaw", 20), ("com/example/claimwire/claimwire/fpml/LimitReportStatusFromTextPinLaw", 22), ("java/lang/String", 7)] _ _ _ (T517.setTop (mkF m 350 #[.val (.int p0), .val (.int p1), .val (.int p2), .val (.int p3), .val (.ref ba), .val (.int pt), .val (.int pp), .val (.int x_), .val (.int y_), .val (.int kk), .val (.int ln), .val (.ref ea), .val (.ref nm), .val gv, .val (.ref e0)] [gv]))
    refine Go.by (fun t9_ q9_ => XS.aload W518.here W518.hx rfl (hb hby at_350) rfl rfl q9_) ?_
    show Go p e below s Z [("com/example/claimwire/claimwire/fpml/LimitReportStatusFromTextPinLaw", 20), ("com/example/claimwire/claimwire/fpml/LimitReportStatusFromTextPinLaw", 22), ("java/lang/String", 7)] _ _ _ (T517.setTop (mkF m 352 #[.val (.int p0), .val (.int p1), .val (.int p2), .val (.int p3), .val (.ref ba), .val (.int pt), .val (.int pp), .val (.int x_), .val (.int y_), .val (.int kk), .val (.int ln), .val (.ref ea), .val (.ref nm), .val gv, .val (.ref e0)] [(.ref e0), gv]))
    have hg : gv = Value.ref e0 := by rw [h_gv]; unfold ftF; rw [if_pos z1]
    refine Go.by (fun t9_ q9_ => acmpW W518 (g := (mkF m 352 #[.val (.int p0), .val (.int p1), .val (.int p2), .val (.int p3), .val (.ref ba), .val (.int pt), .val (.int pp), .val (.int x_), .val (.int y_), .val (.int kk), .val (.int ln), .val (.ref ea), .val (.ref nm), .val gv, .val (.ref e0)] [(.ref e0), gv])) rfl hr_gv rfl (pc0 := 352) (pc' := 355) (same := true) rfl (hb hby at_352) rfl (decide_eq_true hg) (by decide) (by decide) q9_) ?_
    show Go p e below s Z [("com/example/claimwire/claimwire/fpml/LimitReportStatusFromTextPinLaw", 20), ("com/example/claimwire/claimwire/fpml/LimitReportStatusFromTextPinLaw", 22), ("java/lang/String", 7)] _ _ _ (T517.setTop (mkF m 355 #[.val (.int p0), .val (.int p1), .val (.int p2), .val (.int p3), .val (.ref ba), .val (.int pt), .val (.int pp), .val (.int x_), .val (.int y_), .val (.int kk), .val (.int ln), .val (.ref ea), .val (.ref nm), .val gv, .val (.ref e0)] []))
    refine Go.by (fun t9_ q9_ => XS.iconst W518.here W518.hx rfl (hb hby at_355) q9_) ?_
    show Go p e below s Z [("com/example/claimwire/claimwire/fpml/LimitReportStatusFromTextPinLaw", 20), ("com/example/claimwire/claimwire/fpml/LimitReportStatusFromTextPinLaw", 22), ("java/lang/String", 7)] _ _ _ (T517.setTop (mkF m 356 #[.val (.int p0), .val (.int p1), .val (.int p2), .val (.int p3), .val (.ref ba), .val (.int pt), .val (.int pp), .val (.int x_), .val (.int y_), .val (.int kk), .val (.int ln), .val (.ref ea), .val (.ref nm), .val gv, .val (.ref e0)] [(.int (1 : Int32))]))
    refine Go.by (fun t9_ q9_ => XS.goto W518.here W518.hx rfl (pc0 := 356) (pc' := 360) rfl (hb hby at_356) (by decide) (by decide) q9_) ?_
    show Go p e below s Z [("com/example/claimwire/claimwire/fpml/LimitReportStatusFromTextPinLaw", 20), ("com/example/claimwire/claimwire/fpml/LimitReportStatusFromTextPinLaw", 22), ("java/lang/String", 7)] _ _ _ (T517.setTop (mkF m 360 #[.val (.int p0), .val (.int p1), .val (.int p2), .val (.int p3), .val (.ref ba), .val (.int pt), .val (.int pp), .val (.int x_), .val (.int y_), .val (.int kk), .val (.int ln), .val (.ref ea), .val (.ref nm), .val gv, .val (.ref e0)] [(.int (1 : Int32))]))
    exact W518.retN (z' := (1 : Int32)) (by decide) (by decide) hret (by simp) (hb hby at_360) rfl rfl
  · refine Go.by (fun t9_ q9_ => XS.ifYes W516.here W516.hx rfl (pc0 := 316) (pc' := 327) rfl (hb hby at_316) rfl ((if0 _ _).trans (teq (by rw [hq1, if_neg z1])).1) (by decide) (by decide) q9_) ?_
    show Go p e below s Z [("com/example/claimwire/claimwire/fpml/LimitReportStatusFromTextPinLaw", 20), ("com/example/claimwire/claimwire/fpml/LimitReportStatusFromTextPinLaw", 22), ("java/lang/String", 7)] _ _ _ (T515.setTop (mkF m 327 #[.val (.int p0), .val (.int p1), .val (.int p2), .val (.int p3), .val (.ref ba), .val (.int pt), .val (.int pp), .val (.int x_), .val (.int y_), .val (.int kk), .val (.int ln), .val (.ref ea), .val (.ref nm), .val gv, .unset] []))
    refine Go.by (fun t9_ q9_ => XS.aload W516.here W516.hx rfl (hb hby at_327) rfl rfl q9_) ?_
    show Go p e below s Z [("com/example/claimwire/claimwire/fpml/LimitReportStatusFromTextPinLaw", 20), ("com/example/claimwire/claimwire/fpml/LimitReportStatusFromTextPinLaw", 22), ("java/lang/String", 7)] _ _ _ (T515.setTop (mkF m 329 #[.val (.int p0), .val (.int p1), .val (.int p2), .val (.int p3), .val (.ref ba), .val (.int pt), .val (.int pp), .val (.int x_), .val (.int y_), .val (.int kk), .val (.int ln), .val (.ref ea), .val (.ref nm), .val gv, .unset] [(.ref nm)]))
    refine W516.ldcC (cs := [69, 120, 99, 101, 101, 100, 101, 100]) (wd106 hw) (k_sa hw) (List.mem_of_getElem? (i := 1) rfl) ⟨by decide +kernel, by decide +kernel⟩ (by decide) (by decide) (by decide) (hb hby at_329) (q := 32) (by decide +kernel) (by decide) (k' := 14) (n' := 161) rfl rfl (by decide) (by decide) ?_
    intro T519 h520 d2 W521 E522 S_d2 ne_d2
    show Go p e below s Z [("com/example/claimwire/claimwire/fpml/LimitReportStatusFromTextPinLaw", 20), ("com/example/claimwire/claimwire/fpml/LimitReportStatusFromTextPinLaw", 22), ("java/lang/String", 7)] _ _ _ (T519.setTop (mkF m 331 #[.val (.int p0), .val (.int p1), .val (.int p2), .val (.int p3), .val (.ref ba), .val (.int pt), .val (.int pp), .val (.int x_), .val (.int y_), .val (.int kk), .val (.int ln), .val (.ref ea), .val (.ref nm), .val gv, .unset] [(.ref d2), (.ref nm)]))
    have X523 : Ext h506 h520 := (Ext.trans' X514 E522)
    refine W521.strEq (k_eq hw) (wd2 hw) (wd105 hw) (wd97 hw) (wd99 hw) (wd98 hw) (SN.ext X523) S_d2 lcs (by decide) (SG1.ext W521.old) hG (by decide) (Wt := 0) (by decide) (by rw [hml]; rfl) (Nat.le_of_eq rfl) (by decide) (by decide) (hb hby at_331) ?_
    intro T524 q2 W525 hq2
    show Go p e below s Z [("com/example/claimwire/claimwire/fpml/LimitReportStatusFromTextPinLaw", 20), ("com/example/claimwire/claimwire/fpml/LimitReportStatusFromTextPinLaw", 22), ("java/lang/String", 7)] _ _ _ (T524.setTop (mkF m 334 #[.val (.int p0), .val (.int p1), .val (.int p2), .val (.int p3), .val (.ref ba), .val (.int pt), .val (.int pp), .val (.int x_), .val (.int y_), .val (.int kk), .val (.int ln), .val (.ref ea), .val (.ref nm), .val gv, .unset] [(.int q2)]))
    by_cases z2 : cs = [69, 120, 99, 101, 101, 100, 101, 100]
    · refine Go.by (fun t9_ q9_ => XS.ifNo W525.here W525.hx rfl (hb hby at_334) rfl ((if0 _ _).trans (feq (by rw [hq2, if_pos z2]; decide)).1) q9_) ?_
      show Go p e below s Z [("com/example/claimwire/claimwire/fpml/LimitReportStatusFromTextPinLaw", 20), ("com/example/claimwire/claimwire/fpml/LimitReportStatusFromTextPinLaw", 22), ("java/lang/String", 7)] _ _ _ (T524.setTop (mkF m 337 #[.val (.int p0), .val (.int p1), .val (.int p2), .val (.int p3), .val (.ref ba), .val (.int pt), .val (.int pp), .val (.int x_), .val (.int y_), .val (.int kk), .val (.int ln), .val (.ref ea), .val (.ref nm), .val gv, .unset] []))
      refine W525.gets (host := "") (Or.inl (wd107 hw)) Via.refl (ST1.ext W525.old) (hb hby at_337) ?_
      intro T526 W527
      show Go p e below s Z [("com/example/claimwire/claimwire/fpml/LimitReportStatusFromTextPinLaw", 20), ("com/example/claimwire/claimwire/fpml/LimitReportStatusFromTextPinLaw", 22), ("java/lang/String", 7)] _ _ _ (T526.setTop (mkF m 340 #[.val (.int p0), .val (.int p1), .val (.int p2), .val (.int p3), .val (.ref ba), .val (.int pt), .val (.int pp), .val (.int x_), .val (.int y_), .val (.int kk), .val (.int ln), .val (.ref ea), .val (.ref nm), .val gv, .unset] [(.ref e1)]))
      refine Go.by (fun t9_ q9_ => XS.astore W527.here W527.hx rfl (hb hby at_340) rfl rfl (l' := #[.val (.int p0), .val (.int p1), .val (.int p2), .val (.int p3), .val (.ref ba), .val (.int pt), .val (.int pp), .val (.int x_), .val (.int y_), .val (.int kk), .val (.int ln), .val (.ref ea), .val (.ref nm), .val gv, .val (.ref e1)]) rfl q9_) ?_
      show Go p e below s Z [("com/example/claimwire/claimwire/fpml/LimitReportStatusFromTextPinLaw", 20), ("com/example/claimwire/claimwire/fpml/LimitReportStatusFromTextPinLaw", 22), ("java/lang/String", 7)] _ _ _ (T526.setTop (mkF m 342 #[.val (.int p0), .val (.int p1), .val (.int p2), .val (.int p3), .val (.ref ba), .val (.int pt), .val (.int pp), .val (.int x_), .val (.int y_), .val (.int kk), .val (.int ln), .val (.ref ea), .val (.ref nm), .val gv, .val (.ref e1)] []))
      refine Go.by (fun t9_ q9_ => XS.goto W527.here W527.hx rfl (pc0 := 342) (pc' := 348) rfl (hb hby at_342) (by decide) (by decide) q9_) ?_
      show Go p e below s Z [("com/example/claimwire/claimwire/fpml/LimitReportStatusFromTextPinLaw", 20), ("com/example/claimwire/claimwire/fpml/LimitReportStatusFromTextPinLaw", 22), ("java/lang/String", 7)] _ _ _ (T526.setTop (mkF m 348 #[.val (.int p0), .val (.int p1), .val (.int p2), .val (.int p3), .val (.ref ba), .val (.int pt), .val (.int pp), .val (.int x_), .val (.int y_), .val (.int kk), .val (.int ln), .val (.ref ea), .val (.ref nm), .val gv, .val (.ref e1)] []))
      refine Go.by (fun t9_ q9_ => XS.aload W527.here W527.hx rfl (hb hby at_348) rfl hr_gv q9_) ?_
      show Go p e below s Z [("com/example/claimwire/claimwire/fpml/LimitReportStatusFromTextPinLaw", 20), ("com/example/claimwire/claimwire/fpml/LimitReportStatusFromTextPinLaw", 22), ("java/lang/String", 7)] _ _ _ (T526.setTop (mkF m 350 #[.val (.int p0), .val (.int p1), .val (.int p2), .val (.int p3), .val (.ref ba), .val (.int pt), .val (.int pp), .val (.int x_), .val (.int y_), .val (.int kk), .val (.int ln), .val (.ref ea), .val (.ref nm), .val gv, .val (.ref e1)] [gv]))
      refine Go.by (fun t9_ q9_ => XS.aload W527.here W527.hx rfl (hb hby at_350) rfl rfl q9_) ?_
      show Go p e below s Z [("com/example/claimwire/claimwire/fpml/LimitReportStatusFromTextPinLaw", 20), ("com/example/claimwire/claimwire/fpml/LimitReportStatusFromTextPinLaw", 22), ("java/lang/String", 7)] _ _ _ (T526.setTop (mkF m 352 #[.val (.int p0), .val (.int p1), .val (.int p2), .val (.int p3), .val (.ref ba), .val (.int pt), .val (.int pp), .val (.int x_), .val (.int y_), .val (.int kk), .val (.int ln), .val (.ref ea), .val (.ref nm), .val gv, .val (.ref e1)] [(.ref e1), gv]))
      have hg : gv = Value.ref e1 := by rw [h_gv]; unfold ftF; rw [if_neg z1, if_pos z2]
      refine Go.by (fun t9_ q9_ => acmpW W527 (g := (mkF m 352 #[.val (.int p0), .val (.int p1), .val (.int p2), .val (.int p3), .val (.ref ba), .val (.int pt), .val (.int pp), .val (.int x_), .val (.int y_), .val (.int kk), .val (.int ln), .val (.ref ea), .val (.ref nm), .val gv, .val (.ref e1)] [(.ref e1), gv])) rfl hr_gv rfl (pc0 := 352) (pc' := 355) (same := true) rfl (hb hby at_352) rfl (decide_eq_true hg) (by decide) (by decide) q9_) ?_
      show Go p e below s Z [("com/example/claimwire/claimwire/fpml/LimitReportStatusFromTextPinLaw", 20), ("com/example/claimwire/claimwire/fpml/LimitReportStatusFromTextPinLaw", 22), ("java/lang/String", 7)] _ _ _ (T526.setTop (mkF m 355 #[.val (.int p0), .val (.int p1), .val (.int p2), .val (.int p3), .val (.ref ba), .val (.int pt), .val (.int pp), .val (.int x_), .val (.int y_), .val (.int kk), .val (.int ln), .val (.ref ea), .val (.ref nm), .val gv, .val (.ref e1)] []))
      refine Go.by (fun t9_ q9_ => XS.iconst W527.here W527.hx rfl (hb hby at_355) q9_) ?_
      show Go p e below s Z [("com/example/claimwire/claimwire/fpml/LimitReportStatusFromTextPinLaw", 20), ("com/example/claimwire/claimwire/fpml/LimitReportStatusFromTextPinLaw", 22), ("java/lang/String", 7)] _ _ _ (T526.setTop (mkF m 356 #[.val (.int p0), .val (.int p1), .val (.int p2), .val (.int p3), .val (.ref ba), .val (.int pt), .val (.int pp), .val (.int x_), .val (.int y_), .val (.int kk), .val (.int ln), .val (.ref ea), .val (.ref nm), .val gv, .val (.ref e1)] [(.int (1 : Int32))]))
      refine Go.by (fun t9_ q9_ => XS.goto W527.here W527.hx rfl (pc0 := 356) (pc' := 360) rfl (hb hby at_356) (by decide) (by decide) q9_) ?_
      show Go p e below s Z [("com/example/claimwire/claimwire/fpml/LimitReportStatusFromTextPinLaw", 20), ("com/example/claimwire/claimwire/fpml/LimitReportStatusFromTextPinLaw", 22), ("java/lang/String", 7)] _ _ _ (T526.setTop (mkF m 360 #[.val (.int p0), .val (.int p1), .val (.int p2), .val (.int p3), .val (.ref ba), .val (.int pt), .val (.int pp), .val (.int x_), .val (.int y_), .val (.int kk), .val (.int ln), .val (.ref ea), .val (.ref nm), .val gv, .val (.ref e1)] [(.int (1 : Int32))]))
      exact W527.retN (z' := (1 : Int32)) (by decide) (by decide) hret (by simp) (hb hby at_360) rfl rfl
    · refine Go.by (fun t9_ q9_ => XS.ifYes W525.here W525.hx rfl (pc0 := 334) (pc' := 345) rfl (hb hby at_334) rfl ((if0 _ _).trans (teq (by rw [hq2, if_neg z2])).1) (by decide) (by decide) q9_) ?_
      show Go p e below s Z [("com/example/claimwire/claimwire/fpml/LimitReportStatusFromTextPinLaw", 20), ("com/example/claimwire/claimwire/fpml/LimitReportStatusFromTextPinLaw", 22), ("java/lang/String", 7)] _ _ _ (T524.setTop (mkF m 345 #[.val (.int p0), .val (.int p1), .val (.int p2), .val (.int p3), .val (.ref ba), .val (.int pt), .val (.int pp), .val (.int x_), .val (.int y_), .val (.int kk), .val (.int ln), .val (.ref ea), .val (.ref nm), .val gv, .unset] []))
      refine Go.by (fun t9_ q9_ => XS.aconstNull W525.here W525.hx rfl (hb hby at_345) q9_) ?_
      show Go p e below s Z [("com/example/claimwire/claimwire/fpml/LimitReportStatusFromTextPinLaw", 20), ("com/example/claimwire/claimwire/fpml/LimitReportStatusFromTextPinLaw", 22), ("java/lang/String", 7)] _ _ _ (T524.setTop (mkF m 346 #[.val (.int p0), .val (.int p1), .val (.int p2), .val (.int p3), .val (.ref ba), .val (.int pt), .val (.int pp), .val (.int x_), .val (.int y_), .val (.int kk), .val (.int ln), .val (.ref ea), .val (.ref nm), .val gv, .unset] [.null]))
      refine Go.by (fun t9_ q9_ => XS.astore W525.here W525.hx rfl (hb hby at_346) rfl rfl (l' := #[.val (.int p0), .val (.int p1), .val (.int p2), .val (.int p3), .val (.ref ba), .val (.int pt), .val (.int pp), .val (.int x_), .val (.int y_), .val (.int kk), .val (.int ln), .val (.ref ea), .val (.ref nm), .val gv, .val .null]) rfl q9_) ?_
      show Go p e below s Z [("com/example/claimwire/claimwire/fpml/LimitReportStatusFromTextPinLaw", 20), ("com/example/claimwire/claimwire/fpml/LimitReportStatusFromTextPinLaw", 22), ("java/lang/String", 7)] _ _ _ (T524.setTop (mkF m 348 #[.val (.int p0), .val (.int p1), .val (.int p2), .val (.int p3), .val (.ref ba), .val (.int pt), .val (.int pp), .val (.int x_), .val (.int y_), .val (.int kk), .val (.int ln), .val (.ref ea), .val (.ref nm), .val gv, .val .null] []))
      refine Go.by (fun t9_ q9_ => XS.aload W525.here W525.hx rfl (hb hby at_348) rfl hr_gv q9_) ?_
      show Go p e below s Z [("com/example/claimwire/claimwire/fpml/LimitReportStatusFromTextPinLaw", 20), ("com/example/claimwire/claimwire/fpml/LimitReportStatusFromTextPinLaw", 22), ("java/lang/String", 7)] _ _ _ (T524.setTop (mkF m 350 #[.val (.int p0), .val (.int p1), .val (.int p2), .val (.int p3), .val (.ref ba), .val (.int pt), .val (.int pp), .val (.int x_), .val (.int y_), .val (.int kk), .val (.int ln), .val (.ref ea), .val (.ref nm), .val gv, .val .null] [gv]))
      refine Go.by (fun t9_ q9_ => XS.aload W525.here W525.hx rfl (hb hby at_350) rfl rfl q9_) ?_
      show Go p e below s Z [("com/example/claimwire/claimwire/fpml/LimitReportStatusFromTextPinLaw", 20), ("com/example/claimwire/claimwire/fpml/LimitReportStatusFromTextPinLaw", 22), ("java/lang/String", 7)] _ _ _ (T524.setTop (mkF m 352 #[.val (.int p0), .val (.int p1), .val (.int p2), .val (.int p3), .val (.ref ba), .val (.int pt), .val (.int pp), .val (.int x_), .val (.int y_), .val (.int kk), .val (.int ln), .val (.ref ea), .val (.ref nm), .val gv, .val .null] [.null, gv]))
      have hg : gv = Value.null := by rw [h_gv]; unfold ftF; rw [if_neg z1, if_neg z2]
      refine Go.by (fun t9_ q9_ => acmpW W525 (g := (mkF m 352 #[.val (.int p0), .val (.int p1), .val (.int p2), .val (.int p3), .val (.ref ba), .val (.int pt), .val (.int pp), .val (.int x_), .val (.int y_), .val (.int kk), .val (.int ln), .val (.ref ea), .val (.ref nm), .val gv, .val .null] [.null, gv])) rfl hr_gv rfl (pc0 := 352) (pc' := 355) (same := true) rfl (hb hby at_352) rfl (decide_eq_true hg) (by decide) (by decide) q9_) ?_
      show Go p e below s Z [("com/example/claimwire/claimwire/fpml/LimitReportStatusFromTextPinLaw", 20), ("com/example/claimwire/claimwire/fpml/LimitReportStatusFromTextPinLaw", 22), ("java/lang/String", 7)] _ _ _ (T524.setTop (mkF m 355 #[.val (.int p0), .val (.int p1), .val (.int p2), .val (.int p3), .val (.ref ba), .val (.int pt), .val (.int pp), .val (.int x_), .val (.int y_), .val (.int kk), .val (.int ln), .val (.ref ea), .val (.ref nm), .val gv, .val .null] []))
      refine Go.by (fun t9_ q9_ => XS.iconst W525.here W525.hx rfl (hb hby at_355) q9_) ?_
      show Go p e below s Z [("com/example/claimwire/claimwire/fpml/LimitReportStatusFromTextPinLaw", 20), ("com/example/claimwire/claimwire/fpml/LimitReportStatusFromTextPinLaw", 22), ("java/lang/String", 7)] _ _ _ (T524.setTop (mkF m 356 #[.val (.int p0), .val (.int p1), .val (.int p2), .val (.int p3), .val (.ref ba), .val (.int pt), .val (.int pp), .val (.int x_), .val (.int y_), .val (.int kk), .val (.int ln), .val (.ref ea), .val (.ref nm), .val gv, .val .null] [(.int (1 : Int32))]))
      refine Go.by (fun t9_ q9_ => XS.goto W525.here W525.hx rfl (pc0 := 356) (pc' := 360) rfl (hb hby at_356) (by decide) (by decide) q9_) ?_
      show Go p e below s Z [("com/example/claimwire/claimwire/fpml/LimitReportStatusFromTextPinLaw", 20), ("com/example/claimwire/claimwire/fpml/LimitReportStatusFromTextPinLaw", 22), ("java/lang/String", 7)] _ _ _ (T524.setTop (mkF m 360 #[.val (.int p0), .val (.int p1), .val (.int p2), .val (.int p3), .val (.ref ba), .val (.int pt), .val (.int pp), .val (.int x_), .val (.int y_), .val (.int kk), .val (.int ln), .val (.ref ea), .val (.ref nm), .val gv, .val .null] [(.int (1 : Int32))]))
      exact W525.retN (z' := (1 : Int32)) (by decide) (by decide) hret (by simp) (hb hby at_360) rfl rfl
set_option maxRecDepth 65536 in
set_option maxHeartbeats 40000000 in
theorem comes_1 {Post : Tables → Env → Array Value → State → Outcome → State → Prop} (hpost : ∀ tb e args s v u, (limb_1_1.after args s (.returned v) u = true ∧ limb_1_2.after args s (.returned v) u = true ∧ True) → FramedW s (.returned v) u (Jvm.fieldLocs frame_1_writes args s ++ Jvm.arrayLocs frame_1_arrays args s ++ Jvm.staticLocs frame_1_statics s) 24 3264 → Post tb e args s (.returned v) u) :
    ArmFor flags0 classFile x code maxLocals ret World_1 tables_1 room_1 Calls_1 rest_1 Pre_1 Post := by
  intro l hfl _ _ p e ha hc hk s m args below hf hA hF happ hP
  obtain ⟨hcalls, hrest, hpre⟩ := hP
  obtain ⟨-, -, -, hnamed, -, -, -, hat⟩ := (Spec.applies_iff hf).mp happ
  obtain ⟨hg, hn⟩ := and_e (Cond.before_iff.mp (show (Jvm.Cond.and given_1 narrow_1).before args s = true from hpre))
  obtain ⟨h1, hg0⟩ := and_e hg
  obtain ⟨ga0, hg1⟩ := and_e hg0
  obtain ⟨ga1, hg2⟩ := and_e hg1
  obtain ⟨ga2, hg3⟩ := and_e hg2
  have ga3 := hg3
  obtain ⟨w0, w1, w2, w3, rfl⟩ : ∃ w0 w1 w2 w3 : Value, args = #[w0, w1, w2, w3] := by
    have hs : args.size = 4 := by simpa [Cond.value, given_1] using h1
    obtain ⟨L⟩ := args
    match L, hs with
    | [w0, w1, w2, w3], _ => exact ⟨w0, w1, w2, w3, rfl⟩
  have hw := fun d (hd : d ∈ tables_1) => atoms_spec (ws := Jvm.Cond.code x code maxLocals ret :: tables_1) hat d (List.mem_cons_of_mem _ hd)
  obtain ⟨hsets, hown0⟩ := atoms_of _ (rest_1_c_eq ▸ (show rest_1_c.before _ s = true from hrest))
  have hfit : Fit s := fun {y c} hc i hi => by
    obtain ⟨ha, rfl⟩ := Array.getElem?_eq_some_iff.mp hc
    have q := List.all_eq_true.mp ((Array.all_eq_true_iff_forall_mem.mp hF) _ (Array.getElem_mem ha)) i (List.mem_range.mpr hi)
    simpa [Array.getElem?_eq_getElem hi] using q
  obtain ⟨p0, ea0⟩ := is_v ga0
  obtain rfl : w0 = (.int p0) := Option.some.inj ea0
  obtain ⟨p1, ea1⟩ := is_v ga1
  obtain rfl : w1 = (.int p1) := Option.some.inj ea1
  obtain ⟨p2, ea2⟩ := is_v ga2
  obtain rfl : w2 = (.int p2) := Option.some.inj ea2
  obtain ⟨p3, ea3⟩ := is_v ga3
  obtain rfl : w3 = (.int p3) := Option.some.inj ea3
  have hcw := hsets _ (List.mem_of_getElem? (i := 2) rfl)
  have nG := not_v (Cond.before_iff.mp hcw)
  obtain ⟨G1, eG⟩ := is_v (Cond.before_iff.mp (hsets _ (List.mem_of_getElem? (i := 1) rfl)))
  have SG1 : Sta s s.heap "java/lang/String" "COMPACT_STRINGS" "Z" (.int G1) := Sta.start eG (Or.inl (hsets _ (List.mem_of_getElem? (i := 0) rfl)))
  have hG : ¬ (G1 = (0 : Int32)) := gotF (Cond.eq_ints eG (Term.int_eval (0))) nG
  obtain ⟨fm, eF, rfm⟩ := isR_v (Cond.before_iff.mp (hsets _ (List.mem_of_getElem? (i := 8) rfl)))
  have SFM : Sta s s.heap "jdk/internal/util/Preconditions" "SIOOBE_FORMATTER" "Ljava/util/function/BiFunction;" fm := Sta.start eF (Or.inl (hsets _ (List.mem_of_getElem? (i := 7) rfl)))
  obtain ⟨nc0, hx0⟩ := and_e hn
  obtain ⟨nc1, hx1⟩ := and_e hx0
  obtain ⟨nc2, hx2⟩ := and_e hx1
  obtain ⟨nc3, hx3⟩ := and_e hx2
  obtain ⟨nc4, hx4⟩ := and_e hx3
  obtain ⟨nc5, hx5⟩ := and_e hx4
  obtain ⟨nc6, hx6⟩ := and_e hx5
  obtain ⟨nc7, hx7⟩ := and_e hx6
  obtain ⟨nc8, hx8⟩ := and_e hx7
  obtain ⟨nc9, hx9⟩ := and_e hx8
  obtain ⟨nc10, hx10⟩ := and_e hx9
  obtain ⟨nc11, hx11⟩ := and_e hx10
  obtain ⟨nc12, hx12⟩ := and_e hx11
  obtain ⟨nc13, hx13⟩ := and_e hx12
  obtain ⟨nc14, hx14⟩ := and_e hx13
  obtain ⟨nc15, hx15⟩ := and_e hx14
  obtain ⟨nc16, hx16⟩ := and_e hx15
  obtain ⟨nc17, hx17⟩ := and_e hx16
  obtain ⟨nc18, hx18⟩ := and_e hx17
  obtain ⟨nc19, hx19⟩ := and_e hx18
  obtain ⟨nc20, hx20⟩ := and_e hx19
  obtain ⟨nc21, hx21⟩ := and_e hx20
  obtain ⟨nc22, hx22⟩ := and_e hx21
  obtain ⟨nc23, hx23⟩ := and_e hx22
  obtain ⟨nc24, hx24⟩ := and_e hx23
  obtain ⟨nc25, hx25⟩ := and_e hx24
  obtain ⟨nc26, hx26⟩ := and_e hx25
  obtain ⟨nc27, hx27⟩ := and_e hx26
  obtain ⟨nc28, hx28⟩ := and_e hx27
  obtain ⟨nc29, hx29⟩ := and_e hx28
  obtain ⟨nc30, hx30⟩ := and_e hx29
  obtain ⟨nc31, hx31⟩ := and_e hx30
  have nc32 := hx31
  obtain ⟨av, SV, XV, eV⟩ := sta_exa nc1 (Or.inr ⟨(wd75 hw), (wd81 hw)⟩)
  obtain ⟨e0, ST0, Xe0, ee0⟩ := sta_exa nc3 (Or.inr ⟨(wd75 hw), (wd89 hw)⟩)
  obtain ⟨e1, ST1, Xe1, ee1⟩ := sta_exa nc5 (Or.inr ⟨(wd75 hw), (wd90 hw)⟩)
  obtain ⟨kv, AV⟩ := arv_of (z := 2) (vs := [(.ref e0), (.ref e1)]) (dv := .null) hfit eV nc0 (Cond.eq_int (Cond.before_iff.mpr nc2) rfl) (by decide) (by rfl) (by simp) ⟨Cond.eq_refs (Cond.before_iff.mpr nc4) ee0 rfl, Cond.eq_refs (Cond.before_iff.mpr nc6) ee1 rfl, trivial⟩
  obtain ⟨t0, et0, S0⟩ := str_of (cs := [65, 99, 99, 101, 112, 116, 97, 98, 108, 101]) hfit nc7 nc8 nc9 nc10 (by simp) ⟨Cond.eq_int (Cond.before_iff.mpr nc15) rfl, Cond.eq_int (Cond.before_iff.mpr nc16) rfl, Cond.eq_int (Cond.before_iff.mpr nc17) rfl, Cond.eq_int (Cond.before_iff.mpr nc18) rfl, Cond.eq_int (Cond.before_iff.mpr nc19) rfl, Cond.eq_int (Cond.before_iff.mpr nc20) rfl, Cond.eq_int (Cond.before_iff.mpr nc21) rfl, Cond.eq_int (Cond.before_iff.mpr nc22) rfl, Cond.eq_int (Cond.before_iff.mpr nc23) rfl, Cond.eq_int (Cond.before_iff.mpr nc24) rfl, trivial⟩ (by decide)
  have FW0 : Fld s s.heap e0 "com/example/claimwire/claimwire/fpml/LimitReportStatus" "text" "Ljava/lang/String;" (.ref t0) := Fld.start (by rw [← fld_at ee0]; exact et0)
  obtain ⟨t1, et1, S1⟩ := str_of (cs := [69, 120, 99, 101, 101, 100, 101, 100]) hfit nc11 nc12 nc13 nc14 (by simp) ⟨Cond.eq_int (Cond.before_iff.mpr nc25) rfl, Cond.eq_int (Cond.before_iff.mpr nc26) rfl, Cond.eq_int (Cond.before_iff.mpr nc27) rfl, Cond.eq_int (Cond.before_iff.mpr nc28) rfl, Cond.eq_int (Cond.before_iff.mpr nc29) rfl, Cond.eq_int (Cond.before_iff.mpr nc30) rfl, Cond.eq_int (Cond.before_iff.mpr nc31) rfl, Cond.eq_int (Cond.before_iff.mpr nc32) rfl, trivial⟩ (by decide)
  have FW1 : Fld s s.heap e1 "com/example/claimwire/claimwire/fpml/LimitReportStatus" "text" "Ljava/lang/String;" (.ref t1) := Fld.start (by rw [← fld_at ee1]; exact et1)
  have hEL : EW s #[(.int p0), (.int p1), (.int p2), (.int p3)] [("com/example/claimwire/claimwire/fpml/LimitReportStatusFromTextPinLaw", 20), ("com/example/claimwire/claimwire/fpml/LimitReportStatusFromTextPinLaw", 22), ("java/lang/String", 7)] := (EW.cons (wd0 hw) (by decide +kernel) (EW.cons (wd106 hw) (by decide +kernel) (EW.cons (wd109 hw) (by decide +kernel) EW.nil)))
  have hCH : CHv s [("com/example/claimwire/claimwire/fpml/LimitReportStatusFromTextPinLaw", 20), ("com/example/claimwire/claimwire/fpml/LimitReportStatusFromTextPinLaw", 22), ("java/lang/String", 7)] s.vm s.heap := CHv.start hEL (fun p hp => hcalls.1 p hp) hcw (wd3 hw) (wd2 hw)
  obtain ⟨n, o, h1, h2, h3, _, L, rfl, ⟨rfl, N⟩, -, hq⟩ := c_law l s _ hw hEL s.heap (Ext.refl' _) p0 p1 p2 p3 G1 fm av e0 e1 t0 t1 kv SG1 hG SFM rfm SV AV XV FW0 FW1 S0 S1 ST0 ST1 p e ha hc hk s m _ below hf ((Spec.applies_iff_loose hf).mp happ).1 ⟨rfl, State.Warmed39.refl s, rfl, hCH, all0⟩ trivial
  exact ⟨n, _, h1, h2, h3, hpost _ _ _ _ _ _ ⟨Cond.after_iff.mpr rfl, Cond.after_iff.mpr (eq_i res_at (Term.int_eval (1)) rfl), trivial⟩ ⟨hq.1, hq.2.1, hq.2.2.1, (hq.2.2.2.sift fun y hy => Or.inr (N y hy)).mono (by decide) (by decide)⟩⟩
theorem main_1_1 : Claimed_1_1 := comes_1 fun _ _ _ _ _ _ h hF => ⟨h.1, hF⟩
theorem main_1_2 : Claimed_1_2 := comes_1 fun _ _ _ _ _ _ h hF => ⟨h.2.1, hF⟩
end Jvm.Pilot.@@N@@
namespace Jvm.Pilot.@@N@@
open Jvm Jvm.ClassFile Sem Op Lib Jvm.Free Jvm.Stand Jvm.Pilot.@@N@@.Jvm.D
/-! MADE BY PROGRAM (witnessworld.py) out of the Statement's table words and the real class files: 22 classes; the members and pool entries that the words name. The judged class is class 1, her method 3. -/
namespace start1
open Jvm.ClassFile
def u (s : String) : CpInfo := .utf8 (stringToUtf16 s)
/-- a pool by its gaps: so many unusable entries, then the entry; so many at the end -/
def gap : Nat → List CpInfo → List CpInfo
  | 0, r => r
  | n + 1, r => .unusable :: gap n r
def poolList (es : List (Nat × CpInfo)) (last : Nat) : List CpInfo := es.foldr (fun e r => gap e.1 (e.2 :: r)) (gap last [])
def pool (es : List (Nat × CpInfo)) (last : Nat) : Array CpInfo := ⟨poolList es last⟩
def fileOf (pool : Array CpInfo) (this : Nat) (attrs : Array Attribute := #[]) (ms : Array MethodInfo := #[]) (fl : Nat := 33) (sup : Nat := 0) (ifs : Array Nat := #[]) (fds : Array FieldInfo := #[]) : ClassFile where
  minorVersion := 0
  majorVersion := 65
  constantPool := pool
  accessFlags := fl
  thisClass := this
  superClass := sup
  interfaces := ifs
  fields := fds
  methods := ms
  attributes := attrs
def plain (name : String) (sup : Option ClassId) : Class where
  name := name
  kind := .ordinary
  loader := none
  accessFlags := 33
  super := sup
  interfaces := #[]
  cf := none
  fields := #[]
  methods := #[]
  instanceTypes := #[]
  staticTypes := #[]
  resolved := #[]
  callSites := []
  init := .initialized
  statics := none
  mirror := none

def pool0 : Array CpInfo := pool [(5, u "<init>"), (0, u "()V"), (1, .class_ 10), (1, u "java/lang/Object"), (85, u "clone"), (0, u "()Ljava/lang/Object;")] 26

def k0c0 : Code := { maxStack := 0, maxLocals := 1, code := object_method_1_code, exceptionTable := #[], attributes := #[] }
def k0m0 : Method := { name := "<init>", desc := "()V", sig := { parameters := [], returnType := none }, accessFlags := 1, code := some k0c0 }
def k0m1 : Method := { name := "clone", desc := "()Ljava/lang/Object;", sig := { parameters := [], returnType := some (.object "java/lang/Object") }, accessFlags := 260, code := none }
/-- java/lang/Object -/
def k0 : Class := { plain "java/lang/Object" none with
  accessFlags := 33
  interfaces := #[]
  cf := some (fileOf pool0 8 #[] #[{ accessFlags := 1, nameIndex := 5, descriptorIndex := 6, attributes := #[] }, { accessFlags := 260, nameIndex := 96, descriptorIndex := 97, attributes := #[] }] 33 0 #[] #[])
  fields := #[]
  methods := #[k0m0, k0m1]
  instanceTypes := #[]
  staticTypes := #[]
  resolved := Array.replicate 124 none
  statics := none }

def pool1 : Array CpInfo := pool [(2, .class_ 4), (1, u "java/lang/Object"), (0, u "<init>"), (0, u "()V"), (0, .methodref 8 9), (0, .class_ 10), (0, .nameAndType 11 12), (0, u "java/lang/String"), (0, u "length"), (0, u "()I"), (0, .methodref 8 14), (0, .nameAndType 15 16), (0, u "charAt"), (0, u "(I)C"), (0, .methodref 8 18), (0, .nameAndType 5 19), (0, u "([C)V"), (0, .string 21), (0, u "Acceptable"), (0, .string 23), (0, u "Exceeded"), (0, .integer 2147483647), (0, .methodref 26 27), (0, .class_ 28), (0, .nameAndType 29 30), (0, u "com/example/claimwire/claimwire/fpml/LimitReportStatusFromTextPinLaw"), (0, u "ch"), (0, u "(Ljava/lang/String;IIZCC)C"), (0, .methodref 26 32), (0, .nameAndType 33 34), (0, u "cut"), (0, u "([CI)Ljava/lang/String;"), (0, .methodref 36 37), (0, .class_ 38), (0, .nameAndType 39 40), (0, u "com/example/claimwire/claimwire/fpml/LimitReportStatus"), (0, u "fromText"), (0, u "(Ljava/lang/String;)Lcom/example/claimwire/claimwire/fpml/LimitReportStatus;"), (0, .methodref 8 42), (0, .nameAndType 43 44), (0, u "equals"), (0, u "(Ljava/lang/Object;)Z"), (0, .fieldref 36 46), (0, .nameAndType 47 48), (0, u "ACCEPTABLE"), (0, u "Lcom/example/claimwire/claimwire/fpml/LimitReportStatus;"), (0, .fieldref 36 50), (0, .nameAndType 51 48), (0, u "EXCEEDED"), (3, u "law"), (0, u "(IIII)Z")] 4

def k1m0 : Method := { name := "<init>", desc := "()V", sig := { parameters := [], returnType := none }, accessFlags := 1, code := none }
def k1c1 : Code := { maxStack := 2, maxLocals := 6, code := method_2_code, exceptionTable := #[], attributes := #[] }
def k1m1 : Method := { name := "ch", desc := "(Ljava/lang/String;IIZCC)C", sig := { parameters := [(.object "java/lang/String"), .int, .int, .boolean, .char, .char], returnType := some .char }, accessFlags := 10, code := some k1c1 }
def k1c2 : Code := { maxStack := 7, maxLocals := 2, code := method_3_code, exceptionTable := #[], attributes := #[] }
def k1m2 : Method := { name := "cut", desc := "([CI)Ljava/lang/String;", sig := { parameters := [(.array .char), .int], returnType := some (.object "java/lang/String") }, accessFlags := 10, code := some k1c2 }
def k1c3 : Code := { maxStack := 9, maxLocals := 15, code := code, exceptionTable := #[], attributes := #[] }
def k1m3 : Method := { name := "law", desc := "(IIII)Z", sig := { parameters := [.int, .int, .int, .int], returnType := some .boolean }, accessFlags := 9, code := some k1c3 }
/-- com/example/claimwire/claimwire/fpml/LimitReportStatusFromTextPinLaw -/
def k1 : Class := { plain "com/example/claimwire/claimwire/fpml/LimitReportStatusFromTextPinLaw" (some 0) with
  accessFlags := 49
  interfaces := #[]
  cf := some (fileOf pool1 26 #[] #[{ accessFlags := 1, nameIndex := 5, descriptorIndex := 6, attributes := #[] }, { accessFlags := 10, nameIndex := 29, descriptorIndex := 30, attributes := #[] }, { accessFlags := 10, nameIndex := 33, descriptorIndex := 34, attributes := #[] }, { accessFlags := 9, nameIndex := 55, descriptorIndex := 56, attributes := #[] }] 49 2 #[] #[])
  fields := #[]
  methods := #[k1m0, k1m1, k1m2, k1m3]
  instanceTypes := #[]
  staticTypes := #[]
  resolved := Array.replicate 61 none
  statics := none }

def pool2 : Array CpInfo := pool [(1, .class_ 2), (0, u "java/io/Serializable"), (0, .class_ 4), (0, u "java/lang/Object")] 2

/-- java/io/Serializable -/
def k2 : Class := { plain "java/io/Serializable" (some 0) with
  accessFlags := 1537
  interfaces := #[]
  cf := some (fileOf pool2 1 #[] #[] 1537 3 #[] #[])
  fields := #[]
  methods := #[]
  instanceTypes := #[]
  staticTypes := #[]
  resolved := Array.replicate 7 none
  statics := none }

def pool3 : Array CpInfo := pool [(1, .class_ 2), (0, u "java/lang/Comparable"), (0, .class_ 4), (0, u "java/lang/Object")] 7

/-- java/lang/Comparable -/
def k3 : Class := { plain "java/lang/Comparable" (some 0) with
  accessFlags := 1537
  interfaces := #[]
  cf := some (fileOf pool3 1 #[] #[] 1537 3 #[] #[])
  fields := #[]
  methods := #[]
  instanceTypes := #[]
  staticTypes := #[]
  resolved := Array.replicate 12 none
  statics := none }

def pool4 : Array CpInfo := pool [(2, .class_ 4), (1, u "java/lang/CharSequence"), (42, .class_ 48), (0, u "java/lang/CharSequence$1CodePointIterator"), (10, .class_ 60), (0, u "java/lang/CharSequence$1CharIterator"), (5, .class_ 67), (0, u "java/lang/Object")] 63

/-- java/lang/CharSequence -/
def k4 : Class := { plain "java/lang/CharSequence" (some 0) with
  accessFlags := 1537
  interfaces := #[]
  cf := some (fileOf pool4 2 #[.nestMembers #[47, 59]] #[] 1537 66 #[] #[])
  fields := #[]
  methods := #[]
  instanceTypes := #[]
  staticTypes := #[]
  resolved := Array.replicate 131 none
  statics := none }

def pool5 : Array CpInfo := pool [(1, .class_ 2), (0, u "java/lang/constant/Constable"), (0, .class_ 4), (0, u "java/lang/Object")] 6

/-- java/lang/constant/Constable -/
def k5 : Class := { plain "java/lang/constant/Constable" (some 0) with
  accessFlags := 1537
  interfaces := #[]
  cf := some (fileOf pool5 1 #[] #[] 1537 3 #[] #[])
  fields := #[]
  methods := #[]
  instanceTypes := #[]
  staticTypes := #[]
  resolved := Array.replicate 11 none
  statics := none }

def pool6 : Array CpInfo := pool [(1, .class_ 2), (0, u "java/lang/constant/ConstantDesc"), (0, .class_ 4), (0, u "java/lang/Object")] 32

/-- java/lang/constant/ConstantDesc -/
def k6 : Class := { plain "java/lang/constant/ConstantDesc" (some 0) with
  accessFlags := 1537
  interfaces := #[]
  cf := some (fileOf pool6 1 #[] #[] 1537 3 #[] #[])
  fields := #[]
  methods := #[]
  instanceTypes := #[]
  staticTypes := #[]
  resolved := Array.replicate 37 none
  statics := none }

def pool7 : Array CpInfo := pool [(1, .methodref 2 3), (0, .class_ 4), (0, .nameAndType 5 6), (0, u "java/lang/Object"), (0, u "<init>"), (0, u "()V"), (0, .string 8), (0, u ""), (0, .fieldref 10 11), (0, .class_ 12), (0, .nameAndType 13 14), (0, u "java/lang/String"), (0, u "value"), (0, u "[B"), (0, .fieldref 10 16), (0, .nameAndType 17 18), (0, u "coder"), (0, u "B"), (2, u "hash"), (0, u "I"), (2, u "hashIsZero"), (0, u "Z"), (0, .methodref 10 28), (0, .nameAndType 5 29), (0, u "([CIILjava/lang/Void;)V"), (8, .fieldref 10 39), (0, .nameAndType 40 26), (0, u "COMPACT_STRINGS"), (1, .class_ 44), (1, u "java/lang/StringUTF16"), (0, u "compress"), (1, .methodref 42 48), (0, .nameAndType 49 50), (0, u "coderFromArrayLen"), (0, u "([BI)B"), (56, .class_ 109), (1, u "java/lang/StringLatin1"), (32, u "()Z"), (34, .methodref 42 178), (0, .nameAndType 45 179), (0, u "([CII)[B"), (154, u "()I"), (0, .methodref 10 336), (0, .nameAndType 17 337), (0, u "()B"), (25, u "([BI)C"), (27, u "(II)V"), (35, u "(I)C"), (64, .methodref 10 493), (0, .nameAndType 494 142), (0, u "isLatin1"), (0, .methodref 107 496), (0, .nameAndType 497 363), (0, u "charAt"), (3, u "checkIndex"), (5, u "length"), (33, .methodref 107 542), (0, .nameAndType 543 544), (0, u "equals"), (0, u "([B[B)Z"), (28, u "(Ljava/lang/Object;)Z"), (1, .class_ 576), (0, u "java/lang/CharSequence"), (22, u "CASE_INSENSITIVE_ORDER"), (0, u "Ljava/util/Comparator;"), (409, u "([C)V"), (42, .fieldref 1054 1055), (0, .class_ 1056), (0, .nameAndType 1057 1058), (0, u "jdk/internal/util/Preconditions"), (0, u "SIOOBE_FORMATTER"), (0, u "Ljava/util/function/BiFunction;"), (0, .methodref 1054 1060), (0, .nameAndType 501 1061), (0, u "(IILjava/util/function/BiFunction;)I"), (39, u "serialPersistentFields"), (0, u "[Ljava/io/ObjectStreamField;"), (0, .class_ 1104), (0, u "java/lang/String$CaseInsensitiveComparator"), (1, .class_ 1107), (0, u "java/io/Serializable"), (0, .class_ 1109), (0, u "java/lang/Comparable"), (0, .class_ 1111), (0, u "java/lang/constant/Constable"), (0, .class_ 1113), (0, u "java/lang/constant/ConstantDesc"), (2, u "serialVersionUID"), (0, u "J"), (3, u "REPL"), (0, u "C"), (2, u "LATIN1"), (1, u "UTF16")] 323

def k7m0 : Method := { name := "<init>", desc := "()V", sig := { parameters := [], returnType := none }, accessFlags := 1, code := none }
def k7c1 : Code := { maxStack := 5, maxLocals := 2, code := jdk_42_method_3_code, exceptionTable := #[], attributes := #[] }
def k7m1 : Method := { name := "<init>", desc := "([C)V", sig := { parameters := [(.array .char)], returnType := none }, accessFlags := 1, code := some k7c1 }
def k7c2 : Code := { maxStack := 2, maxLocals := 1, code := jdk_42_method_54_code, exceptionTable := #[], attributes := #[] }
def k7m2 : Method := { name := "length", desc := "()I", sig := { parameters := [], returnType := some .int }, accessFlags := 1, code := some k7c2 }
def k7c3 : Code := { maxStack := 2, maxLocals := 2, code := jdk_42_method_56_code, exceptionTable := #[], attributes := #[] }
def k7m3 : Method := { name := "charAt", desc := "(I)C", sig := { parameters := [.int], returnType := some .char }, accessFlags := 1, code := some k7c3 }
def k7c4 : Code := { maxStack := 2, maxLocals := 3, code := jdk_42_method_66_code, exceptionTable := #[], attributes := #[] }
def k7m4 : Method := { name := "equals", desc := "(Ljava/lang/Object;)Z", sig := { parameters := [(.object "java/lang/Object")], returnType := some .boolean }, accessFlags := 1, code := some k7c4 }
def k7c5 : Code := { maxStack := 4, maxLocals := 6, code := jdk_42_method_149_code, exceptionTable := #[], attributes := #[] }
def k7m5 : Method := { name := "<init>", desc := "([CIILjava/lang/Void;)V", sig := { parameters := [(.array .char), .int, .int, (.object "java/lang/Void")], returnType := none }, accessFlags := 2, code := some k7c5 }
def k7c6 : Code := { maxStack := 1, maxLocals := 1, code := jdk_42_method_152_code, exceptionTable := #[], attributes := #[] }
def k7m6 : Method := { name := "coder", desc := "()B", sig := { parameters := [], returnType := some .byte }, accessFlags := 0, code := some k7c6 }
def k7c7 : Code := { maxStack := 1, maxLocals := 1, code := jdk_42_method_154_code, exceptionTable := #[], attributes := #[] }
def k7m7 : Method := { name := "isLatin1", desc := "()Z", sig := { parameters := [], returnType := some .boolean }, accessFlags := 0, code := some k7c7 }
def k7c8 : Code := { maxStack := 3, maxLocals := 2, code := jdk_42_method_155_code, exceptionTable := #[], attributes := #[] }
def k7m8 : Method := { name := "checkIndex", desc := "(II)V", sig := { parameters := [.int, .int], returnType := none }, accessFlags := 8, code := some k7c8 }
/-- java/lang/String -/
def k7 : Class := { plain "java/lang/String" (some 0) with
  accessFlags := 49
  interfaces := #[2, 3, 4, 5, 6]
  cf := some (fileOf pool7 10 #[.nestMembers #[1103]] #[{ accessFlags := 1, nameIndex := 5, descriptorIndex := 6, attributes := #[] }, { accessFlags := 1, nameIndex := 5, descriptorIndex := 1010, attributes := #[] }, { accessFlags := 1, nameIndex := 507, descriptorIndex := 334, attributes := #[] }, { accessFlags := 1, nameIndex := 497, descriptorIndex := 427, attributes := #[] }, { accessFlags := 1, nameIndex := 543, descriptorIndex := 573, attributes := #[] }, { accessFlags := 2, nameIndex := 5, descriptorIndex := 29, attributes := #[] }, { accessFlags := 0, nameIndex := 17, descriptorIndex := 337, attributes := #[] }, { accessFlags := 0, nameIndex := 494, descriptorIndex := 142, attributes := #[] }, { accessFlags := 8, nameIndex := 501, descriptorIndex := 391, attributes := #[] }] 49 2 #[1106, 1108, 575, 1110, 1112] #[{ accessFlags := 18, nameIndex := 13, descriptorIndex := 14, attributes := #[] }, { accessFlags := 18, nameIndex := 17, descriptorIndex := 18, attributes := #[] }, { accessFlags := 2, nameIndex := 21, descriptorIndex := 22, attributes := #[] }, { accessFlags := 2, nameIndex := 25, descriptorIndex := 26, attributes := #[] }, { accessFlags := 26, nameIndex := 1116, descriptorIndex := 1117, attributes := #[] }, { accessFlags := 24, nameIndex := 40, descriptorIndex := 26, attributes := #[] }, { accessFlags := 26, nameIndex := 1101, descriptorIndex := 1102, attributes := #[] }, { accessFlags := 26, nameIndex := 1121, descriptorIndex := 1122, attributes := #[] }, { accessFlags := 25, nameIndex := 599, descriptorIndex := 600, attributes := #[] }, { accessFlags := 24, nameIndex := 1125, descriptorIndex := 18, attributes := #[] }, { accessFlags := 24, nameIndex := 1127, descriptorIndex := 18, attributes := #[] }])
  fields := #[{ name := "value", type := (.array .byte), accessFlags := 18, slot := 0, constantValue := 0 }, { name := "coder", type := .byte, accessFlags := 18, slot := 1, constantValue := 0 }, { name := "hash", type := .int, accessFlags := 2, slot := 2, constantValue := 0 }, { name := "hashIsZero", type := .boolean, accessFlags := 2, slot := 3, constantValue := 0 }, { name := "serialVersionUID", type := .long, accessFlags := 26, slot := 0, constantValue := 0 }, { name := "COMPACT_STRINGS", type := .boolean, accessFlags := 24, slot := 1, constantValue := 0 }, { name := "serialPersistentFields", type := (.array (.object "java/io/ObjectStreamField")), accessFlags := 26, slot := 2, constantValue := 0 }, { name := "REPL", type := .char, accessFlags := 26, slot := 3, constantValue := 0 }, { name := "CASE_INSENSITIVE_ORDER", type := (.object "java/util/Comparator"), accessFlags := 25, slot := 4, constantValue := 0 }, { name := "LATIN1", type := .byte, accessFlags := 24, slot := 5, constantValue := 0 }, { name := "UTF16", type := .byte, accessFlags := 24, slot := 6, constantValue := 0 }]
  methods := #[k7m0, k7m1, k7m2, k7m3, k7m4, k7m5, k7m6, k7m7, k7m8]
  instanceTypes := #[(.array .byte), .byte, .int, .boolean]
  staticTypes := #[.long, .boolean, (.array (.object "java/io/ObjectStreamField")), .char, (.object "java/util/Comparator"), .byte, .byte]
  resolved := Array.replicate 1451 none
  statics := some 0 }

def pool8 : Array CpInfo := pool [(1, .class_ 2), (0, u "java/lang/String"), (1, .class_ 6), (1, u "java/lang/Object"), (0, u "<init>"), (0, u "()V"), (0, .methodref 1 10), (0, .nameAndType 11 12), (0, u "checkIndex"), (0, u "(II)V"), (1, .class_ 16), (1, u "java/lang/StringLatin1"), (36, u "([BI)C"), (67, u "$assertionsDisabled"), (0, u "Z"), (98, .class_ 223), (1, u "java/lang/StringLatin1$LinesSpliterator"), (28, u "charAt"), (28, u "equals"), (0, u "([B[B)Z"), (107, .class_ 391), (0, u "java/lang/StringLatin1$CharsSpliterator")] 3

def k8m0 : Method := { name := "<init>", desc := "()V", sig := { parameters := [], returnType := none }, accessFlags := 0, code := none }
def k8c1 : Code := { maxStack := 2, maxLocals := 2, code := jdk_43_method_2_code, exceptionTable := #[], attributes := #[] }
def k8m1 : Method := { name := "charAt", desc := "([BI)C", sig := { parameters := [(.array .byte), .int], returnType := some .char }, accessFlags := 9, code := some k8c1 }
def k8c2 : Code := { maxStack := 3, maxLocals := 3, code := jdk_43_method_13_code, exceptionTable := #[], attributes := #[] }
def k8m2 : Method := { name := "equals", desc := "([B[B)Z", sig := { parameters := [(.array .byte), (.array .byte)], returnType := some .boolean }, accessFlags := 9, code := some k8c2 }
/-- java/lang/StringLatin1 -/
def k8 : Class := { plain "java/lang/StringLatin1" (some 0) with
  accessFlags := 48
  interfaces := #[]
  cf := some (fileOf pool8 14 #[.nestMembers #[390, 221]] #[{ accessFlags := 0, nameIndex := 7, descriptorIndex := 8, attributes := #[] }, { accessFlags := 9, nameIndex := 252, descriptorIndex := 53, attributes := #[] }, { accessFlags := 9, nameIndex := 281, descriptorIndex := 282, attributes := #[] }] 48 4 #[] #[{ accessFlags := 4120, nameIndex := 121, descriptorIndex := 122, attributes := #[] }])
  fields := #[{ name := "$assertionsDisabled", type := .boolean, accessFlags := 4120, slot := 0, constantValue := 0 }]
  methods := #[k8m0, k8m1, k8m2]
  instanceTypes := #[]
  staticTypes := #[.boolean]
  resolved := Array.replicate 395 none
  statics := none }

def pool9 : Array CpInfo := pool [(2, .class_ 4), (1, u "java/lang/Object"), (0, u "<init>"), (0, u "()V"), (17, .class_ 26), (1, u "jdk/internal/util/Preconditions"), (6, u "checkIndex"), (21, .class_ 56), (0, u "jdk/internal/util/Preconditions$4"), (57, .class_ 115), (0, u "jdk/internal/util/Preconditions$1"), (7, u "SIOOBE_FORMATTER"), (0, u "Ljava/util/function/BiFunction;"), (0, .class_ 126), (0, u "jdk/internal/util/Preconditions$2"), (3, u "AIOOBE_FORMATTER"), (0, .class_ 132), (0, u "jdk/internal/util/Preconditions$3"), (3, u "IOOBE_FORMATTER"), (41, u "(IILjava/util/function/BiFunction;)I")] 15

def k9m0 : Method := { name := "<init>", desc := "()V", sig := { parameters := [], returnType := none }, accessFlags := 1, code := none }
def k9c1 : Code := { maxStack := 3, maxLocals := 3, code := jdk_41_method_11_code, exceptionTable := #[], attributes := #[] }
def k9m1 : Method := { name := "checkIndex", desc := "(IILjava/util/function/BiFunction;)I", sig := { parameters := [.int, .int, (.object "java/util/function/BiFunction")], returnType := some .int }, accessFlags := 9, code := some k9c1 }
/-- jdk/internal/util/Preconditions -/
def k9 : Class := { plain "jdk/internal/util/Preconditions" (some 0) with
  accessFlags := 33
  interfaces := #[]
  cf := some (fileOf pool9 24 #[.nestMembers #[55, 131, 125, 114]] #[{ accessFlags := 1, nameIndex := 5, descriptorIndex := 6, attributes := #[] }, { accessFlags := 9, nameIndex := 33, descriptorIndex := 178, attributes := #[] }] 33 2 #[] #[{ accessFlags := 25, nameIndex := 123, descriptorIndex := 124, attributes := #[] }, { accessFlags := 25, nameIndex := 130, descriptorIndex := 124, attributes := #[] }, { accessFlags := 25, nameIndex := 136, descriptorIndex := 124, attributes := #[] }])
  fields := #[{ name := "SIOOBE_FORMATTER", type := (.object "java/util/function/BiFunction"), accessFlags := 25, slot := 0, constantValue := 0 }, { name := "AIOOBE_FORMATTER", type := (.object "java/util/function/BiFunction"), accessFlags := 25, slot := 1, constantValue := 0 }, { name := "IOOBE_FORMATTER", type := (.object "java/util/function/BiFunction"), accessFlags := 25, slot := 2, constantValue := 0 }]
  methods := #[k9m0, k9m1]
  instanceTypes := #[]
  staticTypes := #[(.object "java/util/function/BiFunction"), (.object "java/util/function/BiFunction"), (.object "java/util/function/BiFunction")]
  resolved := Array.replicate 194 none
  statics := some 1 }

def pool10 : Array CpInfo := pool [(6, .class_ 8), (1, u "java/lang/Object"), (0, u "<init>"), (0, u "()V"), (1, .class_ 14), (1, u "java/lang/StringUTF16"), (31, u "$assertionsDisabled"), (0, u "Z"), (13, u "HI_BYTE_SHIFT"), (0, u "I"), (2, u "LO_BYTE_SHIFT"), (49, .methodref 12 116), (0, .nameAndType 117 118), (0, u "compress"), (0, u "([CI[BII)I"), (3, u "([CII)[B"), (138, u "coderFromArrayLen"), (0, u "([BI)B"), (106, .class_ 371), (1, u "java/lang/StringUTF16$LinesSpliterator"), (58, u "MAX_LENGTH"), (196, .class_ 628), (0, u "java/lang/StringUTF16$CodePointsSpliterator"), (0, .class_ 630), (0, u "java/lang/StringUTF16$CharsSpliterator")] 4

def k10m0 : Method := { name := "<init>", desc := "()V", sig := { parameters := [], returnType := none }, accessFlags := 0, code := none }
def k10c1 : Code := { maxStack := 2, maxLocals := 2, code := jdk_52_method_15_code, exceptionTable := #[], attributes := #[] }
def k10m1 : Method := { name := "coderFromArrayLen", desc := "([BI)B", sig := { parameters := [(.array .byte), .int], returnType := some .byte }, accessFlags := 8, code := some k10c1 }
def k10c2 : Code := { maxStack := 5, maxLocals := 6, code := jdk_52_method_16_code, exceptionTable := #[], attributes := #[] }
def k10m2 : Method := { name := "compress", desc := "([CII)[B", sig := { parameters := [(.array .char), .int, .int], returnType := some (.array .byte) }, accessFlags := 9, code := some k10c2 }
def k10c3 : Code := { maxStack := 3, maxLocals := 7, code := jdk_52_method_21_code, exceptionTable := #[], attributes := #[] }
def k10m3 : Method := { name := "compress", desc := "([CI[BII)I", sig := { parameters := [(.array .char), .int, (.array .byte), .int, .int], returnType := some .int }, accessFlags := 9, code := some k10c3 }
/-- java/lang/StringUTF16 -/
def k10 : Class := { plain "java/lang/StringUTF16" (some 0) with
  accessFlags := 48
  interfaces := #[]
  cf := some (fileOf pool10 12 #[.nestMembers #[627, 629, 369]] #[{ accessFlags := 0, nameIndex := 9, descriptorIndex := 10, attributes := #[] }, { accessFlags := 8, nameIndex := 261, descriptorIndex := 262, attributes := #[] }, { accessFlags := 9, nameIndex := 117, descriptorIndex := 122, attributes := #[] }, { accessFlags := 9, nameIndex := 117, descriptorIndex := 118, attributes := #[] }] 48 6 #[] #[{ accessFlags := 26, nameIndex := 61, descriptorIndex := 62, attributes := #[] }, { accessFlags := 26, nameIndex := 65, descriptorIndex := 62, attributes := #[] }, { accessFlags := 24, nameIndex := 430, descriptorIndex := 62, attributes := #[] }, { accessFlags := 4120, nameIndex := 46, descriptorIndex := 47, attributes := #[] }])
  fields := #[{ name := "HI_BYTE_SHIFT", type := .int, accessFlags := 26, slot := 0, constantValue := 0 }, { name := "LO_BYTE_SHIFT", type := .int, accessFlags := 26, slot := 1, constantValue := 0 }, { name := "MAX_LENGTH", type := .int, accessFlags := 24, slot := 2, constantValue := 0 }, { name := "$assertionsDisabled", type := .boolean, accessFlags := 4120, slot := 3, constantValue := 0 }]
  methods := #[k10m0, k10m1, k10m2, k10m3]
  instanceTypes := #[]
  staticTypes := #[.int, .int, .int, .boolean]
  resolved := Array.replicate 635 none
  statics := none }

def pool11 : Array CpInfo := pool [(2, .class_ 4), (1, u "java/lang/Enum"), (0, u "name"), (0, u "Ljava/lang/String;"), (2, u "ordinal"), (0, u "I"), (1, .class_ 14), (1, u "java/lang/Object"), (4, u "hash"), (86, .class_ 108), (1, u "java/lang/Enum$EnumDesc"), (2, .class_ 112), (0, u "java/lang/constant/Constable"), (0, .class_ 114), (0, u "java/lang/Comparable"), (0, .class_ 116), (0, u "java/io/Serializable")] 87

/-- java/lang/Enum -/
def k11 : Class := { plain "java/lang/Enum" (some 0) with
  accessFlags := 1057
  interfaces := #[5, 3, 2]
  cf := some (fileOf pool11 2 #[.nestMembers #[106]] #[] 1057 12 #[111, 113, 115] #[{ accessFlags := 18, nameIndex := 5, descriptorIndex := 6, attributes := #[] }, { accessFlags := 18, nameIndex := 9, descriptorIndex := 10, attributes := #[] }, { accessFlags := 2, nameIndex := 19, descriptorIndex := 10, attributes := #[] }])
  fields := #[{ name := "name", type := (.object "java/lang/String"), accessFlags := 18, slot := 0, constantValue := 0 }, { name := "ordinal", type := .int, accessFlags := 18, slot := 1, constantValue := 0 }, { name := "hash", type := .int, accessFlags := 2, slot := 2, constantValue := 0 }]
  methods := #[]
  instanceTypes := #[(.object "java/lang/String"), .int, .int]
  staticTypes := #[]
  resolved := Array.replicate 204 none
  statics := none }

def pool12 : Array CpInfo := pool [(1, .class_ 2), (0, u "com/example/claimwire/claimwire/fpml/LimitReportStatus"), (2, u "ACCEPTABLE"), (0, u "Lcom/example/claimwire/claimwire/fpml/LimitReportStatus;"), (2, u "EXCEEDED"), (0, .fieldref 1 11), (0, .nameAndType 12 13), (0, u "$VALUES"), (0, u "[Lcom/example/claimwire/claimwire/fpml/LimitReportStatus;"), (0, .methodref 15 16), (0, .class_ 13), (0, .nameAndType 17 18), (0, u "clone"), (0, u "()Ljava/lang/Object;"), (1, .class_ 22), (1, u "java/lang/Enum"), (6, .fieldref 1 30), (0, .nameAndType 31 32), (0, u "text"), (0, u "Ljava/lang/String;"), (0, .methodref 1 34), (0, .nameAndType 35 36), (0, u "values"), (0, u "()[Lcom/example/claimwire/claimwire/fpml/LimitReportStatus;"), (0, .methodref 38 39), (0, .class_ 40), (0, .nameAndType 41 42), (0, u "java/lang/String"), (0, u "equals"), (0, u "(Ljava/lang/Object;)Z"), (14, u "(Ljava/lang/String;)Lcom/example/claimwire/claimwire/fpml/LimitReportStatus;"), (4, u "fromText")] 6

def k12c0 : Code := { maxStack := 1, maxLocals := 0, code := prog_44_method_1_code, exceptionTable := #[], attributes := #[] }
def k12m0 : Method := { name := "values", desc := "()[Lcom/example/claimwire/claimwire/fpml/LimitReportStatus;", sig := { parameters := [], returnType := some (.array (.object "com/example/claimwire/claimwire/fpml/LimitReportStatus")) }, accessFlags := 9, code := some k12c0 }
def k12c1 : Code := { maxStack := 2, maxLocals := 5, code := prog_44_method_5_code, exceptionTable := #[], attributes := #[] }
def k12m1 : Method := { name := "fromText", desc := "(Ljava/lang/String;)Lcom/example/claimwire/claimwire/fpml/LimitReportStatus;", sig := { parameters := [(.object "java/lang/String")], returnType := some (.object "com/example/claimwire/claimwire/fpml/LimitReportStatus") }, accessFlags := 8, code := some k12c1 }
/-- com/example/claimwire/claimwire/fpml/LimitReportStatus -/
def k12 : Class := { plain "com/example/claimwire/claimwire/fpml/LimitReportStatus" (some 11) with
  accessFlags := 16433
  interfaces := #[]
  cf := some (fileOf pool12 1 #[] #[{ accessFlags := 9, nameIndex := 35, descriptorIndex := 36, attributes := #[] }, { accessFlags := 8, nameIndex := 62, descriptorIndex := 57, attributes := #[] }] 16433 20 #[] #[{ accessFlags := 16409, nameIndex := 5, descriptorIndex := 6, attributes := #[] }, { accessFlags := 16409, nameIndex := 9, descriptorIndex := 6, attributes := #[] }, { accessFlags := 18, nameIndex := 31, descriptorIndex := 32, attributes := #[] }, { accessFlags := 4122, nameIndex := 12, descriptorIndex := 13, attributes := #[] }])
  fields := #[{ name := "ACCEPTABLE", type := (.object "com/example/claimwire/claimwire/fpml/LimitReportStatus"), accessFlags := 16409, slot := 0, constantValue := 0 }, { name := "EXCEEDED", type := (.object "com/example/claimwire/claimwire/fpml/LimitReportStatus"), accessFlags := 16409, slot := 1, constantValue := 0 }, { name := "text", type := (.object "java/lang/String"), accessFlags := 18, slot := 3, constantValue := 0 }, { name := "$VALUES", type := (.array (.object "com/example/claimwire/claimwire/fpml/LimitReportStatus")), accessFlags := 4122, slot := 2, constantValue := 0 }]
  methods := #[k12m0, k12m1]
  instanceTypes := #[(.object "java/lang/String"), .int, .int, (.object "java/lang/String")]
  staticTypes := #[(.object "com/example/claimwire/claimwire/fpml/LimitReportStatus"), (.object "com/example/claimwire/claimwire/fpml/LimitReportStatus"), (.array (.object "com/example/claimwire/claimwire/fpml/LimitReportStatus"))]
  resolved := Array.replicate 69 none
  statics := some 2 }

def pool13 : Array CpInfo := pool [(1, .class_ 2), (0, u "java/lang/Cloneable"), (0, .class_ 4), (0, u "java/lang/Object")] 2

/-- java/lang/Cloneable -/
def k13 : Class := { plain "java/lang/Cloneable" (some 0) with
  accessFlags := 1537
  interfaces := #[]
  cf := some (fileOf pool13 1 #[] #[] 1537 3 #[] #[])
  fields := #[]
  methods := #[]
  instanceTypes := #[]
  staticTypes := #[]
  resolved := Array.replicate 7 none
  statics := none }

def pool14 : Array CpInfo := pool [(9, u "<init>"), (6, .class_ 18), (1, u "java/lang/Object"), (0, u "()V"), (1, .class_ 23), (1, u "jdk/internal/util/ArraysSupport"), (0, u "LOG2_ARRAY_LONG_INDEX_SCALE"), (0, u "I"), (2, u "U"), (0, u "Ljdk/internal/misc/Unsafe;"), (8, u "BIG_ENDIAN"), (0, u "Z"), (8, u "LOG2_BYTE_BIT_SIZE"), (4, u "LOG2_ARRAY_INT_INDEX_SCALE"), (54, u "JLA"), (0, u "Ljdk/internal/access/JavaLangAccess;"), (11, u "LOG2_ARRAY_BOOLEAN_INDEX_SCALE"), (9, u "LOG2_ARRAY_BYTE_INDEX_SCALE"), (5, u "LOG2_ARRAY_CHAR_INDEX_SCALE"), (5, u "LOG2_ARRAY_SHORT_INDEX_SCALE"), (18, u "LOG2_ARRAY_FLOAT_INDEX_SCALE"), (24, u "LOG2_ARRAY_DOUBLE_INDEX_SCALE"), (89, u "T_BOOLEAN"), (2, u "T_CHAR"), (1, u "T_FLOAT"), (1, u "T_DOUBLE"), (1, u "T_BYTE"), (1, u "T_SHORT"), (1, u "T_INT"), (1, u "T_LONG"), (1, u "SOFT_MAX_ARRAY_LENGTH")] 83

def k14m0 : Method := { name := "<init>", desc := "()V", sig := { parameters := [], returnType := none }, accessFlags := 2, code := none }
/-- jdk/internal/util/ArraysSupport -/
def k14 : Class := { plain "jdk/internal/util/ArraysSupport" (some 0) with
  accessFlags := 33
  interfaces := #[]
  cf := some (fileOf pool14 21 #[] #[{ accessFlags := 2, nameIndex := 9, descriptorIndex := 19, attributes := #[] }] 33 16 #[] #[{ accessFlags := 24, nameIndex := 28, descriptorIndex := 29, attributes := #[] }, { accessFlags := 26, nameIndex := 38, descriptorIndex := 39, attributes := #[] }, { accessFlags := 25, nameIndex := 121, descriptorIndex := 25, attributes := #[] }, { accessFlags := 25, nameIndex := 131, descriptorIndex := 25, attributes := #[] }, { accessFlags := 25, nameIndex := 137, descriptorIndex := 25, attributes := #[] }, { accessFlags := 25, nameIndex := 143, descriptorIndex := 25, attributes := #[] }, { accessFlags := 25, nameIndex := 53, descriptorIndex := 25, attributes := #[] }, { accessFlags := 25, nameIndex := 24, descriptorIndex := 25, attributes := #[] }, { accessFlags := 25, nameIndex := 162, descriptorIndex := 25, attributes := #[] }, { accessFlags := 25, nameIndex := 187, descriptorIndex := 25, attributes := #[] }, { accessFlags := 26, nameIndex := 48, descriptorIndex := 25, attributes := #[] }, { accessFlags := 25, nameIndex := 277, descriptorIndex := 25, attributes := #[] }, { accessFlags := 25, nameIndex := 280, descriptorIndex := 25, attributes := #[] }, { accessFlags := 25, nameIndex := 282, descriptorIndex := 25, attributes := #[] }, { accessFlags := 25, nameIndex := 284, descriptorIndex := 25, attributes := #[] }, { accessFlags := 25, nameIndex := 286, descriptorIndex := 25, attributes := #[] }, { accessFlags := 25, nameIndex := 288, descriptorIndex := 25, attributes := #[] }, { accessFlags := 25, nameIndex := 290, descriptorIndex := 25, attributes := #[] }, { accessFlags := 25, nameIndex := 292, descriptorIndex := 25, attributes := #[] }, { accessFlags := 26, nameIndex := 108, descriptorIndex := 109, attributes := #[] }, { accessFlags := 25, nameIndex := 294, descriptorIndex := 25, attributes := #[] }])
  fields := #[{ name := "U", type := (.object "jdk/internal/misc/Unsafe"), accessFlags := 24, slot := 0, constantValue := 0 }, { name := "BIG_ENDIAN", type := .boolean, accessFlags := 26, slot := 1, constantValue := 0 }, { name := "LOG2_ARRAY_BOOLEAN_INDEX_SCALE", type := .int, accessFlags := 25, slot := 2, constantValue := 0 }, { name := "LOG2_ARRAY_BYTE_INDEX_SCALE", type := .int, accessFlags := 25, slot := 3, constantValue := 0 }, { name := "LOG2_ARRAY_CHAR_INDEX_SCALE", type := .int, accessFlags := 25, slot := 4, constantValue := 0 }, { name := "LOG2_ARRAY_SHORT_INDEX_SCALE", type := .int, accessFlags := 25, slot := 5, constantValue := 0 }, { name := "LOG2_ARRAY_INT_INDEX_SCALE", type := .int, accessFlags := 25, slot := 6, constantValue := 0 }, { name := "LOG2_ARRAY_LONG_INDEX_SCALE", type := .int, accessFlags := 25, slot := 7, constantValue := 0 }, { name := "LOG2_ARRAY_FLOAT_INDEX_SCALE", type := .int, accessFlags := 25, slot := 8, constantValue := 0 }, { name := "LOG2_ARRAY_DOUBLE_INDEX_SCALE", type := .int, accessFlags := 25, slot := 9, constantValue := 0 }, { name := "LOG2_BYTE_BIT_SIZE", type := .int, accessFlags := 26, slot := 10, constantValue := 0 }, { name := "T_BOOLEAN", type := .int, accessFlags := 25, slot := 11, constantValue := 0 }, { name := "T_CHAR", type := .int, accessFlags := 25, slot := 12, constantValue := 0 }, { name := "T_FLOAT", type := .int, accessFlags := 25, slot := 13, constantValue := 0 }, { name := "T_DOUBLE", type := .int, accessFlags := 25, slot := 14, constantValue := 0 }, { name := "T_BYTE", type := .int, accessFlags := 25, slot := 15, constantValue := 0 }, { name := "T_SHORT", type := .int, accessFlags := 25, slot := 16, constantValue := 0 }, { name := "T_INT", type := .int, accessFlags := 25, slot := 17, constantValue := 0 }, { name := "T_LONG", type := .int, accessFlags := 25, slot := 18, constantValue := 0 }, { name := "JLA", type := (.object "jdk/internal/access/JavaLangAccess"), accessFlags := 26, slot := 19, constantValue := 0 }, { name := "SOFT_MAX_ARRAY_LENGTH", type := .int, accessFlags := 25, slot := 20, constantValue := 0 }]
  methods := #[k14m0]
  instanceTypes := #[]
  staticTypes := #[(.object "jdk/internal/misc/Unsafe"), .boolean, .int, .int, .int, .int, .int, .int, .int, .int, .int, .int, .int, .int, .int, .int, .int, .int, .int, (.object "jdk/internal/access/JavaLangAccess"), .int]
  resolved := Array.replicate 378 none
  statics := none }

/-- the primitive byte -/
def k15 : Class := { plain "byte" none with kind := .primitive 'B', accessFlags := 0x411 }
/-- [B -/
def k16 : Class := { plain "[B" (some 0) with kind := .array 15 .byte, interfaces := #[13, 2], accessFlags := 1041 }

/-- the primitive char -/
def k17 : Class := { plain "char" none with kind := .primitive 'C', accessFlags := 0x411 }
/-- [C -/
def k18 : Class := { plain "[C" (some 0) with kind := .array 17 .char, interfaces := #[13, 2], accessFlags := 1041 }

/-- the primitive int -/
def k19 : Class := { plain "int" none with kind := .primitive 'I', accessFlags := 0x411 }
/-- [I -/
def k20 : Class := { plain "[I" (some 0) with kind := .array 19 .int, interfaces := #[13, 2], accessFlags := 1041 }

/-- [Lcom/example/claimwire/claimwire/fpml/LimitReportStatus; -/
def k21 : Class := { plain "[Lcom/example/claimwire/claimwire/fpml/LimitReportStatus;" (some 0) with kind := .array 12 (.object "com/example/claimwire/claimwire/fpml/LimitReportStatus"), interfaces := #[13, 2], accessFlags := 1041 }

def heap : Heap := #[{ cls := 7, slots := #[.long 0, .int 1, .null, .int 0, .null, .int 0, .int 0], vm := .statics 7 },
  { cls := 9, slots := #[.null, .null, .null], vm := .statics 9 },
  { cls := 12, slots := #[.ref 4, .ref 5, .ref 3], vm := .statics 12 },
  { cls := 21, slots := #[.ref 4, .ref 5], vm := .none },
  { cls := 12, slots := #[.null, .int 0, .int 0, .ref 6], vm := .none },
  { cls := 12, slots := #[.null, .int 1, .int 0, .ref 7], vm := .none },
  { cls := 7, slots := #[.ref 8, .int 0, .int 0, .int 0], vm := .none },
  { cls := 7, slots := #[.ref 9, .int 0, .int 0, .int 0], vm := .none },
  { cls := 16, slots := #[.int 65, .int 99, .int 99, .int 101, .int 112, .int 116, .int 97, .int 98, .int 108, .int 101], vm := .none },
  { cls := 16, slots := #[.int 69, .int 120, .int 99, .int 101, .int 101, .int 100, .int 101, .int 100], vm := .none }]
def classes : Array Class := #[k0, k1, k2, k3, k4, k5, k6, k7, k8, k9, k10, k11, k12, k13, k14, k15, k16, k17, k18, k19, k20, k21]
def interned : List (Array UInt16 × Addr) := []
def slotsUsed : Nat := 49
def theMethod : MethodId := ⟨1, 3⟩
def args0 : Array Value := #[.int 3, .int 5, .int 5, .int 5]
def aboutOver (below : List Frame) : State where
  vm := { classes := classes, interned := interned.toArray }
  heap := heap
  slotsUsed := slotsUsed
  threads := #[{ frames := .invoking theMethod args0 :: below }]
def below0 : List Frame := [.native { method := ⟨0, 0⟩, args := #[] }]
def about1 : State := aboutOver below0
def p0 : Program := .bare "" "" ""
def e0 : Env := launch0.env 0 0 0
theorem w_frames : about1.frames = Frame.invoking theMethod args0 :: below0 := rfl
set_option maxRecDepth 65536 in
theorem w_args : argsFit about1.vm theMethod args0 = true := by decide +kernel
set_option maxRecDepth 65536 in
theorem w_heap : heapFits about1 = true := by decide +kernel
set_option maxRecDepth 65536 in
theorem w_runnable : about1.curStatus? = some .runnable := by decide +kernel
set_option maxRecDepth 65536 in
theorem w_alone : about1.alone = true := by decide +kernel
set_option maxRecDepth 65536 in
theorem w_named : about1.methodNamed? x = some theMethod := by decide +kernel
set_option maxRecDepth 65536 in
theorem w_hears : about1.hears theMethod below0 = true := by decide +kernel
set_option maxRecDepth 65536 in
theorem w_ripe : about1.ripe theMethod args0 below0 = true := by decide +kernel
theorem w_running : about1.status = .running := rfl
set_option maxRecDepth 65536 in
theorem w_room : about1.hasRoom e0.platform room_1 = true :=
  launch0.hasRoom_least _ room_1 (by decide +kernel) (by decide +kernel) (by decide +kernel) (by decide +kernel) (by decide +kernel) (by decide +kernel)
theorem allAtoms_all (ts : List Jvm.Cond) (a : Array Jvm.Value) (st : Jvm.State) : (allAtoms ts).before a st = ts.all (fun c => c.before a st) := by
  induction ts with
  | nil => rfl
  | cons c t ih =>
    show (Jvm.Cond.and c (allAtoms t)).before a st = _
    rw [Jvm.Cond.before_and, ih, List.all_cons]
def words1 : List Jvm.Cond := Jvm.Cond.code x code maxLocals ret :: tables_1
/-- a 'code' word, met by the world's own term for the bytes: nothing is compared byte by byte -/
theorem code_word {y : MethodName} {bytes : ByteArray} {mx : Nat} {rt : Option FieldType} {a : Array Value} {s : State} {m : MethodId} {meth : Method} {c : Code} (h1 : s.methodNamed? y = some m) (h2 : s.vm.method? m = some meth) (h3 : meth.code = some c) (h4 : c.code = bytes)
    (h5 : (c.maxLocals == mx && c.exceptionTable.isEmpty && decide (c.maxStack ≤ mostOperands) && decide (meth.sig.returnType = rt) && !meth.locks && decide (parseMethodDescriptor y.desc = some meth.sig)) = true) : (Jvm.Cond.code y bytes mx rt).before a s = true := by
  simp only [Bool.and_eq_true, beq_iff_eq, Bool.not_eq_true', decide_eq_true_eq] at h5
  obtain ⟨⟨⟨⟨⟨g1, g2⟩, g3⟩, g4⟩, g5⟩, g6⟩ := h5
  simp [Cond.before, Cond.holds, Cond.value, h1, h2, h3, h4, g1, g2, g3, g4, g5, g6]
def isCode : Jvm.Cond → Bool
  | .code _ _ _ _ => true
  | _ => false
theorem all_split {L : List Jvm.Cond} {P : Jvm.Cond → Bool} (h1 : L.all (fun c => isCode c || P c) = true) (h2 : ∀ c ∈ L.filter isCode, P c = true) : L.all P = true := by
  refine List.all_eq_true.mpr fun c hc => ?_
  have h := List.all_eq_true.mp h1 c hc
  rcases Bool.eq_false_or_eq_true (isCode c) with hi | hi
  · exact h2 c (List.mem_filter.mpr ⟨hc, hi⟩)
  · simpa [hi] using h
set_option maxRecDepth 65536 in
theorem w_c0 : (Jvm.Cond.code x code maxLocals ret).before args0 about1 = true := code_word (m := ⟨1, 3⟩) (meth := k1m3) (c := k1c3) (by decide +kernel) rfl rfl rfl (by decide +kernel)
set_option maxRecDepth 65536 in
theorem w_c1 : (Jvm.Cond.code ({ cls := "com/example/claimwire/claimwire/fpml/LimitReportStatusFromTextPinLaw", name := "ch", desc := "(Ljava/lang/String;IIZCC)C" } : Jvm.MethodName) method_2_code (6 : Nat) (Option.some Jvm.ClassFile.FieldType.char)).before args0 about1 = true := code_word (m := ⟨1, 1⟩) (meth := k1m1) (c := k1c1) (by decide +kernel) rfl rfl rfl (by decide +kernel)
set_option maxRecDepth 65536 in
theorem w_c2 : (Jvm.Cond.code ({ cls := "java/lang/String", name := "length", desc := "()I" } : Jvm.MethodName) jdk_42_method_54_code (1 : Nat) (Option.some Jvm.ClassFile.FieldType.int)).before args0 about1 = true := code_word (m := ⟨7, 2⟩) (meth := k7m2) (c := k7c2) (by decide +kernel) rfl rfl rfl (by decide +kernel)
set_option maxRecDepth 65536 in
theorem w_c3 : (Jvm.Cond.code ({ cls := "java/lang/String", name := "coder", desc := "()B" } : Jvm.MethodName) jdk_42_method_152_code (1 : Nat) (Option.some Jvm.ClassFile.FieldType.byte)).before args0 about1 = true := code_word (m := ⟨7, 6⟩) (meth := k7m6) (c := k7c6) (by decide +kernel) rfl rfl rfl (by decide +kernel)
set_option maxRecDepth 65536 in
theorem w_c4 : (Jvm.Cond.code ({ cls := "java/lang/String", name := "charAt", desc := "(I)C" } : Jvm.MethodName) jdk_42_method_56_code (2 : Nat) (Option.some Jvm.ClassFile.FieldType.char)).before args0 about1 = true := code_word (m := ⟨7, 3⟩) (meth := k7m3) (c := k7c3) (by decide +kernel) rfl rfl rfl (by decide +kernel)
set_option maxRecDepth 65536 in
theorem w_c5 : (Jvm.Cond.code ({ cls := "java/lang/String", name := "isLatin1", desc := "()Z" } : Jvm.MethodName) jdk_42_method_154_code (1 : Nat) (Option.some Jvm.ClassFile.FieldType.boolean)).before args0 about1 = true := code_word (m := ⟨7, 7⟩) (meth := k7m7) (c := k7c7) (by decide +kernel) rfl rfl rfl (by decide +kernel)
set_option maxRecDepth 65536 in
theorem w_c6 : (Jvm.Cond.code ({ cls := "java/lang/StringLatin1", name := "charAt", desc := "([BI)C" } : Jvm.MethodName) jdk_43_method_2_code (2 : Nat) (Option.some Jvm.ClassFile.FieldType.char)).before args0 about1 = true := code_word (m := ⟨8, 1⟩) (meth := k8m1) (c := k8c1) (by decide +kernel) rfl rfl rfl (by decide +kernel)
set_option maxRecDepth 65536 in
theorem w_c7 : (Jvm.Cond.code ({ cls := "java/lang/String", name := "checkIndex", desc := "(II)V" } : Jvm.MethodName) jdk_42_method_155_code (2 : Nat) (Option.none : Option Jvm.ClassFile.FieldType)).before args0 about1 = true := code_word (m := ⟨7, 8⟩) (meth := k7m8) (c := k7c8) (by decide +kernel) rfl rfl rfl (by decide +kernel)
set_option maxRecDepth 65536 in
theorem w_c8 : (Jvm.Cond.code ({ cls := "jdk/internal/util/Preconditions", name := "checkIndex", desc := "(IILjava/util/function/BiFunction;)I" } : Jvm.MethodName) jdk_41_method_11_code (3 : Nat) (Option.some Jvm.ClassFile.FieldType.int)).before args0 about1 = true := code_word (m := ⟨9, 1⟩) (meth := k9m1) (c := k9c1) (by decide +kernel) rfl rfl rfl (by decide +kernel)
set_option maxRecDepth 65536 in
theorem w_c9 : (Jvm.Cond.code ({ cls := "com/example/claimwire/claimwire/fpml/LimitReportStatusFromTextPinLaw", name := "cut", desc := "([CI)Ljava/lang/String;" } : Jvm.MethodName) method_3_code (2 : Nat) (Option.some (Jvm.ClassFile.FieldType.object "java/lang/String"))).before args0 about1 = true := code_word (m := ⟨1, 2⟩) (meth := k1m2) (c := k1c2) (by decide +kernel) rfl rfl rfl (by decide +kernel)
set_option maxRecDepth 65536 in
theorem w_c10 : (Jvm.Cond.code ({ cls := "java/lang/String", name := "<init>", desc := "([C)V" } : Jvm.MethodName) jdk_42_method_3_code (2 : Nat) (Option.none : Option Jvm.ClassFile.FieldType)).before args0 about1 = true := code_word (m := ⟨7, 1⟩) (meth := k7m1) (c := k7c1) (by decide +kernel) rfl rfl rfl (by decide +kernel)
set_option maxRecDepth 65536 in
theorem w_c11 : (Jvm.Cond.code ({ cls := "java/lang/String", name := "<init>", desc := "([CIILjava/lang/Void;)V" } : Jvm.MethodName) jdk_42_method_149_code (6 : Nat) (Option.none : Option Jvm.ClassFile.FieldType)).before args0 about1 = true := code_word (m := ⟨7, 5⟩) (meth := k7m5) (c := k7c5) (by decide +kernel) rfl rfl rfl (by decide +kernel)
set_option maxRecDepth 65536 in
theorem w_c12 : (Jvm.Cond.code ({ cls := "java/lang/Object", name := "<init>", desc := "()V" } : Jvm.MethodName) object_method_1_code (1 : Nat) (Option.none : Option Jvm.ClassFile.FieldType)).before args0 about1 = true := code_word (m := ⟨0, 0⟩) (meth := k0m0) (c := k0c0) (by decide +kernel) rfl rfl rfl (by decide +kernel)
set_option maxRecDepth 65536 in
theorem w_c13 : (Jvm.Cond.code ({ cls := "java/lang/StringUTF16", name := "compress", desc := "([CII)[B" } : Jvm.MethodName) jdk_52_method_16_code (6 : Nat) (Option.some (Jvm.ClassFile.FieldType.array Jvm.ClassFile.FieldType.byte))).before args0 about1 = true := code_word (m := ⟨10, 2⟩) (meth := k10m2) (c := k10c2) (by decide +kernel) rfl rfl rfl (by decide +kernel)
set_option maxRecDepth 65536 in
theorem w_c14 : (Jvm.Cond.code ({ cls := "java/lang/StringUTF16", name := "compress", desc := "([CI[BII)I" } : Jvm.MethodName) jdk_52_method_21_code (7 : Nat) (Option.some Jvm.ClassFile.FieldType.int)).before args0 about1 = true := code_word (m := ⟨10, 3⟩) (meth := k10m3) (c := k10c3) (by decide +kernel) rfl rfl rfl (by decide +kernel)
set_option maxRecDepth 65536 in
theorem w_c15 : (Jvm.Cond.code ({ cls := "java/lang/StringUTF16", name := "coderFromArrayLen", desc := "([BI)B" } : Jvm.MethodName) jdk_52_method_15_code (2 : Nat) (Option.some Jvm.ClassFile.FieldType.byte)).before args0 about1 = true := code_word (m := ⟨10, 1⟩) (meth := k10m1) (c := k10c1) (by decide +kernel) rfl rfl rfl (by decide +kernel)
set_option maxRecDepth 65536 in
theorem w_c16 : (Jvm.Cond.code ({ cls := "com/example/claimwire/claimwire/fpml/LimitReportStatus", name := "fromText", desc := "(Ljava/lang/String;)Lcom/example/claimwire/claimwire/fpml/LimitReportStatus;" } : Jvm.MethodName) prog_44_method_5_code (5 : Nat) (Option.some (Jvm.ClassFile.FieldType.object "com/example/claimwire/claimwire/fpml/LimitReportStatus"))).before args0 about1 = true := code_word (m := ⟨12, 1⟩) (meth := k12m1) (c := k12c1) (by decide +kernel) rfl rfl rfl (by decide +kernel)
set_option maxRecDepth 65536 in
theorem w_c17 : (Jvm.Cond.code ({ cls := "com/example/claimwire/claimwire/fpml/LimitReportStatus", name := "values", desc := "()[Lcom/example/claimwire/claimwire/fpml/LimitReportStatus;" } : Jvm.MethodName) prog_44_method_1_code (0 : Nat) (Option.some (Jvm.ClassFile.FieldType.array (Jvm.ClassFile.FieldType.object "com/example/claimwire/claimwire/fpml/LimitReportStatus")))).before args0 about1 = true := code_word (m := ⟨12, 0⟩) (meth := k12m0) (c := k12c0) (by decide +kernel) rfl rfl rfl (by decide +kernel)
set_option maxRecDepth 65536 in
theorem w_c18 : (Jvm.Cond.code ({ cls := "java/lang/String", name := "equals", desc := "(Ljava/lang/Object;)Z" } : Jvm.MethodName) jdk_42_method_66_code (3 : Nat) (Option.some Jvm.ClassFile.FieldType.boolean)).before args0 about1 = true := code_word (m := ⟨7, 4⟩) (meth := k7m4) (c := k7c4) (by decide +kernel) rfl rfl rfl (by decide +kernel)
set_option maxRecDepth 65536 in
theorem w_c19 : (Jvm.Cond.code ({ cls := "java/lang/StringLatin1", name := "equals", desc := "([B[B)Z" } : Jvm.MethodName) jdk_43_method_13_code (3 : Nat) (Option.some Jvm.ClassFile.FieldType.boolean)).before args0 about1 = true := code_word (m := ⟨8, 2⟩) (meth := k8m2) (c := k8c2) (by decide +kernel) rfl rfl rfl (by decide +kernel)
def codes1 : List Jvm.Cond := [Jvm.Cond.code x code maxLocals ret, Jvm.Cond.code ({ cls := "com/example/claimwire/claimwire/fpml/LimitReportStatusFromTextPinLaw", name := "ch", desc := "(Ljava/lang/String;IIZCC)C" } : Jvm.MethodName) method_2_code (6 : Nat) (Option.some Jvm.ClassFile.FieldType.char), Jvm.Cond.code ({ cls := "java/lang/String", name := "length", desc := "()I" } : Jvm.MethodName) jdk_42_method_54_code (1 : Nat) (Option.some Jvm.ClassFile.FieldType.int), Jvm.Cond.code ({ cls := "java/lang/String", name := "coder", desc := "()B" } : Jvm.MethodName) jdk_42_method_152_code (1 : Nat) (Option.some Jvm.ClassFile.FieldType.byte), Jvm.Cond.code ({ cls := "java/lang/String", name := "charAt", desc := "(I)C" } : Jvm.MethodName) jdk_42_method_56_code (2 : Nat) (Option.some Jvm.ClassFile.FieldType.char), Jvm.Cond.code ({ cls := "java/lang/String", name := "isLatin1", desc := "()Z" } : Jvm.MethodName) jdk_42_method_154_code (1 : Nat) (Option.some Jvm.ClassFile.FieldType.boolean), Jvm.Cond.code ({ cls := "java/lang/StringLatin1", name := "charAt", desc := "([BI)C" } : Jvm.MethodName) jdk_43_method_2_code (2 : Nat) (Option.some Jvm.ClassFile.FieldType.char), Jvm.Cond.code ({ cls := "java/lang/String", name := "checkIndex", desc := "(II)V" } : Jvm.MethodName) jdk_42_method_155_code (2 : Nat) (Option.none : Option Jvm.ClassFile.FieldType), Jvm.Cond.code ({ cls := "jdk/internal/util/Preconditions", name := "checkIndex", desc := "(IILjava/util/function/BiFunction;)I" } : Jvm.MethodName) jdk_41_method_11_code (3 : Nat) (Option.some Jvm.ClassFile.FieldType.int), Jvm.Cond.code ({ cls := "com/example/claimwire/claimwire/fpml/LimitReportStatusFromTextPinLaw", name := "cut", desc := "([CI)Ljava/lang/String;" } : Jvm.MethodName) method_3_code (2 : Nat) (Option.some (Jvm.ClassFile.FieldType.object "java/lang/String")), Jvm.Cond.code ({ cls := "java/lang/String", name := "<init>", desc := "([C)V" } : Jvm.MethodName) jdk_42_method_3_code (2 : Nat) (Option.none : Option Jvm.ClassFile.FieldType), Jvm.Cond.code ({ cls := "java/lang/String", name := "<init>", desc := "([CIILjava/lang/Void;)V" } : Jvm.MethodName) jdk_42_method_149_code (6 : Nat) (Option.none : Option Jvm.ClassFile.FieldType), Jvm.Cond.code ({ cls := "java/lang/Object", name := "<init>", desc := "()V" } : Jvm.MethodName) object_method_1_code (1 : Nat) (Option.none : Option Jvm.ClassFile.FieldType), Jvm.Cond.code ({ cls := "java/lang/StringUTF16", name := "compress", desc := "([CII)[B" } : Jvm.MethodName) jdk_52_method_16_code (6 : Nat) (Option.some (Jvm.ClassFile.FieldType.array Jvm.ClassFile.FieldType.byte)), Jvm.Cond.code ({ cls := "java/lang/StringUTF16", name := "compress", desc := "([CI[BII)I" } : Jvm.MethodName) jdk_52_method_21_code (7 : Nat) (Option.some Jvm.ClassFile.FieldType.int), Jvm.Cond.code ({ cls := "java/lang/StringUTF16", name := "coderFromArrayLen", desc := "([BI)B" } : Jvm.MethodName) jdk_52_method_15_code (2 : Nat) (Option.some Jvm.ClassFile.FieldType.byte), Jvm.Cond.code ({ cls := "com/example/claimwire/claimwire/fpml/LimitReportStatus", name := "fromText", desc := "(Ljava/lang/String;)Lcom/example/claimwire/claimwire/fpml/LimitReportStatus;" } : Jvm.MethodName) prog_44_method_5_code (5 : Nat) (Option.some (Jvm.ClassFile.FieldType.object "com/example/claimwire/claimwire/fpml/LimitReportStatus")), Jvm.Cond.code ({ cls := "com/example/claimwire/claimwire/fpml/LimitReportStatus", name := "values", desc := "()[Lcom/example/claimwire/claimwire/fpml/LimitReportStatus;" } : Jvm.MethodName) prog_44_method_1_code (0 : Nat) (Option.some (Jvm.ClassFile.FieldType.array (Jvm.ClassFile.FieldType.object "com/example/claimwire/claimwire/fpml/LimitReportStatus"))), Jvm.Cond.code ({ cls := "java/lang/String", name := "equals", desc := "(Ljava/lang/Object;)Z" } : Jvm.MethodName) jdk_42_method_66_code (3 : Nat) (Option.some Jvm.ClassFile.FieldType.boolean), Jvm.Cond.code ({ cls := "java/lang/StringLatin1", name := "equals", desc := "([B[B)Z" } : Jvm.MethodName) jdk_43_method_13_code (3 : Nat) (Option.some Jvm.ClassFile.FieldType.boolean)]
set_option maxRecDepth 65536 in
theorem codes_eq : words1.filter isCode = codes1 := rfl
theorem w_codes : ∀ c ∈ words1.filter isCode, c.before args0 about1 = true := by
  rw [codes_eq]
  intro c hc
  simp only [codes1, List.mem_cons, List.not_mem_nil, or_false] at hc
  rcases hc with rfl | rfl | rfl | rfl | rfl | rfl | rfl | rfl | rfl | rfl | rfl | rfl | rfl | rfl | rfl | rfl | rfl | rfl | rfl | rfl
  · exact w_c0
  · exact w_c1
  · exact w_c2
  · exact w_c3
  · exact w_c4
  · exact w_c5
  · exact w_c6
  · exact w_c7
  · exact w_c8
  · exact w_c9
  · exact w_c10
  · exact w_c11
  · exact w_c12
  · exact w_c13
  · exact w_c14
  · exact w_c15
  · exact w_c16
  · exact w_c17
  · exact w_c18
  · exact w_c19
set_option maxRecDepth 65536 in
theorem w_t1 : (words1.take 24).all (fun c => isCode c || c.before args0 about1) = true := by decide +kernel
set_option maxRecDepth 65536 in
theorem w_t2 : ((words1.drop 24).take 24).all (fun c => isCode c || c.before args0 about1) = true := by decide +kernel
set_option maxRecDepth 65536 in
theorem w_t3 : (((words1.drop 24).drop 24).take 24).all (fun c => isCode c || c.before args0 about1) = true := by decide +kernel
set_option maxRecDepth 65536 in
theorem w_t4 : ((((words1.drop 24).drop 24).drop 24).take 24).all (fun c => isCode c || c.before args0 about1) = true := by decide +kernel
set_option maxRecDepth 65536 in
theorem w_t5 : ((((words1.drop 24).drop 24).drop 24).drop 24).all (fun c => isCode c || c.before args0 about1) = true := by decide +kernel
theorem w_tables : (allAtoms (Jvm.Cond.code x code maxLocals ret :: tables_1)).before args0 about1 = true := by
  rw [allAtoms_all]
  show words1.all (fun c => c.before args0 about1) = true
  refine all_split ?_ w_codes
  rw [← List.take_append_drop 24 words1, List.all_append, w_t1, ← List.take_append_drop 24 (words1.drop 24), List.all_append, w_t2, ← List.take_append_drop 24 ((words1.drop 24).drop 24), List.all_append, w_t3, ← List.take_append_drop 24 (((words1.drop 24).drop 24).drop 24), List.all_append, w_t4, w_t5]
  rfl
set_option maxRecDepth 65536 in
theorem w_rest : rest_1_c.before args0 about1 = true := by decide +kernel
set_option maxRecDepth 65536 in
theorem w_case : (Jvm.Cond.and given_1 narrow_1).before args0 about1 = true := by decide +kernel
set_option maxRecDepth 65536 in
theorem w_consts : constsHeld consts_1 about1 := Jvm.Lit.constsHeldB_iff.mp (by decide +kernel)
theorem w_applies : (headSpec (Jvm.Cond.code x code maxLocals ret :: tables_1) room_1).applies x e0.platform about1 = true :=
  (Spec.applies_iff w_frames).mpr ⟨w_running, w_runnable, w_alone, w_named, w_hears, w_ripe, w_room, w_tables⟩
theorem atStart : AtStart classFile x code maxLocals ret World_1 tables_1 room_1 Calls_1 rest_1 Pre_1 launch0 p0 e0 about1 theMethod args0 below0 :=
  ⟨lists_1, trivial, launch0.admits_env _ _ _, launch0.least_env, fairChoices_fair.cas, fairChoices_fair.clock, w_frames, w_args, w_heap, w_applies, ⟨w_consts, trivial⟩, w_rest, w_case⟩
end start1
theorem witness_1 : WitnessClaimed_1 := ⟨start1.p0, start1.e0, start1.about1, start1.theMethod, start1.args0, start1.below0, start1.atStart⟩
end Jvm.Pilot.@@N@@
