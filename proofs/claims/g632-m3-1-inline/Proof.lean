import JvmDerived
import JvmDerived.Pilot.@@N@@Statement
import JvmDerived.Pilot.@@N@@Code
set_option linter.unusedVariables false
set_option linter.unusedSimpArgs false
@@BLOCK:TracedD.lean.txt@@
/- laws to paste: Road.backV (cut by pick.py; bodies as the Statement names them) -/
namespace Jvm.Pilot.@@N@@
namespace StrChars
open Jvm Sem ClassFile Op Lib Jvm.Stand Jvm.Free.XT Jvm.Free.ALB Jvm.Free.JM Jvm.Free
open Jvm.Lib.Cold (StaticIs)
/-- a char array whose places are chars -/
def Ch (a : Addr) (A : Cell) (U : State) : Prop := Arr .char a A U ∧ Typed .char A
theorem Ch.mv {a : Addr} {A : Cell} {U U' : State} (h : Ch a A U) (hal : U.vm.Alike U'.vm) (hh : U'.heap = U.heap) : Ch a A U' := ⟨h.1.mv hal hh, h.2⟩
theorem Ch.keep {a : Addr} {A : Cell} {U U' : State} (h : Ch a A U) (hal : U.vm.Alike U'.vm) (hk : U'.heap[a]? = some A) : Ch a A U' := ⟨h.1.keep hal hk, h.2⟩
/-- what place i of a char[]'s cell holds -/
def cv (A : Cell) (i : Nat) : Int32 := match A.slots[i]? with | some (.int x) => x | _ => 0
theorem Ch.get {a : Addr} {A : Cell} {U : State} (h : Ch a A U) {i : Nat} (hi : i < A.slots.size) : A.slots[i]? = some (.int (cv A i)) := by
  have e := Array.getElem?_eq_getElem hi
  have f := h.2 i _ e
  unfold cv; rw [e]
  generalize A.slots[i] = v at f
  cases v <;> simp [fits] at f ⊢
/-- the byte that i2b leaves of a char -/
def lo8 (x : Int32) : Int32 := x.toInt8.toInt32
theorem fits_lo8 (y : Int32) : fits .byte (.int (lo8 y)) = true := by
  have h1 := y.toInt8.le_toInt
  have h2 := y.toInt8.toInt_lt
  simp only [lo8, fits, Bool.and_eq_true, decide_eq_true_eq, Int32.le_iff_toInt_le, Int8.toInt_toInt32, show (-128 : Int32).toInt = -128 from by decide, show (127 : Int32).toInt = 127 from by decide]
  omega
/-- A' is A but that each place j of lo .. hi - 1 holds f j -/
def Laid (A A' : Cell) (lo hi : Nat) (f : Nat → Value) : Prop := A'.cls = A.cls ∧ A'.vm = A.vm ∧ A'.slots.size = A.slots.size ∧ ∀ i, A'.slots[i]? = if lo ≤ i ∧ i < hi then some (f i) else A.slots[i]?
theorem Laid.zero (A : Cell) (lo : Nat) (f : Nat → Value) : Laid A A lo (lo + 0) f := ⟨rfl, rfl, rfl, fun i => by rw [if_neg (by omega)]⟩
theorem Laid.step {A Ak : Cell} {lo k : Nat} {f : Nat → Value} {v : Value} (h : Laid A Ak lo k f) (hlo : lo ≤ k) (hk : k < Ak.slots.size) (hv : v = f k) : Laid A (Ak.setSlot k v) lo (k + 1) f := by
  refine ⟨h.1, h.2.1, by simpa [Cell.setSlot] using h.2.2.1, fun i => ?_⟩
  by_cases e : k = i
  · subst e; rw [Cell.slots_setSlot_self v hk, if_pos (by omega), hv]
  · rw [Cell.slots_setSlot_ne v e, h.2.2.2 i]
    by_cases q : lo ≤ i ∧ i < k
    · rw [if_pos q, if_pos (by omega)]
    · rw [if_neg q, if_neg (by omega)]
def U16 : String := "java/lang/StringUTF16"
namespace Cmp5
def yN : MethodName := ⟨"java/lang/StringUTF16", "compress", "([CI[BII)I"⟩
abbrev yB : ByteArray := jdk_52_method_21_code
theorem d0 : decode yB 0 = .ok (.iconst 0, 1) := by decide +kernel
theorem d1 : decode yB 1 = .ok (.istore 5, 2) := by decide +kernel
theorem d3 : decode yB 3 = .ok (.iload 5, 2) := by decide +kernel
theorem d5 : decode yB 5 = .ok (.iload 4, 2) := by decide +kernel
theorem d7 : decode yB 7 = .ok (.if_icmp (.ge) 37, 3) := by decide +kernel
theorem d10 : decode yB 10 = .ok (.aload_n 0, 1) := by decide +kernel
theorem d11 : decode yB 11 = .ok (.iload_n 1, 1) := by decide +kernel
theorem d12 : decode yB 12 = .ok (.caload, 1) := by decide +kernel
theorem d13 : decode yB 13 = .ok (.istore 6, 2) := by decide +kernel
theorem d15 : decode yB 15 = .ok (.iload 6, 2) := by decide +kernel
theorem d17 : decode yB 17 = .ok (.sipush 255, 3) := by decide +kernel
theorem d20 : decode yB 20 = .ok (.if_icmp (.le) 6, 3) := by decide +kernel
theorem d26 : decode yB 26 = .ok (.aload_n 2, 1) := by decide +kernel
theorem d27 : decode yB 27 = .ok (.iload_n 3, 1) := by decide +kernel
theorem d28 : decode yB 28 = .ok (.iload 6, 2) := by decide +kernel
theorem d30 : decode yB 30 = .ok (.i2b, 1) := by decide +kernel
theorem d31 : decode yB 31 = .ok (.bastore, 1) := by decide +kernel
theorem d32 : decode yB 32 = .ok (.iinc 1 1, 3) := by decide +kernel
theorem d35 : decode yB 35 = .ok (.iinc 3 1, 3) := by decide +kernel
theorem d38 : decode yB 38 = .ok (.iinc 5 1, 3) := by decide +kernel
theorem d41 : decode yB 41 = .ok (.goto (-38), 3) := by decide +kernel
theorem d44 : decode yB 44 = .ok (.iload 4, 2) := by decide +kernel
theorem d46 : decode yB 46 = .ok (.ireturn, 1) := by decide +kernel
def site : List Cond := []
def tab : Cond := tabOf yN yB 7 (some .int) site
def P (b : Addr) (A : Cell) (d : Addr) (B : Cell) (o q len : Nat) (args : Array Value) (s : State) : Prop := args = #[.ref b, .int (Int32.ofNat o), .ref d, .int (Int32.ofNat q), .int (Int32.ofNat len)] ∧ Ch b A s ∧ Arr .byte d B s ∧ b ≠ d ∧ o + len ≤ A.slots.size ∧ q + len ≤ B.slots.size ∧ ∀ i, i < len → ¬ 255 < cv A (o + i)
def E (b : Addr) (A : Cell) (d : Addr) (B : Cell) (o q len : Nat) (r : Option Value) (s u : State) : Prop := r = some (.int (Int32.ofNat len)) ∧ ∃ B', Put d B' s u ∧ Laid B B' q (q + len) (fun j => Value.int (lo8 (cv A (o + (j - q)))))
/-- no char of the range above 255: len; the places written hold each char's low byte -/
theorem law (l : Launch) (b : Addr) (A : Cell) (d : Addr) (B : Cell) (o q len : Nat) : Law l yN 5 5 0 0 yB 7 (some .int) site (P b A d B o q len) (E b A d B o q len) (copyLocs d q len) 0 0 := by
  refine Law.of_walk (plainFor_of_name (by decide +kernel)) (by decide +kernel) (by decide +kernel) (by decide) (fun _ _ h => by rw [h.1]; rfl) (fun _ U U' hal hh h => ⟨h.1, h.2.1.mv hal hh, h.2.2.1.mv hal hh, h.2.2.2⟩) (fun r U U' V V' h1 hal h2 h => ⟨h.1, h.2.elim fun B' q => ⟨B', q.1.mv h1 h2, q.2⟩⟩) ?_
  intro p e s m args below meth c s₁ X0 hexec hbytes hml hret hlk hnm hown hh0 W hP
  obtain ⟨rfl, hA, hB, hne, l1, l2, hp⟩ := hP
  have c1 : Steps p.tables e below (s₁.setTop (entryFrame m #[.ref b, .int (Int32.ofNat o), .ref d, .int (Int32.ofNat q), .int (Int32.ofNat len)] 7)) (s₁.setTop (mkF m 0 #[.val (.ref b), .val (.int (Int32.ofNat o)), .val (.ref d), .val (.int (Int32.ofNat q)), .val (.int (Int32.ofNat len)), .unset, .unset] [])) := entry rfl
  have hA0 := hA.1.mv X0.warmed.alike hh0
  have hB0 := hB.mv X0.warmed.alike hh0
  have a31 := hA.1.2.2.2
  have c2 : Steps p.tables e below (s₁.setTop (entryFrame m #[.ref b, .int (Int32.ofNat o), .ref d, .int (Int32.ofNat q), .int (Int32.ofNat len)] 7)) (s₁.setTop (mkF m 3 #[.val (.ref b), .val (.int (Int32.ofNat o)), .val (.ref d), .val (.int (Int32.ofNat q)), .val (.int (Int32.ofNat len)), .val (.int 0), .unset] [])) := c1.trans (by
    refine iconstV X0.here hexec rfl 0 (hb hbytes d0) (by decide) ?_
    refine XS.istore X0.here hexec rfl (hb hbytes d1) rfl rfl ?_
    exact Steps.refl _)
  have loop : ∀ (r i : Nat), i + r = len → ∀ (z : Slot), (z = .unset ∨ ∃ w, z = .val w ∧ w.category = 1) → ∀ (Tl : State) (Bk : Cell), Stand p l e { frames := 0, locals := 0, cells := 0, slots := 0 } s m #[.ref b, .int (Int32.ofNat o), .ref d, .int (Int32.ofNat q), .int (Int32.ofNat len)] below meth c Tl ([] ++ copyLocs d q i) 0 0 → Put d Bk s₁ Tl → Laid B Bk q (q + i) (fun j => Value.int (lo8 (cv A (o + (j - q))))) →
      Steps p.tables e below (s₁.setTop (entryFrame m #[.ref b, .int (Int32.ofNat o), .ref d, .int (Int32.ofNat q), .int (Int32.ofNat len)] 7)) (Tl.setTop (mkF m 3 #[.val (.ref b), .val (.int (Int32.ofNat (o + i))), .val (.ref d), .val (.int (Int32.ofNat (q + i))), .val (.int (Int32.ofNat len)), .val (.int (Int32.ofNat i)), z] [])) → ∃ (T' : State) (B' : Cell) (z' : Slot), Stand p l e { frames := 0, locals := 0, cells := 0, slots := 0 } s m #[.ref b, .int (Int32.ofNat o), .ref d, .int (Int32.ofNat q), .int (Int32.ofNat len)] below meth c T' ([] ++ copyLocs d q len) 0 0 ∧ Put d B' s₁ T' ∧ Laid B B' q (q + len) (fun j => Value.int (lo8 (cv A (o + (j - q))))) ∧
      Steps p.tables e below (s₁.setTop (entryFrame m #[.ref b, .int (Int32.ofNat o), .ref d, .int (Int32.ofNat q), .int (Int32.ofNat len)] 7)) (T'.setTop (mkF m 3 #[.val (.ref b), .val (.int (Int32.ofNat (o + len))), .val (.ref d), .val (.int (Int32.ofNat (q + len))), .val (.int (Int32.ofNat len)), .val (.int (Int32.ofNat len)), z'] [])) := by
    intro r
    induction r with
    | zero =>
      intro i hi z hz Tl Bk Xl pl fl cl
      have hil : i = len := by omega
      rw [hil] at Xl fl cl
      exact ⟨Tl, Bk, z, Xl, pl, fl, cl⟩
    | succ r ih =>
      intro i hi z hz Tl Bk Xl pl fl cl
      have all := X0.warmed.alike.symm.trans Xl.warmed.alike
      have hAl := hA0.keep all (pl.other hne hA0.1)
      have hBk := hB0.like all pl.1 fl.1 fl.2.1 fl.2.2.1
      have hlt : q + i < Bk.slots.size := by rw [fl.2.2.1]; omega
      have c3 : Steps p.tables e below (s₁.setTop (entryFrame m #[.ref b, .int (Int32.ofNat o), .ref d, .int (Int32.ofNat q), .int (Int32.ofNat len)] 7)) (Tl.setTop (mkF m 12 #[.val (.ref b), .val (.int (Int32.ofNat (o + i))), .val (.ref d), .val (.int (Int32.ofNat (q + i))), .val (.int (Int32.ofNat len)), .val (.int (Int32.ofNat i)), z] [.int (Int32.ofNat (o + i)), .ref b])) := cl.trans (by
        refine XS.iload Xl.here hexec rfl (hb hbytes d3) rfl ?_
        refine XS.iload Xl.here hexec rfl (hb hbytes d5) rfl ?_
        refine XS.icmpNo Xl.here hexec rfl (hb hbytes d7) rfl (ii_ge_f (lt32 (by omega) (by omega))) ?_
        refine XS.aloadN Xl.here hexec rfl (hb hbytes d10) rfl rfl ?_
        refine XS.iloadN Xl.here hexec rfl (hb hbytes d11) rfl ?_
        exact Steps.refl _)
      have c4 : Steps p.tables e below (s₁.setTop (entryFrame m #[.ref b, .int (Int32.ofNat o), .ref d, .int (Int32.ofNat q), .int (Int32.ofNat len)] 7)) (Tl.setTop (mkF m 13 #[.val (.ref b), .val (.int (Int32.ofNat (o + i))), .val (.ref d), .val (.int (Int32.ofNat (q + i))), .val (.int (Int32.ofNat len)), .val (.int (Int32.ofNat i)), z] [.int (cv A (o + i))])) := c3.trans (by
        refine Xl.aget hexec hAl rfl (hA.get (i := o + i) (by omega)) rfl rfl (hb hbytes d12) ?_
        exact Steps.refl _)
      have c5 : Steps p.tables e below (s₁.setTop (entryFrame m #[.ref b, .int (Int32.ofNat o), .ref d, .int (Int32.ofNat q), .int (Int32.ofNat len)] 7)) (Tl.setTop (mkF m 15 #[.val (.ref b), .val (.int (Int32.ofNat (o + i))), .val (.ref d), .val (.int (Int32.ofNat (q + i))), .val (.int (Int32.ofNat len)), .val (.int (Int32.ofNat i)), .val (.int (cv A (o + i)))] [])) := c4.trans (by
        refine XS.istoreS Xl.here hexec rfl (hb hbytes d13) rfl rfl hz ?_
        exact Steps.refl _)
      have c6 : Steps p.tables e below (s₁.setTop (entryFrame m #[.ref b, .int (Int32.ofNat o), .ref d, .int (Int32.ofNat q), .int (Int32.ofNat len)] 7)) (Tl.setTop (mkF m 31 #[.val (.ref b), .val (.int (Int32.ofNat (o + i))), .val (.ref d), .val (.int (Int32.ofNat (q + i))), .val (.int (Int32.ofNat len)), .val (.int (Int32.ofNat i)), .val (.int (cv A (o + i)))] [.int (lo8 (cv A (o + i))), .int (Int32.ofNat (q + i)), .ref d])) := c5.trans (by
        refine XS.iload Xl.here hexec rfl (hb hbytes d15) rfl ?_
        refine sipushV Xl.here hexec rfl 255 (hb hbytes d17) (by decide) ?_
        refine XS.icmpYes Xl.here hexec rfl (pc0 := 20) rfl (hb hbytes d20) rfl (ii_le_t (hp i (by omega))) (by decide) rfl ?_
        refine XS.aloadN Xl.here hexec rfl (hb hbytes d26) rfl rfl ?_
        refine XS.iloadN Xl.here hexec rfl (hb hbytes d27) rfl ?_
        refine XS.iload Xl.here hexec rfl (hb hbytes d28) rfl ?_
        refine i2b Xl.here hexec rfl (hb hbytes d30) rfl ?_
        exact Steps.refl _)
      obtain ⟨T7, X7, p7, st7⟩ := Xl.aput hexec hBk rfl hlt rfl (fits_lo8 (cv A (o + i))) (g := (mkF m 31 #[.val (.ref b), .val (.int (Int32.ofNat (o + i))), .val (.ref d), .val (.int (Int32.ofNat (q + i))), .val (.int (Int32.ofNat len)), .val (.int (Int32.ofNat i)), .val (.int (cv A (o + i)))] [.int (lo8 (cv A (o + i))), .int (Int32.ofNat (q + i)), .ref d])) rfl (rest := []) rfl (hb hbytes d31)
      have c8 : Steps p.tables e below (s₁.setTop (entryFrame m #[.ref b, .int (Int32.ofNat o), .ref d, .int (Int32.ofNat q), .int (Int32.ofNat len)] 7)) (T7.setTop (mkF m 32 #[.val (.ref b), .val (.int (Int32.ofNat (o + i))), .val (.ref d), .val (.int (Int32.ofNat (q + i))), .val (.int (Int32.ofNat len)), .val (.int (Int32.ofNat i)), .val (.int (cv A (o + i)))] [])) := c6.trans (st7 _ (Steps.refl _))
      have c9 : Steps p.tables e below (s₁.setTop (entryFrame m #[.ref b, .int (Int32.ofNat o), .ref d, .int (Int32.ofNat q), .int (Int32.ofNat len)] 7)) (T7.setTop (mkF m 3 #[.val (.ref b), .val (.int (Int32.ofNat (o + i) + 1)), .val (.ref d), .val (.int (Int32.ofNat (q + i) + 1)), .val (.int (Int32.ofNat len)), .val (.int (Int32.ofNat i + 1)), .val (.int (cv A (o + i)))] [])) := c8.trans (by
        refine iincV X7.here hexec rfl 1 (hb hbytes d32) (by decide) rfl rfl ?_
        refine iincV X7.here hexec rfl 1 (hb hbytes d35) (by decide) rfl rfl ?_
        refine iincV X7.here hexec rfl 1 (hb hbytes d38) (by decide) rfl rfl ?_
        refine XS.goto X7.here hexec rfl (pc0 := 41) rfl (hb hbytes d41) (by decide) rfl ?_
        exact Steps.refl _)
      have c10 : Steps p.tables e below (s₁.setTop (entryFrame m #[.ref b, .int (Int32.ofNat o), .ref d, .int (Int32.ofNat q), .int (Int32.ofNat len)] 7)) (T7.setTop (mkF m 3 #[.val (.ref b), .val (.int (Int32.ofNat (o + (i + 1)))), .val (.ref d), .val (.int (Int32.ofNat (q + (i + 1)))), .val (.int (Int32.ofNat len)), .val (.int (Int32.ofNat (i + 1))), .val (.int (cv A (o + i)))] [])) := by
        have := c9
        rw [succ32, succ32, succ32] at this
        exact this
      exact ih (i + 1) (by omega) _ (Or.inr ⟨_, rfl, rfl⟩) T7 _ (by rw [copyLocs_step, ← List.append_assoc]; exact X7) (pl.trans p7) (fl.step (by omega) hlt (by simp)) c10
  obtain ⟨T9, B9, z9, X9, p9, f9, g9⟩ := loop len 0 (by omega) .unset (Or.inl rfl) s₁ B (by simpa [copyLocs] using X0) ⟨hB0.1, fun _ _ => rfl, rfl⟩ (Laid.zero _ _ _) c2
  have c11 : Steps p.tables e below (s₁.setTop (entryFrame m #[.ref b, .int (Int32.ofNat o), .ref d, .int (Int32.ofNat q), .int (Int32.ofNat len)] 7)) (T9.setTop (mkF m 46 #[.val (.ref b), .val (.int (Int32.ofNat (o + len))), .val (.ref d), .val (.int (Int32.ofNat (q + len))), .val (.int (Int32.ofNat len)), .val (.int (Int32.ofNat len)), z9] [.int (Int32.ofNat len)])) := g9.trans (by
    refine XS.iload X9.here hexec rfl (hb hbytes d3) rfl ?_
    refine XS.iload X9.here hexec rfl (hb hbytes d5) rfl ?_
    refine XS.icmpYes X9.here hexec rfl (pc0 := 7) rfl (hb hbytes d7) rfl (ii_ge_t (nlt32 (by omega) (Nat.le_refl _))) (by decide) rfl ?_
    refine XS.iload X9.here hexec rfl (hb hbytes d44) rfl ?_
    exact Steps.refl _)
  exact ⟨T9, some (.int (Int32.ofNat len)), _, _, _, X9, by simp, rfl, rfl, (fun h => by cases h), ⟨rfl, B9, p9.from hh0, f9⟩, fun fs hl => c11.trans (X9.ireturnOut hexec hret rfl (Or.inl rfl) (hb hbytes d46) hl)⟩
end Cmp5
namespace Cmp3
def yN : MethodName := ⟨"java/lang/StringUTF16", "compress", "([CII)[B"⟩
abbrev yB : ByteArray := jdk_52_method_16_code
theorem d0 : decode yB 0 = .ok (.iload_n 2, 1) := by decide +kernel
theorem d1 : decode yB 1 = .ok (.newarray .byte, 2) := by decide +kernel
theorem d3 : decode yB 3 = .ok (.astore_n 3, 1) := by decide +kernel
theorem d4 : decode yB 4 = .ok (.aload_n 0, 1) := by decide +kernel
theorem d5 : decode yB 5 = .ok (.iload_n 1, 1) := by decide +kernel
theorem d6 : decode yB 6 = .ok (.aload_n 3, 1) := by decide +kernel
theorem d7 : decode yB 7 = .ok (.iconst 0, 1) := by decide +kernel
theorem d8 : decode yB 8 = .ok (.iload_n 2, 1) := by decide +kernel
theorem d9 : decode yB 9 = .ok (.invokestatic 115, 3) := by decide +kernel
theorem d12 : decode yB 12 = .ok (.istore 4, 2) := by decide +kernel
theorem d14 : decode yB 14 = .ok (.iload 4, 2) := by decide +kernel
theorem d16 : decode yB 16 = .ok (.iload_n 2, 1) := by decide +kernel
theorem d17 : decode yB 17 = .ok (.if_icmp (.eq) 40, 3) := by decide +kernel
theorem d57 : decode yB 57 = .ok (.aload_n 3, 1) := by decide +kernel
theorem d58 : decode yB 58 = .ok (.areturn, 1) := by decide +kernel
def site : List Cond := [.arrayClass .byte, Cmp5.tab] ++ staticW U16 115 Cmp5.yN
def tab : Cond := tabOf yN yB 6 (some (.array .byte)) site
def P (b : Addr) (A : Cell) (o len : Nat) (args : Array Value) (s : State) : Prop := args = #[.ref b, .int (Int32.ofNat o), .int (Int32.ofNat len)] ∧ Ch b A s ∧ o + len ≤ A.slots.size ∧ len ≤ 536870912 ∧ ∀ i, i < len → ¬ 255 < cv A (o + i)
def E (b : Addr) (A : Cell) (o len : Nat) (r : Option Value) (s u : State) : Prop := NewArr .byte "[B" len (fun j => .int (lo8 (cv A (o + j)))) r s u ∧ u.heap.size = s.heap.size + 1
/-- no char of the range above 255: a new byte[] of their low bytes -/
theorem law (l : Launch) (b : Addr) (A : Cell) (o len : Nat) : Law l yN 3 3 1 18 yB 6 (some (.array .byte)) site (P b A o len) (E b A o len) [] 1 len := by
  refine Law.of_walk (plainFor_of_name (by decide +kernel)) (by decide +kernel) (by decide +kernel) (by decide) (fun _ _ h => by rw [h.1]; rfl) (fun _ U U' hal hh h => ⟨h.1, h.2.1.mv hal hh, h.2.2⟩) (fun r U U' V V' h1 hal h2 h => ⟨NewArr.mv r U U' V V' h1 hal h2 h.1, by rw [h1, h2]; exact h.2⟩) ?_
  intro p e s m args below meth c s₁ X0 hexec hbytes hml hret hlk hnm hown hh0 W hP
  obtain ⟨rfl, hA, l1, l2, hp⟩ := hP
  have a31 := hA.1.2.2.2
  have c1 : Steps p.tables e below (s₁.setTop (entryFrame m #[.ref b, .int (Int32.ofNat o), .int (Int32.ofNat len)] 6)) (s₁.setTop (mkF m 0 #[.val (.ref b), .val (.int (Int32.ofNat o)), .val (.int (Int32.ofNat len)), .unset, .unset, .unset] [])) := entry rfl
  have c2 : Steps p.tables e below (s₁.setTop (entryFrame m #[.ref b, .int (Int32.ofNat o), .int (Int32.ofNat len)] 6)) (s₁.setTop (mkF m 1 #[.val (.ref b), .val (.int (Int32.ofNat o)), .val (.int (Int32.ofNat len)), .unset, .unset, .unset] [.int (Int32.ofNat len)])) := c1.trans (by
    refine XS.iloadN X0.here hexec rfl (hb hbytes d0) rfl ?_
    exact Steps.refl _)
  obtain ⟨T3, B3, X3, ba3, bs3, bv3, bh3, bf3, st3⟩ := X0.anew hexec (atype := .byte) (wk W (.arrayClass .byte)) rfl (by show len * 1 ≤ _; omega) (by omega) (g := (mkF m 1 #[.val (.ref b), .val (.int (Int32.ofNat o)), .val (.int (Int32.ofNat len)), .unset, .unset, .unset] [.int (Int32.ofNat len)])) rfl (hb hbytes d1) (rest := []) rfl (Nat.le_refl _) (by show 0 + len ≤ len; omega)
  rw [hh0] at ba3 st3
  have kp3 : XT.Kept s T3 := (XT.Kept.of_eq hh0).push bh3
  have hA3 := hA.keep X3.warmed.alike (kp3 _ _ hA.1.1)
  have hne : b ≠ s.heap.size := hA.1.ne
  have c4 : Steps p.tables e below (s₁.setTop (entryFrame m #[.ref b, .int (Int32.ofNat o), .int (Int32.ofNat len)] 6)) (T3.setTop (mkF m 3 #[.val (.ref b), .val (.int (Int32.ofNat o)), .val (.int (Int32.ofNat len)), .unset, .unset, .unset] [.ref s.heap.size])) := c2.trans (st3 _ (Steps.refl _))
  have c5 : Steps p.tables e below (s₁.setTop (entryFrame m #[.ref b, .int (Int32.ofNat o), .int (Int32.ofNat len)] 6)) (T3.setTop (mkF m 9 #[.val (.ref b), .val (.int (Int32.ofNat o)), .val (.int (Int32.ofNat len)), .val (.ref s.heap.size), .unset, .unset] [.int (Int32.ofNat len), .int 0, .ref s.heap.size, .int (Int32.ofNat o), .ref b])) := c4.trans (by
    refine XS.astoreN X3.here hexec rfl (hb hbytes d3) rfl rfl rfl ?_
    refine XS.aloadN X3.here hexec rfl (hb hbytes d4) rfl rfl ?_
    refine XS.iloadN X3.here hexec rfl (hb hbytes d5) rfl ?_
    refine XS.aloadN X3.here hexec rfl (hb hbytes d6) rfl rfl ?_
    refine iconstV X3.here hexec rfl 0 (hb hbytes d7) (by decide) ?_
    refine XS.iloadN X3.here hexec rfl (hb hbytes d8) rfl ?_
    exact Steps.refl _)
  obtain ⟨v6, T6, X6, E6, g6⟩ := X3.callS hexec (Cmp5.law l b A s.heap.size B3 o 0 len) hown (wks W (staticW U16 115 Cmp5.yN)) (wk W Cmp5.tab) (W := 0) (Nat.le_of_ble_eq_true rfl) (Nat.le_of_ble_eq_true rfl) (Nat.le_refl _) (by show 0 + len + 0 ≤ len; omega) (g := (mkF m 9 #[.val (.ref b), .val (.int (Int32.ofNat o)), .val (.int (Int32.ofNat len)), .val (.ref s.heap.size), .unset, .unset] [.int (Int32.ofNat len), .int (Int32.ofNat 0), .ref s.heap.size, .int (Int32.ofNat o), .ref b])) rfl (by rw [hml]; rfl) c5 (argsL := [.ref b, .int (Int32.ofNat o), .ref s.heap.size, .int (Int32.ofNat 0), .int (Int32.ofNat len)]) (rest := []) rfl rfl (by show 2 * 0 + 0 ≤ _; decide) (hb hbytes d9) (⟨rfl, hA3, ba3, hne, l1, by rw [bs3]; simp, hp⟩)
  obtain ⟨rfl, B6, p6, f6⟩ := E6
  have c7 : Steps p.tables e below (s₁.setTop (entryFrame m #[.ref b, .int (Int32.ofNat o), .int (Int32.ofNat len)] 6)) (T6.setTop (mkF m 12 #[.val (.ref b), .val (.int (Int32.ofNat o)), .val (.int (Int32.ofNat len)), .val (.ref s.heap.size), .unset, .unset] [.int (Int32.ofNat len)])) := g6
  have c8 : Steps p.tables e below (s₁.setTop (entryFrame m #[.ref b, .int (Int32.ofNat o), .int (Int32.ofNat len)] 6)) (T6.setTop (mkF m 58 #[.val (.ref b), .val (.int (Int32.ofNat o)), .val (.int (Int32.ofNat len)), .val (.ref s.heap.size), .val (.int (Int32.ofNat len)), .unset] [.ref s.heap.size])) := c7.trans (by
    refine XS.istore X6.here hexec rfl (hb hbytes d12) rfl rfl ?_
    refine XS.iload X6.here hexec rfl (hb hbytes d14) rfl ?_
    refine XS.iloadN X6.here hexec rfl (hb hbytes d16) rfl ?_
    refine XS.icmpYes X6.here hexec rfl (pc0 := 17) rfl (hb hbytes d17) rfl (ii_eq_t rfl) (by decide) rfl ?_
    refine XS.aloadN X6.here hexec rfl (hb hbytes d57) rfl rfl ?_
    exact Steps.refl _)
  have X8 := X6.wide (L' := []) (cells' := 1) (slots' := len) (fun x hx hlt => by
    simp only [List.nil_append, copyLocs, List.mem_map, List.mem_range] at hx
    obtain ⟨i, -, rfl⟩ := hx
    exact absurd hlt (Nat.lt_irrefl _)) (Nat.le_refl _) (by omega)
  exact ⟨T6, some (.ref s.heap.size), _, _, _, X8, rfl, rfl, rfl, (fun h => by cases h), ⟨⟨rfl, B6, ba3.like (X3.warmed.alike.symm.trans X6.warmed.alike) p6.1 f6.1 f6.2.1 f6.2.2.1, f6.2.1.trans bv3, by rw [X6.warmed.alike.findClass, f6.1]; exact bf3, by rw [f6.2.2.1, bs3]; simp, fun j hj => by rw [f6.2.2.2 j, if_pos (by omega)]; rfl, kp3.put p6 (Nat.le_refl _)⟩, by rw [p6.2.2, bh3, hh0]; simp⟩, fun fs hl => c8.trans (X8.areturnOut hexec rfl hret rfl (hb hbytes d58) hl)⟩
end Cmp3
namespace CodL
def yN : MethodName := ⟨"java/lang/StringUTF16", "coderFromArrayLen", "([BI)B"⟩
abbrev yB : ByteArray := jdk_52_method_15_code
theorem d0 : decode yB 0 = .ok (.iload_n 1, 1) := by decide +kernel
theorem d1 : decode yB 1 = .ok (.aload_n 0, 1) := by decide +kernel
theorem d2 : decode yB 2 = .ok (.arraylength, 1) := by decide +kernel
theorem d3 : decode yB 3 = .ok (.isub, 1) := by decide +kernel
theorem d4 : decode yB 4 = .ok (.bipush 31, 2) := by decide +kernel
theorem d6 : decode yB 6 = .ok (.iushr, 1) := by decide +kernel
theorem d7 : decode yB 7 = .ok (.i2b, 1) := by decide +kernel
theorem d8 : decode yB 8 = .ok (.ireturn, 1) := by decide +kernel
def site : List Cond := []
def tab : Cond := tabOf yN yB 2 (some .byte) site
def P (d : Addr) (B : Cell) (args : Array Value) (s : State) : Prop := args = #[.ref d, .int (Int32.ofNat B.slots.size)] ∧ Arr .byte d B s
def E (r : Option Value) (s u : State) : Prop := XT.PureE (some (.int 0)) r s u
/-- an array as long as the number of chars: LATIN1 -/
theorem law (l : Launch) (d : Addr) (B : Cell) : Law l yN 2 2 0 0 yB 2 (some .byte) site (P d B) E [] 0 0 := by
  refine Law.of_walk (plainFor_of_name (by decide +kernel)) (by decide +kernel) (by decide +kernel) (by decide) (fun _ _ h => by rw [h.1]; rfl) (fun _ U U' hal hh h => ⟨h.1, h.2.mv hal hh⟩) (fun r U U' V V' h1 hal h2 h => XT.PureE.mv r U U' V V' h1 hal h2 h) ?_
  intro p e s m args below meth c s₁ X0 hexec hbytes hml hret hlk hnm hown hh0 W hP
  obtain ⟨rfl, hB⟩ := hP
  have hB0 := hB.mv X0.warmed.alike hh0
  have c1 : Steps p.tables e below (s₁.setTop (entryFrame m #[.ref d, .int (Int32.ofNat B.slots.size)] 2)) (s₁.setTop (mkF m 0 #[.val (.ref d), .val (.int (Int32.ofNat B.slots.size))] [])) := entry rfl
  have c2 : Steps p.tables e below (s₁.setTop (entryFrame m #[.ref d, .int (Int32.ofNat B.slots.size)] 2)) (s₁.setTop (mkF m 2 #[.val (.ref d), .val (.int (Int32.ofNat B.slots.size))] [.ref d, .int (Int32.ofNat B.slots.size)])) := c1.trans (by
    refine XS.iloadN X0.here hexec rfl (hb hbytes d0) rfl ?_
    refine XS.aloadN X0.here hexec rfl (hb hbytes d1) rfl rfl ?_
    exact Steps.refl _)
  have c3 : Steps p.tables e below (s₁.setTop (entryFrame m #[.ref d, .int (Int32.ofNat B.slots.size)] 2)) (s₁.setTop (mkF m 8 #[.val (.ref d), .val (.int (Int32.ofNat B.slots.size))] [.int (lo8 (ushr (Int32.ofNat B.slots.size - Int32.ofNat B.slots.size) 31))])) := c2.trans (by
    refine X0.alen hexec hB0 rfl rfl (hb hbytes d2) ?_
    refine XS.isub X0.here hexec rfl (hb hbytes d3) rfl ?_
    refine bipushV X0.here hexec rfl 31 (hb hbytes d4) (by decide) ?_
    refine iushr X0.here hexec rfl (hb hbytes d6) rfl ?_
    refine i2b X0.here hexec rfl (hb hbytes d7) rfl ?_
    exact Steps.refl _)
  have e0 : lo8 (ushr (Int32.ofNat B.slots.size - Int32.ofNat B.slots.size) 31) = 0 := by rw [Int32.sub_self]; decide
  rw [e0] at c3
  exact ⟨s₁, some (.int 0), _, _, _, X0, rfl, rfl, rfl, (fun h => by cases h), ⟨rfl, hh0⟩, fun fs hl => c3.trans (X0.ireturnOut hexec hret rfl (Or.inr (Or.inr (Or.inl rfl))) (hb hbytes d8) hl)⟩
end CodL
/-- the String at a is Latin-1 over a new byte[] (the heap's one new cell): the low bytes of the len chars of A from o on; every cell but a is kept -/
def Got (a : Addr) (D : Cell) (fV fC : Field) (A : Cell) (o len : Nat) (r : Option Value) (s u : State) : Prop := r = none ∧ ∃ D' V : Cell, Blank "java/lang/String" a D' u ∧ Same D D' [fV.slot, fC.slot] ∧ D'.slots[fV.slot]? = some (.ref s.heap.size) ∧ D'.slots[fC.slot]? = some (.int 0) ∧ Arr .byte s.heap.size V u ∧ V.vm = .none ∧ u.vm.findClass "[B" = some V.cls ∧ V.slots.size = len ∧ (∀ j, j < len → V.slots[j]? = some (.int (lo8 (cv A (o + j))))) ∧ (∀ (y : Addr) (c : Cell), y ≠ a → s.heap[y]? = some c → u.heap[y]? = some c) ∧ u.heap.size = s.heap.size + 1
theorem Got.mv {a : Addr} {D A : Cell} {fV fC : Field} {o len : Nat} : ∀ r (U U' V V' : State), U'.heap = U.heap → V.vm.Alike V'.vm → V'.heap = V.heap → Got a D fV fC A o len r U V → Got a D fV fC A o len r U' V' :=
  fun r U U' V V' h1 hal h2 ⟨e0, D', X, a1, a2, a3, a4, a5, a6, a7, a8, a9, a10, a11⟩ => ⟨e0, D', X, a1.mv hal h2, a2, by rw [h1]; exact a3, a4, by rw [h1]; exact a5.mv hal h2, a6, by rw [hal.findClass]; exact a7, a8, a9, by rw [h1, h2]; exact a10, by rw [h1, h2]; exact a11⟩
namespace New4
def yN : MethodName := ⟨"java/lang/String", "<init>", "([CIILjava/lang/Void;)V"⟩
abbrev yB : ByteArray := jdk_42_method_149_code
theorem d0 : decode yB 0 = .ok (.aload_n 0, 1) := by decide +kernel
theorem d1 : decode yB 1 = .ok (.invokespecial 1, 3) := by decide +kernel
theorem d4 : decode yB 4 = .ok (.iload_n 3, 1) := by decide +kernel
theorem d5 : decode yB 5 = .ok (.ifCond (.ne) 22, 3) := by decide +kernel
theorem d27 : decode yB 27 = .ok (.getstatic 38, 3) := by decide +kernel
theorem d30 : decode yB 30 = .ok (.ifCond (.eq) 28, 3) := by decide +kernel
theorem d33 : decode yB 33 = .ok (.aload_n 1, 1) := by decide +kernel
theorem d34 : decode yB 34 = .ok (.iload_n 2, 1) := by decide +kernel
theorem d35 : decode yB 35 = .ok (.iload_n 3, 1) := by decide +kernel
theorem d36 : decode yB 36 = .ok (.invokestatic 177, 3) := by decide +kernel
theorem d39 : decode yB 39 = .ok (.astore 5, 2) := by decide +kernel
theorem d41 : decode yB 41 = .ok (.aload_n 0, 1) := by decide +kernel
theorem d42 : decode yB 42 = .ok (.aload 5, 2) := by decide +kernel
theorem d44 : decode yB 44 = .ok (.iload_n 3, 1) := by decide +kernel
theorem d45 : decode yB 45 = .ok (.invokestatic 47, 3) := by decide +kernel
theorem d48 : decode yB 48 = .ok (.putfield 15, 3) := by decide +kernel
theorem d51 : decode yB 51 = .ok (.aload_n 0, 1) := by decide +kernel
theorem d52 : decode yB 52 = .ok (.aload 5, 2) := by decide +kernel
theorem d54 : decode yB 54 = .ok (.putfield 9, 3) := by decide +kernel
theorem d57 : decode yB 57 = .ok (.return_, 1) := by decide +kernel
def site : List Cond := [.fieldLink "java/lang/String" 38 "java/lang/String" "COMPACT_STRINGS" "Z", Cmp3.tab, CodL.tab, .laysFinal "java/lang/String" "java/lang/String" "value" "[B", .fieldLink "java/lang/String" 9 "java/lang/String" "value" "[B", .laysFinal "java/lang/String" "java/lang/String" "coder" "B", .fieldLink "java/lang/String" 15 "java/lang/String" "coder" "B"] ++ objW "java/lang/String" 1 ++ staticW "java/lang/String" 177 Cmp3.yN ++ staticW "java/lang/String" 47 CodL.yN
def tab : Cond := tabOf yN yB 6 none site
def P (a : Addr) (D : Cell) (fV fC : Field) (b : Addr) (A : Cell) (z : Int32) (o len : Nat) (args : Array Value) (s : State) : Prop := args = #[.ref a, .ref b, .int (Int32.ofNat o), .int (Int32.ofNat len), .null] ∧ Blank "java/lang/String" a D s ∧ Found "java/lang/String" "value" "[B" fV s ∧ Found "java/lang/String" "coder" "B" fC s ∧ Ch b A s ∧ StaticIs s "java/lang/String" "COMPACT_STRINGS" "Z" (.int z) ∧ ¬ z = 0 ∧ 0 < len ∧ o + len ≤ A.slots.size ∧ len ≤ 536870912 ∧ ∀ i, i < len → ¬ 255 < cv A (o + i)
def E (a : Addr) (D : Cell) (fV fC : Field) (A : Cell) (o len : Nat) (r : Option Value) (s u : State) : Prop := Got a D fV fC A o len r s u
/-- len > 0, no char of the range above 255: a Latin-1 String of their low bytes -/
theorem law (l : Launch) (a : Addr) (D : Cell) (fV fC : Field) (b : Addr) (A : Cell) (z : Int32) (o len : Nat) : Law l yN 5 4 2 35 yB 6 none site (P a D fV fC b A z o len) (E a D fV fC A o len) [⟨a, fC.slot⟩, ⟨a, fV.slot⟩] 1 len := by
  refine Law.of_walk (plainFor_of_name (by decide +kernel)) (by decide +kernel) (by decide +kernel) (by decide) (fun _ _ h => by rw [h.1]; rfl) (fun _ U U' hal hh h => ⟨h.1, h.2.1.mv hal hh, h.2.2.1.al hal, h.2.2.2.1.al hal, h.2.2.2.2.1.mv hal hh, h.2.2.2.2.2.1.there hal hh, h.2.2.2.2.2.2⟩) (fun r U U' V V' h1 hal h2 h => Got.mv r U U' V V' h1 hal h2 h) ?_
  intro p e s m args below meth c s₁ X0 hexec hbytes hml hret hlk hnm hown hh0 W hP
  obtain ⟨rfl, hB, f1, f2, hA, s1, hz, l0, l1, l2, hp⟩ := hP
  have a31 := hA.1.2.2.2
  have c1 : Steps p.tables e below (s₁.setTop (entryFrame m #[.ref a, .ref b, .int (Int32.ofNat o), .int (Int32.ofNat len), .null] 6)) (s₁.setTop (mkF m 0 #[.val (.ref a), .val (.ref b), .val (.int (Int32.ofNat o)), .val (.int (Int32.ofNat len)), .val .null, .unset] [])) := entry rfl
  have c2 : Steps p.tables e below (s₁.setTop (entryFrame m #[.ref a, .ref b, .int (Int32.ofNat o), .int (Int32.ofNat len), .null] 6)) (s₁.setTop (mkF m 1 #[.val (.ref a), .val (.ref b), .val (.int (Int32.ofNat o)), .val (.int (Int32.ofNat len)), .val .null, .unset] [.ref a])) := c1.trans (by
    refine XS.aloadN X0.here hexec rfl (hb hbytes d0) rfl rfl ?_
    exact Steps.refl _)
  obtain ⟨T3, X3, q3, st3⟩ := X0.oinit hexec hown (wks W (objW "java/lang/String" 1)) (g := (mkF m 1 #[.val (.ref a), .val (.ref b), .val (.int (Int32.ofNat o)), .val (.int (Int32.ofNat len)), .val .null, .unset] [.ref a])) rfl (by rw [hml]; rfl) (rest := []) rfl (hb hbytes d1) (W := 0) (by show 2 * 0 + 0 ≤ _; decide) (Nat.le_of_ble_eq_true rfl) (Nat.le_of_ble_eq_true rfl)
  have hh3 := q3.trans hh0
  have c4 : Steps p.tables e below (s₁.setTop (entryFrame m #[.ref a, .ref b, .int (Int32.ofNat o), .int (Int32.ofNat len), .null] 6)) (T3.setTop (mkF m 27 #[.val (.ref a), .val (.ref b), .val (.int (Int32.ofNat o)), .val (.int (Int32.ofNat len)), .val .null, .unset] [])) := (c2.trans (st3 _ (Steps.refl _))).trans (by
    refine XS.iloadN X3.here hexec rfl (hb hbytes d4) rfl ?_
    refine XS.ifYes X3.here hexec rfl (pc0 := 5) rfl (hb hbytes d5) rfl (i0_ne_t (nz32 (by omega) l0)) (by decide) rfl ?_
    exact Steps.refl _)
  obtain ⟨T5, X5, q5, st5⟩ := X3.sget hexec hown (wk W (.fieldLink "java/lang/String" 38 "java/lang/String" "COMPACT_STRINGS" "Z")) s1 (fun _ _ h => by rw [hh3]; exact h) (g := (mkF m 27 #[.val (.ref a), .val (.ref b), .val (.int (Int32.ofNat o)), .val (.int (Int32.ofNat len)), .val .null, .unset] [])) rfl (hb hbytes d27)
  have hh5 := q5.trans hh3
  have c6 : Steps p.tables e below (s₁.setTop (entryFrame m #[.ref a, .ref b, .int (Int32.ofNat o), .int (Int32.ofNat len), .null] 6)) (T5.setTop (mkF m 30 #[.val (.ref a), .val (.ref b), .val (.int (Int32.ofNat o)), .val (.int (Int32.ofNat len)), .val .null, .unset] [.int z])) := c4.trans (st5 _ (Steps.refl _))
  have c7 : Steps p.tables e below (s₁.setTop (entryFrame m #[.ref a, .ref b, .int (Int32.ofNat o), .int (Int32.ofNat len), .null] 6)) (T5.setTop (mkF m 36 #[.val (.ref a), .val (.ref b), .val (.int (Int32.ofNat o)), .val (.int (Int32.ofNat len)), .val .null, .unset] [.int (Int32.ofNat len), .int (Int32.ofNat o), .ref b])) := c6.trans (by
    refine XS.ifNo X5.here hexec rfl (hb hbytes d30) rfl (i0_eq_f hz) ?_
    refine XS.aloadN X5.here hexec rfl (hb hbytes d33) rfl rfl ?_
    refine XS.iloadN X5.here hexec rfl (hb hbytes d34) rfl ?_
    refine XS.iloadN X5.here hexec rfl (hb hbytes d35) rfl ?_
    exact Steps.refl _)
  obtain ⟨v8, T8, X8, E8, g8⟩ := X5.callS hexec (Cmp3.law l b A o len) hown (wks W (staticW "java/lang/String" 177 Cmp3.yN)) (wk W Cmp3.tab) (W := 0) (Nat.le_of_ble_eq_true rfl) (Nat.le_of_ble_eq_true rfl) (Nat.le_refl _) (by show 0 + len ≤ len; omega) (g := (mkF m 36 #[.val (.ref a), .val (.ref b), .val (.int (Int32.ofNat o)), .val (.int (Int32.ofNat len)), .val .null, .unset] [.int (Int32.ofNat len), .int (Int32.ofNat o), .ref b])) rfl (by rw [hml]; rfl) c7 (argsL := [.ref b, .int (Int32.ofNat o), .int (Int32.ofNat len)]) (rest := []) rfl rfl (by show 2 * 0 + 0 ≤ _; decide) (hb hbytes d36) (⟨rfl, hA.mv X5.warmed.alike hh5, l1, l2, hp⟩)
  obtain ⟨e8, z8⟩ := E8
  obtain ⟨rfl, N, n1, n2, n3, n4, n5, n6⟩ := NewArr.mv _ T5 s _ _ hh5.symm (Vm.Alike.refl _) rfl e8
  rw [hh5] at z8
  have hB1 := hB.keep X8.warmed.alike (n6 _ _ hB.1)
  have hne : s.heap.size ≠ a := (Nat.ne_of_lt (Array.getElem?_eq_some_iff.mp hB.1).1).symm
  have c9 : Steps p.tables e below (s₁.setTop (entryFrame m #[.ref a, .ref b, .int (Int32.ofNat o), .int (Int32.ofNat len), .null] 6)) (T8.setTop (mkF m 39 #[.val (.ref a), .val (.ref b), .val (.int (Int32.ofNat o)), .val (.int (Int32.ofNat len)), .val .null, .unset] [.ref s.heap.size])) := g8
  have c10 : Steps p.tables e below (s₁.setTop (entryFrame m #[.ref a, .ref b, .int (Int32.ofNat o), .int (Int32.ofNat len), .null] 6)) (T8.setTop (mkF m 45 #[.val (.ref a), .val (.ref b), .val (.int (Int32.ofNat o)), .val (.int (Int32.ofNat len)), .val .null, .val (.ref s.heap.size)] [.int (Int32.ofNat N.slots.size), .ref s.heap.size, .ref a])) := by
    have hc : Steps p.tables e below (s₁.setTop (entryFrame m #[.ref a, .ref b, .int (Int32.ofNat o), .int (Int32.ofNat len), .null] 6)) (T8.setTop (mkF m 45 #[.val (.ref a), .val (.ref b), .val (.int (Int32.ofNat o)), .val (.int (Int32.ofNat len)), .val .null, .val (.ref s.heap.size)] [.int (Int32.ofNat len), .ref s.heap.size, .ref a])) := c9.trans (by
      refine XS.astore X8.here hexec rfl (hb hbytes d39) rfl rfl rfl ?_
      refine XS.aloadN X8.here hexec rfl (hb hbytes d41) rfl rfl ?_
      refine XS.aload X8.here hexec rfl (hb hbytes d42) rfl rfl ?_
      refine XS.iloadN X8.here hexec rfl (hb hbytes d44) rfl ?_
      exact Steps.refl _)
    rw [n4]; exact hc
  obtain ⟨v11, T11, X11, E11, g11⟩ := X8.callS hexec (CodL.law l s.heap.size N) hown (wks W (staticW "java/lang/String" 47 CodL.yN)) (wk W CodL.tab) (W := 1) (Nat.le_of_ble_eq_true rfl) (Nat.le_of_ble_eq_true rfl) (Nat.le_refl _) (by show 0 + len + 0 ≤ len; omega) (g := (mkF m 45 #[.val (.ref a), .val (.ref b), .val (.int (Int32.ofNat o)), .val (.int (Int32.ofNat len)), .val .null, .val (.ref s.heap.size)] [.int (Int32.ofNat N.slots.size), .ref s.heap.size, .ref a])) rfl (by rw [hml]; rfl) c10 (argsL := [.ref s.heap.size, .int (Int32.ofNat N.slots.size)]) (rest := [.ref a]) rfl rfl (by show 2 * 0 + (1 + 0) ≤ _; decide) (hb hbytes d45) (⟨rfl, n1⟩)
  obtain ⟨rfl, q11⟩ := E11
  have hB11 := hB1.mv (X8.warmed.alike.symm.trans X11.warmed.alike) q11
  have c12 : Steps p.tables e below (s₁.setTop (entryFrame m #[.ref a, .ref b, .int (Int32.ofNat o), .int (Int32.ofNat len), .null] 6)) (T11.setTop (mkF m 48 #[.val (.ref a), .val (.ref b), .val (.int (Int32.ofNat o)), .val (.int (Int32.ofNat len)), .val .null, .val (.ref s.heap.size)] [.int 0, .ref a])) := g11
  obtain ⟨T13, X13, p13, bl13, sl13, st13⟩ := X11.finit hexec hown (wk W (.fieldLink "java/lang/String" 15 "java/lang/String" "coder" "B")) (Or.inr ⟨_, (wk W (.laysFinal "java/lang/String" "java/lang/String" "coder" "B"))⟩) (Or.inl ⟨rfl, hnm⟩) f2 (Or.inl rfl) hB11 (t := .byte) (by decide +kernel) rfl (g := (mkF m 48 #[.val (.ref a), .val (.ref b), .val (.int (Int32.ofNat o)), .val (.int (Int32.ofNat len)), .val .null, .val (.ref s.heap.size)] [.int 0, .ref a])) rfl (rest := []) rfl (hb hbytes d48)
  have c14 : Steps p.tables e below (s₁.setTop (entryFrame m #[.ref a, .ref b, .int (Int32.ofNat o), .int (Int32.ofNat len), .null] 6)) (T13.setTop (mkF m 54 #[.val (.ref a), .val (.ref b), .val (.int (Int32.ofNat o)), .val (.int (Int32.ofNat len)), .val .null, .val (.ref s.heap.size)] [.ref s.heap.size, .ref a])) := (c12.trans (st13 _ (Steps.refl _))).trans (by
    refine XS.aloadN X13.here hexec rfl (hb hbytes d51) rfl rfl ?_
    refine XS.aload X13.here hexec rfl (hb hbytes d52) rfl rfl ?_
    exact Steps.refl _)
  obtain ⟨T15, X15, p15, bl15, sl15, st15⟩ := X13.finit hexec hown (wk W (.fieldLink "java/lang/String" 9 "java/lang/String" "value" "[B")) (Or.inr ⟨_, (wk W (.laysFinal "java/lang/String" "java/lang/String" "value" "[B"))⟩) (Or.inl ⟨rfl, hnm⟩) f1 (Or.inl rfl) bl13 (t := (.array .byte)) (by decide +kernel) rfl (g := (mkF m 54 #[.val (.ref a), .val (.ref b), .val (.int (Int32.ofNat o)), .val (.int (Int32.ofNat len)), .val .null, .val (.ref s.heap.size)] [.ref s.heap.size, .ref a])) rfl (rest := []) rfl (hb hbytes d54)
  have c16 : Steps p.tables e below (s₁.setTop (entryFrame m #[.ref a, .ref b, .int (Int32.ofNat o), .int (Int32.ofNat len), .null] 6)) (T15.setTop (mkF m 57 #[.val (.ref a), .val (.ref b), .val (.int (Int32.ofNat o)), .val (.int (Int32.ofNat len)), .val .null, .val (.ref s.heap.size)] [])) := c14.trans (st15 _ (Steps.refl _))
  have ap := apart (Or.inr ⟨_, (wk W (.laysFinal "java/lang/String" "java/lang/String" "value" "[B"))⟩) (Or.inr ⟨_, (wk W (.laysFinal "java/lang/String" "java/lang/String" "coder" "B"))⟩) f1 f2 (t₁ := .array .byte) (t₂ := .byte) (by decide +kernel) (by decide +kernel) (by decide)
  have al := X8.warmed.alike.symm.trans X15.warmed.alike
  have n7 : T11.heap[s.heap.size]? = some N := by rw [q11]; exact n1.1
  exact ⟨T15, none, _, _, _, X15, by simp, rfl, by omega, (fun _ => rfl), ⟨rfl, _, N, bl15, ((Same.refl D _).set _ (by simp)).set _ (by simp), sl15, (Cell.slots_setSlot_ne _ ap).trans sl13, n1.keep al (p15.other hne (p13.other hne n7)), n2, by rw [al.findClass]; exact n3, n4, n5, fun y c h1 h2 => p15.other h1 (p13.other h1 (by rw [q11]; exact n6 y c h2)), by rw [p15.2.2, p13.2.2, q11]; exact z8⟩, fun fs hl => c16.trans (X15.returnOut hexec hret (hb hbytes d57) hl)⟩
end New4
namespace New1
def yN : MethodName := ⟨"java/lang/String", "<init>", "([C)V"⟩
abbrev yB : ByteArray := jdk_42_method_3_code
theorem d0 : decode yB 0 = .ok (.aload_n 0, 1) := by decide +kernel
theorem d1 : decode yB 1 = .ok (.aload_n 1, 1) := by decide +kernel
theorem d2 : decode yB 2 = .ok (.iconst 0, 1) := by decide +kernel
theorem d3 : decode yB 3 = .ok (.aload_n 1, 1) := by decide +kernel
theorem d4 : decode yB 4 = .ok (.arraylength, 1) := by decide +kernel
theorem d5 : decode yB 5 = .ok (.aconst_null, 1) := by decide +kernel
theorem d6 : decode yB 6 = .ok (.invokespecial 27, 3) := by decide +kernel
theorem d9 : decode yB 9 = .ok (.return_, 1) := by decide +kernel
def site : List Cond := [New4.tab] ++ initW "java/lang/String" 27 New4.yN
def tab : Cond := tabOf yN yB 2 none site
def P (a : Addr) (D : Cell) (fV fC : Field) (b : Addr) (A : Cell) (z : Int32) (args : Array Value) (s : State) : Prop := args = #[.ref a, .ref b] ∧ Blank "java/lang/String" a D s ∧ Found "java/lang/String" "value" "[B" fV s ∧ Found "java/lang/String" "coder" "B" fC s ∧ Ch b A s ∧ StaticIs s "java/lang/String" "COMPACT_STRINGS" "Z" (.int z) ∧ ¬ z = 0 ∧ 0 < A.slots.size ∧ A.slots.size ≤ 536870912 ∧ ∀ i, i < A.slots.size → ¬ 255 < cv A i
def E (a : Addr) (D : Cell) (fV fC : Field) (A : Cell) (r : Option Value) (s u : State) : Prop := Got a D fV fC A 0 A.slots.size r s u
/-- new String(chars), not empty, no char above 255: a Latin-1 String of their low bytes -/
theorem law (l : Launch) (a : Addr) (D : Cell) (fV fC : Field) (b : Addr) (A : Cell) (z : Int32) : Law l yN 2 1 3 52 yB 2 none site (P a D fV fC b A z) (E a D fV fC A) [⟨a, fC.slot⟩, ⟨a, fV.slot⟩] 1 A.slots.size := by
  refine Law.of_walk (plainFor_of_name (by decide +kernel)) (by decide +kernel) (by decide +kernel) (by decide) (fun _ _ h => by rw [h.1]; rfl) (fun _ U U' hal hh h => ⟨h.1, h.2.1.mv hal hh, h.2.2.1.al hal, h.2.2.2.1.al hal, h.2.2.2.2.1.mv hal hh, h.2.2.2.2.2.1.there hal hh, h.2.2.2.2.2.2⟩) (fun r U U' V V' h1 hal h2 h => Got.mv r U U' V V' h1 hal h2 h) ?_
  intro p e s m args below meth c s₁ X0 hexec hbytes hml hret hlk hnm hown hh0 W hP
  obtain ⟨rfl, hB, f1, f2, hA, s1, hz, l0, l2, hp⟩ := hP
  have c1 : Steps p.tables e below (s₁.setTop (entryFrame m #[.ref a, .ref b] 2)) (s₁.setTop (mkF m 0 #[.val (.ref a), .val (.ref b)] [])) := entry rfl
  have c2 : Steps p.tables e below (s₁.setTop (entryFrame m #[.ref a, .ref b] 2)) (s₁.setTop (mkF m 6 #[.val (.ref a), .val (.ref b)] [.null, .int (Int32.ofNat A.slots.size), .int 0, .ref b, .ref a])) := c1.trans (by
    refine XS.aloadN X0.here hexec rfl (hb hbytes d0) rfl rfl ?_
    refine XS.aloadN X0.here hexec rfl (hb hbytes d1) rfl rfl ?_
    refine iconstV X0.here hexec rfl 0 (hb hbytes d2) (by decide) ?_
    refine XS.aloadN X0.here hexec rfl (hb hbytes d3) rfl rfl ?_
    refine X0.alen hexec (hA.1.mv X0.warmed.alike hh0) rfl rfl (hb hbytes d4) ?_
    refine XS.aconstNull X0.here hexec rfl (hb hbytes d5) ?_
    exact Steps.refl _)
  obtain ⟨v3, T3, X3, E3, g3⟩ := X0.callN hexec (New4.law l a D fV fC b A z 0 A.slots.size) rfl hown (wks W (initW "java/lang/String" 27 New4.yN)) (W New4.tab (by simp only [site, List.mem_cons, List.mem_append, true_or, or_true])) (W := 0) (Nat.le_of_ble_eq_true rfl) (Nat.le_of_ble_eq_true rfl) (Nat.le_refl _) (by show 0 + A.slots.size ≤ A.slots.size; omega) (g := (mkF m 6 #[.val (.ref a), .val (.ref b)] [.null, .int (Int32.ofNat A.slots.size), .int (Int32.ofNat 0), .ref b, .ref a])) rfl (by rw [hml]; rfl) c2 (argsL := [.ref b, .int (Int32.ofNat 0), .int (Int32.ofNat A.slots.size), .null]) (rest := []) rfl rfl (by show 2 * 0 + 0 ≤ _; decide) (hb hbytes d6) (⟨rfl, hB.mv X0.warmed.alike hh0, f1.al X0.warmed.alike, f2.al X0.warmed.alike, hA.mv X0.warmed.alike hh0, s1.there X0.warmed.alike hh0, hz, l0, by omega, l2, fun i hi => by rw [Nat.zero_add]; exact hp i hi⟩)
  have e0 := Got.mv _ s₁ s _ _ hh0.symm (Vm.Alike.refl _) rfl E3
  obtain rfl := e0.1
  have c4 : Steps p.tables e below (s₁.setTop (entryFrame m #[.ref a, .ref b] 2)) (T3.setTop (mkF m 9 #[.val (.ref a), .val (.ref b)] [])) := g3
  exact ⟨T3, none, _, _, _, X3, by simp, rfl, by omega, (fun _ => rfl), e0, fun fs hl => c4.trans (X3.returnOut hexec hret (hb hbytes d9) hl)⟩
theorem pays {l : Launch} {R : Room} {p : Program} {e : Env} {below : List Frame} {s : State} {sargs : Array Value} {len W : Nat} (a : Addr) (D : Cell) (fV fC : Field) (b : Addr) (A : Cell) (z : Int32) (htab : tab.before sargs s = true) (hfr : 4 ≤ R.frames) (hlo : W + 65 ≤ R.locals) :
    Back l R p e below s sargs yN len W (fun A₁ a₁ => A₁.cells + 1 ≤ R.cells ∧ A₁.slots + A.slots.size ≤ R.slots ∧ P a D fV fC b A z a₁ A₁.U) (fun A₁ _ v₁ B₁ => E a D fV fC A v₁ A₁.U B₁.U ∧ B₁.locs = A₁.locs ++ [⟨a, fC.slot⟩, ⟨a, fV.slot⟩] ∧ B₁.cells = A₁.cells + 1 ∧ B₁.slots = A₁.slots + A.slots.size) :=
  (law l a D fV fC b A z).pays htab hfr (by omega)
end New1
end StrChars
namespace StrChars.Road
open Jvm Sem ClassFile Op Lib Jvm.Stand Jvm.Free Jvm.Free.XT
open Jvm.Lib.Cold (StaticIs)
abbrev ST : String := "java/lang/String"
/-- every table word that New1's law asks, flat -/
abbrev words : List Jvm.Cond := [.code New1.yN New1.yB 2 none, .initialized ST, .methodLink ST 27 New4.yN, .instanceMethod New4.yN,
  .code New4.yN New4.yB 6 none, .fieldLink ST 38 ST "COMPACT_STRINGS" "Z", .laysFinal ST ST "value" "[B", .fieldLink ST 9 ST "value" "[B", .laysFinal ST ST "coder" "B", .fieldLink ST 15 ST "coder" "B",
  .methodLink ST 1 Lib.objectInit, .instanceMethod Lib.objectInit, .code Lib.objectInit ⟨#[0xb1]⟩ 1 none, .methodLink ST 177 Cmp3.yN, .static Cmp3.yN, .methodLink ST 47 CodL.yN, .static CodL.yN,
  .code Cmp3.yN Cmp3.yB 6 (some (.array .byte)), .initialized U16, .arrayClass .byte, .methodLink U16 115 Cmp5.yN, .static Cmp5.yN, .code Cmp5.yN Cmp5.yB 7 (some .int), .code CodL.yN CodL.yB 2 (some .byte)]
theorem tab_of {a : Array Value} {s : State} (h : ∀ w ∈ words, w.before a s = true) : New1.tab.before a s = true := by
  have h5 : Cmp5.tab.before a s = true := unparts (wk h (.code Cmp5.yN Cmp5.yB 7 (some .int))) (wks h (.initialized Cmp5.yN.cls :: Cmp5.site))
  have hc : CodL.tab.before a s = true := unparts (wk h (.code CodL.yN CodL.yB 2 (some .byte))) (wks h (.initialized CodL.yN.cls :: CodL.site))
  have q5 : ∀ w ∈ Cmp5.tab :: words, w.before a s = true := fun w hw => (List.mem_cons.mp hw).elim (fun e => e ▸ h5) (h w)
  have h3 : Cmp3.tab.before a s = true := unparts (wk q5 (.code Cmp3.yN Cmp3.yB 6 (some (.array .byte)))) (wks q5 (.initialized Cmp3.yN.cls :: Cmp3.site))
  have q3 : ∀ w ∈ Cmp3.tab :: CodL.tab :: words, w.before a s = true := fun w hw => (List.mem_cons.mp hw).elim (fun e => e ▸ h3) fun hw => (List.mem_cons.mp hw).elim (fun e => e ▸ hc) (h w)
  have h4 : New4.tab.before a s = true := unparts (wk q3 (.code New4.yN New4.yB 6 none)) (wks q3 (.initialized New4.yN.cls :: New4.site))
  have q4 : ∀ w ∈ New4.tab :: words, w.before a s = true := fun w hw => (List.mem_cons.mp hw).elim (fun e => e ▸ h4) (h w)
  exact unparts (wk q4 (.code New1.yN New1.yB 2 none)) (wks q4 (.initialized New1.yN.cls :: New1.site))
/-- the words ride from the start Z to the walk's own state -/
theorem moved {Z s : State} {a0 args : Array Value} (hZ : Z.Warmed39 s.vm) (hw : ∀ d ∈ words, d.before a0 Z = true) : ∀ d ∈ words, d.before args s = true := fun d hd => by
  have q := hw d hd
  have t : ∀ d ∈ words, d = .arrayClass .byte ∨ (d.onTables && d.keepsFace) = true := by decide +kernel
  rcases t d hd with rfl | t
  · exact RoadKit.mvA hZ q
  · exact RoadKit.mv hZ q t
/-- WHAT COMES BACK, over the tables of the start Z: h the heap at the call, h' behind it -/
def Q (Z : State) (x : Addr) (A : Cell) (h : Heap) (v : Option Value) (h' : Heap) (L : List Loc) : Prop := v = none ∧ (∀ y ∈ L, y.base = x) ∧ RoadKit.Keep h h' [x] ∧ h'.size = h.size + 1 ∧ RoadKit.Exa Z h' x ST ∧ RoadKit.Fld Z h' x ST "value" "[B" (.ref h.size) ∧ RoadKit.Fld Z h' x ST "coder" "B" (.int 0) ∧
  (∃ V : Cell, RoadKit.Arr Z h' h.size V .byte ∧ V.vm = .none ∧ Z.vm.findClass "[B" = some V.cls ∧ V.slots.size = A.slots.size ∧ ∀ j, j < A.slots.size → V.slots[j]? = some (.int (lo8 (cv A j)))) ∧
  ∀ (O n d : String) (w : Value), RoadKit.Fld Z h x O n d w → RoadKit.slotOf Z O n d ≠ RoadKit.slotOf Z ST "value" "[B" → RoadKit.slotOf Z O n d ≠ RoadKit.slotOf Z ST "coder" "B" → RoadKit.Fld Z h' x O n d w
/-- **new String(chars) AT A CALL, IN THE ROAD'S FORM**: for specialBack behind newO: x the fresh String, b the char[] with the cell A -/
theorem back {p : Program} {l : Launch} {e : Env} {R : Room} {s : State} {args : Array Value} {below : List Frame} {len W : Nat} {Z : State} {a0 : Array Value} {h : Heap} (hZ : Z.Warmed39 s.vm) (hw : ∀ d ∈ words, d.before a0 Z = true) {kI : Nat} (wi : (Jvm.Cond.instantiable ST kI).before a0 Z = true)
    {x b : Addr} {A : Cell} {z : Int32} {v0 c0 : Value} (E : RoadKit.Exa Z h x ST) (V : RoadKit.Fld Z h x ST "value" "[B" v0) (C : RoadKit.Fld Z h x ST "coder" "B" c0) (K : RoadKit.Arr Z h b A .char) (hty : Typed .char A) (S : RoadKit.Sta Z h ST "COMPACT_STRINGS" "Z" (.int z)) (hz : ¬ z = 0)
    (l0 : 0 < A.slots.size) (l2 : A.slots.size ≤ 536870912) (hp : ∀ i, i < A.slots.size → ¬ 255 < cv A i) (hfr : 4 ≤ R.frames) (hlo : W + 65 ≤ R.locals) :
    Back l R p e below s args New1.yN len W (fun P a => a = #[.ref x, .ref b] ∧ P.U.heap = h ∧ P.cells + 1 ≤ R.cells ∧ P.slots + A.slots.size ≤ R.slots)
      (fun P _ v B => ∃ L, Q Z x A h v B.U.heap L ∧ B.locs = P.locs ++ L ∧ B.cells = P.cells + 1 ∧ B.slots = P.slots + A.slots.size) := by
  intro m meth c P g ig mk a X hg hsize hdg hW hn hp'
  obtain ⟨rfl, rfl, r1, r2⟩ := hp'
  have al : Z.vm.Alike P.U.vm := hZ.alike.trans X.warmed.alike
  obtain ⟨D, cfV, kV, iV, fV, hD, gV, stV, knV, obV, asV, slV⟩ := id V
  obtain ⟨D', cfC, kC, iC, fC, hD', gC, stC, -, -, asC, slC⟩ := id C
  cases hD.symm.trans hD'
  obtain ⟨D2, kD, e1, e2, e3, e4, e5⟩ := id E
  cases hD.symm.trans e1
  obtain ⟨c2, k2, i1, i2, i3, -⟩ := Cond.instantiable_spec wi
  cases e2.symm.trans i1
  cases e3.symm.trans i2
  obtain ⟨kU, u1, u2⟩ := al.2.2 _ _ e3
  have hB : Blank ST x D P.U := ⟨hD, ⟨knV, fun q hq => by rw [hq] at obV; cases obV⟩, by rw [al.findClass]; exact e2, kU, u1, by rw [u2]; exact i3, by rw [u2]; exact e5 i3⟩
  have F1 : Found ST "value" "[B" fV P.U := ⟨SBG.found_only al ⟨cfV, kV, iV, gV⟩, stV⟩
  have F2 : Found ST "coder" "B" fC P.U := ⟨SBG.found_only al ⟨cfC, kC, iC, gC⟩, stC⟩
  have hA : Ch b A P.U := ⟨⟨K.1, State.isArrayOf_alike al K.2.1, K.2.2, by omega⟩, hty⟩
  have hS : StaticIs P.U ST "COMPACT_STRINGS" "Z" (.int z) := by
    obtain ⟨cfS, iS, kS, fS, st, cS, t1, t2, t3, t4, t5, t6, t7⟩ := S
    exact StaticIs.there (s := { Z with heap := P.U.heap }) ⟨cfS, iS, kS, fS, st, cS, t1, t2, t3, t4, t5, (fun q => by rw [q] at t6; cases t6), t7⟩ al rfl
  obtain ⟨v, B, X', ⟨⟨hv, E', V', q1, q2, q3, q4, q5, q6, q7, q8, q9, q10, q11⟩, hl, hc, hs⟩, st⟩ := New1.pays x D fV fC b A z (tab_of (moved hZ hw)) hfr hlo m meth c P g ig mk _ X hg hsize hdg hW hn ⟨r1, r2, rfl, hB, F1, F2, hA, hS, hz, l0, l2, hp⟩
  have al' : Z.vm.Alike B.U.vm := hZ.alike.trans X'.warmed.alike
  have hsz : E'.slots.size = D.slots.size := by
    obtain ⟨-, -, -, kB, w1, w2, w3⟩ := q1
    obtain ⟨kB', y1, y2⟩ := al'.2.2 _ _ e3
    rw [q2.2.1] at w1
    cases w1.symm.trans y1
    rw [w3, e5 i3, y2]
  refine ⟨v, B, X', ⟨_, ⟨hv, ?_, ⟨by omega, fun y cy hy hn' => q10 y cy (by simpa using hn') hy, fun y cy hy => ?_⟩, q11, ⟨E', _, q1.1, by rw [q2.2.1]; exact e2, by rw [q2.2.1]; exact e3, by rw [q2.1]; exact obV, fun _ => by rw [hsz]; exact e5 i3⟩,
    ⟨E', cfV, kV, iV, fV, q1.1, gV, stV, by rw [q2.1]; exact knV, by rw [q2.1]; exact obV, by rw [q2.2.1]; exact asV, q3⟩, ⟨E', cfC, kC, iC, fC, q1.1, gC, stC, by rw [q2.1]; exact knV, by rw [q2.1]; exact obV, by rw [q2.2.1]; exact asC, q4⟩,
    ⟨V', ⟨q5.1, State.isArrayOf_alike al'.symm q5.2.1, q5.2.2.1⟩, q6, by rw [← al'.findClass]; exact q7, q8, fun j hj => by have := q9 j hj; rwa [Nat.zero_add] at this⟩, fun O n d w F n1 n2 => ?_⟩, hl, hc, hs⟩, st⟩
  · intro y hy
    simp only [List.mem_cons, List.not_mem_nil, or_false] at hy
    rcases hy with rfl | rfl <;> rfl
  · by_cases q : y = x
    · subst q
      cases hD.symm.trans hy
      exact ⟨E', q1.1, q2.2.1, q2.1, hsz⟩
    · exact ⟨cy, q10 y cy q hy, rfl, rfl, rfl⟩
  · obtain ⟨D3, cf, k, i, f, g1, g2, g3, g4, g5, g6, g7⟩ := F
    cases hD.symm.trans g1
    simp only [RoadKit.slotOf, g2, gV, gC, Option.map_some, Option.getD_some] at n1 n2
    exact ⟨E', cf, k, i, f, q1.1, g2, g3, by rw [q2.1]; exact g4, by rw [q2.1]; exact g5, by rw [q2.2.1]; exact g6, by rw [q2.2.2 f.slot (by simp [n1, n2])]; exact g7⟩
end StrChars.Road
namespace StrChars.Road
open Jvm Sem ClassFile Op Lib Jvm.Stand Jvm.Free Jvm.Free.XT
/-- WHAT COMES BACK, the byte[] as a list of values -/
def QA (Z : State) (x : Addr) (zn : Int32) (cs : List Int32) (h : Heap) (v : Option Value) (h' : Heap) (L : List Loc) : Prop := v = none ∧ (∀ y ∈ L, y.base = x) ∧ RoadKit.Keep h h' [x] ∧ h'.size = h.size + 1 ∧ RoadKit.Exa Z h' x ST ∧ RoadKit.Fld Z h' x ST "value" "[B" (.ref h.size) ∧ RoadKit.Fld Z h' x ST "coder" "B" (.int 0) ∧
  (∃ kb, Z.vm.findClass "[B" = some kb ∧ RoadKit.Arv Z h' h.size kb .byte zn (cs.map fun c => .int (lo8 c)) (.int 0)) ∧
  ∀ (O n d : String) (w : Value), RoadKit.Fld Z h x O n d w → RoadKit.slotOf Z O n d ≠ RoadKit.slotOf Z ST "value" "[B" → RoadKit.slotOf Z O n d ≠ RoadKit.slotOf Z ST "coder" "B" → RoadKit.Fld Z h' x O n d w
/-- **new String(chars) AT A CALL, THE ARRAYS AS LISTS**: the char[] at b holds cs, not empty, no char above 255 -/
theorem backArv {p : Program} {l : Launch} {e : Env} {R : Room} {s : State} {args : Array Value} {below : List Frame} {len W : Nat} {Z : State} {a0 : Array Value} {h : Heap} (hZ : Z.Warmed39 s.vm) (hw : ∀ d ∈ words, d.before a0 Z = true) {kI : Nat} (wi : (Jvm.Cond.instantiable ST kI).before a0 Z = true)
    {x b : Addr} {k : ClassId} {zn z : Int32} {cs : List Int32} {dv v0 c0 : Value} (E : RoadKit.Exa Z h x ST) (V : RoadKit.Fld Z h x ST "value" "[B" v0) (C : RoadKit.Fld Z h x ST "coder" "B" c0) (K : RoadKit.Arv Z h b k .char zn (cs.map Value.int) dv) (S : RoadKit.Sta Z h ST "COMPACT_STRINGS" "Z" (.int z)) (hz : ¬ z = 0)
    (hlen : zn.toNatClampNeg = cs.length) (h0 : 0 < cs.length) (hbig : cs.length ≤ 536870912) (hall : ∀ c ∈ cs, ¬ 255 < c) (hfr : 4 ≤ R.frames) (hlo : W + 65 ≤ R.locals) :
    Back l R p e below s args New1.yN len W (fun P a => a = #[.ref x, .ref b] ∧ P.U.heap = h ∧ P.cells + 1 ≤ R.cells ∧ P.slots + cs.length ≤ R.slots)
      (fun P _ v B => ∃ L, QA Z x zn cs h v B.U.heap L ∧ B.locs = P.locs ++ L ∧ B.cells = P.cells + 1 ∧ B.slots = P.slots + cs.length) := by
  obtain ⟨A, K1, K2, K3, K4, K5, K6⟩ := K
  have e : A.slots.size = cs.length := K3.trans hlen
  have hat : ∀ (i : Nat) (hi : i < cs.length), A.slots[i]? = some (.int cs[i]) := fun i hi => by rw [K5 i (by omega)]; simp [List.getD_eq_getElem?_getD, hi]
  have hcv : ∀ (i : Nat) (hi : i < cs.length), cv A i = cs[i] := fun i hi => by unfold cv; rw [hat i hi]
  have hty : Typed .char A := fun i v hv => by
    have hi : i < A.slots.size := (Array.getElem?_eq_some_iff.mp hv).1
    have q := K5 i hi
    rw [hv] at q
    rw [Option.some.inj q]
    exact K6 i hi
  refine Back.mono (back hZ hw wi E V C K1 hty S hz (by omega) (by omega) (fun i hi => by rw [hcv i (by omega)]; exact hall _ (List.getElem_mem _)) hfr hlo) (fun P a hp => ⟨hp.1, hp.2.1, hp.2.2.1, by rw [e]; exact hp.2.2.2⟩) (fun P a v B hp hq => ?_)
  obtain ⟨L, ⟨q1, q2, q3, q4, q5, q6, q7, ⟨V', v1, v2, v3, v4, v5⟩, q9⟩, hl, hc, hs⟩ := hq
  refine ⟨L, ⟨q1, q2, q3, q4, q5, q6, q7, ⟨V'.cls, v3, V', v1, rfl, by rw [v4, e, hlen], K4, fun i hi => ?_, fun i hi => ?_⟩, q9⟩, hl, hc, by rw [hs, e]⟩
  · have hi' : i < cs.length := by omega
    rw [v5 i (by omega), hcv i hi']; simp [List.getD_eq_getElem?_getD, hi']
  · have hi' : i < cs.length := by omega
    simp only [List.getD_eq_getElem?_getD, List.getElem?_map, List.getElem?_eq_getElem hi', Option.map_some, Option.getD_some]
    exact fits_lo8 _
end StrChars.Road
namespace StrChars.Road
open Jvm Sem ClassFile Op Lib Jvm.Stand Jvm.Free Jvm.Free.XT
/-- WHAT COMES BACK, in the writer's own shape -/
def QV (Z : State) (x : Addr) (N : Int32) (bs : List Int32) (h : Heap) (n0 : Nat) (v : Option Value) (h' : Heap) (L : List Loc) : Prop := v = none ∧ RoadKit.Fr n0 L ∧ RoadKit.Keep h h' [x] ∧ RoadKit.Exa Z h' x ST ∧ RoadKit.Fld Z h' x ST "coder" "B" (.int 0) ∧
  ∃ (t : Addr) (kb : ClassId), n0 ≤ t ∧ h.size ≤ t ∧ ¬ t = x ∧ RoadKit.Fld Z h' x ST "value" "[B" (.ref t) ∧ RoadKit.Arv Z h' t kb .byte N (bs.map Value.int) (.int 0)
/-- **new String(chars) AT A CALL, FOR THE WRITER**: a char[] of n known ints, each 0 to 255 -/
theorem backV {p : Program} {l : Launch} {e : Env} {R : Room} {s : State} {args : Array Value} {below : List Frame} {len W : Nat} {Z : State} {a0 : Array Value} {h : Heap} (hZ : Z.Warmed39 s.vm) (hw : ∀ d ∈ words, d.before a0 Z = true) {kI : Nat} (wi : (Jvm.Cond.instantiable ST kI).before a0 Z = true)
    {x b : Addr} {kC : ClassId} {cs bs : List Int32} {d v0 c0 : Value} {z N : Int32} {n n0 : Nat} (hx0 : n0 ≤ x) (hh0 : n0 ≤ h.size) (E : RoadKit.Exa Z h x ST) (V : RoadKit.Fld Z h x ST "value" "[B" v0) (C : RoadKit.Fld Z h x ST "coder" "B" c0) (K : RoadKit.Arv Z h b kC .char N (cs.map Value.int) d) (S : RoadKit.Sta Z h ST "COMPACT_STRINGS" "Z" (.int z)) (hz : ¬ z = 0)
    (hn : cs.length = n) (hN : N = Int32.ofNat n) (l0 : 0 < n) (l2 : n ≤ 4000) (hp : ∀ c ∈ cs, ¬ c < 0 ∧ ¬ (255 : Int32) < c) (hb : bs = cs.map (fun c => c.toInt8.toInt32)) (hfr : 4 ≤ R.frames) (hlo : W + 65 ≤ R.locals) :
    Back l R p e below s args (⟨"java/lang/String", "<init>", "([C)V"⟩ : MethodName) len W (fun P a => a = #[.ref x, .ref b] ∧ P.U.heap = h ∧ P.cells + 1 ≤ R.cells ∧ P.slots + n ≤ R.slots)
      (fun P _ v B => ∃ L, QV Z x N bs h n0 v B.U.heap L ∧ B.locs = P.locs ++ L ∧ B.cells = P.cells + 1 ∧ B.slots = P.slots + n) := by
  subst hn hN hb
  refine Back.mono (backArv hZ hw wi E V C K S hz (n32 (by omega)) l0 (by omega) (fun c hc => (hp c hc).2) hfr hlo) (fun P a hp => hp) (fun P a v B hp hq => ?_)
  obtain ⟨L, ⟨q1, q2, q3, q4, q5, q6, q7, ⟨kb, v1, v2⟩, q9⟩, hl, hc, hs⟩ := hq
  exact ⟨L, ⟨q1, fun y hy => by rw [q2 y hy]; exact hx0, q3, q5, q7, h.size, kb, hh0, Nat.le_refl _, Nat.ne_of_gt E.lt, q6, by rw [List.map_map]; exact v2⟩, hl, hc, hs⟩
end StrChars.Road
end Jvm.Pilot.@@N@@
namespace Jvm.Pilot.@@N@@
open Jvm Jvm.ClassFile Sem Op Lib Jvm.Free Jvm.Stand Jvm.LawKit Jvm.RoadKit Bundle Jvm.Pilot.@@N@@.Jvm.D
section OwnKit
variable {Z : State} {a0 : Array Value} {EL : List (String × Nat)} {own : String} {p : Program} {l : Launch} {e : Env} {R : Room} {s : State} {m : MethodId} {args : Array Value} {below : List Frame} {meth : Method} {c : Code} {vm : Vm} {T : State} {h : Heap} {cells slots : Nat}
theorem nle {a b : Nat} (h : Nat.ble a b = true) : a ≤ b := Nat.le_of_ble_eq_true h
theorem olt {x : Addr} {n : Nat} (h : @LT.lt Nat _ x n) : x < n := h
theorem one {x y : Addr} (h : @Ne Nat x y) : x ≠ y := h
theorem own_xr (h1 : Heap) : Ext h1 h1 := ⟨Nat.le_refl _, fun _ _ q => q⟩
theorem own_xt {h1 h2 h3 : Heap} (A : Ext h1 h2) (B : Ext h2 h3) : Ext h1 h3 := ⟨Nat.le_trans A.1 B.1, fun a c q => B.2 a c (A.2 a c q)⟩
theorem own_xk {h1 h2 h3 : Heap} {ws : List Addr} (A : Ext h1 h2) (K : Keep h2 h3 ws) (q : ∀ x ∈ ws, h1.size ≤ x) : Ext h1 h3 :=
  ⟨Nat.le_trans A.1 K.1, fun a c r => K.2.1 a c (A.2 a c r) fun z => absurd (Array.getElem?_eq_some_iff.mp r).1 (Nat.not_lt.mpr (q a z))⟩
theorem own_xw {h1 h2 h3 : Heap} {a : Addr} {sl : Nat} {v : Value} (A : Ext h1 h2) (W : Wr h2 h3 a sl v) (q : h1.size ≤ a) : Ext h1 h3 := own_xk A (Keep.of_wr W) (allS q all0)
/-- what a stack trace asks -/
def Kn (Z : State) (l : Launch) (s : State) (below : List Frame) : Prop := l.stackTraces = true ∧ Ext Z.heap s.heap ∧ Z.vm.MethodsKnown ∧ Z.vm.FramesKnown below
/-- the walk stands: over the start with the tables at hand; its heap; the literals' word; all that it wrote is new -/
def Wk (Z : State) (a0 : Array Value) (EL : List (String × Nat)) (own : String) (p : Program) (l : Launch) (e : Env) (R : Room) (s : State) (m : MethodId) (args : Array Value) (below : List Frame) (meth : Method) (c : Code) (vm : Vm) (T : State) (h : Heap) (cells slots : Nat) : Prop :=
  ∃ (locs : List Loc) (k : Nat), Stand p l e R (s.setVm vm) m args below meth c T locs cells slots ∧ T.heap = h ∧ s.Since vm k ∧ k ≤ h.size ∧ Z.Warmed39 vm ∧ vm.findClass own = some m.cls ∧ (EW Z a0 EL ∧ Kn Z l s below) ∧ CHr Z EL s.vm s.heap vm h ∧ Fr Z.heap.size locs ∧ Ext Z.heap h
theorem Wk.here (W : Wk Z a0 EL own p l e R s m args below meth c vm T h cells slots) : At T m c below := by obtain ⟨_, _, X, -⟩ := W; exact X.here
theorem Wk.al (W : Wk Z a0 EL own p l e R s m args below meth c vm T h cells slots) : Z.vm.Alike vm := by obtain ⟨_, _, -, -, -, -, hZ, -⟩ := W; exact hZ.alike
theorem Wk.old (W : Wk Z a0 EL own p l e R s m args below meth c vm T h cells slots) : Ext Z.heap h := by obtain ⟨_, _, -, -, -, -, -, -, -, -, -, q⟩ := W; exact q
theorem Wk.ch (W : Wk Z a0 EL own p l e R s m args below meth c vm T h cells slots) : CHv Z EL vm h := by obtain ⟨_, _, -, -, -, -, -, -, -, q, -⟩ := W; exact q.1
theorem Wk.sz (W : Wk Z a0 EL own p l e R s m args below meth c vm T h cells slots) : Z.heap.size ≤ h.size := W.old.1
theorem own_safeB {h' : Heap} {x : Addr} (W : Wk Z a0 EL own p l e R s m args below meth c vm T h cells slots) (E : Ext h h') (q : h.size ≤ x) : Safe Z EL vm h' x := Safe.ext E W.ch (Safe.new q)
theorem own_safeE {x : Addr} {C : String} (W : Wk Z a0 EL own p l e R s m args below meth c vm T h cells slots) (E : Exa Z h x C) (h1 : C ≠ "java/lang/String") (h2 : C ≠ "[B") : Safe Z EL vm h x := Safe.exa W.al E h1 h2
/-- a step that grows the heap at its end and leaves the tables -/
theorem own_mkE {T' : State} {h' : Heap} {cells' slots' : Nat} {locs' : List Loc} {k : Nat} (X : Stand p l e R (s.setVm vm) m args below meth c T' locs' cells' slots') (e' : T'.heap = h') (hS : s.Since vm k) (hk : k ≤ h.size) (hZ : Z.Warmed39 vm) (ho : vm.findClass own = some m.cls) (hEW : EW Z a0 EL) (hKn : Kn Z l s below) (hC : CHr Z EL s.vm s.heap vm h) (N : Fr Z.heap.size locs') (O : Ext Z.heap h) (E : Ext h h') :
    Wk Z a0 EL own p l e R s m args below meth c vm T' h' cells' slots' :=
  ⟨locs', k, X, e', hS, Nat.le_trans hk E.1, hZ, ho, ⟨hEW, hKn⟩, hC.trans (CHr.ext E hC.1), N, own_xt O E⟩
theorem own_new (W : Wk Z a0 EL own p l e R s m args below meth c vm T h cells slots) (hx : p.tables.exec = Jvm.exec) {C : String} {index n : Nat} (w : (Cond.classLink own index C).before a0 Z = true) (wi : (Cond.instantiable C n).before a0 Z = true) (wz : (Cond.initialized C).before a0 Z = true)
    {g : JFrame} (hg : g.method = m) (hd : decode c.code g.pc = .ok (.new index, 3)) (hc : cells + 1 ≤ R.cells) (hl : slots + n ≤ R.slots) :
    ∃ (x : Addr) (T' : State) (h' : Heap), h.size ≤ x ∧ Wk Z a0 EL own p l e R s m args below meth c vm T' h' (cells + 1) (slots + n) ∧ Ext h h' ∧ Exa Z h' x C ∧ (∀ {O nm d : String} {ty : FieldType}, Laid Z a0 C O nm d → parseFieldDescriptor d = some ty → Fld Z h' x O nm d (defaultValue ty)) ∧ Unt h' x ∧
      ∀ target, Steps p.tables e below (T'.setTop { g with pc := g.pc + 3, stack := .ref x :: g.stack }) target → Steps p.tables e below (T.setTop g) target := by
  obtain ⟨locs, k, X, eT, hS, hk, hZ, ho, ⟨hEW, hKn⟩, hC, N, O⟩ := W
  obtain ⟨T', h', X', e', E, A, D, U, st⟩ := newO X hx hZ ho w wi wz eT hg hd hc hl
  exact ⟨_, T', h', Nat.le_refl _, own_mkE X' e' hS hk hZ ho hEW hKn hC N O E, E, A, D, U, st⟩
theorem own_newP (W : Wk Z a0 EL own p l e R s m args below meth c vm T h cells slots) (hx : p.tables.exec = Jvm.exec) {aty : ArrayType} (w : (Cond.arrayClass (newarray.typeOf aty)).before a0 Z = true) {g : JFrame} (hg : g.method = m) (hd : decode c.code g.pc = .ok (.newarray aty, 2)) {n : Int32} {rest : List Value} (hs : g.stack = .int n :: rest)
    (hn : ¬ n < 0) {cap : Nat} (hcap : n.toNatClampNeg ≤ cap) (hb : cap * 8 ≤ 536870912) (hc : cells + 1 ≤ R.cells) (hl : slots + cap ≤ R.slots) :
    ∃ (x : Addr) (T' : State) (h' : Heap) (k : ClassId), h.size ≤ x ∧ Wk Z a0 EL own p l e R s m args below meth c vm T' h' (cells + 1) (slots + cap) ∧ Ext h h' ∧ Arv Z h' x k (newarray.typeOf aty) n [] (defaultValue (newarray.typeOf aty)) ∧
      ∀ target, Steps p.tables e below (T'.setTop { g with pc := g.pc + 2, stack := .ref x :: rest }) target → Steps p.tables e below (T.setTop g) target := by
  obtain ⟨locs, k, X, eT, hS, hk, hZ, ho, ⟨hEW, hKn⟩, hC, N, O⟩ := W
  obtain ⟨T', h', cA, X', e', E, A, st⟩ := newP X hx hZ w eT hg hd hs hn hcap hb hc hl
  exact ⟨_, T', h', cA, Nat.le_refl _, own_mkE X' e' hS hk hZ ho hEW hKn hC N O E, E, Arv.new A hn, st⟩
theorem own_mkW {T' : State} {h' : Heap} {cells' slots' : Nat} {locs' : List Loc} {k : Nat} {a : Addr} {sl : Nat} {v : Value} (X : Stand p l e R (s.setVm vm) m args below meth c T' (locs' ++ [⟨a, sl⟩]) cells' slots') (e' : T'.heap = h') (hS : s.Since vm k) (hk : k ≤ h.size) (hZ : Z.Warmed39 vm) (ho : vm.findClass own = some m.cls) (hEW : EW Z a0 EL) (hKn : Kn Z l s below) (hC : CHr Z EL s.vm s.heap vm h) (N : Fr Z.heap.size locs') (O : Ext Z.heap h) (W : Wr h h' a sl v) (S : Safe Z EL vm h a) (q : Z.heap.size ≤ a) :
    Wk Z a0 EL own p l e R s m args below meth c vm T' h' cells' slots' :=
  ⟨_, k, X, e', hS, by rw [W.size]; exact hk, hZ, ho, ⟨hEW, hKn⟩, hC.trans (CHr.wr W S hC.1), N.app fun y hy => by cases List.mem_singleton.mp hy; exact q, own_xw O W q⟩
theorem own_nc {x : Int32} (h : ¬ x < 0 ∧ ¬ 65535 < x) : nar .char x = x := by
  show x.toUInt32.toUInt16.toUInt32.toInt32 = x
  obtain ⟨h1, h2⟩ := h
  rw [Int32.lt_iff_toInt_lt] at h1 h2
  have e1 : (0 : Int32).toInt = 0 := rfl
  have e2 : (65535 : Int32).toInt = 65535 := rfl
  rw [e1] at h1; rw [e2] at h2
  apply Int32.toBitVec_inj.mp
  apply BitVec.eq_of_toNat_eq
  have hx : x.toInt = x.toBitVec.toInt := rfl
  rw [hx, BitVec.toInt_eq_toNat_cond] at h1 h2
  have hlt := x.toBitVec.isLt
  have hn : x.toBitVec.toNat < 65536 := by split at h1 <;> split at h2 <;> omega
  show ((x.toUInt32.toUInt16.toUInt32)).toBitVec.toNat = _
  have e3 : (x.toUInt32.toUInt16.toUInt32).toNat = x.toUInt32.toNat % 65536 := by simp
  have e4 : x.toUInt32.toNat = x.toBitVec.toNat := rfl
  show (x.toUInt32.toUInt16.toUInt32).toNat = _
  rw [e3, e4]; omega
theorem own_stC (W : Wk Z a0 EL own p l e R s m args below meth c vm T h cells slots) (hx : p.tables.exec = Jvm.exec) {a : Addr} {k : ClassId} {z : Int32} {vs : List Value} {dv : Value} (F : Arv Z h a k .char z vs dv) (q : Z.heap.size ≤ a) {j x : Int32} {i : Nat} (hj : ¬ j < 0 ∧ j < z) (hi : j.toNatClampNeg = i) (hl : i < vs.length) (hr : ¬ x < 0 ∧ ¬ 65535 < x)
    {g : JFrame} (hg : g.method = m) {rest : List Value} (hs : g.stack = .int x :: .int j :: .ref a :: rest) (hd : decode c.code g.pc = .ok (.castore, 1)) :
    ∃ (T' : State) (h' : Heap), Wk Z a0 EL own p l e R s m args below meth c vm T' h' cells slots ∧ Wr h h' a i (.int x) ∧ Arv Z h' a k .char z (vs.set i (.int x)) dv ∧
      ∀ target, Steps p.tables e below (T'.setTop { g with pc := g.pc + 1, stack := rest }) target → Steps p.tables e below (T.setTop g) target := by
  obtain ⟨locs, k1, X, eT, hS, hk, hZ, ho, ⟨hEW, hKn⟩, hC, N, O⟩ := W
  obtain ⟨cl, A, q1, S, q3, H, U⟩ := id F
  obtain ⟨T', h', X', e', Wr', st⟩ := stC X hx hZ eT A (inb_of S hj) hg hs hd
  rw [own_nc hr, hi] at Wr'
  rw [hi] at X'
  have fx : fits .char (.int x) = true := by have := fits_nar_char x; rw [own_nc hr] at this; exact this
  refine ⟨T', h', own_mkW X' e' hS hk hZ ho hEW hKn hC N O Wr' (Safe.arr hZ.alike A (by decide)) q, Wr', ?_, st⟩
  exact Arv.set A q1 S q3 H U fx (by rw [hi]; exact Wr') i hi hl
theorem own_stB (W : Wk Z a0 EL own p l e R s m args below meth c vm T h cells slots) (hx : p.tables.exec = Jvm.exec) {a : Addr} {k : ClassId} {z : Int32} {vs : List Value} {dv : Value} (F : Arv Z h a k .byte z vs dv) (q : Z.heap.size ≤ a) (Sf : Safe Z EL vm h a) {j x : Int32} {i : Nat} (hj : ¬ j < 0 ∧ j < z) (hi : j.toNatClampNeg = i) (hl : i < vs.length)
    {g : JFrame} (hg : g.method = m) {rest : List Value} (hs : g.stack = .int x :: .int j :: .ref a :: rest) (hd : decode c.code g.pc = .ok (.bastore, 1)) :
    ∃ (T' : State) (h' : Heap), Wk Z a0 EL own p l e R s m args below meth c vm T' h' cells slots ∧ Wr h h' a i (.int x.toInt8.toInt32) ∧ Arv Z h' a k .byte z (vs.set i (.int x.toInt8.toInt32)) dv ∧
      ∀ target, Steps p.tables e below (T'.setTop { g with pc := g.pc + 1, stack := rest }) target → Steps p.tables e below (T.setTop g) target := by
  obtain ⟨locs, k1, X, eT, hS, hk, hZ, ho, ⟨hEW, hKn⟩, hC, N, O⟩ := W
  obtain ⟨cl, A, q1, S, q3, H, U⟩ := id F
  obtain ⟨T', h', X', e', Wr', st⟩ := stB X hx hZ eT A (inb_of S hj) hg hs hd
  have Wr2 : Wr h h' a i (.int x.toInt8.toInt32) := by rw [← hi]; exact Wr'
  rw [hi] at X'
  refine ⟨T', h', own_mkW X' e' hS hk hZ ho hEW hKn hC N O Wr2 Sf q, Wr2, ?_, st⟩
  exact Arv.set A q1 S q3 H U (fits_nar_byte x) Wr' i hi hl
theorem own_put (W : Wk Z a0 EL own p l e R s m args below meth c vm T h cells slots) (hx : p.tables.exec = Jvm.exec) {R0 O n d host C : String} {index kk : Nat} {ty : FieldType} (w : (Cond.fieldLink own index R0 n d).before a0 Z = true ∨ (Cond.fieldLinkNest own index R0 n d host).before a0 Z = true) (via : Via Z R0 O n d)
    {a : Addr} {v old : Value} (F : Fld Z h a O n d old) (E : Exa Z h a C) (L : (Cond.lays C O n d).before a0 Z = true ∨ ((Cond.laysFinal C O n d).before a0 Z = true ∧ own = O ∧ meth.name = "<init>")) (wi : (Cond.instantiable C kk).before a0 Z = true)
    (hty : parseFieldDescriptor d = some ty) (hn : narrow ty v = v) (hf : fits ty v = true) (S : Safe Z EL vm h a) (q : Z.heap.size ≤ a) {g : JFrame} (hg : g.method = m) {rest : List Value} (hs : g.stack = v :: .ref a :: rest) (hd : decode c.code g.pc = .ok (.putfield index, 3)) :
    ∃ (T' : State) (h' : Heap), Wk Z a0 EL own p l e R s m args below meth c vm T' h' cells slots ∧ Wr h h' a (RoadKit.slotOf Z O n d) v ∧ Fld Z h' a O n d v ∧
      ∀ target, Steps p.tables e below (T'.setTop { g with pc := g.pc + 3, stack := rest }) target → Steps p.tables e below (T.setTop g) target := by
  obtain ⟨locs, k1, X, eT, hS, hk, hZ, ho, ⟨hEW, hKn⟩, hC, N, O'⟩ := W
  obtain ⟨T', h', X', e', W', st⟩ := putF X hx hZ ho w via eT F E L wi hty hn hf hg hs hd
  exact ⟨T', h', own_mkW X' e' hS hk hZ ho hEW hKn hC N O' W' S q, W', F.same W', st⟩
theorem own_get (W : Wk Z a0 EL own p l e R s m args below meth c vm T h cells slots) (hx : p.tables.exec = Jvm.exec) {R0 O n d host : String} {index : Nat} (w : (Cond.fieldLink own index R0 n d).before a0 Z = true ∨ (Cond.fieldLinkNest own index R0 n d host).before a0 Z = true) (via : Via Z R0 O n d)
    {a : Addr} {v : Value} (F : Fld Z h a O n d v) {g : JFrame} (hg : g.method = m) {rest : List Value} (hs : g.stack = .ref a :: rest) (hd : decode c.code g.pc = .ok (.getfield index, 3)) :
    ∃ T' : State, Wk Z a0 EL own p l e R s m args below meth c vm T' h cells slots ∧
      ∀ target, Steps p.tables e below (T'.setTop { g with pc := g.pc + 3, stack := v :: rest }) target → Steps p.tables e below (T.setTop g) target := by
  obtain ⟨locs, k1, X, eT, hS, hk, hZ, ho, ⟨hEW, hKn⟩, hC, N, O'⟩ := W
  obtain ⟨T', X', e', st⟩ := getF X hx hZ ho w via eT F hg hs hd
  exact ⟨T', ⟨locs, k1, X', e', hS, hk, hZ, ho, ⟨hEW, hKn⟩, hC, N, O'⟩, st⟩
theorem own_getS (W : Wk Z a0 EL own p l e R s m args below meth c vm T h cells slots) (hx : p.tables.exec = Jvm.exec) {R0 O n d host : String} {index : Nat} (w : (Cond.fieldLink own index R0 n d).before a0 Z = true ∨ (Cond.fieldLinkNest own index R0 n d host).before a0 Z = true) (via : Via Z R0 O n d)
    {v : Value} (F : Sta Z Z.heap O n d v) {g : JFrame} (hg : g.method = m) (hd : decode c.code g.pc = .ok (.getstatic index, 3)) :
    ∃ T' : State, Wk Z a0 EL own p l e R s m args below meth c vm T' h cells slots ∧
      ∀ target, Steps p.tables e below (T'.setTop { g with pc := g.pc + 3, stack := v :: g.stack }) target → Steps p.tables e below (T.setTop g) target := by
  obtain ⟨locs, k1, X, eT, hS, hk, hZ, ho, ⟨hEW, hKn⟩, hC, N, O'⟩ := W
  obtain ⟨T', X', e', st⟩ := getS2 X hx hZ ho w via eT (F.ext O') hg hd
  exact ⟨T', ⟨locs, k1, X', e', hS, hk, hZ, ho, ⟨hEW, hKn⟩, hC, N, O'⟩, st⟩
theorem own_initO (W : Wk Z a0 EL own p l e R s m args below meth c vm T h cells slots) (hx : p.tables.exec = Jvm.exec) {idx : Nat} (w1 : (Cond.methodLink own idx Lib.objectInit).before a0 Z = true) (w2 : (Cond.instanceMethod Lib.objectInit).before a0 Z = true)
    (w3 : (Cond.code Lib.objectInit ⟨#[0xb1]⟩ 1 none).before a0 Z = true) {g : JFrame} (hg : g.method = m) (hsize : g.locals.size = c.maxLocals) {a : Addr} {rest : List Value} (hs : g.stack = .ref a :: rest) (hd : decode c.code g.pc = .ok (.invokespecial idx, 3))
    (hf : 1 ≤ R.frames) {Wd : Nat} (hW : 2 * g.monitorRoom + (rest.map fun v => v.category).sum ≤ Wd) (hl : Wd + 12 ≤ R.locals) :
    ∃ T' : State, Wk Z a0 EL own p l e R s m args below meth c vm T' h cells slots ∧ ∀ target, Steps p.tables e below (T'.setTop { g with pc := g.pc + 3, stack := rest }) target → Steps p.tables e below (T.setTop g) target := by
  obtain ⟨locs, k1, X, eT, hS, hk, hZ, ho, ⟨hEW, hKn⟩, hC, N, O'⟩ := W
  obtain ⟨T', X', e', st⟩ := initO X hx hZ ho w1 w2 w3 eT hg hsize hs hd hf hW hl
  exact ⟨T', ⟨locs, k1, X', e', hS, hk, hZ, ho, ⟨hEW, hKn⟩, hC, N, O'⟩, st⟩
theorem own_ldcI (W : Wk Z a0 EL own p l e R s m args below meth c vm T h cells slots) (hx : p.tables.exec = Jvm.exec) {index : Nat} {v : Int32} (w : (Cond.constant own index v).before a0 Z = true) {g : JFrame} (hg : g.method = m) (hd : decode c.code g.pc = .ok (.ldc index, 2)) :
    ∀ target, Steps p.tables e below (T.setTop { g with pc := g.pc + 2, stack := .int v :: g.stack }) target → Steps p.tables e below (T.setTop g) target := by
  obtain ⟨locs, k1, X, eT, hS, hk, hZ, ho, ⟨hEW, hKn⟩, hC, N, O'⟩ := W
  exact X.ldcInt hx ho (mv (s := s.setVm vm) hZ w) hg hd
theorem own_alen (W : Wk Z a0 EL own p l e R s m args below meth c vm T h cells slots) (hx : p.tables.exec = Jvm.exec) {a : Addr} {k : ClassId} {ty : FieldType} {z : Int32} {vs : List Value} {dv : Value} (F : Arv Z h a k ty z vs dv) {g : JFrame} (hg : g.method = m) {rest : List Value} (hs : g.stack = .ref a :: rest) (hd : decode c.code g.pc = .ok (.arraylength, 1)) :
    ∀ target, Steps p.tables e below (T.setTop { g with pc := g.pc + 1, stack := .int z :: rest }) target → Steps p.tables e below (T.setTop g) target := by
  obtain ⟨locs, k1, X, eT, hS, hk, hZ, ho, ⟨hEW, hKn⟩, hC, N, O'⟩ := W
  obtain ⟨cl, A, q1, S, q3, H, U⟩ := F
  intro target q
  have e1 := len_of S q3
  refine X.arraylength hx (by rw [eT]; exact A.1) (State.isArrayOf_alike (T := s.setVm vm) hZ.alike A.2.1) hg hs hd _ ?_
  rw [e1]; exact q
theorem own_cal (W : Wk Z a0 EL own p l e R s m args below meth c vm T h cells slots) (hx : p.tables.exec = Jvm.exec) {a : Addr} {k : ClassId} {z : Int32} {vs : List Value} {dv : Value} (F : Arv Z h a k .char z vs dv) {j x : Int32} (hj : ¬ j < 0 ∧ j < z) (hv : vs.getD j.toNatClampNeg dv = .int x) {g : JFrame} (hg : g.method = m) {rest : List Value} (hs : g.stack = .int j :: .ref a :: rest) (hd : decode c.code g.pc = .ok (.caload, 1)) :
    ∀ target, Steps p.tables e below (T.setTop { g with pc := g.pc + 1, stack := .int x :: rest }) target → Steps p.tables e below (T.setTop g) target := by
  obtain ⟨locs, k1, X, eT, hS, hk, hZ, ho, ⟨hEW, hKn⟩, hC, N, O'⟩ := W
  obtain ⟨cl, A, q1, S, q3, H, U⟩ := F
  exact X.caload hx (by rw [eT]; exact A.1) (State.isArrayOf_alike (T := s.setVm vm) hZ.alike A.2.1) A.2.2 (inb_of S hj) (H.at (inb_of S hj) hv) hg hs hd
theorem own_bal (W : Wk Z a0 EL own p l e R s m args below meth c vm T h cells slots) (hx : p.tables.exec = Jvm.exec) {a : Addr} {k : ClassId} {z : Int32} {vs : List Value} {dv : Value} (F : Arv Z h a k .byte z vs dv) {j x : Int32} (hj : ¬ j < 0 ∧ j < z) (hv : vs.getD j.toNatClampNeg dv = .int x) {g : JFrame} (hg : g.method = m) {rest : List Value} (hs : g.stack = .int j :: .ref a :: rest) (hd : decode c.code g.pc = .ok (.baload, 1)) :
    ∀ target, Steps p.tables e below (T.setTop { g with pc := g.pc + 1, stack := .int x :: rest }) target → Steps p.tables e below (T.setTop g) target := by
  obtain ⟨locs, k1, X, eT, hS, hk, hZ, ho, ⟨hEW, hKn⟩, hC, N, O'⟩ := W
  obtain ⟨cl, A, q1, S, q3, H, U⟩ := F
  exact X.baloadBytes hx (by rw [eT]; exact A.1) (State.isArrayOf_alike (T := s.setVm vm) hZ.alike A.2.1) A.2.2 (inb_of S hj) (H.at (inb_of S hj) hv) hg hs hd
theorem own_irem (W : Wk Z a0 EL own p l e R s m args below meth c vm T h cells slots) (hx : p.tables.exec = Jvm.exec) {g : JFrame} (hg : g.method = m) {x y : Int32} {rest : List Value} (hd : decode c.code g.pc = .ok (.irem, 1)) (hs : g.stack = .int y :: .int x :: rest) (hy : y ≠ 0) :
    ∀ target, Steps p.tables e below (T.setTop { g with pc := g.pc + 1, stack := .int (x % y) :: rest }) target → Steps p.tables e below (T.setTop g) target := by
  obtain ⟨locs, k1, X, -⟩ := W
  exact fun _ q => iremM X hx hg hd hs hy q
theorem own_acmp (W : Wk Z a0 EL own p l e R s m args below meth c vm T h cells slots) (hx : p.tables.exec = Jvm.exec) {g : JFrame} (hg : g.method = m) {cd : ACond} {x y : Value} (h1 : x.isRef = true) (h2 : y.isRef = true) {rest : List Value} {o : Int} {pc0 pc' : Nat} {same : Bool} (hpc : g.pc = pc0)
    (hd : decode c.code g.pc = .ok (.if_acmp cd o, 3)) (hs : g.stack = y :: x :: rest) (hq : decide (x = y) = same) (ho : 0 ≤ (pc0 : Int) + o) (hp : pc' = if acV cd same = true then ((pc0 : Int) + o).toNat else pc0 + 3) :
    ∀ target, Steps p.tables e below (T.setTop { g with pc := pc', stack := rest }) target → Steps p.tables e below (T.setTop g) target := by
  obtain ⟨locs, k1, X, -⟩ := W
  exact fun _ q => Jvm.RoadKit.acmp X hx hg h1 h2 hpc hd hs hq ho hp q
theorem own_cast (W : Wk Z a0 EL own p l e R s m args below meth c vm T h cells slots) (hx : p.tables.exec = Jvm.exec) {K : String} {index : Nat} (w : (Cond.classLink own index K).before a0 Z = true) {a : Addr} (F : Ins Z h a K true) {g : JFrame} (hg : g.method = m) {rest : List Value} (hs : g.stack = .ref a :: rest) (hd : decode c.code g.pc = .ok (.checkcast index, 3)) :
    ∃ T' : State, Wk Z a0 EL own p l e R s m args below meth c vm T' h cells slots ∧ ∀ target, Steps p.tables e below (T'.setTop { g with pc := g.pc + 3 }) target → Steps p.tables e below (T.setTop g) target := by
  obtain ⟨locs, k1, X, eT, hS, hk, hZ, ho, ⟨hEW, hKn⟩, hC, N, O'⟩ := W
  obtain ⟨T', X', e', st⟩ := castY X hx hZ ho w eT F hg hs hd
  exact ⟨T', ⟨locs, k1, X', e', hS, hk, hZ, ho, ⟨hEW, hKn⟩, hC, N, O'⟩, st⟩
/-- ldc of a String constant, its text read -/
theorem own_ldcR (W : Wk Z a0 EL own p l e R s m args below meth c vm T h cells slots) (hx : p.tables.exec = Jvm.exec) {text : String} {index : Nat} (w : (Cond.stringLink own index text).before a0 Z = true) (wS : ∀ a ∈ Bundle.stringAtoms, a.before a0 Z = true) (hmem : (own, index) ∈ EL)
    {vs : List Value} {z : Int32} (ht : (∀ c ∈ text.toList, c.toNat < 256) ∧ text.toList.map (fun c => Value.int (Jvm.Lit.byteI c.toNat.toUInt16)) = vs) (hz : ¬ z < 0) (hl : z.toNatClampNeg = vs.length)
    {g : JFrame} (hg : g.method = m) (hd : decode c.code g.pc = .ok (.ldc index, 2)) {n : Nat} (hn : 4 * text.toList.length ≤ n) (hbig : n ≤ 536870912) (hc : cells + 2 ≤ R.cells) (hl' : slots + (n + 4) ≤ R.slots) :
    ∃ (a : Addr) (b : Addr) (k : ClassId) (vm' : Vm) (T' : State) (h' : Heap), Wk Z a0 EL own p l e R s m args below meth c vm' T' h' (cells + 2) (slots + (n + 4)) ∧ Ext h h' ∧ CHr Z EL vm h vm' h' ∧
      Exa Z h' a "java/lang/String" ∧ Fld Z h' a "java/lang/String" "coder" "B" (.int 0) ∧ Fld Z h' a "java/lang/String" "value" "[B" (.ref b) ∧ Arv Z h' b k .byte z vs (.int 0) ∧ (∀ x, Safe Z EL vm' h' x → x ≠ a ∧ x ≠ b) ∧
      ∀ target, Steps p.tables e below (T'.setTop { g with pc := g.pc + 2, stack := .ref a :: g.stack }) target → Steps p.tables e below (T.setTop g) target := by
  obtain ⟨locs, k1, X, eT, hS, hk, hZ, ho, ⟨hEW, hKn⟩, hC, N, O'⟩ := W
  obtain ⟨a, T', h', k2, b, k, X', e', E, hS', hk', hZ', ho', f1, f2, f3, f4, -, -, hC', -, hne, st⟩ := ldcCH X hx hZ ho w wS eT hS hk hEW hmem hC.1 ht hz hl hg hd hn hbig hc hl'
  exact ⟨a, b, k, T'.vm, T', h', ⟨locs, k2, X', e', hS', hk', hZ', ho', ⟨hEW, hKn⟩, hC.trans hC', N, own_xt O' E⟩, E, hC', f1, f2, f3, f4, hne, st⟩
/-- ldc of a String constant, unread -/
theorem own_ldcO (W : Wk Z a0 EL own p l e R s m args below meth c vm T h cells slots) (hx : p.tables.exec = Jvm.exec) {text : String} {index : Nat} (w : (Cond.stringLink own index text).before a0 Z = true) (wS : ∀ a ∈ Bundle.stringAtoms, a.before a0 Z = true)
    {g : JFrame} (hg : g.method = m) (hd : decode c.code g.pc = .ok (.ldc index, 2)) {n : Nat} (hn : 4 * text.toList.length ≤ n) (hbig : n ≤ 536870912) (hc : cells + 2 ≤ R.cells) (hl' : slots + (n + 4) ≤ R.slots) :
    ∃ (a : Addr) (vm' : Vm) (T' : State) (h' : Heap), Wk Z a0 EL own p l e R s m args below meth c vm' T' h' (cells + 2) (slots + (n + 4)) ∧ Ext h h' ∧ CHr Z EL vm h vm' h' ∧
      ∀ target, Steps p.tables e below (T'.setTop { g with pc := g.pc + 2, stack := .ref a :: g.stack }) target → Steps p.tables e below (T.setTop g) target := by
  obtain ⟨locs, k1, X, eT, hS, hk, hZ, ho, ⟨hEW, hKn⟩, hC, N, O'⟩ := W
  obtain ⟨a, T', h', k2, X', e', E, hS', hk', hZ', ho', hC', -, st⟩ := ldcOH X hx hZ ho w wS eT hS hk hEW hC.1 hg hd hn hbig hc hl'
  exact ⟨a, T'.vm, T', h', ⟨locs, k2, X', e', hS', hk', hZ', ho', ⟨hEW, hKn⟩, hC.trans hC', N, own_xt O' E⟩, E, hC', st⟩
/-- a method's contract, at a heap -/
def Ct (l : Launch) (Z : State) (a0 : Array Value) (EL : List (String × Nat)) (y : MethodName) (bytes : ByteArray) (maxL : Nat) (ret : Option FieldType) (ws : List Jvm.Cond) (rm : Room) (as' : Array Value) (h : Heap) (sf : List Addr) (Q : Option Value → Heap → List Addr → Prop) : Prop :=
  Ext Z.heap h → l.stackTraces = true → MetFree l y (head1 (Cond.code y bytes maxL ret :: ws) rm) (fun a U => a = as' ∧ Z.Warmed39 U.vm ∧ U.heap = h ∧ CHv Z EL U.vm h ∧ ∀ x ∈ sf, Safe Z EL U.vm h x) (fun _ _ bl s _ => s.vm.MethodsKnown ∧ s.vm.FramesKnown bl)
    (fun _ U o U' => ∃ v L so, o = .returned v ∧ Q v U'.heap so ∧ Fr Z.heap.size L ∧ Ext Z.heap U'.heap ∧ CHr Z EL U.vm U.heap U'.vm U'.heap ∧ (∀ x ∈ so, Safe Z EL U'.vm U'.heap x) ∧ ReturnedEndW U o U' L rm.cells rm.slots)
theorem own_safeAt {locs : List Loc} (Y : Stand p l e R (s.setVm vm) m args below meth c T locs cells slots) (hZ : Z.Warmed39 vm) (hEW : EW Z a0 EL) (H : CHv Z EL vm h) {x : Addr} (S : Safe Z EL vm h x) : Safe Z EL T.vm h x := fun B => by
  rcases (CHv.at Y hZ hEW H).2.2 x B with q | q
  · exact S q
  · obtain ⟨cell, r⟩ := B.there
    have := (Array.getElem?_eq_some_iff.mp r).1; omega
theorem own_backS {y : MethodName} {bytes : ByteArray} {maxL : Nat} {ret : Option FieldType} {rm : Room} {len Wd : Nat} {as' : Array Value} {sf : List Addr} {Q : Option Value → Heap → List Addr → Prop} (O : Ext Z.heap h)
    (hM : Ct l Z a0 EL y bytes maxL ret [] rm as' h sf Q)
    (hZ : Z.Warmed39 vm) (wc : (Cond.code y bytes maxL ret).before a0 Z = true) (wz : (Cond.initialized y.cls).before a0 Z = true) (hf : rm.frames + 1 ≤ R.frames) (hl : Wd + (maxL + 11) + rm.locals ≤ R.locals) (hEL : EW Z a0 EL) (hKn : Kn Z l s below) (H : CHv Z EL vm h) (hsf : ∀ x ∈ sf, Safe Z EL vm h x) :
    BackS l R p e below (s.setVm vm) args y len Wd (fun A a => a = as' ∧ A.U.heap = h ∧ A.cells + rm.cells ≤ R.cells ∧ A.slots + rm.slots ≤ R.slots)
      (fun A _ v B => ∃ L so, Q v B.U.heap so ∧ Fr Z.heap.size L ∧ Ext Z.heap B.U.heap ∧ B.locs = A.locs ++ L ∧ B.cells = A.cells + rm.cells ∧ B.slots = A.slots + rm.slots ∧ CHr Z EL vm h B.U.vm B.U.heap ∧ ∀ x ∈ so, Safe Z EL B.U.vm B.U.heap x) :=
  BackS.of_freeWG (bytes := bytes) (maxL := maxL) (ret := ret) (E := fun _ first o t L k n => k = rm.cells ∧ n = rm.slots ∧ (∃ v so, o = .returned v ∧ Q v t.heap so ∧ Fr Z.heap.size L ∧ Ext Z.heap t.heap ∧ ∀ x ∈ so, Safe Z EL t.vm t.heap x) ∧ CHr Z EL first.vm first.heap t.vm t.heap) (hM O hKn.1) hf hl
    (fun m meth c A a Y hp => have hU : Z.Warmed39 A.U.vm := wtrans (s := s.setVm vm) hZ Y.warmed
      ⟨by show (Cond.and _ .tt).before a A.U = true; rw [Cond.before_and, mv hU wc]; rfl, mv hU wc, mv hU wz, hp.2.2.1, hp.2.2.2⟩)
    (fun m meth c A a g mk Y hp => ⟨hp.1, wtrans (s := s.setVm vm) hZ Y.warmed, hp.2.1, (CHv.at Y hZ hEL H).1, fun x hx => own_safeAt Y hZ hEL H (hsf x hx)⟩) (fun m meth c A a g mk Y _ hg => known_frames Y hg (Vm.MethodsKnown.alikeC hZ.alike hKn.2.2.1) (Vm.FramesKnown.alikeC hZ.alike hKn.2.2.2))
    (fun _ _ _ _ ⟨v, L, so, h1, h2, h3, h4, h5, h7, h6⟩ => ⟨L, _, _, h6, rfl, rfl, ⟨v, so, h1, h2, h3, h4, h7⟩, h5⟩)
    (fun m meth c A a g mk v t L k n Y hp _ _ ⟨e1, e2, ⟨v', so, e3, e4, e5, e6, e8⟩, e7⟩ => by
      cases e3; subst e1 e2
      refine ⟨L, so, e4, e5, e6, rfl, rfl, rfl, (CHv.at Y hZ hEL H).trans ?_, e8⟩
      rw [← hp.2.1]; exact e7)
theorem own_mkB {B : Pt} {L locs : List Loc} {k : Nat} {kc ks : Nat} (X : Stand p l e R ((s.setVm vm).setVm B.U.vm) m args below meth c B.U B.locs B.cells B.slots) (h2 : (s.setVm vm).Since B.U.vm B.U.heap.size) (hg : h.size ≤ B.U.heap.size) (hS : s.Since vm k) (hk : k ≤ h.size) (hZ : Z.Warmed39 vm) (ho : vm.findClass own = some m.cls) (hEW : EW Z a0 EL) (hKn : Kn Z l s below) (hC : CHr Z EL s.vm s.heap vm h) (N : Fr Z.heap.size locs)
    (hL : Fr Z.heap.size L) (O' : Ext Z.heap B.U.heap) (e1 : B.locs = locs ++ L) (e2 : B.cells = kc) (e3 : B.slots = ks) (hC' : CHr Z EL vm h B.U.vm B.U.heap) :
    Wk Z a0 EL own p l e R s m args below meth c B.U.vm B.U B.U.heap kc ks := by
  obtain ⟨X', hS', hZ', ho'⟩ := rebS hS hk X h2 hg hZ ho
  subst e2 e3
  exact ⟨B.locs, _, X', rfl, hS', Nat.le_refl _, hZ', ho', ⟨hEW, hKn⟩, hC.trans hC', by rw [e1]; exact N.app hL, O'⟩
theorem own_static (W : Wk Z a0 EL own p l e R s m args below meth c vm T h cells slots) (hx : p.tables.exec = Jvm.exec) {index : Nat} {y : MethodName} {bytes : ByteArray} {maxL : Nat} {ret : Option FieldType} {rm : Room} {as' : Array Value} {sf : List Addr} {Q : Option Value → Heap → List Addr → Prop}
    (w1 : (Cond.methodLink own index y).before a0 Z = true) (w2 : (Cond.static y).before a0 Z = true) (w3 : (Cond.initialized y.cls).before a0 Z = true) (w4 : (Cond.code y bytes maxL ret).before a0 Z = true) (hy : y.cls ≠ "java/lang/invoke/MethodHandle" ∧ y.cls ≠ "java/lang/invoke/VarHandle")
    (hM : Ct l Z a0 EL y bytes maxL ret [] rm as' h sf Q) (hsf : ∀ x ∈ sf, Safe Z EL vm h x) {Wd : Nat} (hf : rm.frames + 1 ≤ R.frames) (hlo : Wd + (maxL + 11) + rm.locals ≤ R.locals) (hce : cells + rm.cells ≤ R.cells) (hsl : slots + rm.slots ≤ R.slots)
    {g : JFrame} (hg : g.method = m) (hsize : g.locals.size = c.maxLocals) {argsL rest : List Value} (hlen : ∀ sig, parseMethodDescriptor y.desc = some sig → argsL.length = sig.parameters.length) (hstack : g.stack = argsL.reverse ++ rest) (has : argsL.toArray = as') (hW : 2 * g.monitorRoom + (rest.map fun v => v.category).sum ≤ Wd)
    (hdg : decode c.code g.pc = .ok (.invokestatic index, 3)) :
    ∃ (v : Option Value) (so : List Addr) (vm' : Vm) (T' : State) (h' : Heap), Wk Z a0 EL own p l e R s m args below meth c vm' T' h' (cells + rm.cells) (slots + rm.slots) ∧ CHr Z EL vm h vm' h' ∧ Q v h' so ∧ (∀ x ∈ so, Safe Z EL vm' h' x) ∧
      ∀ target, Steps p.tables e below (T'.setTop { g with pc := g.pc + 3, stack := v.toList ++ rest }) target → Steps p.tables e below (T.setTop g) target := by
  obtain ⟨locs, k1, X, eT, hS, hk, hZ, ho, ⟨hEW, hKn⟩, hC, N, O'⟩ := W
  subst eT
  obtain ⟨v, vm1, B, -, X', h2, hg2, ⟨L, so, hQ, hL, O2, e1, e2, e3, hC', hso⟩, st⟩ := callSS X hx ho (mv (s := s.setVm vm) hZ w1) (mv (s := s.setVm vm) hZ w2) (mv (s := s.setVm vm) hZ w3) (mv (s := s.setVm vm) hZ w4) hy (own_backS O' hM hZ w4 w3 hf hlo hEW hKn hC.1 hsf) hg hsize hlen hstack hW hdg (fun _ _ => ⟨has, rfl, hce, hsl⟩)
  exact ⟨v, so, _, B.U, _, own_mkB X' h2 hg2 hS hk hZ ho hEW hKn hC N hL O2 e1 e2 e3 hC', hC', hQ, hso, fun _ q => st.trans q⟩
theorem own_special (W : Wk Z a0 EL own p l e R s m args below meth c vm T h cells slots) (hx : p.tables.exec = Jvm.exec) {index : Nat} {y : MethodName} {bytes : ByteArray} {maxL : Nat} {rm : Room} {as' : Array Value} {sf : List Addr} {Q : Option Value → Heap → List Addr → Prop} (hy1 : y.name = "<init>")
    (w1 : (Cond.methodLink own index y).before a0 Z = true) (w2 : (Cond.instanceMethod y).before a0 Z = true) (w3 : (Cond.initialized y.cls).before a0 Z = true) (w4 : (Cond.code y bytes maxL none).before a0 Z = true) (hy : y.cls ≠ "java/lang/invoke/MethodHandle" ∧ y.cls ≠ "java/lang/invoke/VarHandle")
    (hM : Ct l Z a0 EL y bytes maxL none [] rm as' h sf Q) (hsf : ∀ x ∈ sf, Safe Z EL vm h x) {Wd : Nat} (hf : rm.frames + 1 ≤ R.frames) (hlo : Wd + (maxL + 11) + rm.locals ≤ R.locals) (hce : cells + rm.cells ≤ R.cells) (hsl : slots + rm.slots ≤ R.slots)
    {g : JFrame} (hg : g.method = m) (hsize : g.locals.size = c.maxLocals) {a : Addr} {argsL rest : List Value} (hlen : ∀ sig, parseMethodDescriptor y.desc = some sig → argsL.length = sig.parameters.length) (hstack : g.stack = argsL.reverse ++ .ref a :: rest) (has : (.ref a :: argsL).toArray = as') (hW : 2 * g.monitorRoom + (rest.map fun v => v.category).sum ≤ Wd)
    (hdg : decode c.code g.pc = .ok (.invokespecial index, 3)) :
    ∃ (v : Option Value) (so : List Addr) (vm' : Vm) (T' : State) (h' : Heap), Wk Z a0 EL own p l e R s m args below meth c vm' T' h' (cells + rm.cells) (slots + rm.slots) ∧ CHr Z EL vm h vm' h' ∧ Q v h' so ∧ (∀ x ∈ so, Safe Z EL vm' h' x) ∧
      ∀ target, Steps p.tables e below (T'.setTop { g with pc := g.pc + 3, stack := v.toList ++ rest }) target → Steps p.tables e below (T.setTop g) target := by
  obtain ⟨locs, k1, X, eT, hS, hk, hZ, ho, ⟨hEW, hKn⟩, hC, N, O'⟩ := W
  subst eT
  obtain ⟨v, vm1, B, -, X', h2, hg2, ⟨L, so, hQ, hL, O2, e1, e2, e3, hC', hso⟩, st⟩ := X.specialBackS hx hy1 ho (mv (s := s.setVm vm) hZ w1) (mv (s := s.setVm vm) hZ w2) (mv (s := s.setVm vm) hZ w4) hy (own_backS O' hM hZ w4 w3 hf hlo hEW hKn hC.1 hsf) hg hsize (Steps.refl _) hlen hstack hW hdg (fun _ _ => ⟨has, rfl, hce, hsl⟩)
  exact ⟨v, so, _, B.U, _, own_mkB X' h2 hg2 hS hk hZ ho hEW hKn hC N hL O2 e1 e2 e3 hC', hC', hQ, hso, fun _ q => st.trans q⟩
theorem own_virtual (W : Wk Z a0 EL own p l e R s m args below meth c vm T h cells slots) (hx : p.tables.exec = Jvm.exec) {index : Nat} {C : String} {y z : MethodName} {bytes : ByteArray} {maxL : Nat} {ret : Option FieldType} {rm : Room} {as' : Array Value} {sf : List Addr} {Q : Option Value → Heap → List Addr → Prop}
    (w1 : (Cond.methodLink own index y).before a0 Z = true) (w2 : (Cond.declares y).before a0 Z = true) (w5 : (Cond.selects C y z).before a0 Z = true) (w6 : (Cond.instanceMethod z).before a0 Z = true) (w3 : (Cond.initialized z.cls).before a0 Z = true) (w4 : (Cond.code z bytes maxL ret).before a0 Z = true) (hy : y.cls ≠ "java/lang/invoke/MethodHandle" ∧ y.cls ≠ "java/lang/invoke/VarHandle") (hnf : NotFace (s.setVm vm) y)
    {a : Addr} (E : Exa Z h a C)
    (hM : Ct l Z a0 EL z bytes maxL ret [] rm as' h sf Q) (hsf : ∀ x ∈ sf, Safe Z EL vm h x) {Wd : Nat} (hf : rm.frames + 1 ≤ R.frames) (hlo : Wd + (maxL + 11) + rm.locals ≤ R.locals) (hce : cells + rm.cells ≤ R.cells) (hsl : slots + rm.slots ≤ R.slots)
    {g : JFrame} (hg : g.method = m) (hsize : g.locals.size = c.maxLocals) {argsL rest : List Value} (hlen : ∀ sig, parseMethodDescriptor y.desc = some sig → argsL.length = sig.parameters.length) (hstack : g.stack = argsL.reverse ++ .ref a :: rest) (has : (.ref a :: argsL).toArray = as') (hW : 2 * g.monitorRoom + (rest.map fun v => v.category).sum ≤ Wd)
    (hdg : decode c.code g.pc = .ok (.invokevirtual index, 3)) :
    ∃ (v : Option Value) (so : List Addr) (vm' : Vm) (T' : State) (h' : Heap), Wk Z a0 EL own p l e R s m args below meth c vm' T' h' (cells + rm.cells) (slots + rm.slots) ∧ CHr Z EL vm h vm' h' ∧ Q v h' so ∧ (∀ x ∈ so, Safe Z EL vm' h' x) ∧
      ∀ target, Steps p.tables e below (T'.setTop { g with pc := g.pc + 3, stack := v.toList ++ rest }) target → Steps p.tables e below (T.setTop g) target := by
  obtain ⟨locs, k1, X, eT, hS, hk, hZ, ho, ⟨hEW, hKn⟩, hC, N, O'⟩ := W
  obtain ⟨cB, kB, q1, q2, q3⟩ := isOf (s := s.setVm vm) hZ eT E
  subst eT
  obtain ⟨v, vm1, B, -, X', h2, hg2, ⟨L, so, hQ, hL, O2, e1, e2, e3, hC', hso⟩, st⟩ := X.virtualBackS hx ho (mv (s := s.setVm vm) hZ w1) (mv (s := s.setVm vm) hZ w2) hnf (mv (s := s.setVm vm) hZ w5) (mv (s := s.setVm vm) hZ w6) hy (own_backS O' hM hZ w4 w3 hf hlo hEW hKn hC.1 hsf) q1 q3 hg hsize (Steps.refl _) hlen hstack hW hdg (fun _ _ => ⟨has, rfl, hce, hsl⟩)
  exact ⟨v, so, _, B.U, _, own_mkB X' h2 hg2 hS hk hZ ho hEW hKn hC N hL O2 e1 e2 e3 hC', hC', hQ, hso, fun _ q => st.trans q⟩
/-- that the class of a method that its own class selects is no interface -/
theorem own_nf (W : Wk Z a0 EL own p l e R s m args below meth c vm T h cells slots) {C : String} {y : MethodName} (w : (Cond.selects C y y).before a0 Z = true) : NotFace (s.setVm vm) y := by
  obtain ⟨locs, k1, X, eT, hS, hk, hZ, ho, ⟨hEW, hKn⟩, hC, N, O'⟩ := W
  exact notFace_of_selects (args := #[]) (mv (s := s.setVm vm) hZ w)
/-- a callee of the library that leaves the tables, as a Back -/
theorem own_mkK {B : Pt} {L locs : List Loc} {k : Nat} {kc ks : Nat} {ws : List Addr} (X : Stand p l e R (s.setVm vm) m args below meth c B.U B.locs B.cells B.slots) (hS : s.Since vm k) (hk : k ≤ h.size) (hZ : Z.Warmed39 vm) (ho : vm.findClass own = some m.cls) (hEW : EW Z a0 EL) (hKn : Kn Z l s below) (hC : CHr Z EL s.vm s.heap vm h) (N : Fr Z.heap.size locs) (O' : Ext Z.heap h)
    (hL : Fr Z.heap.size L) (K : Keep h B.U.heap ws) (hs : ∀ x ∈ ws, Safe Z EL vm h x) (hn : ∀ x ∈ ws, Z.heap.size ≤ x) (e1 : B.locs = locs ++ L) (e2 : B.cells = kc) (e3 : B.slots = ks) :
    Wk Z a0 EL own p l e R s m args below meth c vm B.U B.U.heap kc ks := by
  subst e2 e3
  exact ⟨B.locs, k, X, rfl, hS, Nat.le_trans hk K.1, hZ, ho, ⟨hEW, hKn⟩, hC.trans (CHr.keep K hs hC.1), by rw [e1]; exact N.app hL, own_xk O' K hn⟩
/-- an instance method that the library pays by a Back -/
theorem own_virtB (W : Wk Z a0 EL own p l e R s m args below meth c vm T h cells slots) (hx : p.tables.exec = Jvm.exec) {index : Nat} {C : String} {y z : MethodName} {kc ks : Nat} {as' : Array Value} {ws : List Addr} {Q : Option Value → Heap → List Loc → Prop}
    (w1 : (Cond.methodLink own index y).before a0 Z = true) (w2 : (Cond.declares y).before a0 Z = true) (w5 : (Cond.selects C y z).before a0 Z = true) (w6 : (Cond.instanceMethod z).before a0 Z = true) (hy : y.cls ≠ "java/lang/invoke/MethodHandle" ∧ y.cls ≠ "java/lang/invoke/VarHandle") (hnf : NotFace (s.setVm vm) y)
    {a : Addr} (E : Exa Z h a C) {Wd : Nat}
    (hK : ∀ s' : State, Z.Warmed39 s'.vm → Back l R p e below s' args z 3 Wd (fun P a => a = as' ∧ P.U.heap = h ∧ P.cells + kc ≤ R.cells ∧ P.slots + ks ≤ R.slots) (fun P _ v B => ∃ L, Q v B.U.heap L ∧ B.locs = P.locs ++ L ∧ B.cells = P.cells + kc ∧ B.slots = P.slots + ks))
    (hQ : ∀ v h' L, Q v h' L → Fr Z.heap.size L ∧ Keep h h' ws) (hs : ∀ x ∈ ws, Safe Z EL vm h x) (hn : ∀ x ∈ ws, Z.heap.size ≤ x) (hce : cells + kc ≤ R.cells) (hsl : slots + ks ≤ R.slots)
    {g : JFrame} (hg : g.method = m) (hsize : g.locals.size = c.maxLocals) {argsL rest : List Value} (hlen : ∀ sig, parseMethodDescriptor y.desc = some sig → argsL.length = sig.parameters.length) (hstack : g.stack = argsL.reverse ++ .ref a :: rest) (has : (.ref a :: argsL).toArray = as') (hW : 2 * g.monitorRoom + (rest.map fun v => v.category).sum ≤ Wd)
    (hdg : decode c.code g.pc = .ok (.invokevirtual index, 3)) :
    ∃ (v : Option Value) (T' : State) (h' : Heap) (L : List Loc), Wk Z a0 EL own p l e R s m args below meth c vm T' h' (cells + kc) (slots + ks) ∧ Q v h' L ∧
      ∀ target, Steps p.tables e below (T'.setTop { g with pc := g.pc + 3, stack := v.toList ++ rest }) target → Steps p.tables e below (T.setTop g) target := by
  obtain ⟨locs, k1, X, eT, hS, hk, hZ, ho, ⟨hEW, hKn⟩, hC, N, O'⟩ := W
  obtain ⟨cB, kB, q1, q2, q3⟩ := isOf (s := s.setVm vm) hZ eT E
  obtain ⟨v, vm1, B, -, X', ⟨L, hq, e1, e2, e3⟩, st⟩ := X.virtualBack hx ho (mv (s := s.setVm vm) hZ w1) (mv (s := s.setVm vm) hZ w2) hnf (mv (s := s.setVm vm) hZ w5) (mv (s := s.setVm vm) hZ w6) hy (hK _ hZ) q1 q3 hg hsize (Steps.refl _) hlen hstack hW hdg (fun _ _ => ⟨has, eT, hce, hsl⟩)
  obtain ⟨hL, K⟩ := hQ _ _ _ hq
  exact ⟨v, B.U, _, L, own_mkK X' hS hk hZ ho hEW hKn hC N O' hL K hs hn e1 e2 e3, hq, fun _ q => st.trans q⟩
/-- a constructor that the library pays by a Back -/
theorem own_specB (W : Wk Z a0 EL own p l e R s m args below meth c vm T h cells slots) (hx : p.tables.exec = Jvm.exec) {index : Nat} {y : MethodName} {bytes : ByteArray} {maxL kc ks : Nat} {as' : Array Value} {ws : List Addr} {Q : Option Value → Heap → List Loc → Prop} (hy1 : y.name = "<init>")
    (w1 : (Cond.methodLink own index y).before a0 Z = true) (w2 : (Cond.instanceMethod y).before a0 Z = true) (w4 : (Cond.code y bytes maxL none).before a0 Z = true) (hy : y.cls ≠ "java/lang/invoke/MethodHandle" ∧ y.cls ≠ "java/lang/invoke/VarHandle") {Wd : Nat}
    (hK : ∀ s' : State, Z.Warmed39 s'.vm → Back l R p e below s' args y 3 Wd (fun P a => a = as' ∧ P.U.heap = h ∧ P.cells + kc ≤ R.cells ∧ P.slots + ks ≤ R.slots) (fun P _ v B => ∃ L, Q v B.U.heap L ∧ B.locs = P.locs ++ L ∧ B.cells = P.cells + kc ∧ B.slots = P.slots + ks))
    (hQ : ∀ v h' L, Q v h' L → Fr Z.heap.size L ∧ Keep h h' ws) (hs : ∀ x ∈ ws, Safe Z EL vm h x) (hn : ∀ x ∈ ws, Z.heap.size ≤ x) (hce : cells + kc ≤ R.cells) (hsl : slots + ks ≤ R.slots)
    {g : JFrame} (hg : g.method = m) (hsize : g.locals.size = c.maxLocals) {a : Addr} {argsL rest : List Value} (hlen : ∀ sig, parseMethodDescriptor y.desc = some sig → argsL.length = sig.parameters.length) (hstack : g.stack = argsL.reverse ++ .ref a :: rest) (has : (.ref a :: argsL).toArray = as') (hW : 2 * g.monitorRoom + (rest.map fun v => v.category).sum ≤ Wd)
    (hdg : decode c.code g.pc = .ok (.invokespecial index, 3)) :
    ∃ (v : Option Value) (T' : State) (h' : Heap) (L : List Loc), Wk Z a0 EL own p l e R s m args below meth c vm T' h' (cells + kc) (slots + ks) ∧ Q v h' L ∧
      ∀ target, Steps p.tables e below (T'.setTop { g with pc := g.pc + 3, stack := v.toList ++ rest }) target → Steps p.tables e below (T.setTop g) target := by
  obtain ⟨locs, k1, X, eT, hS, hk, hZ, ho, ⟨hEW, hKn⟩, hC, N, O'⟩ := W
  obtain ⟨v, vm1, B, -, X', ⟨L, hq, e1, e2, e3⟩, st⟩ := X.specialBack hx hy1 ho (mv (s := s.setVm vm) hZ w1) (mv (s := s.setVm vm) hZ w2) (mv (s := s.setVm vm) hZ w4) hy (hK _ hZ) hg hsize (Steps.refl _) hlen hstack hW hdg (fun _ _ => ⟨has, eT, hce, hsl⟩)
  obtain ⟨hL, K⟩ := hQ _ _ _ hq
  exact ⟨v, B.U, _, L, own_mkK X' hS hk hZ ho hEW hKn hC N O' hL K hs hn e1 e2 e3, hq, fun _ q => st.trans q⟩
/-- System.arraycopy between two primitive arrays -/
theorem own_cp (W : Wk Z a0 EL own p l e R s m args below meth c vm T h cells slots) (hx : p.tables.exec = Jvm.exec) {index : Nat} (w1 : (Cond.methodLink own index Jvm.Stand.acN).before a0 Z = true) (w2 : (Cond.native Jvm.Stand.acN).before a0 Z = true) (w3 : (Cond.static Jvm.Stand.acN).before a0 Z = true) (w4 : (Cond.initialized "java/lang/System").before a0 Z = true)
    {a b : Addr} {k k' : ClassId} {ty : FieldType} {z z' sp dp nn : Int32} {vs vd us : List Value} {dv dd : Value} (A : Arv Z h a k ty z vs dv) (B : Arv Z h b k' ty z' vd dd) (hty : refKind ty = false) (Sf : Safe Z EL vm h b)
    (h1 : ¬ sp < 0) (h2 : ¬ dp < 0) (h3 : ¬ nn < 0) (h4 : sp.toNatClampNeg + nn.toNatClampNeg ≤ z.toNatClampNeg) (h5 : dp.toNatClampNeg + nn.toNatClampNeg ≤ z'.toNatClampNeg)
    (hus : us = (List.range nn.toNatClampNeg).map fun i => vs.getD (sp.toNatClampNeg + i) dv) (hl : dp.toNatClampNeg + nn.toNatClampNeg ≤ vd.length) (ge : Z.heap.size ≤ b)
    {g : JFrame} (hg : g.method = m) (hsize : g.locals.size = c.maxLocals) {rest : List Value} (hs : g.stack = .int nn :: .int dp :: .ref b :: .int sp :: .ref a :: rest) (hd : decode c.code g.pc = .ok (.invokestatic index, 3))
    (hf : 1 ≤ R.frames) {Wd : Nat} (hW : 2 * g.monitorRoom + (rest.map fun v => v.category).sum ≤ Wd) (hlo : Wd + (nativeFrameWords "java/lang/System" "arraycopy" 5 + 11) ≤ R.locals) :
    ∃ (T' : State) (h' : Heap), Wk Z a0 EL own p l e R s m args below meth c vm T' h' cells slots ∧ Keep h h' [b] ∧ Arv Z h' b k' ty z' (vd.take dp.toNatClampNeg ++ us ++ vd.drop (dp.toNatClampNeg + nn.toNatClampNeg)) dd ∧
      ∀ target, Steps p.tables e below (T'.setTop { g with pc := g.pc + 3, stack := rest }) target → Steps p.tables e below (T.setTop g) target := by
  obtain ⟨locs, k1, X, eT, hS, hk, hZ, ho, ⟨hEW, hKn⟩, hC, N, O'⟩ := W
  obtain ⟨T', h', L, X', e', N', K, V, st⟩ := cpA X hx hZ ho w1 w2 w3 w4 eT A B (Or.inl ⟨rfl, hty⟩) h1 h2 h3 h4 h5 hus hl N ge hg hsize hs hd hf hW hlo
  exact ⟨T', h', ⟨L, k1, X', e', hS, Nat.le_trans hk K.1, hZ, ho, ⟨hEW, hKn⟩, hC.trans (CHr.keep K (allS Sf all0) hC.1), N', own_xk O' K (allS ge all0)⟩, K, V, st⟩
theorem own_cat {v : Value} (h : v.isRef = true) : v.category = 1 := by rcases ref_cases h with rfl | ⟨_, rfl⟩ <;> rfl
theorem own_nrR {v : Value} {t : FieldType} (h : v.isRef = true) (ht : t.isReference = true) : narrow t v = v := by rcases ref_cases h with rfl | ⟨_, rfl⟩ <;> cases t <;> first | rfl | cases ht
theorem own_ftR {v : Value} {t : FieldType} (h : v.isRef = true) (ht : t.isReference = true) : fits t v = true := by rcases ref_cases h with rfl | ⟨_, rfl⟩ <;> cases t <;> first | rfl | cases ht
theorem own_up {x : Int32} (h : ¬ x < 0 ∧ ¬ (255 : Int32) < x) : ¬ x < 0 ∧ ¬ (65535 : Int32) < x := ⟨h.1, fun q => h.2 (by rw [Int32.lt_iff_toInt_lt] at q ⊢; have e1 : (65535 : Int32).toInt = 65535 := rfl; have e2 : (255 : Int32).toInt = 255 := rfl; omega)⟩
theorem own_retV (W : Wk Z a0 EL own p l e R s m args below meth c vm T h cells slots) (hx : p.tables.exec = Jvm.exec) {pc : Nat} {Ls : Array Slot} (hret : meth.sig.returnType = none) (hd : decode c.code pc = .ok (.return_, 1)) :
    ∀ fs : List Frame, (∀ (f : JFrame) (acts : List Action), f.method = m → f.locked = none → f.entered = [] → (doReturn e (T.setTop f) acts none).1 = T.setFrames fs) → Steps p.tables e below (T.setTop (mkF m pc Ls [])) (T.setFrames fs) := by
  obtain ⟨locs, k1, X, -⟩ := W
  exact fun fs hr => X.returnOut hx hret hd hr
theorem own_retI (W : Wk Z a0 EL own p l e R s m args below meth c vm T h cells slots) (hx : p.tables.exec = Jvm.exec) {pc : Nat} {Ls : Array Slot} {z : Int32} {rest : List Value} {t : FieldType} (hret : meth.sig.returnType = some t) (ht : t = .int ∨ t = .boolean ∨ t = .byte ∨ t = .char ∨ t = .short) (hn : narrow t (.int z) = .int z) (hd : decode c.code pc = .ok (.ireturn, 1)) :
    ∀ fs : List Frame, (∀ (f : JFrame) (acts : List Action), f.method = m → f.locked = none → f.entered = [] → (doReturn e (T.setTop f) acts (some (.int z))).1 = T.setFrames fs) → Steps p.tables e below (T.setTop (mkF m pc Ls (.int z :: rest))) (T.setFrames fs) := by
  obtain ⟨locs, k1, X, -⟩ := W
  exact fun fs hr => retOut X hx hret hn (Or.inl ⟨rfl, ht, z, rfl⟩) hd hr
theorem own_retA (W : Wk Z a0 EL own p l e R s m args below meth c vm T h cells slots) (hx : p.tables.exec = Jvm.exec) {pc : Nat} {Ls : Array Slot} {w : Value} {rest : List Value} {t : FieldType} (hret : meth.sig.returnType = some t) (ht : t.isReference = true) (hw : w.isRef = true) (hn : narrow t w = w) (hd : decode c.code pc = .ok (.areturn, 1)) :
    ∀ fs : List Frame, (∀ (f : JFrame) (acts : List Action), f.method = m → f.locked = none → f.entered = [] → (doReturn e (T.setTop f) acts (some w)).1 = T.setFrames fs) → Steps p.tables e below (T.setTop (mkF m pc Ls (w :: rest))) (T.setFrames fs) := by
  obtain ⟨locs, k1, X, -⟩ := W
  exact fun fs hr => retOut X hx hret hn (Or.inr (Or.inr (Or.inr (Or.inr ⟨rfl, ht, hw⟩)))) hd hr
theorem own_enter {y : MethodName} {bytes : ByteArray} {maxL : Nat} {ret : Option FieldType} {ws : List Jvm.Cond} {rm : Room} {as' : Array Value} {sf : List Addr} {Q : Option Value → Heap → List Addr → Prop} {F0 : MethodId → JFrame} (hp : plainFor y = true) (hEW : EW Z a0 EL) (ef : ∀ m, entryFrame m as' maxL = F0 m)
    (body : ∀ (p : Program) (e : Env) (s : State) (m : MethodId) (below : List Frame) (meth : Method) (c : Code) (s₁ : State) (G : State → JFrame → Prop), p.tables.exec = Jvm.exec → c.code = bytes → c.maxLocals = maxL → meth.sig.returnType = ret → meth.name = y.name →
      Wk Z a0 EL y.cls p l e rm s m as' below meth c s.vm s₁ h 0 0 → (∀ x ∈ sf, Safe Z EL s.vm h x) →
      (∀ {T T' : State} {g g' : JFrame}, (∀ target, Steps p.tables e below (T'.setTop g') target → Steps p.tables e below (T.setTop g) target) → G T' g' → G T g) →
      (∀ {v : Option Value} {so : List Addr} {vm : Vm} {T : State} {h' : Heap} {cells slots : Nat} {g : JFrame}, Wk Z a0 EL y.cls p l e rm s m as' below meth c vm T h' cells slots → cells ≤ rm.cells → slots ≤ rm.slots → Q v h' so → (∀ x ∈ so, Safe Z EL vm h' x) → (ret = none → v = none) →
        (∀ fs : List Frame, (∀ (f : JFrame) (acts : List Action), f.method = m → f.locked = none → f.entered = [] → (doReturn e (T.setTop f) acts v).1 = T.setFrames fs) → Steps p.tables e below (T.setTop g) (T.setFrames fs)) → G T g) →
      G s₁ (F0 m)) : Ct l Z a0 EL y bytes maxL ret ws rm as' h sf Q := by
  intro hE hst
  refine MetFree.of_bodySF hp hisR ?_
  intro p e s m args below meth c s₁ Bd hml0 hP hK
  obtain ⟨rfl, hZ, hh, hC, hS⟩ := hP
  have X0 : Stand p l e rm s m args below meth c s₁ [] 0 0 := Stand.of_body Bd
  have e0 : s₁.heap = h := by rw [← hh, Bd.state]; rfl
  have W0 : Wk Z a0 EL y.cls p l e rm s m args below meth c s.vm s₁ h 0 0 :=
    ⟨[], h.size, X0, e0, (State.WarmedH.refl s).since _, Nat.le_refl _, hZ, findClass_of_methodNamed Bd.named, ⟨hEW, hst, by rw [hh]; exact hE, Vm.MethodsKnown.alikeC hZ.alike.symm hK.1, Vm.FramesKnown.alikeC hZ.alike.symm hK.2⟩, by rw [hh]; exact CHr.refl hC, Fr.nil _, hE⟩
  have key := body p e s m below meth c s₁
    (fun T g => ∃ (v : Option Value) (so : List Addr) (vm : Vm) (T' : State) (h' : Heap) (cells slots : Nat), Wk Z a0 EL y.cls p l e rm s m args below meth c vm T' h' cells slots ∧ cells ≤ rm.cells ∧ slots ≤ rm.slots ∧ Q v h' so ∧ (∀ x ∈ so, Safe Z EL vm h' x) ∧ (ret = none → v = none) ∧
      ∀ fs : List Frame, (∀ (f : JFrame) (acts : List Action), f.method = m → f.locked = none → f.entered = [] → (doReturn e (T'.setTop f) acts v).1 = T'.setFrames fs) → Steps p.tables e below (T.setTop g) (T'.setFrames fs))
    Bd.exec Bd.bytes hml0 Bd.returns (name_of_methodNamed Bd.named Bd.method).1 W0 hS
    (fun st ⟨v, so, vm1, T', h', k1, k2, q1, q2, q3, q4, q7, q5, q6⟩ => ⟨v, so, vm1, T', h', k1, k2, q1, q2, q3, q4, q7, q5, fun fs hr => st _ (q6 fs hr)⟩)
    (fun q1 q2 q3 q4 q7 q5 q6 => ⟨_, _, _, _, _, _, _, q1, q2, q3, q4, q7, q5, q6⟩)
  obtain ⟨v, so, vm, T', h', k1, k2, ⟨locs, k, X, rfl, hS', hk, hZ', ho, -, hC', N, O⟩, q2, q3, q4, q7, q5, q6⟩ := key
  obtain ⟨fs, hr, hrun, hended, g1, g2, g3, g4⟩ := X.leaveW hS' hk (v := v) (fun q => q5 (Bd.returns ▸ q))
  have hCf := CHv.at X hZ' hEW hC'.1
  have hSf := fun x hx => own_safeAt X hZ' hEW hC'.1 (q7 x hx)
  exact ⟨_, _, castTop (ef m) (q6 fs hr), hrun, hended, v, locs, so, rfl, q4, N, O, hC'.trans hCf, hSf, g1, g2, g3, g4.mono q2 q3⟩
end OwnKit
section OwnKitX
variable {Z : State} {a0 : Array Value} {EL : List (String × Nat)} {own : String} {p : Program} {l : Launch} {e : Env} {R : Room} {s : State} {m : MethodId} {args : Array Value} {below : List Frame} {meth : Method} {c : Code} {vm : Vm} {T : State} {h : Heap} {cells slots : Nat}
theorem own_decl {y : MethodName} {bytes : ByteArray} {maxL : Nat} {ret : Option FieldType} (wi : (Cond.instanceMethod y).before a0 Z = true) (wc : (Cond.code y bytes maxL ret).before a0 Z = true) : (Cond.declares y).before a0 Z = true := by
  obtain ⟨m, meth, hn, hm, hs, -⟩ := Cond.instanceMethod_spec wi
  obtain ⟨meth', c, hm', -, -, -, -, -, -, hsig⟩ := Cond.code_spec hn wc
  cases hm.symm.trans hm'
  simp [Cond.before, Cond.holds, Cond.value, hn, hm, hs, hsig]
theorem own_nf2 (W : Wk Z a0 EL own p l e R s m args below meth c vm T h cells slots) {C : String} {y y' : MethodName} (w : (Cond.selects C y' y').before a0 Z = true) (hy : y.cls = y'.cls) : NotFace (s.setVm vm) y := fun r0 h0 => by
  obtain ⟨locs, k1, X, eT, hS, hk, hZ, ho, ⟨hEW, hKn⟩, hC, N, O'⟩ := W
  obtain ⟨_, _, m2, _, _, q3, _, kP, hkP, hkPi⟩ := Cond.selects_spec (mv (s := s.setVm vm) (args := #[]) hZ w)
  have e1 := findClass_of_methodNamed h0
  have e2 := findClass_of_methodNamed q3
  rw [hy] at e1
  exact ⟨kP, by rw [Option.some.inj (e1.symm.trans e2)]; exact hkP, hkPi⟩
theorem own_sameM {C : String} {y y' : MethodName} (wd : (Cond.declares y).before a0 Z = true) (ws : (Cond.selects C y' y').before a0 Z = true) (hy : y.cls = y'.cls) (hp : y.cls ≠ "java/lang/invoke/MethodHandle" ∧ y.cls ≠ "java/lang/invoke/VarHandle") : (Cond.sameMethod y.cls y.cls y.name y.desc).before a0 Z = true := by
  obtain ⟨m0, meth, hn, -⟩ := Cond.declares_spec wd
  have hf := State.methodFound?_of_named hn hp
  have e1 := findClass_of_methodNamed hn
  obtain ⟨_, _, m2, _, _, q3, _, kP, hkP, hkPi⟩ := Cond.selects_spec ws
  have e2 := findClass_of_methodNamed q3
  rw [← hy] at e2
  have e3 : m0.cls = m2.cls := Option.some.inj (e1.symm.trans e2)
  have hn' : Z.methodNamed? ⟨y.cls, y.name, y.desc⟩ = some m0 := hn
  rw [← e3] at hkP
  simp [Cond.before, Cond.holds, Cond.value, e1, hf, hn', hkP, hkPi]
theorem own_super (W : Wk Z a0 EL own p l e R s m args below meth c vm T h cells slots) (hx : p.tables.exec = Jvm.exec) {index : Nat} {K : String} {y : MethodName} {bytes : ByteArray} {maxL : Nat} {ret : Option FieldType} {rm : Room} {as' : Array Value} {sf : List Addr} {Q : Option Value → Heap → List Addr → Prop}
    (w1 : (Cond.methodLink own index y).before a0 Z = true) (w2 : (Cond.sameMethod y.cls y.cls y.name y.desc).before a0 Z = true) (w6 : (Cond.instanceMethod y).before a0 Z = true) (w7 : (Cond.superclass own y.cls).before a0 Z = true) (hn : y.name ≠ "<init>") (w3 : (Cond.initialized y.cls).before a0 Z = true) (w4 : (Cond.code y bytes maxL ret).before a0 Z = true)
    {a : Addr} (F : Ins Z h a K true)
    (hM : Ct l Z a0 EL y bytes maxL ret [] rm as' h sf Q) (hsf : ∀ x ∈ sf, Safe Z EL vm h x) {Wd : Nat} (hf : rm.frames + 1 ≤ R.frames) (hlo : Wd + (maxL + 11) + rm.locals ≤ R.locals) (hce : cells + rm.cells ≤ R.cells) (hsl : slots + rm.slots ≤ R.slots)
    {g : JFrame} (hg : g.method = m) (hsize : g.locals.size = c.maxLocals) {argsL rest : List Value} (hlen : ∀ sig, parseMethodDescriptor y.desc = some sig → argsL.length = sig.parameters.length) (hstack : g.stack = argsL.reverse ++ .ref a :: rest) (has : (.ref a :: argsL).toArray = as') (hW : 2 * g.monitorRoom + (rest.map fun v => v.category).sum ≤ Wd)
    (hdg : decode c.code g.pc = .ok (.invokespecial index, 3)) :
    ∃ (v : Option Value) (so : List Addr) (vm' : Vm) (T' : State) (h' : Heap), Wk Z a0 EL own p l e R s m args below meth c vm' T' h' (cells + rm.cells) (slots + rm.slots) ∧ CHr Z EL vm h vm' h' ∧ Q v h' so ∧ (∀ x ∈ so, Safe Z EL vm' h' x) ∧
      ∀ target, Steps p.tables e below (T'.setTop { g with pc := g.pc + 3, stack := v.toList ++ rest }) target → Steps p.tables e below (T.setTop g) target := by
  obtain ⟨locs, k1, X, eT, hS, hk, hZ, ho, ⟨hEW, hKn⟩, hC, N, O'⟩ := W
  subst eT
  obtain ⟨v, vm1, B, -, X', h2, hg2, ⟨L, so, hQ, hL, O2, e1, e2, e3, hC', hso⟩, st⟩ := superBackS X hx hZ ho w1 w2 w6 w7 hn (own_backS O' hM hZ w4 w3 hf hlo hEW hKn hC.1 hsf) rfl F hg hsize w4 hlen hstack hW hdg (fun _ _ => ⟨has, rfl, hce, hsl⟩)
  exact ⟨v, so, _, B.U, _, own_mkB X' h2 hg2 hS hk hZ ho hEW hKn hC N hL O2 e1 e2 e3 hC', hC', hQ, hso, fun _ q => st.trans q⟩
theorem own_ldcF (W : Wk Z a0 EL own p l e R s m args below meth c vm T h cells slots) (hx : p.tables.exec = Jvm.exec) {index : Nat} {b : UInt32} (w : (Cond.constantFloat own index b).before a0 Z = true) {g : JFrame} (hg : g.method = m) (hd : decode c.code g.pc = .ok (.ldc index, 2)) :
    ∀ target, Steps p.tables e below (T.setTop { g with pc := g.pc + 2, stack := .float b :: g.stack }) target → Steps p.tables e below (T.setTop g) target := by
  obtain ⟨locs, k1, X, eT, hS, hk, hZ, ho, ⟨hEW, hKn⟩, hC, N, O'⟩ := W
  exact X.ldcFloatC hx ho (mv (s := s.setVm vm) hZ w) hg hd
end OwnKitX
section OwnKitE
variable {Z : State} {a0 : Array Value} {EL : List (String × Nat)} {own : String} {p : Program} {l : Launch} {e : Env} {R : Room} {s : State} {m : MethodId} {args : Array Value} {below : List Frame} {meth : Method} {c : Code} {vm : Vm} {T : State} {h : Heap} {cells slots : Nat}
theorem own_virtUp (W : Wk Z a0 EL own p l e R s m args below meth c vm T h cells slots) (hx : p.tables.exec = Jvm.exec) {index : Nat} {C owner : String} {y z : MethodName} {bytes : ByteArray} {maxL : Nat} {ret : Option FieldType} {rm : Room} {as' : Array Value} {sf : List Addr} {Q : Option Value → Heap → List Addr → Prop}
    (w1 : (Cond.methodLink own index y).before a0 Z = true) (wm : (Cond.sameMethod y.cls owner y.name y.desc).before a0 Z = true) (w2 : (Cond.declares ⟨owner, y.name, y.desc⟩).before a0 Z = true) (hy : owner ≠ "java/lang/invoke/MethodHandle" ∧ owner ≠ "java/lang/invoke/VarHandle") (w5 : (Cond.selects C y z).before a0 Z = true) (w6 : (Cond.instanceMethod z).before a0 Z = true) (w3 : (Cond.initialized z.cls).before a0 Z = true) (w4 : (Cond.code z bytes maxL ret).before a0 Z = true)
    {a : Addr} (E : Exa Z h a C)
    (hM : Ct l Z a0 EL z bytes maxL ret [] rm as' h sf Q) (hsf : ∀ x ∈ sf, Safe Z EL vm h x) {Wd : Nat} (hf : rm.frames + 1 ≤ R.frames) (hlo : Wd + (maxL + 11) + rm.locals ≤ R.locals) (hce : cells + rm.cells ≤ R.cells) (hsl : slots + rm.slots ≤ R.slots)
    {g : JFrame} (hg : g.method = m) (hsize : g.locals.size = c.maxLocals) {argsL rest : List Value} (hlen : ∀ sig, parseMethodDescriptor y.desc = some sig → argsL.length = sig.parameters.length) (hstack : g.stack = argsL.reverse ++ .ref a :: rest) (has : (.ref a :: argsL).toArray = as') (hW : 2 * g.monitorRoom + (rest.map fun v => v.category).sum ≤ Wd)
    (hdg : decode c.code g.pc = .ok (.invokevirtual index, 3)) :
    ∃ (v : Option Value) (so : List Addr) (vm' : Vm) (T' : State) (h' : Heap), Wk Z a0 EL own p l e R s m args below meth c vm' T' h' (cells + rm.cells) (slots + rm.slots) ∧ CHr Z EL vm h vm' h' ∧ Q v h' so ∧ (∀ x ∈ so, Safe Z EL vm' h' x) ∧
      ∀ target, Steps p.tables e below (T'.setTop { g with pc := g.pc + 3, stack := v.toList ++ rest }) target → Steps p.tables e below (T.setTop g) target := by
  obtain ⟨locs, k1, X, eT, hS, hk, hZ, ho, ⟨hEW, hKn⟩, hC, N, O'⟩ := W
  obtain ⟨cB, kB, q1, q2, q3⟩ := isOf (s := s.setVm vm) hZ eT E
  subst eT
  obtain ⟨v, vm1, B, -, X', h2, hg2, ⟨L, so, hQ, hL, O2, e1, e2, e3, hC', hso⟩, st⟩ := X.virtualBackUpS hx ho (mv (s := s.setVm vm) hZ w1) (mv (s := s.setVm vm) hZ wm) (mv (s := s.setVm vm) hZ w2) hy (mv (s := s.setVm vm) hZ w5) (mv (s := s.setVm vm) hZ w6) (own_backS O' hM hZ w4 w3 hf hlo hEW hKn hC.1 hsf) q1 q3 hg hsize (Steps.refl _) hlen hstack hW hdg (fun _ _ => ⟨has, rfl, hce, hsl⟩)
  exact ⟨v, so, _, B.U, _, own_mkB X' h2 hg2 hS hk hZ ho hEW hKn hC N hL O2 e1 e2 e3 hC', hC', hQ, hso, fun _ q => st.trans q⟩
/-- newarray byte: its class is said by its name -/
theorem own_newPB (W : Wk Z a0 EL own p l e R s m args below meth c vm T h cells slots) (hx : p.tables.exec = Jvm.exec) (w : (Cond.arrayClass .byte).before a0 Z = true) {g : JFrame} (hg : g.method = m) (hd : decode c.code g.pc = .ok (.newarray .byte, 2)) {n : Int32} {rest : List Value} (hs : g.stack = .int n :: rest)
    (hn : ¬ n < 0) {cap : Nat} (hcap : n.toNatClampNeg ≤ cap) (hb : cap * 8 ≤ 536870912) (hc : cells + 1 ≤ R.cells) (hl : slots + cap ≤ R.slots) :
    ∃ (x : Addr) (T' : State) (h' : Heap) (k : ClassId), h.size ≤ x ∧ Wk Z a0 EL own p l e R s m args below meth c vm T' h' (cells + 1) (slots + cap) ∧ Ext h h' ∧ Arv Z h' x k .byte n [] (.int 0) ∧ Z.vm.findClass "[B" = some k ∧
      ∀ target, Steps p.tables e below (T'.setTop { g with pc := g.pc + 2, stack := .ref x :: rest }) target → Steps p.tables e below (T.setTop g) target := by
  obtain ⟨locs, k1, X, eT, hS, hk, hZ, ho, ⟨hEW, hKn⟩, hC, N, O⟩ := W
  have hcb : componentBytes (newarray.typeOf .byte) ≤ 8 := by decide
  have w' : (Cond.arrayClass (newarray.typeOf .byte)).before a0 Z = true := w
  obtain ⟨cA, kA, comp, h1, h2, h3, X', st⟩ := X.newarrayPrim hx (mvA (s := s.setVm vm) hZ w') hg hd hs hn (Nat.le_trans (Nat.mul_le_mul hcap hcb) hb) hc (by omega)
  subst eT
  rw [show (s.setVm vm).vm = vm from rfl, hZ.alike.findClass] at h1
  have h0 : Z.vm.findClass "[B" = some cA := h1
  obtain ⟨kZ, z1, -⟩ := Vm.findClass_spec h1
  obtain ⟨k', z2, z3⟩ := hZ.alike.2.2 _ _ z1
  cases h2.symm.trans z2
  have E : Ext T.heap (T.pushCell { cls := cA, slots := Array.replicate n.toNatClampNeg (defaultValue (newarray.typeOf .byte)), vm := .none }).heap := ⟨by show T.heap.size ≤ (T.heap.push _).size; simp, fun a c h => by
    show (T.heap.push _)[a]? = _
    rw [Array.getElem?_push_lt (Array.getElem?_eq_some_iff.mp h).1]; exact (Array.getElem?_eq_getElem _).symm.trans h⟩
  have A : Arr Z (T.pushCell { cls := cA, slots := Array.replicate n.toNatClampNeg (defaultValue (newarray.typeOf .byte)), vm := .none }).heap T.heap.size (newA cA (newarray.typeOf .byte) n) (newarray.typeOf .byte) :=
    ⟨by show (T.heap.push _)[T.heap.size]? = _; simp [newA], ⟨by simp [newA], kZ, z1, comp, by rw [← h3, z3]⟩, by simp [newA]⟩
  exact ⟨_, _, _, cA, Nat.le_refl _, own_mkE (X'.more (Nat.le_refl _) (by omega)) rfl hS hk hZ ho hEW hKn hC N O E, E, Arv.new A hn, h0, st⟩
theorem own_clone (W : Wk Z a0 EL own p l e R s m args below meth c vm T h cells slots) (hx : p.tables.exec = Jvm.exec) {index : Nat}
    (w1 : (Cond.methodLink own index ⟨"[B", "clone", "()Ljava/lang/Object;"⟩).before a0 Z = true) (w2 : (Cond.sameMethod "[B" "java/lang/Object" "clone" "()Ljava/lang/Object;").before a0 Z = true) (w3 : (Cond.native ⟨"java/lang/Object", "clone", "()Ljava/lang/Object;"⟩).before a0 Z = true)
    (w4 : (Cond.instanceMethod ⟨"java/lang/Object", "clone", "()Ljava/lang/Object;"⟩).before a0 Z = true) (w5 : (Cond.selects "[B" ⟨"[B", "clone", "()Ljava/lang/Object;"⟩ ⟨"java/lang/Object", "clone", "()Ljava/lang/Object;"⟩).before a0 Z = true) (w6 : (Cond.castable "[B" "java/lang/Cloneable").before a0 Z = true)
    {a : Addr} {k : ClassId} {z : Int32} {vs : List Value} {dv : Value} (V : Arv Z h a k .byte z vs dv) (hB : Z.vm.findClass "[B" = some k) {g : JFrame} (hg : g.method = m) (hsize : g.locals.size = c.maxLocals) {rest : List Value} (hs : g.stack = .ref a :: rest) (hd : decode c.code g.pc = .ok (.invokevirtual index, 3))
    (hf : 1 ≤ R.frames) {Wd cap : Nat} (hW : 2 * g.monitorRoom + (rest.map fun v => v.category).sum ≤ Wd) (hl : Wd + 14 ≤ R.locals) (hcap : z.toNatClampNeg ≤ cap) (hc : cells + 1 ≤ R.cells) (hsl : slots + cap ≤ R.slots) :
    ∃ (x : Addr) (T' : State) (h' : Heap), h.size ≤ x ∧ Wk Z a0 EL own p l e R s m args below meth c vm T' h' (cells + 1) (slots + cap) ∧ Ext h h' ∧ Exa Z h' x "[B" ∧
      ∀ target, Steps p.tables e below (T'.setTop { g with pc := g.pc + 3, stack := .ref x :: rest }) target → Steps p.tables e below (T.setTop g) target := by
  obtain ⟨locs, k1, X, eT, hS, hk, hZ, ho, ⟨hEW, hKn⟩, hC, N, O⟩ := W
  obtain ⟨cl, A, q1, S, q3, H, U⟩ := V
  obtain ⟨n1, kk, hk1, comp, hk2⟩ := id A.2.1
  have E : Exa Z h a "[B" := ⟨cl, kk, A.1, by rw [q1]; exact hB, hk1, A.plain, fun q => by rw [hk2] at q; cases q⟩
  have F : FitC Z cl := fun i v hv => by
    have hi := (Array.getElem?_eq_some_iff.mp hv).1
    cases hv.symm.trans (H i hi)
    have u := U i hi
    have e0 : Z.slotType? cl.cls .none i = some .byte := by simp [State.slotType?, hk1, hk2]
    simp only [State.fitsSlot, e0]
    exact u
  obtain ⟨T', h', X', e', E2, -, E3, st⟩ := cloneA X hx hZ ho w1 w2 w3 w4 w5 w6 eT A E F hg hsize hs hd hf hW hl (by rw [S]; exact hcap) hc hsl
  exact ⟨_, T', h', Nat.le_refl _, own_mkE X' e' hS hk hZ ho hEW hKn hC N O E2, E2, E3, st⟩
end OwnKitE
/-- the words of a sheet that a Throwable's trace asks, its own layout of suppressedExceptions said by the receiver's class alone -/
def own_tw (rc : String) : List Jvm.Cond := [.initialized tN, .superclass tN "java/lang/Object", .instanceMethod tFill, .codeSync tFill LibCode.Throwable.Fill.code 1 (some (.object tN)), .instanceMethod tFill0, .native tFill0, .instanceMethod oInit, .code oInit ⟨#[0xb1]⟩ 1 none, .methodLink tN 1 oInit, .methodLink tN 27 tFill,
  .methodLink tN 202 tFill0, .fieldLink tN 7 tN "cause" "Ljava/lang/Throwable;", .lays tN tN "cause" "Ljava/lang/Throwable;", .fieldLink tN 17 tN "stackTrace" steD, .lays tN tN "stackTrace" steD, .fieldLink tN 24 tN "suppressedExceptions" listD, .lays rc tN "suppressedExceptions" listD, .fieldLink tN 13 tN "UNASSIGNED_STACK" steD, .laysStatic tN "UNASSIGNED_STACK" steD, .fieldLink tN 20 tN "SUPPRESSED_SENTINEL" listD,
  .laysStatic tN "SUPPRESSED_SENTINEL" listD, .lays tN tN "detailMessage" "Ljava/lang/String;", .declares tFill, .selects rc tFill0 tFill0, .selects rc tFill tFill, .lays rc tN "cause" "Ljava/lang/Throwable;", .lays rc tN "stackTrace" steD, .lays rc tN "detailMessage" "Ljava/lang/String;", .fieldLink tN 198 tN "backtrace" "Ljava/lang/Object;", .lays tN tN "backtrace" "Ljava/lang/Object;",
  .lays rc tN "backtrace" "Ljava/lang/Object;", .arrayOver (.object "java/lang/Object"), .soleField tN "backtrace", .soleField tN "depth", .lays rc tN "depth" "I"]
theorem own_twok {rc : String} : (own_tw rc).all xOk = true := rfl
/-- Throwable's links, out of those words -/
theorem own_thr {rc : String} {args : Array Value} {s : State} {pl : Platform} (ho : pl.frameOwnsMonitors = true) (hf : pl.finalization = false) (hp : pl.magicAccessors = ({} : Platform).magicAccessors) (h : ∀ d ∈ own_tw rc, d.before args s = true) :
    ∃ T : ThrowableC, T.Links pl s ∧ s.vm.findClass tN = some T.cT ∧ s.methodNamed? tFill = some T.fill ∧ s.methodNamed? tFill0 = some T.fill0 ∧ s.fieldFound? tN "stackTrace" steD = some (T.cT, T.kT, T.i17, T.fStack) ∧ s.fieldFound? tN "UNASSIGNED_STACK" steD = some (T.cT, T.kT, T.i13, T.fUnassigned) ∧
      T.fStack.name = "stackTrace" ∧ T.fStack.type = .array (.object "java/lang/StackTraceElement") ∧ ∃ z : Cell, s.heap[T.aS]? = some z ∧ z.vm.isStatics = true := by
  have w : ∀ {d : Jvm.Cond} (k : Nat), (own_tw rc)[k]? = some d → d.holds args s none s [] = true := fun k q => h _ (List.mem_of_getElem? q)
  -- the class, by its native method
  obtain ⟨⟨ct, j0⟩, me0, a1, a2, a3, a4, a5, a6⟩ := Cond.native_spec (w (d := .native tFill0) 5 rfl)
  have hc : s.vm.findClass tN = some ct := findClass_of_methodNamed a1
  obtain ⟨kt, hk, hkn⟩ := Vm.findClass_spec hc
  obtain ⟨_, kt', _, _, b1, _, _, b2, _, b3⟩ := Cond.superclass_spec hc (w (d := .superclass tN "java/lang/Object") 1 rfl)
  obtain rfl : kt = kt' := Option.some.inj (hk.symm.trans b1)
  -- its two fill methods, Object's constructor
  obtain ⟨jf, mef, f1, f2, f3, f4, f5, -, -⟩ := Cond.ownMethod (x := tFill) hc hk (w (d := .instanceMethod tFill) 2 rfl)
  obtain ⟨mef', cof, g2, g3, g4, g5, g6, g7, -, g8⟩ := Cond.codeSync_spec f1 (w (d := .codeSync tFill LibCode.Throwable.Fill.code 1 (some (.object tN))) 3 rfl)
  obtain rfl : mef = mef' := Option.some.inj (f2.symm.trans g2)
  obtain ⟨j0', me0', i1, i2, i3, i4, i5, i6, i7⟩ := Cond.ownMethod (x := tFill0) hc hk (w (d := .instanceMethod tFill0) 4 rfl)
  obtain rfl : j0 = j0' := by have q := Option.some.inj (a1.symm.trans i1); simpa using q
  obtain rfl : me0 = me0' := Option.some.inj (a2.symm.trans i2)
  obtain ⟨mo, meo, o1, o2, o3, o4⟩ := Cond.instanceMethod_spec (w (d := .instanceMethod oInit) 6 rfl)
  obtain ⟨meo', coo, p2, p3, p4, p5, -, p7, -, p8⟩ := Cond.code_spec o1 (w (d := .code oInit ⟨#[0xb1]⟩ 1 none) 7 rfl)
  obtain rfl : meo = meo' := Option.some.inj (o2.symm.trans p2)
  obtain ⟨ko, q1, q2⟩ := Vm.findClass_spec (findClass_of_methodNamed o1)
  obtain ⟨q3, q4⟩ := name_of_methodNamed o1 o2
  -- the pool's three methods
  obtain ⟨l1, l2, cf, l3, l4, l5, l6⟩ := Cond.linkedMethod hc hk o1 (w (d := .methodLink tN 1 oInit) 8 rfl) pl hp
  obtain ⟨m1, m2, cf1, m3, m4, m5, m6⟩ := Cond.linkedMethod hc hk f1 (w (d := .methodLink tN 27 tFill) 9 rfl) pl hp
  obtain rfl : cf = cf1 := Option.some.inj (l5.symm.trans m5)
  obtain ⟨n1, n2, cf2, n3, n4, n5, n6⟩ := Cond.linkedMethod hc hk a1 (w (d := .methodLink tN 202 tFill0) 10 rfl) pl hp
  obtain rfl : cf = cf2 := Option.some.inj (l5.symm.trans n5)
  -- the fields
  obtain ⟨r1, r2, fc, r3, r4, r5, r6, r7, -, -, -⟩ := Cond.ownField (t := .object tN) hc hk (by decide +kernel) (w (d := .fieldLink tN 7 tN "cause" "Ljava/lang/Throwable;") 11 rfl) (w (d := .lays tN tN "cause" "Ljava/lang/Throwable;") 12 rfl) pl hp
  obtain ⟨s1, s2, fs, s3, s4, s5, s6, s7, s8, s9, s10⟩ := Cond.ownField (t := .array (.object "java/lang/StackTraceElement")) hc hk (by decide +kernel) (w (d := .fieldLink tN 17 tN "stackTrace" steD) 13 rfl) (w (d := .lays tN tN "stackTrace" steD) 14 rfl) pl hp
  obtain ⟨t1, t2, fp, t3, t4, t5, t6, t7, t8, -, t10⟩ := Cond.ownField (t := .object "java/util/List") hc hk (by decide +kernel) (w (d := .fieldLink tN 24 tN "suppressedExceptions" listD) 15 rfl) (w (d := .lays rc tN "suppressedExceptions" listD) 16 rfl) pl hp
  obtain ⟨u1, u2, fu, as, cu, u3, u4, u5, u6, -, -, u7, u8, u9, -, -, u10⟩ := Cond.ownStatic (t := .array (.object "java/lang/StackTraceElement")) hc hk (by decide +kernel) (w (d := .fieldLink tN 13 tN "UNASSIGNED_STACK" steD) 17 rfl) (w (d := .laysStatic tN "UNASSIGNED_STACK" steD) 18 rfl) pl hp
  obtain ⟨v1, v2, fv, _, _, v3, v4, v5, v6, -, -, -, -, -, -, -, -⟩ := Cond.ownStatic (t := .object "java/util/List") hc hk (by decide +kernel) (w (d := .fieldLink tN 20 tN "SUPPRESSED_SENTINEL" listD) 19 rfl) (w (d := .laysStatic tN "SUPPRESSED_SENTINEL" listD) 20 rfl) pl hp
  obtain ⟨_, _, _, _, _, fm, _, _, _, x1, x2, _⟩ := Cond.lays_spec (w (d := .lays tN tN "detailMessage" "Ljava/lang/String;") 21 rfl)
  -- two slots apart, by the receiver's class
  obtain ⟨cx, kx, _, _, _, _, y1, y2, -⟩ := Cond.lays_spec (w (d := .lays rc tN "stackTrace" steD) 26 rfl)
  obtain ⟨-, d1, y3, y4⟩ := Cond.laysAt y1 y2 s10 (w (d := .lays rc tN "stackTrace" steD) 26 rfl)
  obtain ⟨-, d2, y5, y6⟩ := Cond.laysAt y1 y2 t10 (w (d := .lays rc tN "suppressedExceptions" listD) 16 rfl)
  have apart := Cond.laysApart y3 y5 y4 y6 (by rw [s8, t8]; decide)
  have zf : mef.sig.parameters = [] := by have q : (parseMethodDescriptor tFill.desc).map (·.parameters) = some [] := by decide +kernel
                                          rw [g8] at q; simpa using q
  have z0 : me0.sig.parameters = [.int] := by have q : (parseMethodDescriptor tFill0.desc).map (·.parameters) = some [.int] := by decide +kernel
                                              rw [a6] at q; simpa using q
  have zo : meo.sig.parameters.length = 0 := by have q : (parseMethodDescriptor oInit.desc).map (·.parameters) = some [] := by decide +kernel
                                                rw [p8] at q; have e : meo.sig.parameters = [] := by simpa using q
                                                rw [e]; rfl
  refine ⟨{ cT := ct, kT := kt, cO := ct, aS := as, fillIdx := jf, fill0Idx := j0, initSIdx := jf, obj := mo, kObj := ko, methFill := mef, methFill0 := me0, methInitS := mef, methObj := meo, codeFill := cof, codeInitS := cof, codeObj := coo, fBack := fc, fDepth := fc, fStack := fs, fCause := fc, fSupp := fp, fMsg := fm, fUnassigned := fu, fSentinel := fv, cfT := cf, ci1 := l1, n1 := l2, ci27 := m1, n27 := m2, ci202 := n1, n202 := n2, ci7 := r1, i7 := r2, ci13 := u1, i13 := u2, ci17 := s1, i17 := s2, ci20 := v1, i20 := v2, ci24 := t1, i24 := t2 }, ?_, hc, f1, a1, s10, u10, s8, s9, cu, u8, u9⟩
  constructor <;> first | assumption | (exact Vm.findClass_boot hc hk) | (exact Cond.initialized_spec hc hk (w (d := .initialized tN) 0 rfl)) | (rw [q4]; exact lookupSpecial_of_named o1 o2 o3)
section OwnFill
variable {Z : State} {a0 : Array Value} {EL : List (String × Nat)} {p : Program} {l : Launch} {e : Env} {R : Room} {s : State} {m : MethodId} {args : Array Value} {below : List Frame} {meth : Method} {c : Code} {vm : Vm} {T : State} {h : Heap} {cells slots : Nat}
/-- a receiver's fillInStackTrace(), from within Throwable's constructor -/
theorem own_fill (W : Wk Z a0 EL "java/lang/Throwable" p l e R s m args below meth c vm T h cells slots) (hx : p.tables.exec = Jvm.exec) {rc : String} {n : Nat} (hw : ∀ d ∈ own_tw rc, d.before a0 Z = true) (wi : (Cond.instantiable rc n).before a0 Z = true)
    {a u : Addr} (E : Exa Z h a rc) (N : Unt h a) (B : Fld Z h a "java/lang/Throwable" "backtrace" "Ljava/lang/Object;" .null) (F : Fld Z h a "java/lang/Throwable" "stackTrace" "[Ljava/lang/StackTraceElement;" (.ref u)) (SU : Sta Z Z.heap "java/lang/Throwable" "UNASSIGNED_STACK" "[Ljava/lang/StackTraceElement;" (.ref u)) (Sf : Safe Z EL vm h a) (q : Z.heap.size ≤ a)
    {g : JFrame} (hg : g.method = m) (hsize : g.locals.size = c.maxLocals) {rest : List Value} (hs : g.stack = .ref a :: rest) (hd : decode c.code g.pc = .ok (.invokevirtual 27, 3))
    (hf : 3 ≤ R.frames) {Wd : Nat} (hW : 2 * g.monitorRoom + (rest.map fun v => v.category).sum ≤ Wd) (hlo : Wd + 42 ≤ R.locals) (hce : cells + 1 ≤ R.cells) (hsl : slots + 2752 ≤ R.slots) :
    ∃ (T' : State) (h' : Heap), Wk Z a0 EL "java/lang/Throwable" p l e R s m args below meth c vm T' h' (cells + 1) (slots + 2752) ∧ Keep h h' [a] ∧
      (∀ {O nm d : String} {v : Value}, Fld Z h a O nm d v → RoadKit.slotOf Z tN "backtrace" "Ljava/lang/Object;" ≠ RoadKit.slotOf Z O nm d → RoadKit.slotOf Z tN "depth" "I" ≠ RoadKit.slotOf Z O nm d → RoadKit.slotOf Z tN "stackTrace" steD ≠ RoadKit.slotOf Z O nm d → Fld Z h' a O nm d v) ∧
      ∀ target, Steps p.tables e below (T'.setTop { g with pc := g.pc + 3, stack := .ref a :: rest }) target → Steps p.tables e below (T.setTop g) target := by
  have E0 := E
  obtain ⟨locs, k1, X, eT, hS, hk, hZ, ho, ⟨hEW, hKn⟩, hC, N0, O'⟩ := W
  have al : Z.vm.Alike vm := hZ.alike
  have hT0 : ThS Z (s.setVm vm).heap := ThS.ext hKn.2.1 ThS.start
  have hwS : ∀ d ∈ own_tw rc, d.before args (s.setVm vm) = true := fun d hd => mvX (s := s.setVm vm) hT0 hZ (List.all_eq_true.mp own_twok d hd) (hw d hd)
  have w : ∀ {d : Jvm.Cond} (k : Nat), (own_tw rc)[k]? = some d → d.before args (s.setVm vm) = true := fun k r => hwS _ (List.mem_of_getElem? r)
  have wZ : ∀ {d : Jvm.Cond} (k : Nat), (own_tw rc)[k]? = some d → d.before a0 Z = true := fun k r => hw _ (List.mem_of_getElem? r)
  have htr : e.platform.stackTraces = true := by rw [X.admits.platform]; exact hKn.1
  have h1 : e.platform.frameOwnsMonitors = true := by rw [X.admits.platform]
  have h2 : e.platform.finalization = false := by rw [X.admits.platform]
  have h3 : e.platform.magicAccessors = ({} : Platform).magicAccessors := by rw [X.admits.platform]
  obtain ⟨Tc, L, t1, t2, t3, t4, t5, t6, t7, zc, t8, t9⟩ := own_thr (args := args) h1 h2 h3 hwS
  obtain ⟨cB, kB, r1, r2, r3⟩ := isOf (s := s.setVm vm) hZ eT E
  subst eT
  -- the receiver
  obtain ⟨ce, kX, e1, e2, e3, e4, e5⟩ := E
  obtain ⟨ce', n1, n2, n3⟩ := N
  cases e1.symm.trans n1
  obtain ⟨cI, kI, i1, i2, i3, -⟩ := Cond.instantiable_spec wi
  cases e2.symm.trans i1
  cases e3.symm.trans i2
  have fX : (s.setVm vm).vm.findClass rc = some ce.cls := by
    show vm.findClass rc = _
    rw [al.findClass]; exact e2
  obtain ⟨kY, j1, j2⟩ := al.2.2 _ _ e3
  have kord : kY.kind = .ordinary := by rw [j2]; exact i3
  have ksz : ce.slots.size = kY.instanceTypes.size := by rw [j2]; exact e5 i3
  have tk : ∀ {f : Field} {v : Value}, kY.instanceTypes[f.slot]? = some f.type → fits f.type v = true → Jvm.Takes (s.setVm vm) ce f v := fun {f v} y1 y2 => by
    obtain ⟨y3, y4⟩ := Takes.of_laid (s := s.setVm vm) (v := v) j1 kord y1 y2
    exact ⟨by rw [ksz]; simpa using y3, by rw [n2]; exact y4⟩
  have sel0 : selectMethod e.platform (s.setVm vm).vm ce.cls Tc.fill0 = .method Tc.fill0 := by
    obtain ⟨c2, v2, m2, y1, y2, y3, y4, -⟩ := Cond.selects_spec (w (d := .selects rc tFill0 tFill0) 23 rfl)
    cases Option.some.inj (y1.symm.trans fX)
    cases Option.some.inj (y2.symm.trans (State.methodFound?_of_named t3 (by decide)))
    cases Option.some.inj (y3.symm.trans t3)
    rw [Launch.admits_selectMethod X.admits]; exact y4
  -- its stackTrace
  obtain ⟨cg, gf, gk, gi, fS, g1, g2, -, -, -, -, g7⟩ := F
  cases e1.symm.trans g1
  obtain ⟨gf', gk', gi', g8⟩ := Jvm.Free.BdW.found_ride (U := Z) (U' := s.setVm vm) al ⟨_, _, _, g2⟩
  have eS : fS = Tc.fStack := by have z := Option.some.inj (g8.symm.trans t4); simp only [Prod.mk.injEq] at z; exact z.2.2.2
  subst eS
  -- the static
  obtain ⟨bf, bi, bk, fU, st, cs, b1, b2, b3, b4, b5, b6, b7⟩ := SU
  obtain ⟨bk', b8, b9⟩ := State.fieldFound?_setVm (vm' := vm) al b1
  have eU := Option.some.inj ((show (s.setVm vm).fieldFound? tN "UNASSIGNED_STACK" steD = some (bf, bk', bi, fU) from b8).symm.trans t5)
  simp only [Prod.mk.injEq] at eU
  obtain ⟨-, eK, -, eF⟩ := eU
  have eA : st = Tc.aS := Option.some.inj ((show Tc.kT.statics = some st by rw [← eK, b9]; exact b4).symm.trans L.statics)
  subst eA
  subst eF
  have hst : T.heap[Tc.aS]? = some cs := O'.2 _ _ b5
  have nst : Tc.aS ≠ a := fun z => by
    rw [z] at hst
    cases e1.symm.trans hst
    rw [n2] at b6; cases b6
  -- backtrace and depth
  obtain ⟨p1, p2, fB, p3, p4, p5, p6, -, p8, p9, p10⟩ := Cond.ownField (t := .object "java/lang/Object") t1 L.cls (by decide +kernel) (w (d := .fieldLink tN 198 tN "backtrace" "Ljava/lang/Object;") 28 rfl) (w (d := .lays tN tN "backtrace" "Ljava/lang/Object;") 29 rfl) e.platform h3
  obtain ⟨cd, df, dk, di, fB', d1, d2, -, -, -, -, d7⟩ := B
  cases e1.symm.trans d1
  obtain ⟨_, _, _, d8⟩ := Jvm.Free.BdW.found_ride (U := Z) (U' := s.setVm vm) al ⟨_, _, _, d2⟩
  have eB : fB' = fB := by have z := Option.some.inj (d8.symm.trans p10); simp only [Prod.mk.injEq] at z; exact z.2.2.2
  subst eB
  obtain ⟨_, _, cD, kD, iD, fD, -, -, v1, v2, -, -, -, -⟩ := Cond.lays_spec (w (d := .lays rc tN "depth" "I") 34 rfl)
  cases Option.some.inj ((Cond.lays_declared (w (d := .lays rc tN "depth" "I") 34 rfl) v1).symm.trans t1)
  obtain ⟨v3, v4⟩ := State.fieldFound?_spec v1
  cases Option.some.inj (v3.symm.trans L.cls)
  obtain ⟨v5, v6⟩ := State.fieldFound?_type v1 (t := .int) (by decide +kernel)
  obtain ⟨_, _, _, _, _, fD', -, -, v7, -⟩ := Cond.lays_spec (wZ (d := .lays rc tN "depth" "I") 34 rfl)
  obtain ⟨_, _, _, v8⟩ := Jvm.Free.BdW.found_ride (U := Z) (U' := s.setVm vm) al ⟨_, _, _, v7⟩
  have eD : fD' = fD := by have z := Option.some.inj (v8.symm.trans v1); simp only [Prod.mk.injEq] at z; exact z.2.2.2
  subst eD
  have hfb := Cond.soleField_find t1 L.cls (w (d := .soleField tN "backtrace") 32 rfl) p5 p8 p6
  have hfd := Cond.soleField_find t1 L.cls (w (d := .soleField tN "depth") 33 rfl) v4 v5 v2
  obtain ⟨comp, cO, kO, -, -, x1, x2, x3⟩ := Cond.arrayOver_spec (w (d := .arrayOver (.object "java/lang/Object")) 31 rfl)
  obtain ⟨y1, -⟩ := Cond.laysAt fX j1 t4 (w (d := .lays rc tN "stackTrace" steD) 26 rfl)
  obtain ⟨y2, -⟩ := Cond.laysAt fX j1 p10 (w (d := .lays rc tN "backtrace" "Ljava/lang/Object;") 30 rfl)
  obtain ⟨y3, -⟩ := Cond.laysAt fX j1 v1 (w (d := .lays rc tN "depth" "I") 34 rfl)
  have bk := Jvm.Free.Str.fillPays (l := l) (R := R) (p := p) (e := e) (below := below) (s := s.setVm vm) (sargs := args) (len := 3) (W := Wd) hx htr Tc L t2 (u0 := ⟨.ref u, rfl⟩) (by simp) (self := a) (cell := ce) (cellS := cs) (by rw [n2]; simp) (by rw [n2]; simp) (by rw [n3]) (by rw [n3]) g7 sel0 nst (fun z => by rw [z] at b6; cases b6) b7
    (tk y1 (by rw [t7]; exact fits_refV_array _ ⟨.ref u, rfl⟩)) ⟨⟨p1, p2, fB'⟩, ⟨p3, p4, p5, p6⟩, d7⟩ (Vm.MethodsKnown.alikeC al hKn.2.2.1) (Vm.FramesKnown.alikeC al hKn.2.2.2) t1 x3 x1 x2 hfb hfd (fun b => tk y2 (by rw [p9]; exact fits_refV_object _ ⟨.ref b, rfl⟩)) (fun n => tk y3 (by rw [v6]; rfl)) (by omega) hlo
  obtain ⟨v, vm1, Bp, -, X', ⟨hv, vm', lines, z1, z2, z3, z4, z5, z6⟩, st⟩ := X.virtualBack hx ho (w (d := .methodLink tN 27 tFill) 9 rfl) (w (d := .declares tFill) 22 rfl) (notFace_of_selects (args := #[]) (mv (s := s.setVm vm) hZ (wZ (d := .selects rc tFill tFill) 24 rfl))) (w (d := .selects rc tFill tFill) 24 rfl) (w (d := .instanceMethod tFill) 2 rfl) (by decide) bk r1 r3 hg hsize (Steps.refl _) (argsL := []) (rest := rest) (lenOf (d := "()Ljava/lang/Throwable;") (ps := []) (r := some (.object "java/lang/Throwable")) (by decide +kernel) rfl) hs hW hd (fun _ _ => ⟨rfl, hce, hsl, e1, hst⟩)
  have hh : Bp.U.heap = (T.heap.push (traceHolder cO lines)).setIfInBounds a (Jvm.Free.Str.filledOn Tc.toThrowableT fB' fD' ce ⟨.ref u, rfl⟩ T.heap.size lines.length.toInt32) := by rw [z3]; rfl
  have la : a < T.heap.size := (Array.getElem?_eq_some_iff.mp e1).1
  have ha : Bp.U.heap[a]? = some (Jvm.Free.Str.filledOn Tc.toThrowableT fB' fD' ce ⟨.ref u, rfl⟩ T.heap.size lines.length.toInt32) := by
    rw [hh, Array.getElem?_setIfInBounds_self_of_lt (by rw [Array.size_push]; exact Nat.lt_succ_of_lt la)]
  have hy : ∀ (y : Addr) (cy : Cell), T.heap[y]? = some cy → y ≠ a → Bp.U.heap[y]? = some cy := fun y cy r ne => by
    rw [hh, Array.getElem?_setIfInBounds_ne (Ne.symm ne), Array.getElem?_push_lt (Array.getElem?_eq_some_iff.mp r).1]
    exact (Array.getElem?_eq_getElem _).symm.trans r
  have K : Keep T.heap Bp.U.heap [a] := ⟨by rw [hh, Array.size_setIfInBounds, Array.size_push]; omega, fun y cy r ne => hy y cy r (by simpa using ne), fun y cy r => by
    by_cases ya : y = a
    · subst ya; cases e1.symm.trans r; exact ⟨_, ha, rfl, rfl, by simp [Jvm.Free.Str.filledOn, Cell.setSlot]⟩
    · exact ⟨cy, hy y cy r ya, rfl, rfl, rfl⟩⟩
  refine ⟨Bp.U, _, ⟨Bp.locs, k1, X'.more (by rw [z5]; exact Nat.le_refl _) (by rw [z6]; exact Nat.add_le_add_left (traceHolder_size_le cO z1) _), rfl, hS, Nat.le_trans hk K.1, hZ, ho, ⟨hEW, hKn⟩, hC.trans (CHr.keep K (allS Sf all0) hC.1), ?_, own_xk O' K (allS q all0)⟩, K, ?_, ?_⟩
  · rw [z4]
    exact N0.app fun y hy => by
      simp only [List.mem_cons, List.not_mem_nil, or_false] at hy
      rcases hy with rfl | rfl | rfl <;> exact q
  · intro O nm d v F2 q1 q2 q3
    obtain ⟨c2, cf, k2, i2, f2, f1, f3, f4, f5, f6, f7, f8⟩ := F2
    cases e1.symm.trans f1
    have s0 : RoadKit.slotOf Z O nm d = f2.slot := by simp [RoadKit.slotOf, f3]
    have s1 : RoadKit.slotOf Z tN "backtrace" "Ljava/lang/Object;" = fB'.slot := by simp [RoadKit.slotOf, show Z.fieldFound? tN "backtrace" "Ljava/lang/Object;" = _ from d2]
    have s2 : RoadKit.slotOf Z tN "depth" "I" = fD'.slot := by simp [RoadKit.slotOf, v7]
    have s3 : RoadKit.slotOf Z tN "stackTrace" steD = Tc.fStack.slot := by simp [RoadKit.slotOf, show Z.fieldFound? tN "stackTrace" steD = _ from g2]
    rw [s0, s1] at q1; rw [s0, s2] at q2; rw [s0, s3] at q3
    refine ⟨_, cf, k2, i2, f2, ha, f3, f4, f5, f6, f7, ?_⟩
    rw [← f8]; simp [Jvm.Free.Str.filledOn, Cell.setSlot, Array.getElem?_setIfInBounds, q1, q2, q3]
  · subst hv
    exact fun _ q => st.trans q
end OwnFill
section OwnStr
variable {Z : State} {a0 : Array Value} {EL : List (String × Nat)} {own : String} {p : Program} {l : Launch} {e : Env} {R : Room} {s : State} {m : MethodId} {args : Array Value} {below : List Frame} {meth : Method} {c : Code} {vm : Vm} {T : State} {h : Heap} {cells slots : Nat}
/-- a String that spells cs, each sign 0 to 255 -/
def Str (Z : State) (h : Heap) (a : Addr) (cs : List Int32) : Prop := Exa Z h a "java/lang/String" ∧ Fld Z h a "java/lang/String" "coder" "B" (.int 0) ∧ (∀ c ∈ cs, ¬ c < 0 ∧ ¬ (255 : Int32) < c) ∧ ∃ (t : Addr) (kb : ClassId), Fld Z h a "java/lang/String" "value" "[B" (.ref t) ∧ Arv Z h t kb .byte (Int32.ofNat cs.length) ((cs.map fun c => c.toInt8.toInt32).map Value.int) (.int 0)
theorem Str.ext {h' : Heap} {a : Addr} {cs : List Int32} (S : Str Z h a cs) (X : Ext h h') : Str Z h' a cs := by
  obtain ⟨E, C, hp, t, kb, V, K⟩ := S; exact ⟨E.ext X, C.ext X, hp, t, kb, V.ext X, K.ext X⟩
theorem Str.lt {a : Addr} {cs : List Int32} (S : Str Z h a cs) : a < h.size := S.1.lt
theorem own_ups {cs : List Int32} (h : ∀ c ∈ cs, ¬ c < 0 ∧ ¬ (255 : Int32) < c) : ∀ c ∈ cs, ¬ c < 0 ∧ ¬ (65535 : Int32) < c := fun c hc => own_up (h c hc)
theorem own_strNew (W : Wk Z a0 EL own p l e R s m args below meth c vm T h cells slots) (hx : p.tables.exec = Jvm.exec) (hws : ∀ d ∈ StrChars.Road.words, d.before a0 Z = true) {index kI : Nat} {bytes : ByteArray} {maxL : Nat} (w1 : (Cond.methodLink own index ⟨"java/lang/String", "<init>", "([C)V"⟩).before a0 Z = true) (w2 : (Cond.instanceMethod ⟨"java/lang/String", "<init>", "([C)V"⟩).before a0 Z = true) (w4 : (Cond.code ⟨"java/lang/String", "<init>", "([C)V"⟩ bytes maxL none).before a0 Z = true) (wi : (Cond.instantiable "java/lang/String" kI).before a0 Z = true)
    {x b : Addr} {kC : ClassId} {cs : List Int32} {d v0 c0 : Value} {N : Int32} (E : Exa Z h x "java/lang/String") (V : Fld Z h x "java/lang/String" "value" "[B" v0) (C : Fld Z h x "java/lang/String" "coder" "B" c0) (K : Arv Z h b kC .char N (cs.map Value.int) d) (hN : N = Int32.ofNat cs.length) (cmp : ∃ z : Int32, Sta Z Z.heap "java/lang/String" "COMPACT_STRINGS" "Z" (.int z) ∧ ¬ z = 0)
    (l0 : 0 < cs.length) (l2 : cs.length ≤ 4000) (hp : ∀ c ∈ cs, ¬ c < 0 ∧ ¬ (255 : Int32) < c) (Sf : Safe Z EL vm h x) (hfr : Z.heap.size ≤ x) {Wd : Nat} (hf : 4 ≤ R.frames) (hlo : Wd + 65 ≤ R.locals) (hce : cells + 1 ≤ R.cells) (hsl : slots + cs.length ≤ R.slots)
    {g : JFrame} (hg : g.method = m) (hsize : g.locals.size = c.maxLocals) {rest : List Value} (hs : g.stack = .ref b :: .ref x :: rest) (hW : 2 * g.monitorRoom + (rest.map fun v => v.category).sum ≤ Wd) (hd : decode c.code g.pc = .ok (.invokespecial index, 3)) :
    ∃ (T' : State) (h' : Heap), Wk Z a0 EL own p l e R s m args below meth c vm T' h' (cells + 1) (slots + cs.length) ∧ Keep h h' [x] ∧ Str Z h' x cs ∧
      ∀ target, Steps p.tables e below (T'.setTop { g with pc := g.pc + 3, stack := rest }) target → Steps p.tables e below (T.setTop g) target := by
  obtain ⟨z, OS, hz⟩ := cmp
  obtain ⟨v, T', h', L, W', ⟨rfl, hL, hK, q1, q2, t, kb, -, -, -, q3, q4⟩, st⟩ := own_specB W hx (y := ⟨"java/lang/String", "<init>", "([C)V"⟩) (Q := fun v h' L => StrChars.Road.QV Z x N (cs.map fun c => c.toInt8.toInt32) h Z.heap.size v h' L) (kc := 1) (ks := cs.length) (ws := [x]) rfl w1 w2 w4 (by decide)
    (fun s' hZ' => StrChars.Road.backV hZ' hws wi hfr W.sz E V C K (OS.ext W.old) hz rfl hN l0 l2 hp rfl hf hlo)
    (fun v h' L q => ⟨q.2.1, q.2.2.1⟩) (allS Sf all0) (allS hfr all0) hce hsl hg hsize (a := x) (argsL := [.ref b]) (rest := rest) (lenOf (d := "([C)V") (ps := [.array .char]) (r := none) (by decide +kernel) rfl) hs rfl hW hd
  exact ⟨T', h', W', hK, ⟨q1, q2, hp, t, kb, q3, hN ▸ q4⟩, st⟩
end OwnStr
theorem own_al0 {α : Type} {P : α → Prop} : ∀ x ∈ ([] : List α), P x := fun _ q => nomatch q
theorem own_alS {α : Type} {P : α → Prop} {y : α} {L : List α} (q : P y) (r : ∀ x ∈ L, P x) : ∀ x ∈ y :: L, P x := fun x z => (List.mem_cons.mp z).elim (fun u => u ▸ q) (r x)
theorem own_c255 (x : Int32) : ¬ ((x &&& (255 : Int32)).toUInt32.toUInt16.toUInt32.toInt32) < 0 ∧ ¬ (255 : Int32) < ((x &&& (255 : Int32)).toUInt32.toUInt16.toUInt32.toInt32) := by
  have t : ∀ k : Fin 256, ¬ ((Int32.ofNat k.val).toUInt32.toUInt16.toUInt32.toInt32) < 0 ∧ ¬ (255 : Int32) < ((Int32.ofNat k.val).toUInt32.toUInt16.toUInt32.toInt32) := by decide +kernel
  have h : (x &&& 255).toBitVec.toNat < 256 := by
    simp only [Int32.toBitVec_and, BitVec.toNat_and]
    exact Nat.lt_succ_of_le Nat.and_le_right
  have e : (x &&& 255) = Int32.ofNat (x &&& 255).toBitVec.toNat := by
    apply Int32.toBitVec_inj.mp
    show _ = BitVec.ofNat 32 _
    rw [BitVec.ofNat_toNat]; simp
  rw [e]
  exact t ⟨_, h⟩
theorem own_bz {b : Int32} {P Q : Prop} (h : (b = 1 ∧ P) ∨ (b = 0 ∧ Q)) : narrow .boolean (.int b) = .int b ∧ fits .boolean (.int b) = true := by rcases h with ⟨rfl, -⟩ | ⟨rfl, -⟩ <;> exact ⟨rfl, by decide⟩
theorem own_oft {n : Nat} (h : n < 2147483648) : (Int32.ofNat n).toInt = n := Int32.toInt_ofNat_small h
theorem own_ltn {i n : Nat} (hi : i < 2147483648) (hn : n < 2147483648) : Int32.ofNat i < Int32.ofNat n ↔ i < n := by rw [Int32.lt_iff_toInt_lt, own_oft hi, own_oft hn]; omega
theorem own_inc (i : Nat) : Int32.ofNat i + (1 : Int32) = Int32.ofNat (i + 1) := by
  apply Int32.toBitVec_inj.mp
  show BitVec.ofNat 32 i + BitVec.ofNat 32 1 = BitVec.ofNat 32 (i + 1)
  rw [← BitVec.ofNat_add]
theorem own_gd {cs : List Int32} {P : Int32 → Prop} (h : ∀ c ∈ cs, P c) {i : Nat} (hi : i < cs.length) : P (cs.getD i 0) := by
  rw [List.getD_eq_getElem?_getD, List.getElem?_eq_getElem hi]; exact h _ (List.getElem_mem _)
theorem own_mask (x : Int32) : 0 ≤ (x &&& (2147483647 : Int32)).toInt := by
  have h : (x &&& 2147483647).toBitVec.toNat ≤ 2147483647 := by
    simp only [Int32.toBitVec_and, BitVec.toNat_and]
    exact Nat.and_le_right
  show 0 ≤ (x &&& 2147483647).toBitVec.toInt
  rw [BitVec.toInt_eq_toNat_cond]; split <;> omega
theorem own_modk (x k : Int32) (h : 0 < k.toInt) : 0 ≤ ((x &&& (2147483647 : Int32)) % k).toInt ∧ ((x &&& (2147483647 : Int32)) % k).toInt < k.toInt := by
  rw [Int32.toInt_mod]
  exact ⟨Int.tmod_nonneg _ (own_mask x), Int.tmod_lt_of_pos _ h⟩
theorem own_b8 (x : Int32) : (x.toInt8.toInt32).toInt8.toInt32 = x.toInt8.toInt32 := by simp
theorem own_narc (x : Int32) : narrow .char (.int x.toUInt32.toUInt16.toUInt32.toInt32) = .int x.toUInt32.toUInt16.toUInt32.toInt32 := by simp only [narrow, UInt32.toUInt32_toInt32, UInt16.toUInt16_toUInt32]
theorem own_pr {c : Int32} (h : ¬ c < (33 : Int32) ∧ ¬ (126 : Int32) < c) : ¬ c < 0 ∧ ¬ (255 : Int32) < c := by
  have e1 : (0 : Int32).toInt = 0 := rfl
  have e2 : (255 : Int32).toInt = 255 := rfl
  have e3 : (33 : Int32).toInt = 33 := rfl
  have e4 : (126 : Int32).toInt = 126 := rfl
  simp only [Int32.lt_iff_toInt_lt, e1, e2, e3, e4] at h ⊢; omega
theorem own_allowed (x : Int32) : ¬ (((33 : Int32) + ((x &&& (2147483647 : Int32)) % (94 : Int32))).toUInt32.toUInt16.toUInt32.toInt32) < (33 : Int32) ∧ ¬ (126 : Int32) < (((33 : Int32) + ((x &&& (2147483647 : Int32)) % (94 : Int32))).toUInt32.toUInt16.toUInt32.toInt32) := by
  obtain ⟨h1, h2⟩ := own_modk x 94 (by decide)
  generalize (x &&& (2147483647 : Int32)) % (94 : Int32) = z at h1 h2
  have e0 : (0 : Int32).toInt = 0 := rfl
  have e9 : (94 : Int32).toInt = 94 := rfl
  have e3 : (33 : Int32).toInt = 33 := rfl
  have e4 : (126 : Int32).toInt = 126 := rfl
  have e5 : (65535 : Int32).toInt = 65535 := rfl
  rw [e9] at h2
  have es : ((33 : Int32) + z).toInt = 33 + z.toInt := by
    rw [Int32.toInt_add, e3]; exact Int.bmod_eq_of_le (by omega) (by omega)
  have ec := own_nc (x := (33 : Int32) + z) (by simp only [Int32.lt_iff_toInt_lt, es, e0, e5]; omega)
  have ec' : ((33 : Int32) + z).toUInt32.toUInt16.toUInt32.toInt32 = (33 : Int32) + z := ec
  rw [ec']
  simp only [Int32.lt_iff_toInt_lt, es, e3, e4]; omega
theorem own_and_nat (x : Int32) (k : Nat) (hk : k < 2147483648) : ∃ j : Nat, j ≤ k ∧ (x &&& Int32.ofNat k) = Int32.ofNat j := by
  refine ⟨(x &&& Int32.ofNat k).toBitVec.toNat, ?_, ?_⟩
  · simp only [Int32.toBitVec_and, BitVec.toNat_and]
    refine Nat.le_trans Nat.and_le_right ?_
    show (BitVec.ofNat 32 k).toNat ≤ k
    rw [BitVec.toNat_ofNat]; exact Nat.mod_le _ _
  · apply Int32.toBitVec_inj.mp
    show _ = BitVec.ofNat 32 _
    rw [BitVec.ofNat_toNat]; simp
theorem own_n4 (x : Int32) : (1 : Int32) + (x &&& (3 : Int32)) = (1 : Int32) ∨ (1 : Int32) + (x &&& (3 : Int32)) = (2 : Int32) ∨ (1 : Int32) + (x &&& (3 : Int32)) = (3 : Int32) ∨ (1 : Int32) + (x &&& (3 : Int32)) = (4 : Int32) := by
  obtain ⟨j, hj, e⟩ := own_and_nat x 3 (by decide)
  have e' : (x &&& (3 : Int32)) = Int32.ofNat j := e
  rw [e']
  have : j = 0 ∨ j = 1 ∨ j = 2 ∨ j = 3 := by omega
  rcases this with rfl | rfl | rfl | rfl <;> decide
theorem own_cl {n : Nat} (h : n < 2147483648) : (Int32.ofNat n).toNatClampNeg = n := by
  show (Int32.ofNat n).toInt.toNat = n
  rw [own_oft h]; rfl
theorem own_addn (a b : Nat) : Int32.ofNat a + Int32.ofNat b = Int32.ofNat (a + b) := by
  apply Int32.toBitVec_inj.mp
  show BitVec.ofNat 32 a + BitVec.ofNat 32 b = BitVec.ofNat 32 (a + b)
  rw [← BitVec.ofNat_add]
theorem own_subn {a b : Nat} (h : b ≤ a) : Int32.ofNat a - Int32.ofNat b = Int32.ofNat (a - b) := by
  have q := own_addn (a - b) b
  rw [Nat.sub_add_cancel h] at q
  rw [← q, Int32.add_sub_cancel]
theorem own_nn {n : Nat} (h : n < 2147483648) : ¬ Int32.ofNat n < 0 := fun q => absurd ((own_ltn (n := 0) h (by decide)).mp q) (Nat.not_lt_zero _)
theorem own_eqn {i n : Nat} (hi : i < 2147483648) (hn : n < 2147483648) : Int32.ofNat i = Int32.ofNat n ↔ i = n := ⟨fun q => by have r := congrArg Int32.toInt q; rw [own_oft hi, own_oft hn] at r; omega, fun q => q ▸ rfl⟩
theorem own_inb {i n : Nat} (h : i < n) (hn : n < 2147483648) : ¬ Int32.ofNat i < 0 ∧ Int32.ofNat i < Int32.ofNat n := ⟨own_nn (by omega), (own_ltn (by omega) hn).mpr h⟩
theorem own_minx {a b : Nat} (h1 : b ≤ a) (h2 : a ≤ 4000) (k : ¬ Int32.ofNat b < Int32.ofNat a) : some (Value.int (Int32.ofNat a)) = some (Value.int (Int32.ofNat b)) := by
  have q : ¬ b < a := fun r => k ((own_ltn (by omega) (by omega)).mpr r)
  rw [show a = b by omega]
theorem own_rg (bs : List Int32) (lo n : Nat) (d : Value) (h : lo + n ≤ bs.length) : ((List.range n).map fun i => (bs.map Value.int).getD (lo + i) d) = ((bs.drop lo).take n).map Value.int := by
  apply List.ext_getElem
  · simp; omega
  · intro i h1 h2
    have hi : i < n := by simpa using h1
    simp only [List.getElem_map, List.getElem_range, List.getElem_take, List.getElem_drop, List.getD_eq_getElem?_getD]
    rw [List.getElem?_eq_getElem (by simp; omega)]
    simp
theorem own_cpz (us : List Value) (n : Nat) (d : Value) : (([] : List Value) ++ List.replicate n d).take 0 ++ us ++ ([] ++ List.replicate n d).drop (0 + n) = us := by simp
theorem own_more {Z : State} {a0 : Array Value} {EL : List (String × Nat)} {own : String} {p : Program} {l : Launch} {e : Env} {R : Room} {s : State} {m : MethodId} {args : Array Value} {below : List Frame} {meth : Method} {c : Code} {vm : Vm} {T : State} {h : Heap} {cells slots cells' slots' : Nat} (W : Wk Z a0 EL own p l e R s m args below meth c vm T h cells slots) (h1 : cells ≤ cells') (h2 : slots ≤ slots') : Wk Z a0 EL own p l e R s m args below meth c vm T h cells' slots' := by
  obtain ⟨locs, k, X, q⟩ := W
  exact ⟨locs, k, X.more h1 h2, q⟩
theorem own_shl1 (i : Nat) : Int32.ofNat i <<< ((1 : Int32) &&& 31) = Int32.ofNat (2 * i) := by
  have e : ((1 : Int32) &&& 31) = 1 := by decide
  rw [e]
  apply Int32.toBitVec_inj.mp
  rw [Int32.toBitVec_shiftLeft]
  have e1 : ((1 : Int32).toBitVec.smod 32) = 1#32 := by decide
  rw [e1]
  apply BitVec.eq_of_toNat_eq
  show (BitVec.ofNat 32 i <<< 1#32).toNat = (BitVec.ofNat 32 (2 * i)).toNat
  simp only [BitVec.shiftLeft_eq', BitVec.toNat_shiftLeft, BitVec.toNat_ofNat, Nat.shiftLeft_eq]
  have e2 : (2 : Nat) ^ (1 % 2 ^ 32) = 2 := by decide
  rw [e2]; omega
theorem own_shr0 (x : Int32) : x >>> ((0 : Int32) &&& 31) = x := by
  have e : ((0 : Int32) &&& 31) = 0 := by decide
  rw [e]; simp
def Bl (Z : State) (h : Heap) (b t : Addr) (kt : ClassId) (ds : List Int32) : Prop := Exa Z h b "java/lang/StringBuilder" ∧ Fld Z h b "java/lang/AbstractStringBuilder" "value" "[B" (.ref t) ∧ Fld Z h b "java/lang/AbstractStringBuilder" "coder" "B" (.int (0 : Int32)) ∧ Fld Z h b "java/lang/AbstractStringBuilder" "count" "I" (.int (Int32.ofNat ds.length)) ∧ Arv Z h t kt .byte (16 : Int32) (ds.map Value.int) (.int (0 : Int32))
theorem Bl.ext {Z : State} {h h' : Heap} {b t : Addr} {kt : ClassId} {ds : List Int32} (B : Bl Z h b t kt ds) (X : Ext h h') : Bl Z h' b t kt ds := ⟨B.1.ext X, B.2.1.ext X, B.2.2.1.ext X, B.2.2.2.1.ext X, B.2.2.2.2.ext X⟩
theorem own_sle {n cap : Nat} (h : n ≤ cap) (hc : cap < 2147483648) : ¬ (0 : Int32) < Int32.ofNat n - Int32.ofNat cap := by
  rw [Int32.lt_iff_toInt_lt, Int32.toInt_sub, own_oft hc, own_oft (by omega), Int.bmod_eq_of_le (by omega) (by omega)]
  have e : (0 : Int32).toInt = 0 := rfl
  rw [e]; omega
theorem own_shl0 (x : Int32) : x <<< ((0 : Int32) &&& 31) = x := by
  have e : ((0 : Int32) &&& 31) = 0 := by decide
  rw [e]; simp
theorem own_rg0 (bs : List Int32) (n : Nat) (d : Value) (h : bs.length = n) : ((List.range n).map fun i => (bs.map Value.int).getD (0 + i) d) = bs.map Value.int := by
  rw [own_rg bs 0 n d (by omega), List.drop_zero, ← h, List.take_length]
theorem own_app0 (ds cs : List Int32) (d : Value) : (ds.map Value.int ++ List.replicate cs.length d).take ds.length ++ (cs.map fun c => c.toInt8.toInt32).map Value.int ++ (ds.map Value.int ++ List.replicate cs.length d).drop (ds.length + cs.length) = (ds ++ cs.map fun c => c.toInt8.toInt32).map Value.int := by
  have e1 : (ds.map Value.int ++ List.replicate cs.length d).take ds.length = ds.map Value.int := List.take_left' (by simp)
  have e2 : (ds.map Value.int ++ List.replicate cs.length d).drop (ds.length + cs.length) = [] := by
    apply List.drop_eq_nil_of_le; simp
  rw [e1, e2, List.append_nil, List.map_append]
theorem own_rgv (vs : List Value) (n : Nat) (d : Value) (h : vs.length = n) : ((List.range n).map fun i => vs.getD (0 + i) d) = vs := by
  apply List.ext_getElem
  · simp [h]
  · intro i h1 h2
    simp only [List.getElem_map, List.getElem_range, List.getD_eq_getElem?_getD, Nat.zero_add]
    rw [List.getElem?_eq_getElem h2]; rfl

theorem own_cntA {Z : State} {h : Heap} {b : Addr} {ds cs : List Int32} (F : Fld Z h b "java/lang/AbstractStringBuilder" "count" "I" (.int (Int32.ofNat (ds.length + cs.length)))) : Fld Z h b "java/lang/AbstractStringBuilder" "count" "I" (.int (Int32.ofNat (ds ++ cs.map fun c => c.toInt8.toInt32).length)) := by rw [List.length_append, List.length_map]; exact F

theorem own_sub0 (x : Int32) : x - (0 : Int32) = x := by simp

theorem own_litS {Z : State} {h : Heap} {a t : Addr} {kb : ClassId} {cs : List Int32} {z : Int32} (E : Exa Z h a "java/lang/String") (C : Fld Z h a "java/lang/String" "coder" "B" (.int 0)) (V : Fld Z h a "java/lang/String" "value" "[B" (.ref t)) (K : Arv Z h t kb .byte z (cs.map Value.int) (.int 0)) (hz : z = Int32.ofNat cs.length) (hp : ∀ c ∈ cs, ¬ c < 0 ∧ ¬ (255 : Int32) < c) (he : cs = cs.map fun c => c.toInt8.toInt32) : Str Z h a cs := ⟨E, C, hp, t, kb, V, by subst hz; rw [← he]; exact K⟩
theorem own_eqr {s : State} {args : Array Value} {X F : Term} {a b : Addr} (h1 : X.eval args s none [] s = some (.ref a)) (h2 : F.eval args s none [] s = some (.ref b)) (h : (Cond.eq X F).value args s none s [] = some true) : a = b := Value.ref.inj (gotT (eq_R h1 h2 rfl rfl) h)
abbrev vZ : Value := .int (0 : Int32)
abbrev vI (x : Int32) : Slot := .val (.int x)
abbrev vR (x : Addr) : Slot := .val (.ref x)
abbrev ltN (x y : Nat) : Prop := x < y
theorem own_mi {α : Type} {L : List α} {i : Nat} {x : α} (h : L[i]? = some x) : x ∈ L := List.mem_of_getElem? h
abbrev rmm (a b c d : Nat) : Room := { frames := a, cells := b, slots := c, locals := d }
set_option maxRecDepth 65536
set_option maxHeartbeats 40000000
def own_EL : List (String × Nat) := [("com/example/onegate/onegate/core/http/HttpResponse$Content", 17), ("com/example/onegate/onegate/core/http/HttpResponse$Content", 26)]
def Cx (Z : State) (a0 : Array Value) : Prop := (∀ d ∈ tables_1, d.before a0 Z = true) ∧ EW Z a0 own_EL ∧ (∃ z : Int32, Sta Z Z.heap "java/lang/String" "COMPACT_STRINGS" "Z" (.int z) ∧ ¬ z = 0) ∧ (∃ z : Value, Sta Z Z.heap "jdk/internal/util/Preconditions" "SIOOBE_FORMATTER" "Ljava/util/function/BiFunction;" z ∧ z.isRef = true) ∧ (∃ z : Addr, Sta Z Z.heap "com/example/onegate/onegate/core/http/HttpResponse$Status" "OK" "Lcom/example/onegate/onegate/core/http/HttpResponse$Status;" (.ref z)) ∧ (∃ z : Addr, Sta Z Z.heap "com/example/onegate/onegate/core/http/HttpResponse$Status" "BAD_REQUEST" "Lcom/example/onegate/onegate/core/http/HttpResponse$Status;" (.ref z)) ∧ (∃ z : Addr, Sta Z Z.heap "com/example/onegate/onegate/core/http/HttpResponse$Status" "FORBIDDEN" "Lcom/example/onegate/onegate/core/http/HttpResponse$Status;" (.ref z)) ∧ (∃ z : Addr, Sta Z Z.heap "com/example/onegate/onegate/core/http/HttpResponse$Status" "BAD_GATEWAY" "Lcom/example/onegate/onegate/core/http/HttpResponse$Status;" (.ref z)) ∧ (∃ lg lr lb : Addr, Sta Z Z.heap "com/example/onegate/onegate/gate/Answer$Line" "GIVEN" "Lcom/example/onegate/onegate/gate/Answer$Line;" (.ref lg) ∧ Sta Z Z.heap "com/example/onegate/onegate/gate/Answer$Line" "REFUSED" "Lcom/example/onegate/onegate/gate/Answer$Line;" (.ref lr) ∧ Sta Z Z.heap "com/example/onegate/onegate/gate/Answer$Line" "BROKEN_OFF" "Lcom/example/onegate/onegate/gate/Answer$Line;" (.ref lb) ∧ lg ≠ lb ∧ lr ≠ lb) ∧ (∃ z : Addr, Sta Z Z.heap "java/nio/charset/StandardCharsets" "UTF_8" "Ljava/nio/charset/Charset;" (.ref z) ∧ Sta Z Z.heap "sun/nio/cs/UTF_8" "INSTANCE" "Lsun/nio/cs/UTF_8;" (.ref z)) ∧ (∃ z : Addr, Sta Z Z.heap "java/lang/Throwable" "UNASSIGNED_STACK" "[Ljava/lang/StackTraceElement;" (.ref z)) ∧ (∃ z : Addr, Sta Z Z.heap "java/lang/Throwable" "SUPPRESSED_SENTINEL" "Ljava/util/List;" (.ref z))
theorem Cx.hw {Z : State} {a0 : Array Value} (C : Cx Z a0) : (∀ d ∈ tables_1, d.before a0 Z = true) := C.1
theorem Cx.ew {Z : State} {a0 : Array Value} (C : Cx Z a0) : EW Z a0 own_EL := C.2.1
theorem Cx.cs {Z : State} {a0 : Array Value} (C : Cx Z a0) : (∃ z : Int32, Sta Z Z.heap "java/lang/String" "COMPACT_STRINGS" "Z" (.int z) ∧ ¬ z = 0) := C.2.2.1
theorem Cx.sf {Z : State} {a0 : Array Value} (C : Cx Z a0) : (∃ z : Value, Sta Z Z.heap "jdk/internal/util/Preconditions" "SIOOBE_FORMATTER" "Ljava/util/function/BiFunction;" z ∧ z.isRef = true) := C.2.2.2.1
theorem Cx.s0 {Z : State} {a0 : Array Value} (C : Cx Z a0) : (∃ z : Addr, Sta Z Z.heap "com/example/onegate/onegate/core/http/HttpResponse$Status" "OK" "Lcom/example/onegate/onegate/core/http/HttpResponse$Status;" (.ref z)) := C.2.2.2.2.1
theorem Cx.s1 {Z : State} {a0 : Array Value} (C : Cx Z a0) : (∃ z : Addr, Sta Z Z.heap "com/example/onegate/onegate/core/http/HttpResponse$Status" "BAD_REQUEST" "Lcom/example/onegate/onegate/core/http/HttpResponse$Status;" (.ref z)) := C.2.2.2.2.2.1
theorem Cx.s2 {Z : State} {a0 : Array Value} (C : Cx Z a0) : (∃ z : Addr, Sta Z Z.heap "com/example/onegate/onegate/core/http/HttpResponse$Status" "FORBIDDEN" "Lcom/example/onegate/onegate/core/http/HttpResponse$Status;" (.ref z)) := C.2.2.2.2.2.2.1
theorem Cx.s3 {Z : State} {a0 : Array Value} (C : Cx Z a0) : (∃ z : Addr, Sta Z Z.heap "com/example/onegate/onegate/core/http/HttpResponse$Status" "BAD_GATEWAY" "Lcom/example/onegate/onegate/core/http/HttpResponse$Status;" (.ref z)) := C.2.2.2.2.2.2.2.1
theorem Cx.ln {Z : State} {a0 : Array Value} (C : Cx Z a0) : (∃ lg lr lb : Addr, Sta Z Z.heap "com/example/onegate/onegate/gate/Answer$Line" "GIVEN" "Lcom/example/onegate/onegate/gate/Answer$Line;" (.ref lg) ∧ Sta Z Z.heap "com/example/onegate/onegate/gate/Answer$Line" "REFUSED" "Lcom/example/onegate/onegate/gate/Answer$Line;" (.ref lr) ∧ Sta Z Z.heap "com/example/onegate/onegate/gate/Answer$Line" "BROKEN_OFF" "Lcom/example/onegate/onegate/gate/Answer$Line;" (.ref lb) ∧ lg ≠ lb ∧ lr ≠ lb) := C.2.2.2.2.2.2.2.2.1
theorem Cx.u8 {Z : State} {a0 : Array Value} (C : Cx Z a0) : (∃ z : Addr, Sta Z Z.heap "java/nio/charset/StandardCharsets" "UTF_8" "Ljava/nio/charset/Charset;" (.ref z) ∧ Sta Z Z.heap "sun/nio/cs/UTF_8" "INSTANCE" "Lsun/nio/cs/UTF_8;" (.ref z)) := C.2.2.2.2.2.2.2.2.2.1
theorem Cx.us {Z : State} {a0 : Array Value} (C : Cx Z a0) : (∃ z : Addr, Sta Z Z.heap "java/lang/Throwable" "UNASSIGNED_STACK" "[Ljava/lang/StackTraceElement;" (.ref z)) := C.2.2.2.2.2.2.2.2.2.2.1
theorem Cx.ss {Z : State} {a0 : Array Value} (C : Cx Z a0) : (∃ z : Addr, Sta Z Z.heap "java/lang/Throwable" "SUPPRESSED_SENTINEL" "Ljava/util/List;" (.ref z)) := C.2.2.2.2.2.2.2.2.2.2.2
theorem own_ws {Z : State} {a0 : Array Value} (C : Cx Z a0) : ∀ d ∈ StrChars.Road.words, d.before a0 Z = true := fun d hd => C.1 d ((by decide +kernel : ∀ d ∈ StrChars.Road.words, d ∈ tables_1) d hd)
theorem own_wS {Z : State} {a0 : Array Value} (C : Cx Z a0) : ∀ d ∈ Bundle.stringAtoms, d.before a0 Z = true := fun d hd => C.1 d ((by decide +kernel : ∀ d ∈ Bundle.stringAtoms, d ∈ tables_1) d hd)
section OwnWords
variable {Z : State} {a0 : Array Value}
theorem w0 (C : Cx Z a0) : (Cond.methodLink "com/example/onegate/onegate/gate/AnswerBrokeOffPinLaw" 22 ⟨"com/example/onegate/onegate/gate/AnswerBrokeOffPinLaw", "status", "(I)Lcom/example/onegate/onegate/core/http/HttpResponse$Status;"⟩).before a0 Z = true := C.1 _ (own_mi (i := 0) rfl)
theorem w1 (C : Cx Z a0) : (Cond.static ⟨"com/example/onegate/onegate/gate/AnswerBrokeOffPinLaw", "status", "(I)Lcom/example/onegate/onegate/core/http/HttpResponse$Status;"⟩).before a0 Z = true := C.1 _ (own_mi (i := 1) rfl)
theorem w2 (C : Cx Z a0) : (Cond.initialized "com/example/onegate/onegate/gate/AnswerBrokeOffPinLaw").before a0 Z = true := C.1 _ (own_mi (i := 2) rfl)
theorem w3 (C : Cx Z a0) : (Cond.code ⟨"com/example/onegate/onegate/gate/AnswerBrokeOffPinLaw", "status", "(I)Lcom/example/onegate/onegate/core/http/HttpResponse$Status;"⟩ method_2_code 2 (Option.some (Jvm.ClassFile.FieldType.object "com/example/onegate/onegate/core/http/HttpResponse$Status"))).before a0 Z = true := C.1 _ (own_mi (i := 3) rfl)
theorem w4 (C : Cx Z a0) : (Cond.fieldLink "com/example/onegate/onegate/gate/AnswerBrokeOffPinLaw" 19 "com/example/onegate/onegate/core/http/HttpResponse$Status" "BAD_GATEWAY" "Lcom/example/onegate/onegate/core/http/HttpResponse$Status;").before a0 Z = true := C.1 _ (own_mi (i := 4) rfl)
theorem w7 (C : Cx Z a0) : (Cond.arrayClass Jvm.ClassFile.FieldType.char).before a0 Z = true := C.1 _ (own_mi (i := 7) rfl)
theorem w8 (C : Cx Z a0) : (Cond.classLink "com/example/onegate/onegate/gate/AnswerBrokeOffPinLaw" 28 "java/lang/String").before a0 Z = true := C.1 _ (own_mi (i := 8) rfl)
theorem w9 (C : Cx Z a0) : (Cond.instantiable "java/lang/String" 4).before a0 Z = true := C.1 _ (own_mi (i := 9) rfl)
theorem w10 (C : Cx Z a0) : (Cond.initialized "java/lang/String").before a0 Z = true := C.1 _ (own_mi (i := 10) rfl)
theorem w11 (C : Cx Z a0) : (Cond.methodLink "com/example/onegate/onegate/gate/AnswerBrokeOffPinLaw" 30 ⟨"java/lang/String", "<init>", "([C)V"⟩).before a0 Z = true := C.1 _ (own_mi (i := 11) rfl)
theorem w12 (C : Cx Z a0) : (Cond.instanceMethod ⟨"java/lang/String", "<init>", "([C)V"⟩).before a0 Z = true := C.1 _ (own_mi (i := 12) rfl)
theorem w13 (C : Cx Z a0) : (Cond.code ⟨"java/lang/String", "<init>", "([C)V"⟩ jdk_42_method_3_code 2 (Option.none : Option Jvm.ClassFile.FieldType)).before a0 Z = true := C.1 _ (own_mi (i := 13) rfl)
theorem w18 (C : Cx Z a0) : (Cond.methodLink "java/lang/String" 1 ⟨"java/lang/Object", "<init>", "()V"⟩).before a0 Z = true := C.1 _ (own_mi (i := 18) rfl)
theorem w19 (C : Cx Z a0) : (Cond.instanceMethod ⟨"java/lang/Object", "<init>", "()V"⟩).before a0 Z = true := C.1 _ (own_mi (i := 19) rfl)
theorem w20 (C : Cx Z a0) : (Cond.code ⟨"java/lang/Object", "<init>", "()V"⟩ object_method_1_code 1 (Option.none : Option Jvm.ClassFile.FieldType)).before a0 Z = true := C.1 _ (own_mi (i := 20) rfl)
theorem w21 (C : Cx Z a0) : (Cond.fieldLink "java/lang/String" 38 "java/lang/String" "COMPACT_STRINGS" "Z").before a0 Z = true := C.1 _ (own_mi (i := 21) rfl)
theorem w24 (C : Cx Z a0) : (Cond.initialized "java/lang/StringUTF16").before a0 Z = true := C.1 _ (own_mi (i := 24) rfl)
theorem w26 (C : Cx Z a0) : (Cond.arrayClass Jvm.ClassFile.FieldType.byte).before a0 Z = true := C.1 _ (own_mi (i := 26) rfl)
theorem w33 (C : Cx Z a0) : (Cond.fieldLink "java/lang/String" 15 "java/lang/String" "coder" "B").before a0 Z = true := C.1 _ (own_mi (i := 33) rfl)
theorem w34 (C : Cx Z a0) : (Cond.laysFinal "java/lang/String" "java/lang/String" "coder" "B").before a0 Z = true := C.1 _ (own_mi (i := 34) rfl)
theorem w35 (C : Cx Z a0) : (Cond.fieldLink "java/lang/String" 9 "java/lang/String" "value" "[B").before a0 Z = true := C.1 _ (own_mi (i := 35) rfl)
theorem w36 (C : Cx Z a0) : (Cond.laysFinal "java/lang/String" "java/lang/String" "value" "[B").before a0 Z = true := C.1 _ (own_mi (i := 36) rfl)
theorem w37 (C : Cx Z a0) : (Cond.classLink "com/example/onegate/onegate/gate/AnswerBrokeOffPinLaw" 33 "com/example/onegate/onegate/core/http/HttpResponse$Content").before a0 Z = true := C.1 _ (own_mi (i := 37) rfl)
theorem w38 (C : Cx Z a0) : (Cond.instantiable "com/example/onegate/onegate/core/http/HttpResponse$Content" 2).before a0 Z = true := C.1 _ (own_mi (i := 38) rfl)
theorem w39 (C : Cx Z a0) : (Cond.initialized "com/example/onegate/onegate/core/http/HttpResponse$Content").before a0 Z = true := C.1 _ (own_mi (i := 39) rfl)
theorem w40 (C : Cx Z a0) : (Cond.methodLink "com/example/onegate/onegate/gate/AnswerBrokeOffPinLaw" 35 ⟨"com/example/onegate/onegate/core/http/HttpResponse$Content", "<init>", "(Ljava/lang/String;[B)V"⟩).before a0 Z = true := C.1 _ (own_mi (i := 40) rfl)
theorem w41 (C : Cx Z a0) : (Cond.instanceMethod ⟨"com/example/onegate/onegate/core/http/HttpResponse$Content", "<init>", "(Ljava/lang/String;[B)V"⟩).before a0 Z = true := C.1 _ (own_mi (i := 41) rfl)
theorem w42 (C : Cx Z a0) : (Cond.code ⟨"com/example/onegate/onegate/core/http/HttpResponse$Content", "<init>", "(Ljava/lang/String;[B)V"⟩ prog_44_method_1_code 3 (Option.none : Option Jvm.ClassFile.FieldType)).before a0 Z = true := C.1 _ (own_mi (i := 42) rfl)
theorem w43 (C : Cx Z a0) : (Cond.methodLink "com/example/onegate/onegate/core/http/HttpResponse$Content" 1 ⟨"java/lang/Record", "<init>", "()V"⟩).before a0 Z = true := C.1 _ (own_mi (i := 43) rfl)
theorem w44 (C : Cx Z a0) : (Cond.instanceMethod ⟨"java/lang/Record", "<init>", "()V"⟩).before a0 Z = true := C.1 _ (own_mi (i := 44) rfl)
theorem w46 (C : Cx Z a0) : (Cond.initialized "java/lang/Record").before a0 Z = true := C.1 _ (own_mi (i := 46) rfl)
theorem w47 (C : Cx Z a0) : (Cond.code ⟨"java/lang/Record", "<init>", "()V"⟩ jdk_30_method_1_code 1 (Option.none : Option Jvm.ClassFile.FieldType)).before a0 Z = true := C.1 _ (own_mi (i := 47) rfl)
theorem w48 (C : Cx Z a0) : (Cond.methodLink "java/lang/Record" 1 ⟨"java/lang/Object", "<init>", "()V"⟩).before a0 Z = true := C.1 _ (own_mi (i := 48) rfl)
theorem w49 (C : Cx Z a0) : (Cond.fieldLink "com/example/onegate/onegate/core/http/HttpResponse$Content" 7 "com/example/onegate/onegate/core/http/HttpResponse$Content" "type" "Ljava/lang/String;").before a0 Z = true := C.1 _ (own_mi (i := 49) rfl)
theorem w50 (C : Cx Z a0) : (Cond.laysFinal "com/example/onegate/onegate/core/http/HttpResponse$Content" "com/example/onegate/onegate/core/http/HttpResponse$Content" "type" "Ljava/lang/String;").before a0 Z = true := C.1 _ (own_mi (i := 50) rfl)
theorem w51 (C : Cx Z a0) : (Cond.fieldLink "com/example/onegate/onegate/core/http/HttpResponse$Content" 13 "com/example/onegate/onegate/core/http/HttpResponse$Content" "bytes" "[B").before a0 Z = true := C.1 _ (own_mi (i := 51) rfl)
theorem w52 (C : Cx Z a0) : (Cond.laysFinal "com/example/onegate/onegate/core/http/HttpResponse$Content" "com/example/onegate/onegate/core/http/HttpResponse$Content" "bytes" "[B").before a0 Z = true := C.1 _ (own_mi (i := 52) rfl)
theorem w53 (C : Cx Z a0) : (Cond.constant "com/example/onegate/onegate/gate/AnswerBrokeOffPinLaw" 38 (2147483647 : Int32)).before a0 Z = true := C.1 _ (own_mi (i := 53) rfl)
theorem w54 (C : Cx Z a0) : (Cond.classLink "com/example/onegate/onegate/gate/AnswerBrokeOffPinLaw" 39 "com/example/onegate/onegate/gate/Answer").before a0 Z = true := C.1 _ (own_mi (i := 54) rfl)
theorem w55 (C : Cx Z a0) : (Cond.instantiable "com/example/onegate/onegate/gate/Answer" 10).before a0 Z = true := C.1 _ (own_mi (i := 55) rfl)
theorem w56 (C : Cx Z a0) : (Cond.initialized "com/example/onegate/onegate/gate/Answer").before a0 Z = true := C.1 _ (own_mi (i := 56) rfl)
theorem w57 (C : Cx Z a0) : (Cond.methodLink "com/example/onegate/onegate/gate/AnswerBrokeOffPinLaw" 41 ⟨"com/example/onegate/onegate/gate/Answer", "<init>", "(Lcom/example/onegate/onegate/core/http/HttpResponse$Status;Ljava/lang/String;Lcom/example/onegate/onegate/core/http/HttpResponse$Content;)V"⟩).before a0 Z = true := C.1 _ (own_mi (i := 57) rfl)
theorem w58 (C : Cx Z a0) : (Cond.instanceMethod ⟨"com/example/onegate/onegate/gate/Answer", "<init>", "(Lcom/example/onegate/onegate/core/http/HttpResponse$Status;Ljava/lang/String;Lcom/example/onegate/onegate/core/http/HttpResponse$Content;)V"⟩).before a0 Z = true := C.1 _ (own_mi (i := 58) rfl)
theorem w59 (C : Cx Z a0) : (Cond.code ⟨"com/example/onegate/onegate/gate/Answer", "<init>", "(Lcom/example/onegate/onegate/core/http/HttpResponse$Status;Ljava/lang/String;Lcom/example/onegate/onegate/core/http/HttpResponse$Content;)V"⟩ prog_48_method_3_code 4 (Option.none : Option Jvm.ClassFile.FieldType)).before a0 Z = true := C.1 _ (own_mi (i := 59) rfl)
theorem w60 (C : Cx Z a0) : (Cond.fieldLink "com/example/onegate/onegate/gate/Answer" 19 "com/example/onegate/onegate/gate/Answer$Line" "GIVEN" "Lcom/example/onegate/onegate/gate/Answer$Line;").before a0 Z = true := C.1 _ (own_mi (i := 60) rfl)
theorem w63 (C : Cx Z a0) : (Cond.methodLink "com/example/onegate/onegate/gate/Answer" 13 ⟨"com/example/onegate/onegate/gate/Answer", "<init>", "(Lcom/example/onegate/onegate/core/http/HttpResponse$Status;Ljava/lang/String;Lcom/example/onegate/onegate/core/http/HttpResponse$Content;Ljava/lang/String;Lcom/example/onegate/onegate/gate/Answer$Line;)V"⟩).before a0 Z = true := C.1 _ (own_mi (i := 63) rfl)
theorem w64 (C : Cx Z a0) : (Cond.instanceMethod ⟨"com/example/onegate/onegate/gate/Answer", "<init>", "(Lcom/example/onegate/onegate/core/http/HttpResponse$Status;Ljava/lang/String;Lcom/example/onegate/onegate/core/http/HttpResponse$Content;Ljava/lang/String;Lcom/example/onegate/onegate/gate/Answer$Line;)V"⟩).before a0 Z = true := C.1 _ (own_mi (i := 64) rfl)
theorem w65 (C : Cx Z a0) : (Cond.code ⟨"com/example/onegate/onegate/gate/Answer", "<init>", "(Lcom/example/onegate/onegate/core/http/HttpResponse$Status;Ljava/lang/String;Lcom/example/onegate/onegate/core/http/HttpResponse$Content;Ljava/lang/String;Lcom/example/onegate/onegate/gate/Answer$Line;)V"⟩ prog_48_method_4_code 6 (Option.none : Option Jvm.ClassFile.FieldType)).before a0 Z = true := C.1 _ (own_mi (i := 65) rfl)
theorem w66 (C : Cx Z a0) : (Cond.methodLink "com/example/onegate/onegate/gate/Answer" 22 ⟨"java/lang/Exception", "<init>", "(Ljava/lang/String;)V"⟩).before a0 Z = true := C.1 _ (own_mi (i := 66) rfl)
theorem w67 (C : Cx Z a0) : (Cond.instanceMethod ⟨"java/lang/Exception", "<init>", "(Ljava/lang/String;)V"⟩).before a0 Z = true := C.1 _ (own_mi (i := 67) rfl)
theorem w69 (C : Cx Z a0) : (Cond.initialized "java/lang/Exception").before a0 Z = true := C.1 _ (own_mi (i := 69) rfl)
theorem w70 (C : Cx Z a0) : (Cond.code ⟨"java/lang/Exception", "<init>", "(Ljava/lang/String;)V"⟩ jdk_59_method_2_code 2 (Option.none : Option Jvm.ClassFile.FieldType)).before a0 Z = true := C.1 _ (own_mi (i := 70) rfl)
theorem w71 (C : Cx Z a0) : (Cond.methodLink "java/lang/Exception" 7 ⟨"java/lang/Throwable", "<init>", "(Ljava/lang/String;)V"⟩).before a0 Z = true := C.1 _ (own_mi (i := 71) rfl)
theorem w72 (C : Cx Z a0) : (Cond.instanceMethod ⟨"java/lang/Throwable", "<init>", "(Ljava/lang/String;)V"⟩).before a0 Z = true := C.1 _ (own_mi (i := 72) rfl)
theorem w75 (C : Cx Z a0) : (Cond.initialized "java/lang/Throwable").before a0 Z = true := C.1 _ (own_mi (i := 75) rfl)
theorem w76 (C : Cx Z a0) : (Cond.code ⟨"java/lang/Throwable", "<init>", "(Ljava/lang/String;)V"⟩ jdk_78_method_2_code 2 (Option.none : Option Jvm.ClassFile.FieldType)).before a0 Z = true := C.1 _ (own_mi (i := 76) rfl)
theorem w77 (C : Cx Z a0) : (Cond.methodLink "java/lang/Throwable" 1 ⟨"java/lang/Object", "<init>", "()V"⟩).before a0 Z = true := C.1 _ (own_mi (i := 77) rfl)
theorem w78 (C : Cx Z a0) : (Cond.fieldLink "java/lang/Throwable" 7 "java/lang/Throwable" "cause" "Ljava/lang/Throwable;").before a0 Z = true := C.1 _ (own_mi (i := 78) rfl)
theorem w79 (C : Cx Z a0) : (Cond.lays "com/example/onegate/onegate/gate/Answer" "java/lang/Throwable" "cause" "Ljava/lang/Throwable;").before a0 Z = true := C.1 _ (own_mi (i := 79) rfl)
theorem w80 (C : Cx Z a0) : (Cond.fieldLink "java/lang/Throwable" 13 "java/lang/Throwable" "UNASSIGNED_STACK" "[Ljava/lang/StackTraceElement;").before a0 Z = true := C.1 _ (own_mi (i := 80) rfl)
theorem w81 (C : Cx Z a0) : (Cond.fieldLink "java/lang/Throwable" 17 "java/lang/Throwable" "stackTrace" "[Ljava/lang/StackTraceElement;").before a0 Z = true := C.1 _ (own_mi (i := 81) rfl)
theorem w82 (C : Cx Z a0) : (Cond.lays "com/example/onegate/onegate/gate/Answer" "java/lang/Throwable" "stackTrace" "[Ljava/lang/StackTraceElement;").before a0 Z = true := C.1 _ (own_mi (i := 82) rfl)
theorem w83 (C : Cx Z a0) : (Cond.fieldLink "java/lang/Throwable" 20 "java/lang/Throwable" "SUPPRESSED_SENTINEL" "Ljava/util/List;").before a0 Z = true := C.1 _ (own_mi (i := 83) rfl)
theorem w84 (C : Cx Z a0) : (Cond.fieldLink "java/lang/Throwable" 24 "java/lang/Throwable" "suppressedExceptions" "Ljava/util/List;").before a0 Z = true := C.1 _ (own_mi (i := 84) rfl)
theorem w85 (C : Cx Z a0) : (Cond.lays "com/example/onegate/onegate/gate/Answer" "java/lang/Throwable" "suppressedExceptions" "Ljava/util/List;").before a0 Z = true := C.1 _ (own_mi (i := 85) rfl)
theorem w86 (C : Cx Z a0) : (Cond.methodLink "java/lang/Throwable" 27 ⟨"java/lang/Throwable", "fillInStackTrace", "()Ljava/lang/Throwable;"⟩).before a0 Z = true := C.1 _ (own_mi (i := 86) rfl)
theorem w109 (C : Cx Z a0) : (Cond.lays "com/example/onegate/onegate/gate/Answer" "java/lang/Throwable" "detailMessage" "Ljava/lang/String;").before a0 Z = true := C.1 _ (own_mi (i := 109) rfl)
theorem w110 (C : Cx Z a0) : (Cond.lays "com/example/onegate/onegate/gate/Answer" "java/lang/Throwable" "backtrace" "Ljava/lang/Object;").before a0 Z = true := C.1 _ (own_mi (i := 110) rfl)
theorem w111 (C : Cx Z a0) : (Cond.lays "com/example/onegate/onegate/gate/Answer" "java/lang/Throwable" "depth" "I").before a0 Z = true := C.1 _ (own_mi (i := 111) rfl)
theorem w113 (C : Cx Z a0) : (Cond.fieldLink "java/lang/Throwable" 31 "java/lang/Throwable" "detailMessage" "Ljava/lang/String;").before a0 Z = true := C.1 _ (own_mi (i := 113) rfl)
theorem w114 (C : Cx Z a0) : (Cond.fieldLink "com/example/onegate/onegate/gate/Answer" 27 "com/example/onegate/onegate/gate/Answer" "status" "Lcom/example/onegate/onegate/core/http/HttpResponse$Status;").before a0 Z = true := C.1 _ (own_mi (i := 114) rfl)
theorem w115 (C : Cx Z a0) : (Cond.laysFinal "com/example/onegate/onegate/gate/Answer" "com/example/onegate/onegate/gate/Answer" "status" "Lcom/example/onegate/onegate/core/http/HttpResponse$Status;").before a0 Z = true := C.1 _ (own_mi (i := 115) rfl)
theorem w116 (C : Cx Z a0) : (Cond.fieldLink "com/example/onegate/onegate/gate/Answer" 31 "com/example/onegate/onegate/gate/Answer" "content" "Lcom/example/onegate/onegate/core/http/HttpResponse$Content;").before a0 Z = true := C.1 _ (own_mi (i := 116) rfl)
theorem w117 (C : Cx Z a0) : (Cond.laysFinal "com/example/onegate/onegate/gate/Answer" "com/example/onegate/onegate/gate/Answer" "content" "Lcom/example/onegate/onegate/core/http/HttpResponse$Content;").before a0 Z = true := C.1 _ (own_mi (i := 117) rfl)
theorem w118 (C : Cx Z a0) : (Cond.fieldLink "com/example/onegate/onegate/gate/Answer" 35 "com/example/onegate/onegate/gate/Answer" "report" "Ljava/lang/String;").before a0 Z = true := C.1 _ (own_mi (i := 118) rfl)
theorem w119 (C : Cx Z a0) : (Cond.laysFinal "com/example/onegate/onegate/gate/Answer" "com/example/onegate/onegate/gate/Answer" "report" "Ljava/lang/String;").before a0 Z = true := C.1 _ (own_mi (i := 119) rfl)
theorem w120 (C : Cx Z a0) : (Cond.fieldLink "com/example/onegate/onegate/gate/Answer" 39 "com/example/onegate/onegate/gate/Answer" "line" "Lcom/example/onegate/onegate/gate/Answer$Line;").before a0 Z = true := C.1 _ (own_mi (i := 120) rfl)
theorem w121 (C : Cx Z a0) : (Cond.laysFinal "com/example/onegate/onegate/gate/Answer" "com/example/onegate/onegate/gate/Answer" "line" "Lcom/example/onegate/onegate/gate/Answer$Line;").before a0 Z = true := C.1 _ (own_mi (i := 121) rfl)
theorem w122 (C : Cx Z a0) : (Cond.methodLink "com/example/onegate/onegate/gate/AnswerBrokeOffPinLaw" 58 ⟨"com/example/onegate/onegate/gate/Answer", "brokeOff", "()Z"⟩).before a0 Z = true := C.1 _ (own_mi (i := 122) rfl)
theorem w123 (C : Cx Z a0) : (Cond.declares ⟨"com/example/onegate/onegate/gate/Answer", "brokeOff", "()Z"⟩).before a0 Z = true := C.1 _ (own_mi (i := 123) rfl)
theorem w124 (C : Cx Z a0) : (Cond.instanceMethod ⟨"com/example/onegate/onegate/gate/Answer", "brokeOff", "()Z"⟩).before a0 Z = true := C.1 _ (own_mi (i := 124) rfl)
theorem w125 (C : Cx Z a0) : (Cond.selects "com/example/onegate/onegate/gate/Answer" ⟨"com/example/onegate/onegate/gate/Answer", "brokeOff", "()Z"⟩ ⟨"com/example/onegate/onegate/gate/Answer", "brokeOff", "()Z"⟩).before a0 Z = true := C.1 _ (own_mi (i := 125) rfl)
theorem w126 (C : Cx Z a0) : (Cond.code ⟨"com/example/onegate/onegate/gate/Answer", "brokeOff", "()Z"⟩ prog_48_method_9_code 1 (Option.some Jvm.ClassFile.FieldType.boolean)).before a0 Z = true := C.1 _ (own_mi (i := 126) rfl)
theorem w127 (C : Cx Z a0) : (Cond.fieldLink "com/example/onegate/onegate/gate/Answer" 42 "com/example/onegate/onegate/gate/Answer$Line" "BROKEN_OFF" "Lcom/example/onegate/onegate/gate/Answer$Line;").before a0 Z = true := C.1 _ (own_mi (i := 127) rfl)
theorem w129 (C : Cx Z a0) : (Cond.fieldLink "com/example/onegate/onegate/gate/AnswerBrokeOffPinLaw" 7 "com/example/onegate/onegate/core/http/HttpResponse$Status" "OK" "Lcom/example/onegate/onegate/core/http/HttpResponse$Status;").before a0 Z = true := C.1 _ (own_mi (i := 129) rfl)
theorem w131 (C : Cx Z a0) : (Cond.methodLink "com/example/onegate/onegate/gate/AnswerBrokeOffPinLaw" 44 ⟨"com/example/onegate/onegate/gate/Answer", "<init>", "(Lcom/example/onegate/onegate/core/http/HttpResponse$Status;Ljava/lang/String;)V"⟩).before a0 Z = true := C.1 _ (own_mi (i := 131) rfl)
theorem w132 (C : Cx Z a0) : (Cond.instanceMethod ⟨"com/example/onegate/onegate/gate/Answer", "<init>", "(Lcom/example/onegate/onegate/core/http/HttpResponse$Status;Ljava/lang/String;)V"⟩).before a0 Z = true := C.1 _ (own_mi (i := 132) rfl)
theorem w133 (C : Cx Z a0) : (Cond.code ⟨"com/example/onegate/onegate/gate/Answer", "<init>", "(Lcom/example/onegate/onegate/core/http/HttpResponse$Status;Ljava/lang/String;)V"⟩ prog_48_method_1_code 3 (Option.none : Option Jvm.ClassFile.FieldType)).before a0 Z = true := C.1 _ (own_mi (i := 133) rfl)
theorem w134 (C : Cx Z a0) : (Cond.methodLink "com/example/onegate/onegate/gate/Answer" 1 ⟨"com/example/onegate/onegate/core/http/HttpResponse$Content", "text", "(Ljava/lang/String;)Lcom/example/onegate/onegate/core/http/HttpResponse$Content;"⟩).before a0 Z = true := C.1 _ (own_mi (i := 134) rfl)
theorem w135 (C : Cx Z a0) : (Cond.static ⟨"com/example/onegate/onegate/core/http/HttpResponse$Content", "text", "(Ljava/lang/String;)Lcom/example/onegate/onegate/core/http/HttpResponse$Content;"⟩).before a0 Z = true := C.1 _ (own_mi (i := 135) rfl)
theorem w136 (C : Cx Z a0) : (Cond.code ⟨"com/example/onegate/onegate/core/http/HttpResponse$Content", "text", "(Ljava/lang/String;)Lcom/example/onegate/onegate/core/http/HttpResponse$Content;"⟩ prog_44_method_2_code 1 (Option.some (Jvm.ClassFile.FieldType.object "com/example/onegate/onegate/core/http/HttpResponse$Content"))).before a0 Z = true := C.1 _ (own_mi (i := 136) rfl)
theorem w137 (C : Cx Z a0) : (Cond.classLink "com/example/onegate/onegate/core/http/HttpResponse$Content" 8 "com/example/onegate/onegate/core/http/HttpResponse$Content").before a0 Z = true := C.1 _ (own_mi (i := 137) rfl)
theorem w138 (C : Cx Z a0) : (Cond.stringLink "com/example/onegate/onegate/core/http/HttpResponse$Content" 17 "text/plain; charset=utf-8").before a0 Z = true := C.1 _ (own_mi (i := 138) rfl)
theorem w141 (C : Cx Z a0) : (Cond.classLink "com/example/onegate/onegate/core/http/HttpResponse$Content" 19 "java/lang/StringBuilder").before a0 Z = true := C.1 _ (own_mi (i := 141) rfl)
theorem w142 (C : Cx Z a0) : (Cond.instantiable "java/lang/StringBuilder" 4).before a0 Z = true := C.1 _ (own_mi (i := 142) rfl)
theorem w143 (C : Cx Z a0) : (Cond.initialized "java/lang/StringBuilder").before a0 Z = true := C.1 _ (own_mi (i := 143) rfl)
theorem w144 (C : Cx Z a0) : (Cond.methodLink "com/example/onegate/onegate/core/http/HttpResponse$Content" 21 ⟨"java/lang/StringBuilder", "<init>", "()V"⟩).before a0 Z = true := C.1 _ (own_mi (i := 144) rfl)
theorem w145 (C : Cx Z a0) : (Cond.instanceMethod ⟨"java/lang/StringBuilder", "<init>", "()V"⟩).before a0 Z = true := C.1 _ (own_mi (i := 145) rfl)
theorem w146 (C : Cx Z a0) : (Cond.code ⟨"java/lang/StringBuilder", "<init>", "()V"⟩ jdk_67_method_1_code 1 (Option.none : Option Jvm.ClassFile.FieldType)).before a0 Z = true := C.1 _ (own_mi (i := 146) rfl)
theorem w147 (C : Cx Z a0) : (Cond.methodLink "java/lang/StringBuilder" 1 ⟨"java/lang/AbstractStringBuilder", "<init>", "(I)V"⟩).before a0 Z = true := C.1 _ (own_mi (i := 147) rfl)
theorem w148 (C : Cx Z a0) : (Cond.instanceMethod ⟨"java/lang/AbstractStringBuilder", "<init>", "(I)V"⟩).before a0 Z = true := C.1 _ (own_mi (i := 148) rfl)
theorem w151 (C : Cx Z a0) : (Cond.initialized "java/lang/AbstractStringBuilder").before a0 Z = true := C.1 _ (own_mi (i := 151) rfl)
theorem w152 (C : Cx Z a0) : (Cond.code ⟨"java/lang/AbstractStringBuilder", "<init>", "(I)V"⟩ jdk_68_method_2_code 2 (Option.none : Option Jvm.ClassFile.FieldType)).before a0 Z = true := C.1 _ (own_mi (i := 152) rfl)
theorem w153 (C : Cx Z a0) : (Cond.methodLink "java/lang/AbstractStringBuilder" 3 ⟨"java/lang/Object", "<init>", "()V"⟩).before a0 Z = true := C.1 _ (own_mi (i := 153) rfl)
theorem w154 (C : Cx Z a0) : (Cond.fieldLink "java/lang/AbstractStringBuilder" 18 "java/lang/String" "COMPACT_STRINGS" "Z").before a0 Z = true := C.1 _ (own_mi (i := 154) rfl)
theorem w155 (C : Cx Z a0) : (Cond.fieldLink "java/lang/AbstractStringBuilder" 15 "java/lang/AbstractStringBuilder" "value" "[B").before a0 Z = true := C.1 _ (own_mi (i := 155) rfl)
theorem w156 (C : Cx Z a0) : (Cond.lays "java/lang/StringBuilder" "java/lang/AbstractStringBuilder" "value" "[B").before a0 Z = true := C.1 _ (own_mi (i := 156) rfl)
theorem w157 (C : Cx Z a0) : (Cond.fieldLink "java/lang/AbstractStringBuilder" 22 "java/lang/AbstractStringBuilder" "coder" "B").before a0 Z = true := C.1 _ (own_mi (i := 157) rfl)
theorem w158 (C : Cx Z a0) : (Cond.lays "java/lang/StringBuilder" "java/lang/AbstractStringBuilder" "coder" "B").before a0 Z = true := C.1 _ (own_mi (i := 158) rfl)
theorem w159 (C : Cx Z a0) : (Cond.methodLink "com/example/onegate/onegate/core/http/HttpResponse$Content" 22 ⟨"java/lang/StringBuilder", "append", "(Ljava/lang/String;)Ljava/lang/StringBuilder;"⟩).before a0 Z = true := C.1 _ (own_mi (i := 159) rfl)
theorem w160 (C : Cx Z a0) : (Cond.declares ⟨"java/lang/StringBuilder", "append", "(Ljava/lang/String;)Ljava/lang/StringBuilder;"⟩).before a0 Z = true := C.1 _ (own_mi (i := 160) rfl)
theorem w161 (C : Cx Z a0) : (Cond.instanceMethod ⟨"java/lang/StringBuilder", "append", "(Ljava/lang/String;)Ljava/lang/StringBuilder;"⟩).before a0 Z = true := C.1 _ (own_mi (i := 161) rfl)
theorem w162 (C : Cx Z a0) : (Cond.selects "java/lang/StringBuilder" ⟨"java/lang/StringBuilder", "append", "(Ljava/lang/String;)Ljava/lang/StringBuilder;"⟩ ⟨"java/lang/StringBuilder", "append", "(Ljava/lang/String;)Ljava/lang/StringBuilder;"⟩).before a0 Z = true := C.1 _ (own_mi (i := 162) rfl)
theorem w163 (C : Cx Z a0) : (Cond.code ⟨"java/lang/StringBuilder", "append", "(Ljava/lang/String;)Ljava/lang/StringBuilder;"⟩ jdk_67_method_7_code 2 (Option.some (Jvm.ClassFile.FieldType.object "java/lang/StringBuilder"))).before a0 Z = true := C.1 _ (own_mi (i := 163) rfl)
theorem w164 (C : Cx Z a0) : (Cond.methodLink "java/lang/StringBuilder" 29 ⟨"java/lang/AbstractStringBuilder", "append", "(Ljava/lang/String;)Ljava/lang/AbstractStringBuilder;"⟩).before a0 Z = true := C.1 _ (own_mi (i := 164) rfl)
theorem w165 (C : Cx Z a0) : (Cond.instanceMethod ⟨"java/lang/AbstractStringBuilder", "append", "(Ljava/lang/String;)Ljava/lang/AbstractStringBuilder;"⟩).before a0 Z = true := C.1 _ (own_mi (i := 165) rfl)
theorem w166 (C : Cx Z a0) : (Cond.superclass "java/lang/StringBuilder" "java/lang/AbstractStringBuilder").before a0 Z = true := C.1 _ (own_mi (i := 166) rfl)
theorem w167 (C : Cx Z a0) : (Cond.declares ⟨"java/lang/AbstractStringBuilder", "append", "(Ljava/lang/String;)Ljava/lang/AbstractStringBuilder;"⟩).before a0 Z = true := C.1 _ (own_mi (i := 167) rfl)
theorem w168 (C : Cx Z a0) : (Cond.code ⟨"java/lang/AbstractStringBuilder", "append", "(Ljava/lang/String;)Ljava/lang/AbstractStringBuilder;"⟩ jdk_68_method_22_code 3 (Option.some (Jvm.ClassFile.FieldType.object "java/lang/AbstractStringBuilder"))).before a0 Z = true := C.1 _ (own_mi (i := 168) rfl)
theorem w169 (C : Cx Z a0) : (Cond.methodLink "java/lang/AbstractStringBuilder" 32 ⟨"java/lang/String", "length", "()I"⟩).before a0 Z = true := C.1 _ (own_mi (i := 169) rfl)
theorem w170 (C : Cx Z a0) : (Cond.declares ⟨"java/lang/String", "length", "()I"⟩).before a0 Z = true := C.1 _ (own_mi (i := 170) rfl)
theorem w171 (C : Cx Z a0) : (Cond.instanceMethod ⟨"java/lang/String", "length", "()I"⟩).before a0 Z = true := C.1 _ (own_mi (i := 171) rfl)
theorem w172 (C : Cx Z a0) : (Cond.selects "java/lang/String" ⟨"java/lang/String", "length", "()I"⟩ ⟨"java/lang/String", "length", "()I"⟩).before a0 Z = true := C.1 _ (own_mi (i := 172) rfl)
theorem w173 (C : Cx Z a0) : (Cond.code ⟨"java/lang/String", "length", "()I"⟩ jdk_42_method_54_code 1 (Option.some Jvm.ClassFile.FieldType.int)).before a0 Z = true := C.1 _ (own_mi (i := 173) rfl)
theorem w174 (C : Cx Z a0) : (Cond.methodLink "java/lang/String" 335 ⟨"java/lang/String", "coder", "()B"⟩).before a0 Z = true := C.1 _ (own_mi (i := 174) rfl)
theorem w175 (C : Cx Z a0) : (Cond.declares ⟨"java/lang/String", "coder", "()B"⟩).before a0 Z = true := C.1 _ (own_mi (i := 175) rfl)
theorem w176 (C : Cx Z a0) : (Cond.instanceMethod ⟨"java/lang/String", "coder", "()B"⟩).before a0 Z = true := C.1 _ (own_mi (i := 176) rfl)
theorem w177 (C : Cx Z a0) : (Cond.selects "java/lang/String" ⟨"java/lang/String", "coder", "()B"⟩ ⟨"java/lang/String", "coder", "()B"⟩).before a0 Z = true := C.1 _ (own_mi (i := 177) rfl)
theorem w178 (C : Cx Z a0) : (Cond.code ⟨"java/lang/String", "coder", "()B"⟩ jdk_42_method_152_code 1 (Option.some Jvm.ClassFile.FieldType.byte)).before a0 Z = true := C.1 _ (own_mi (i := 178) rfl)
theorem w179 (C : Cx Z a0) : (Cond.fieldLink "java/lang/AbstractStringBuilder" 79 "java/lang/AbstractStringBuilder" "count" "I").before a0 Z = true := C.1 _ (own_mi (i := 179) rfl)
theorem w180 (C : Cx Z a0) : (Cond.lays "java/lang/StringBuilder" "java/lang/AbstractStringBuilder" "count" "I").before a0 Z = true := C.1 _ (own_mi (i := 180) rfl)
theorem w181 (C : Cx Z a0) : (Cond.methodLink "java/lang/AbstractStringBuilder" 100 ⟨"java/lang/AbstractStringBuilder", "ensureCapacityInternal", "(I)V"⟩).before a0 Z = true := C.1 _ (own_mi (i := 181) rfl)
theorem w182 (C : Cx Z a0) : (Cond.instanceMethod ⟨"java/lang/AbstractStringBuilder", "ensureCapacityInternal", "(I)V"⟩).before a0 Z = true := C.1 _ (own_mi (i := 182) rfl)
theorem w184 (C : Cx Z a0) : (Cond.selects "java/lang/StringBuilder" ⟨"java/lang/AbstractStringBuilder", "ensureCapacityInternal", "(I)V"⟩ ⟨"java/lang/AbstractStringBuilder", "ensureCapacityInternal", "(I)V"⟩).before a0 Z = true := C.1 _ (own_mi (i := 184) rfl)
theorem w185 (C : Cx Z a0) : (Cond.code ⟨"java/lang/AbstractStringBuilder", "ensureCapacityInternal", "(I)V"⟩ jdk_68_method_9_code 3 (Option.none : Option Jvm.ClassFile.FieldType)).before a0 Z = true := C.1 _ (own_mi (i := 185) rfl)
theorem w186 (C : Cx Z a0) : (Cond.methodLink "java/lang/AbstractStringBuilder" 208 ⟨"java/lang/AbstractStringBuilder", "putStringAt", "(ILjava/lang/String;)V"⟩).before a0 Z = true := C.1 _ (own_mi (i := 186) rfl)
theorem w187 (C : Cx Z a0) : (Cond.instanceMethod ⟨"java/lang/AbstractStringBuilder", "putStringAt", "(ILjava/lang/String;)V"⟩).before a0 Z = true := C.1 _ (own_mi (i := 187) rfl)
theorem w189 (C : Cx Z a0) : (Cond.selects "java/lang/StringBuilder" ⟨"java/lang/AbstractStringBuilder", "putStringAt", "(ILjava/lang/String;)V"⟩ ⟨"java/lang/AbstractStringBuilder", "putStringAt", "(ILjava/lang/String;)V"⟩).before a0 Z = true := C.1 _ (own_mi (i := 189) rfl)
theorem w190 (C : Cx Z a0) : (Cond.code ⟨"java/lang/AbstractStringBuilder", "putStringAt", "(ILjava/lang/String;)V"⟩ jdk_68_method_73_code 3 (Option.none : Option Jvm.ClassFile.FieldType)).before a0 Z = true := C.1 _ (own_mi (i := 190) rfl)
theorem w191 (C : Cx Z a0) : (Cond.methodLink "java/lang/AbstractStringBuilder" 397 ⟨"java/lang/AbstractStringBuilder", "inflateIfNeededFor", "(Ljava/lang/String;)V"⟩).before a0 Z = true := C.1 _ (own_mi (i := 191) rfl)
theorem w192 (C : Cx Z a0) : (Cond.instanceMethod ⟨"java/lang/AbstractStringBuilder", "inflateIfNeededFor", "(Ljava/lang/String;)V"⟩).before a0 Z = true := C.1 _ (own_mi (i := 192) rfl)
theorem w194 (C : Cx Z a0) : (Cond.selects "java/lang/StringBuilder" ⟨"java/lang/AbstractStringBuilder", "inflateIfNeededFor", "(Ljava/lang/String;)V"⟩ ⟨"java/lang/AbstractStringBuilder", "inflateIfNeededFor", "(Ljava/lang/String;)V"⟩).before a0 Z = true := C.1 _ (own_mi (i := 194) rfl)
theorem w195 (C : Cx Z a0) : (Cond.code ⟨"java/lang/AbstractStringBuilder", "inflateIfNeededFor", "(Ljava/lang/String;)V"⟩ jdk_68_method_71_code 2 (Option.none : Option Jvm.ClassFile.FieldType)).before a0 Z = true := C.1 _ (own_mi (i := 195) rfl)
theorem w196 (C : Cx Z a0) : (Cond.methodLink "java/lang/AbstractStringBuilder" 40 ⟨"java/lang/String", "coder", "()B"⟩).before a0 Z = true := C.1 _ (own_mi (i := 196) rfl)
theorem w197 (C : Cx Z a0) : (Cond.methodLink "java/lang/AbstractStringBuilder" 399 ⟨"java/lang/String", "getBytes", "([BIB)V"⟩).before a0 Z = true := C.1 _ (own_mi (i := 197) rfl)
theorem w198 (C : Cx Z a0) : (Cond.declares ⟨"java/lang/String", "getBytes", "([BIB)V"⟩).before a0 Z = true := C.1 _ (own_mi (i := 198) rfl)
theorem w199 (C : Cx Z a0) : (Cond.instanceMethod ⟨"java/lang/String", "getBytes", "([BIB)V"⟩).before a0 Z = true := C.1 _ (own_mi (i := 199) rfl)
theorem w200 (C : Cx Z a0) : (Cond.selects "java/lang/String" ⟨"java/lang/String", "getBytes", "([BIB)V"⟩ ⟨"java/lang/String", "getBytes", "([BIB)V"⟩).before a0 Z = true := C.1 _ (own_mi (i := 200) rfl)
theorem w201 (C : Cx Z a0) : (Cond.code ⟨"java/lang/String", "getBytes", "([BIB)V"⟩ jdk_42_method_147_code 4 (Option.none : Option Jvm.ClassFile.FieldType)).before a0 Z = true := C.1 _ (own_mi (i := 201) rfl)
theorem w202 (C : Cx Z a0) : (Cond.methodLink "java/lang/String" 212 ⟨"java/lang/System", "arraycopy", "(Ljava/lang/Object;ILjava/lang/Object;II)V"⟩).before a0 Z = true := C.1 _ (own_mi (i := 202) rfl)
theorem w203 (C : Cx Z a0) : (Cond.static ⟨"java/lang/System", "arraycopy", "(Ljava/lang/Object;ILjava/lang/Object;II)V"⟩).before a0 Z = true := C.1 _ (own_mi (i := 203) rfl)
theorem w204 (C : Cx Z a0) : (Cond.initialized "java/lang/System").before a0 Z = true := C.1 _ (own_mi (i := 204) rfl)
theorem w205 (C : Cx Z a0) : (Cond.native ⟨"java/lang/System", "arraycopy", "(Ljava/lang/Object;ILjava/lang/Object;II)V"⟩).before a0 Z = true := C.1 _ (own_mi (i := 205) rfl)
theorem w206 (C : Cx Z a0) : (Cond.stringLink "com/example/onegate/onegate/core/http/HttpResponse$Content" 26 "\n").before a0 Z = true := C.1 _ (own_mi (i := 206) rfl)
theorem w207 (C : Cx Z a0) : (Cond.methodLink "com/example/onegate/onegate/core/http/HttpResponse$Content" 28 ⟨"java/lang/StringBuilder", "toString", "()Ljava/lang/String;"⟩).before a0 Z = true := C.1 _ (own_mi (i := 207) rfl)
theorem w208 (C : Cx Z a0) : (Cond.declares ⟨"java/lang/StringBuilder", "toString", "()Ljava/lang/String;"⟩).before a0 Z = true := C.1 _ (own_mi (i := 208) rfl)
theorem w209 (C : Cx Z a0) : (Cond.instanceMethod ⟨"java/lang/StringBuilder", "toString", "()Ljava/lang/String;"⟩).before a0 Z = true := C.1 _ (own_mi (i := 209) rfl)
theorem w210 (C : Cx Z a0) : (Cond.selects "java/lang/StringBuilder" ⟨"java/lang/StringBuilder", "toString", "()Ljava/lang/String;"⟩ ⟨"java/lang/StringBuilder", "toString", "()Ljava/lang/String;"⟩).before a0 Z = true := C.1 _ (own_mi (i := 210) rfl)
theorem w211 (C : Cx Z a0) : (Cond.code ⟨"java/lang/StringBuilder", "toString", "()Ljava/lang/String;"⟩ jdk_67_method_42_code 1 (Option.some (Jvm.ClassFile.FieldType.object "java/lang/String"))).before a0 Z = true := C.1 _ (own_mi (i := 211) rfl)
theorem w212 (C : Cx Z a0) : (Cond.classLink "java/lang/StringBuilder" 18 "java/lang/String").before a0 Z = true := C.1 _ (own_mi (i := 212) rfl)
theorem w213 (C : Cx Z a0) : (Cond.methodLink "java/lang/StringBuilder" 137 ⟨"java/lang/String", "<init>", "(Ljava/lang/StringBuilder;)V"⟩).before a0 Z = true := C.1 _ (own_mi (i := 213) rfl)
theorem w214 (C : Cx Z a0) : (Cond.instanceMethod ⟨"java/lang/String", "<init>", "(Ljava/lang/StringBuilder;)V"⟩).before a0 Z = true := C.1 _ (own_mi (i := 214) rfl)
theorem w215 (C : Cx Z a0) : (Cond.code ⟨"java/lang/String", "<init>", "(Ljava/lang/StringBuilder;)V"⟩ jdk_42_method_53_code 2 (Option.none : Option Jvm.ClassFile.FieldType)).before a0 Z = true := C.1 _ (own_mi (i := 215) rfl)
theorem w216 (C : Cx Z a0) : (Cond.methodLink "java/lang/String" 489 ⟨"java/lang/String", "<init>", "(Ljava/lang/AbstractStringBuilder;Ljava/lang/Void;)V"⟩).before a0 Z = true := C.1 _ (own_mi (i := 216) rfl)
theorem w217 (C : Cx Z a0) : (Cond.instanceMethod ⟨"java/lang/String", "<init>", "(Ljava/lang/AbstractStringBuilder;Ljava/lang/Void;)V"⟩).before a0 Z = true := C.1 _ (own_mi (i := 217) rfl)
theorem w218 (C : Cx Z a0) : (Cond.code ⟨"java/lang/String", "<init>", "(Ljava/lang/AbstractStringBuilder;Ljava/lang/Void;)V"⟩ jdk_42_method_150_code 5 (Option.none : Option Jvm.ClassFile.FieldType)).before a0 Z = true := C.1 _ (own_mi (i := 218) rfl)
theorem w219 (C : Cx Z a0) : (Cond.methodLink "java/lang/String" 552 ⟨"java/lang/AbstractStringBuilder", "getValue", "()[B"⟩).before a0 Z = true := C.1 _ (own_mi (i := 219) rfl)
theorem w220 (C : Cx Z a0) : (Cond.declares ⟨"java/lang/AbstractStringBuilder", "getValue", "()[B"⟩).before a0 Z = true := C.1 _ (own_mi (i := 220) rfl)
theorem w221 (C : Cx Z a0) : (Cond.instanceMethod ⟨"java/lang/AbstractStringBuilder", "getValue", "()[B"⟩).before a0 Z = true := C.1 _ (own_mi (i := 221) rfl)
theorem w222 (C : Cx Z a0) : (Cond.selects "java/lang/StringBuilder" ⟨"java/lang/AbstractStringBuilder", "getValue", "()[B"⟩ ⟨"java/lang/AbstractStringBuilder", "getValue", "()[B"⟩).before a0 Z = true := C.1 _ (own_mi (i := 222) rfl)
theorem w223 (C : Cx Z a0) : (Cond.code ⟨"java/lang/AbstractStringBuilder", "getValue", "()[B"⟩ jdk_68_method_64_code 1 (Option.some (Jvm.ClassFile.FieldType.array Jvm.ClassFile.FieldType.byte))).before a0 Z = true := C.1 _ (own_mi (i := 223) rfl)
theorem w224 (C : Cx Z a0) : (Cond.methodLink "java/lang/String" 549 ⟨"java/lang/AbstractStringBuilder", "length", "()I"⟩).before a0 Z = true := C.1 _ (own_mi (i := 224) rfl)
theorem w225 (C : Cx Z a0) : (Cond.declares ⟨"java/lang/AbstractStringBuilder", "length", "()I"⟩).before a0 Z = true := C.1 _ (own_mi (i := 225) rfl)
theorem w226 (C : Cx Z a0) : (Cond.instanceMethod ⟨"java/lang/AbstractStringBuilder", "length", "()I"⟩).before a0 Z = true := C.1 _ (own_mi (i := 226) rfl)
theorem w227 (C : Cx Z a0) : (Cond.selects "java/lang/StringBuilder" ⟨"java/lang/AbstractStringBuilder", "length", "()I"⟩ ⟨"java/lang/StringBuilder", "length", "()I"⟩).before a0 Z = true := C.1 _ (own_mi (i := 227) rfl)
theorem w228 (C : Cx Z a0) : (Cond.instanceMethod ⟨"java/lang/StringBuilder", "length", "()I"⟩).before a0 Z = true := C.1 _ (own_mi (i := 228) rfl)
theorem w229 (C : Cx Z a0) : (Cond.code ⟨"java/lang/StringBuilder", "length", "()I"⟩ jdk_67_method_93_code 1 (Option.some Jvm.ClassFile.FieldType.int)).before a0 Z = true := C.1 _ (own_mi (i := 229) rfl)
theorem w230 (C : Cx Z a0) : (Cond.methodLink "java/lang/StringBuilder" 343 ⟨"java/lang/AbstractStringBuilder", "length", "()I"⟩).before a0 Z = true := C.1 _ (own_mi (i := 230) rfl)
theorem w231 (C : Cx Z a0) : (Cond.code ⟨"java/lang/AbstractStringBuilder", "length", "()I"⟩ jdk_68_method_6_code 1 (Option.some Jvm.ClassFile.FieldType.int)).before a0 Z = true := C.1 _ (own_mi (i := 231) rfl)
theorem w232 (C : Cx Z a0) : (Cond.methodLink "java/lang/String" 1047 ⟨"java/lang/AbstractStringBuilder", "isLatin1", "()Z"⟩).before a0 Z = true := C.1 _ (own_mi (i := 232) rfl)
theorem w233 (C : Cx Z a0) : (Cond.declares ⟨"java/lang/AbstractStringBuilder", "isLatin1", "()Z"⟩).before a0 Z = true := C.1 _ (own_mi (i := 233) rfl)
theorem w234 (C : Cx Z a0) : (Cond.instanceMethod ⟨"java/lang/AbstractStringBuilder", "isLatin1", "()Z"⟩).before a0 Z = true := C.1 _ (own_mi (i := 234) rfl)
theorem w235 (C : Cx Z a0) : (Cond.selects "java/lang/StringBuilder" ⟨"java/lang/AbstractStringBuilder", "isLatin1", "()Z"⟩ ⟨"java/lang/AbstractStringBuilder", "isLatin1", "()Z"⟩).before a0 Z = true := C.1 _ (own_mi (i := 235) rfl)
theorem w236 (C : Cx Z a0) : (Cond.code ⟨"java/lang/AbstractStringBuilder", "isLatin1", "()Z"⟩ jdk_68_method_68_code 1 (Option.some Jvm.ClassFile.FieldType.boolean)).before a0 Z = true := C.1 _ (own_mi (i := 236) rfl)
theorem w237 (C : Cx Z a0) : (Cond.methodLink "java/lang/String" 54 ⟨"java/util/Arrays", "copyOfRange", "([BII)[B"⟩).before a0 Z = true := C.1 _ (own_mi (i := 237) rfl)
theorem w238 (C : Cx Z a0) : (Cond.static ⟨"java/util/Arrays", "copyOfRange", "([BII)[B"⟩).before a0 Z = true := C.1 _ (own_mi (i := 238) rfl)
theorem w239 (C : Cx Z a0) : (Cond.initialized "java/util/Arrays").before a0 Z = true := C.1 _ (own_mi (i := 239) rfl)
theorem w240 (C : Cx Z a0) : (Cond.code ⟨"java/util/Arrays", "copyOfRange", "([BII)[B"⟩ jdk_65_method_132_code 3 (Option.some (Jvm.ClassFile.FieldType.array Jvm.ClassFile.FieldType.byte))).before a0 Z = true := C.1 _ (own_mi (i := 240) rfl)
theorem w241 (C : Cx Z a0) : (Cond.methodLink "java/util/Arrays" 339 ⟨"java/util/Arrays", "copyOfRangeByte", "([BII)[B"⟩).before a0 Z = true := C.1 _ (own_mi (i := 241) rfl)
theorem w242 (C : Cx Z a0) : (Cond.static ⟨"java/util/Arrays", "copyOfRangeByte", "([BII)[B"⟩).before a0 Z = true := C.1 _ (own_mi (i := 242) rfl)
theorem w243 (C : Cx Z a0) : (Cond.code ⟨"java/util/Arrays", "copyOfRangeByte", "([BII)[B"⟩ jdk_65_method_133_code 5 (Option.some (Jvm.ClassFile.FieldType.array Jvm.ClassFile.FieldType.byte))).before a0 Z = true := C.1 _ (own_mi (i := 243) rfl)
theorem w244 (C : Cx Z a0) : (Cond.methodLink "java/util/Arrays" 343 ⟨"java/util/Arrays", "checkLength", "(II)V"⟩).before a0 Z = true := C.1 _ (own_mi (i := 244) rfl)
theorem w245 (C : Cx Z a0) : (Cond.static ⟨"java/util/Arrays", "checkLength", "(II)V"⟩).before a0 Z = true := C.1 _ (own_mi (i := 245) rfl)
theorem w246 (C : Cx Z a0) : (Cond.code ⟨"java/util/Arrays", "checkLength", "(II)V"⟩ jdk_65_method_131_code 2 (Option.none : Option Jvm.ClassFile.FieldType)).before a0 Z = true := C.1 _ (own_mi (i := 246) rfl)
theorem w247 (C : Cx Z a0) : (Cond.methodLink "java/util/Arrays" 304 ⟨"java/lang/Math", "min", "(II)I"⟩).before a0 Z = true := C.1 _ (own_mi (i := 247) rfl)
theorem w248 (C : Cx Z a0) : (Cond.static ⟨"java/lang/Math", "min", "(II)I"⟩).before a0 Z = true := C.1 _ (own_mi (i := 248) rfl)
theorem w249 (C : Cx Z a0) : (Cond.initialized "java/lang/Math").before a0 Z = true := C.1 _ (own_mi (i := 249) rfl)
theorem w250 (C : Cx Z a0) : (Cond.code ⟨"java/lang/Math", "min", "(II)I"⟩ jdk_29_method_69_code 2 (Option.some Jvm.ClassFile.FieldType.int)).before a0 Z = true := C.1 _ (own_mi (i := 250) rfl)
theorem w251 (C : Cx Z a0) : (Cond.methodLink "java/util/Arrays" 150 ⟨"java/lang/System", "arraycopy", "(Ljava/lang/Object;ILjava/lang/Object;II)V"⟩).before a0 Z = true := C.1 _ (own_mi (i := 251) rfl)
theorem w252 (C : Cx Z a0) : (Cond.fieldLink "com/example/onegate/onegate/core/http/HttpResponse$Content" 32 "java/nio/charset/StandardCharsets" "UTF_8" "Ljava/nio/charset/Charset;").before a0 Z = true := C.1 _ (own_mi (i := 252) rfl)
theorem w254 (C : Cx Z a0) : (Cond.methodLink "com/example/onegate/onegate/core/http/HttpResponse$Content" 38 ⟨"java/lang/String", "getBytes", "(Ljava/nio/charset/Charset;)[B"⟩).before a0 Z = true := C.1 _ (own_mi (i := 254) rfl)
theorem w255 (C : Cx Z a0) : (Cond.declares ⟨"java/lang/String", "getBytes", "(Ljava/nio/charset/Charset;)[B"⟩).before a0 Z = true := C.1 _ (own_mi (i := 255) rfl)
theorem w256 (C : Cx Z a0) : (Cond.instanceMethod ⟨"java/lang/String", "getBytes", "(Ljava/nio/charset/Charset;)[B"⟩).before a0 Z = true := C.1 _ (own_mi (i := 256) rfl)
theorem w257 (C : Cx Z a0) : (Cond.selects "java/lang/String" ⟨"java/lang/String", "getBytes", "(Ljava/nio/charset/Charset;)[B"⟩ ⟨"java/lang/String", "getBytes", "(Ljava/nio/charset/Charset;)[B"⟩).before a0 Z = true := C.1 _ (own_mi (i := 257) rfl)
theorem w258 (C : Cx Z a0) : (Cond.code ⟨"java/lang/String", "getBytes", "(Ljava/nio/charset/Charset;)[B"⟩ jdk_42_method_64_code 2 (Option.some (Jvm.ClassFile.FieldType.array Jvm.ClassFile.FieldType.byte))).before a0 Z = true := C.1 _ (own_mi (i := 258) rfl)
theorem w259 (C : Cx Z a0) : (Cond.methodLink "java/lang/String" 535 ⟨"java/lang/String", "encode", "(Ljava/nio/charset/Charset;B[B)[B"⟩).before a0 Z = true := C.1 _ (own_mi (i := 259) rfl)
theorem w260 (C : Cx Z a0) : (Cond.static ⟨"java/lang/String", "encode", "(Ljava/nio/charset/Charset;B[B)[B"⟩).before a0 Z = true := C.1 _ (own_mi (i := 260) rfl)
theorem w261 (C : Cx Z a0) : (Cond.code ⟨"java/lang/String", "encode", "(Ljava/nio/charset/Charset;B[B)[B"⟩ jdk_42_method_18_code 3 (Option.some (Jvm.ClassFile.FieldType.array Jvm.ClassFile.FieldType.byte))).before a0 Z = true := C.1 _ (own_mi (i := 261) rfl)
theorem w262 (C : Cx Z a0) : (Cond.fieldLink "java/lang/String" 86 "sun/nio/cs/UTF_8" "INSTANCE" "Lsun/nio/cs/UTF_8;").before a0 Z = true := C.1 _ (own_mi (i := 262) rfl)
theorem w264 (C : Cx Z a0) : (Cond.methodLink "java/lang/String" 252 ⟨"java/lang/String", "encodeUTF8", "(B[BZ)[B"⟩).before a0 Z = true := C.1 _ (own_mi (i := 264) rfl)
theorem w265 (C : Cx Z a0) : (Cond.static ⟨"java/lang/String", "encodeUTF8", "(B[BZ)[B"⟩).before a0 Z = true := C.1 _ (own_mi (i := 265) rfl)
theorem w266 (C : Cx Z a0) : (Cond.code ⟨"java/lang/String", "encodeUTF8", "(B[BZ)[B"⟩ jdk_42_method_46_code 9 (Option.some (Jvm.ClassFile.FieldType.array Jvm.ClassFile.FieldType.byte))).before a0 Z = true := C.1 _ (own_mi (i := 266) rfl)
theorem w267 (C : Cx Z a0) : (Cond.methodLink "java/lang/String" 128 ⟨"java/lang/StringCoding", "hasNegatives", "([BII)Z"⟩).before a0 Z = true := C.1 _ (own_mi (i := 267) rfl)
theorem w268 (C : Cx Z a0) : (Cond.static ⟨"java/lang/StringCoding", "hasNegatives", "([BII)Z"⟩).before a0 Z = true := C.1 _ (own_mi (i := 268) rfl)
theorem w269 (C : Cx Z a0) : (Cond.initialized "java/lang/StringCoding").before a0 Z = true := C.1 _ (own_mi (i := 269) rfl)
theorem w270 (C : Cx Z a0) : (Cond.code ⟨"java/lang/StringCoding", "hasNegatives", "([BII)Z"⟩ jdk_123_method_2_code 3 (Option.some Jvm.ClassFile.FieldType.boolean)).before a0 Z = true := C.1 _ (own_mi (i := 270) rfl)
theorem w271 (C : Cx Z a0) : (Cond.methodLink "java/lang/StringCoding" 7 ⟨"java/lang/StringCoding", "countPositives", "([BII)I"⟩).before a0 Z = true := C.1 _ (own_mi (i := 271) rfl)
theorem w272 (C : Cx Z a0) : (Cond.static ⟨"java/lang/StringCoding", "countPositives", "([BII)I"⟩).before a0 Z = true := C.1 _ (own_mi (i := 272) rfl)
theorem w273 (C : Cx Z a0) : (Cond.code ⟨"java/lang/StringCoding", "countPositives", "([BII)I"⟩ jdk_123_method_3_code 5 (Option.some Jvm.ClassFile.FieldType.int)).before a0 Z = true := C.1 _ (own_mi (i := 273) rfl)
theorem w274 (C : Cx Z a0) : (Cond.methodLink "java/lang/String" 279 ⟨"[B", "clone", "()Ljava/lang/Object;"⟩).before a0 Z = true := C.1 _ (own_mi (i := 274) rfl)
theorem w275 (C : Cx Z a0) : (Cond.sameMethod "[B" "java/lang/Object" "clone" "()Ljava/lang/Object;").before a0 Z = true := C.1 _ (own_mi (i := 275) rfl)
theorem w277 (C : Cx Z a0) : (Cond.instanceMethod ⟨"java/lang/Object", "clone", "()Ljava/lang/Object;"⟩).before a0 Z = true := C.1 _ (own_mi (i := 277) rfl)
theorem w278 (C : Cx Z a0) : (Cond.selects "[B" ⟨"[B", "clone", "()Ljava/lang/Object;"⟩ ⟨"java/lang/Object", "clone", "()Ljava/lang/Object;"⟩).before a0 Z = true := C.1 _ (own_mi (i := 278) rfl)
theorem w279 (C : Cx Z a0) : (Cond.native ⟨"java/lang/Object", "clone", "()Ljava/lang/Object;"⟩).before a0 Z = true := C.1 _ (own_mi (i := 279) rfl)
theorem w280 (C : Cx Z a0) : (Cond.castable "[B" "java/lang/Cloneable").before a0 Z = true := C.1 _ (own_mi (i := 280) rfl)
theorem w281 (C : Cx Z a0) : (Cond.classLink "java/lang/String" 280 "[B").before a0 Z = true := C.1 _ (own_mi (i := 281) rfl)
theorem w283 (C : Cx Z a0) : (Cond.methodLink "com/example/onegate/onegate/core/http/HttpResponse$Content" 44 ⟨"com/example/onegate/onegate/core/http/HttpResponse$Content", "<init>", "(Ljava/lang/String;[B)V"⟩).before a0 Z = true := C.1 _ (own_mi (i := 283) rfl)
theorem w284 (C : Cx Z a0) : (Cond.fieldLink "com/example/onegate/onegate/gate/Answer" 7 "com/example/onegate/onegate/gate/Answer$Line" "REFUSED" "Lcom/example/onegate/onegate/gate/Answer$Line;").before a0 Z = true := C.1 _ (own_mi (i := 284) rfl)
theorem w286 (C : Cx Z a0) : (Cond.fieldLink "com/example/onegate/onegate/gate/AnswerBrokeOffPinLaw" 16 "com/example/onegate/onegate/core/http/HttpResponse$Status" "FORBIDDEN" "Lcom/example/onegate/onegate/core/http/HttpResponse$Status;").before a0 Z = true := C.1 _ (own_mi (i := 286) rfl)
theorem w288 (C : Cx Z a0) : (Cond.methodLink "com/example/onegate/onegate/gate/AnswerBrokeOffPinLaw" 47 ⟨"com/example/onegate/onegate/gate/Answer", "<init>", "(Lcom/example/onegate/onegate/core/http/HttpResponse$Status;Ljava/lang/String;Ljava/lang/String;)V"⟩).before a0 Z = true := C.1 _ (own_mi (i := 288) rfl)
theorem w289 (C : Cx Z a0) : (Cond.instanceMethod ⟨"com/example/onegate/onegate/gate/Answer", "<init>", "(Lcom/example/onegate/onegate/core/http/HttpResponse$Status;Ljava/lang/String;Ljava/lang/String;)V"⟩).before a0 Z = true := C.1 _ (own_mi (i := 289) rfl)
theorem w290 (C : Cx Z a0) : (Cond.code ⟨"com/example/onegate/onegate/gate/Answer", "<init>", "(Lcom/example/onegate/onegate/core/http/HttpResponse$Status;Ljava/lang/String;Ljava/lang/String;)V"⟩ prog_48_method_2_code 4 (Option.none : Option Jvm.ClassFile.FieldType)).before a0 Z = true := C.1 _ (own_mi (i := 290) rfl)
theorem w291 (C : Cx Z a0) : (Cond.methodLink "java/lang/String" 60 ⟨"java/lang/StringUTF16", "newBytesFor", "(I)[B"⟩).before a0 Z = true := C.1 _ (own_mi (i := 291) rfl)
theorem w292 (C : Cx Z a0) : (Cond.static ⟨"java/lang/StringUTF16", "newBytesFor", "(I)[B"⟩).before a0 Z = true := C.1 _ (own_mi (i := 292) rfl)
theorem w293 (C : Cx Z a0) : (Cond.code ⟨"java/lang/StringUTF16", "newBytesFor", "(I)[B"⟩ jdk_52_method_2_code 1 (Option.some (Jvm.ClassFile.FieldType.array Jvm.ClassFile.FieldType.byte))).before a0 Z = true := C.1 _ (own_mi (i := 293) rfl)
theorem w294 (C : Cx Z a0) : (Cond.methodLink "java/lang/StringUTF16" 11 ⟨"java/lang/StringUTF16", "newBytesLength", "(I)I"⟩).before a0 Z = true := C.1 _ (own_mi (i := 294) rfl)
theorem w295 (C : Cx Z a0) : (Cond.static ⟨"java/lang/StringUTF16", "newBytesLength", "(I)I"⟩).before a0 Z = true := C.1 _ (own_mi (i := 295) rfl)
theorem w296 (C : Cx Z a0) : (Cond.code ⟨"java/lang/StringUTF16", "newBytesLength", "(I)I"⟩ jdk_52_method_3_code 1 (Option.some Jvm.ClassFile.FieldType.int)).before a0 Z = true := C.1 _ (own_mi (i := 296) rfl)
theorem w297 (C : Cx Z a0) : (Cond.constant "java/lang/StringUTF16" 20 (1073741823 : Int32)).before a0 Z = true := C.1 _ (own_mi (i := 297) rfl)
theorem w298 (C : Cx Z a0) : (Cond.methodLink "java/lang/String" 102 ⟨"java/util/Arrays", "copyOf", "([BI)[B"⟩).before a0 Z = true := C.1 _ (own_mi (i := 298) rfl)
theorem w299 (C : Cx Z a0) : (Cond.static ⟨"java/util/Arrays", "copyOf", "([BI)[B"⟩).before a0 Z = true := C.1 _ (own_mi (i := 299) rfl)
theorem w300 (C : Cx Z a0) : (Cond.code ⟨"java/util/Arrays", "copyOf", "([BI)[B"⟩ jdk_65_method_121_code 3 (Option.some (Jvm.ClassFile.FieldType.array Jvm.ClassFile.FieldType.byte))).before a0 Z = true := C.1 _ (own_mi (i := 300) rfl)
theorem w301 (C : Cx Z a0) : (Cond.methodLink "com/example/onegate/onegate/gate/AnswerBrokeOffPinLaw" 54 ⟨"com/example/onegate/onegate/gate/Answer", "again", "()Lcom/example/onegate/onegate/gate/Answer;"⟩).before a0 Z = true := C.1 _ (own_mi (i := 301) rfl)
theorem w302 (C : Cx Z a0) : (Cond.declares ⟨"com/example/onegate/onegate/gate/Answer", "again", "()Lcom/example/onegate/onegate/gate/Answer;"⟩).before a0 Z = true := C.1 _ (own_mi (i := 302) rfl)
theorem w303 (C : Cx Z a0) : (Cond.instanceMethod ⟨"com/example/onegate/onegate/gate/Answer", "again", "()Lcom/example/onegate/onegate/gate/Answer;"⟩).before a0 Z = true := C.1 _ (own_mi (i := 303) rfl)
theorem w304 (C : Cx Z a0) : (Cond.selects "com/example/onegate/onegate/gate/Answer" ⟨"com/example/onegate/onegate/gate/Answer", "again", "()Lcom/example/onegate/onegate/gate/Answer;"⟩ ⟨"com/example/onegate/onegate/gate/Answer", "again", "()Lcom/example/onegate/onegate/gate/Answer;"⟩).before a0 Z = true := C.1 _ (own_mi (i := 304) rfl)
theorem w305 (C : Cx Z a0) : (Cond.code ⟨"com/example/onegate/onegate/gate/Answer", "again", "()Lcom/example/onegate/onegate/gate/Answer;"⟩ prog_48_method_6_code 1 (Option.some (Jvm.ClassFile.FieldType.object "com/example/onegate/onegate/gate/Answer"))).before a0 Z = true := C.1 _ (own_mi (i := 305) rfl)
theorem w306 (C : Cx Z a0) : (Cond.classLink "com/example/onegate/onegate/gate/Answer" 14 "com/example/onegate/onegate/gate/Answer").before a0 Z = true := C.1 _ (own_mi (i := 306) rfl)
theorem w307 (C : Cx Z a0) : (Cond.methodLink "com/example/onegate/onegate/gate/Answer" 45 ⟨"com/example/onegate/onegate/gate/Answer", "getMessage", "()Ljava/lang/String;"⟩).before a0 Z = true := C.1 _ (own_mi (i := 307) rfl)
theorem w308 (C : Cx Z a0) : (Cond.sameMethod "com/example/onegate/onegate/gate/Answer" "java/lang/Throwable" "getMessage" "()Ljava/lang/String;").before a0 Z = true := C.1 _ (own_mi (i := 308) rfl)
theorem w309 (C : Cx Z a0) : (Cond.declares ⟨"java/lang/Throwable", "getMessage", "()Ljava/lang/String;"⟩).before a0 Z = true := C.1 _ (own_mi (i := 309) rfl)
theorem w310 (C : Cx Z a0) : (Cond.instanceMethod ⟨"java/lang/Throwable", "getMessage", "()Ljava/lang/String;"⟩).before a0 Z = true := C.1 _ (own_mi (i := 310) rfl)
theorem w311 (C : Cx Z a0) : (Cond.selects "com/example/onegate/onegate/gate/Answer" ⟨"com/example/onegate/onegate/gate/Answer", "getMessage", "()Ljava/lang/String;"⟩ ⟨"java/lang/Throwable", "getMessage", "()Ljava/lang/String;"⟩).before a0 Z = true := C.1 _ (own_mi (i := 311) rfl)
theorem w312 (C : Cx Z a0) : (Cond.code ⟨"java/lang/Throwable", "getMessage", "()Ljava/lang/String;"⟩ jdk_78_method_6_code 1 (Option.some (Jvm.ClassFile.FieldType.object "java/lang/String"))).before a0 Z = true := C.1 _ (own_mi (i := 312) rfl)
theorem w313 (C : Cx Z a0) : (Cond.fieldLink "com/example/onegate/onegate/gate/AnswerBrokeOffPinLaw" 13 "com/example/onegate/onegate/core/http/HttpResponse$Status" "BAD_REQUEST" "Lcom/example/onegate/onegate/core/http/HttpResponse$Status;").before a0 Z = true := C.1 _ (own_mi (i := 313) rfl)
theorem w315 (C : Cx Z a0) : (Cond.methodLink "com/example/onegate/onegate/gate/AnswerBrokeOffPinLaw" 50 ⟨"com/example/onegate/onegate/gate/Answer", "brokenOff", "(Lcom/example/onegate/onegate/core/http/HttpResponse$Status;Ljava/lang/String;)Lcom/example/onegate/onegate/gate/Answer;"⟩).before a0 Z = true := C.1 _ (own_mi (i := 315) rfl)
theorem w316 (C : Cx Z a0) : (Cond.static ⟨"com/example/onegate/onegate/gate/Answer", "brokenOff", "(Lcom/example/onegate/onegate/core/http/HttpResponse$Status;Ljava/lang/String;)Lcom/example/onegate/onegate/gate/Answer;"⟩).before a0 Z = true := C.1 _ (own_mi (i := 316) rfl)
theorem w317 (C : Cx Z a0) : (Cond.code ⟨"com/example/onegate/onegate/gate/Answer", "brokenOff", "(Lcom/example/onegate/onegate/core/http/HttpResponse$Status;Ljava/lang/String;)Lcom/example/onegate/onegate/gate/Answer;"⟩ prog_48_method_5_code 2 (Option.some (Jvm.ClassFile.FieldType.object "com/example/onegate/onegate/gate/Answer"))).before a0 Z = true := C.1 _ (own_mi (i := 317) rfl)
end OwnWords
theorem d0_0 : decode jdk_78_method_2_code 0 = .ok (.aload_n 0, 1) := by decide +kernel
theorem d0_1 : decode jdk_78_method_2_code 1 = .ok (.invokespecial 1, 3) := by decide +kernel
theorem d0_10 : decode jdk_78_method_2_code 10 = .ok (.getstatic 13, 3) := by decide +kernel
theorem d0_13 : decode jdk_78_method_2_code 13 = .ok (.putfield 17, 3) := by decide +kernel
theorem d0_16 : decode jdk_78_method_2_code 16 = .ok (.aload_n 0, 1) := by decide +kernel
theorem d0_17 : decode jdk_78_method_2_code 17 = .ok (.getstatic 20, 3) := by decide +kernel
theorem d0_20 : decode jdk_78_method_2_code 20 = .ok (.putfield 24, 3) := by decide +kernel
theorem d0_23 : decode jdk_78_method_2_code 23 = .ok (.aload_n 0, 1) := by decide +kernel
theorem d0_24 : decode jdk_78_method_2_code 24 = .ok (.invokevirtual 27, 3) := by decide +kernel
theorem d0_27 : decode jdk_78_method_2_code 27 = .ok (.pop, 1) := by decide +kernel
theorem d0_28 : decode jdk_78_method_2_code 28 = .ok (.aload_n 0, 1) := by decide +kernel
theorem d0_29 : decode jdk_78_method_2_code 29 = .ok (.aload_n 1, 1) := by decide +kernel
theorem d0_30 : decode jdk_78_method_2_code 30 = .ok (.putfield 31, 3) := by decide +kernel
theorem d0_33 : decode jdk_78_method_2_code 33 = .ok (.return_, 1) := by decide +kernel
theorem d0_4 : decode jdk_78_method_2_code 4 = .ok (.aload_n 0, 1) := by decide +kernel
theorem d0_5 : decode jdk_78_method_2_code 5 = .ok (.aload_n 0, 1) := by decide +kernel
theorem d0_6 : decode jdk_78_method_2_code 6 = .ok (.putfield 7, 3) := by decide +kernel
theorem d0_9 : decode jdk_78_method_2_code 9 = .ok (.aload_n 0, 1) := by decide +kernel
theorem d10_0 : decode jdk_42_method_54_code 0 = .ok (.aload_n 0, 1) := by decide +kernel
theorem d10_1 : decode jdk_42_method_54_code 1 = .ok (.getfield 9, 3) := by decide +kernel
theorem d10_10 : decode jdk_42_method_54_code 10 = .ok (.ireturn, 1) := by decide +kernel
theorem d10_4 : decode jdk_42_method_54_code 4 = .ok (.arraylength, 1) := by decide +kernel
theorem d10_5 : decode jdk_42_method_54_code 5 = .ok (.aload_n 0, 1) := by decide +kernel
theorem d10_6 : decode jdk_42_method_54_code 6 = .ok (.invokevirtual 335, 3) := by decide +kernel
theorem d10_9 : decode jdk_42_method_54_code 9 = .ok (.ishr, 1) := by decide +kernel
theorem d11_0 : decode jdk_68_method_68_code 0 = .ok (.getstatic 18, 3) := by decide +kernel
theorem d11_10 : decode jdk_68_method_68_code 10 = .ok (.ifCond .ne 7, 3) := by decide +kernel
theorem d11_13 : decode jdk_68_method_68_code 13 = .ok (.iconst 1, 1) := by decide +kernel
theorem d11_14 : decode jdk_68_method_68_code 14 = .ok (.goto 4, 3) := by decide +kernel
theorem d11_18 : decode jdk_68_method_68_code 18 = .ok (.ireturn, 1) := by decide +kernel
theorem d11_3 : decode jdk_68_method_68_code 3 = .ok (.ifCond .eq 14, 3) := by decide +kernel
theorem d11_6 : decode jdk_68_method_68_code 6 = .ok (.aload_n 0, 1) := by decide +kernel
theorem d11_7 : decode jdk_68_method_68_code 7 = .ok (.getfield 22, 3) := by decide +kernel
theorem d12_0 : decode jdk_68_method_71_code 0 = .ok (.getstatic 18, 3) := by decide +kernel
theorem d12_10 : decode jdk_68_method_71_code 10 = .ok (.aload_n 1, 1) := by decide +kernel
theorem d12_11 : decode jdk_68_method_71_code 11 = .ok (.invokevirtual 40, 3) := by decide +kernel
theorem d12_14 : decode jdk_68_method_71_code 14 = .ok (.if_icmp .eq 7, 3) := by decide +kernel
theorem d12_21 : decode jdk_68_method_71_code 21 = .ok (.return_, 1) := by decide +kernel
theorem d12_3 : decode jdk_68_method_71_code 3 = .ok (.ifCond .eq 18, 3) := by decide +kernel
theorem d12_6 : decode jdk_68_method_71_code 6 = .ok (.aload_n 0, 1) := by decide +kernel
theorem d12_7 : decode jdk_68_method_71_code 7 = .ok (.getfield 22, 3) := by decide +kernel
theorem d13_0 : decode jdk_68_method_73_code 0 = .ok (.aload_n 0, 1) := by decide +kernel
theorem d13_1 : decode jdk_68_method_73_code 1 = .ok (.aload_n 2, 1) := by decide +kernel
theorem d13_10 : decode jdk_68_method_73_code 10 = .ok (.iload_n 1, 1) := by decide +kernel
theorem d13_11 : decode jdk_68_method_73_code 11 = .ok (.aload_n 0, 1) := by decide +kernel
theorem d13_12 : decode jdk_68_method_73_code 12 = .ok (.getfield 22, 3) := by decide +kernel
theorem d13_15 : decode jdk_68_method_73_code 15 = .ok (.invokevirtual 399, 3) := by decide +kernel
theorem d13_18 : decode jdk_68_method_73_code 18 = .ok (.return_, 1) := by decide +kernel
theorem d13_2 : decode jdk_68_method_73_code 2 = .ok (.invokevirtual 397, 3) := by decide +kernel
theorem d13_5 : decode jdk_68_method_73_code 5 = .ok (.aload_n 2, 1) := by decide +kernel
theorem d13_6 : decode jdk_68_method_73_code 6 = .ok (.aload_n 0, 1) := by decide +kernel
theorem d13_7 : decode jdk_68_method_73_code 7 = .ok (.getfield 15, 3) := by decide +kernel
theorem d14_0 : decode jdk_68_method_22_code 0 = .ok (.aload_n 1, 1) := by decide +kernel
theorem d14_1 : decode jdk_68_method_22_code 1 = .ok (.ifnonnull 8, 3) := by decide +kernel
theorem d14_10 : decode jdk_68_method_22_code 10 = .ok (.invokevirtual 32, 3) := by decide +kernel
theorem d14_13 : decode jdk_68_method_22_code 13 = .ok (.istore_n 2, 1) := by decide +kernel
theorem d14_14 : decode jdk_68_method_22_code 14 = .ok (.aload_n 0, 1) := by decide +kernel
theorem d14_15 : decode jdk_68_method_22_code 15 = .ok (.aload_n 0, 1) := by decide +kernel
theorem d14_16 : decode jdk_68_method_22_code 16 = .ok (.getfield 79, 3) := by decide +kernel
theorem d14_19 : decode jdk_68_method_22_code 19 = .ok (.iload_n 2, 1) := by decide +kernel
theorem d14_20 : decode jdk_68_method_22_code 20 = .ok (.iadd, 1) := by decide +kernel
theorem d14_21 : decode jdk_68_method_22_code 21 = .ok (.invokevirtual 100, 3) := by decide +kernel
theorem d14_24 : decode jdk_68_method_22_code 24 = .ok (.aload_n 0, 1) := by decide +kernel
theorem d14_25 : decode jdk_68_method_22_code 25 = .ok (.aload_n 0, 1) := by decide +kernel
theorem d14_26 : decode jdk_68_method_22_code 26 = .ok (.getfield 79, 3) := by decide +kernel
theorem d14_29 : decode jdk_68_method_22_code 29 = .ok (.aload_n 1, 1) := by decide +kernel
theorem d14_30 : decode jdk_68_method_22_code 30 = .ok (.invokevirtual 208, 3) := by decide +kernel
theorem d14_33 : decode jdk_68_method_22_code 33 = .ok (.aload_n 0, 1) := by decide +kernel
theorem d14_34 : decode jdk_68_method_22_code 34 = .ok (.dup, 1) := by decide +kernel
theorem d14_35 : decode jdk_68_method_22_code 35 = .ok (.getfield 79, 3) := by decide +kernel
theorem d14_38 : decode jdk_68_method_22_code 38 = .ok (.iload_n 2, 1) := by decide +kernel
theorem d14_39 : decode jdk_68_method_22_code 39 = .ok (.iadd, 1) := by decide +kernel
theorem d14_40 : decode jdk_68_method_22_code 40 = .ok (.putfield 79, 3) := by decide +kernel
theorem d14_43 : decode jdk_68_method_22_code 43 = .ok (.aload_n 0, 1) := by decide +kernel
theorem d14_44 : decode jdk_68_method_22_code 44 = .ok (.areturn, 1) := by decide +kernel
theorem d14_9 : decode jdk_68_method_22_code 9 = .ok (.aload_n 1, 1) := by decide +kernel
theorem d15_0 : decode jdk_67_method_7_code 0 = .ok (.aload_n 0, 1) := by decide +kernel
theorem d15_1 : decode jdk_67_method_7_code 1 = .ok (.aload_n 1, 1) := by decide +kernel
theorem d15_2 : decode jdk_67_method_7_code 2 = .ok (.invokespecial 29, 3) := by decide +kernel
theorem d15_5 : decode jdk_67_method_7_code 5 = .ok (.pop, 1) := by decide +kernel
theorem d15_6 : decode jdk_67_method_7_code 6 = .ok (.aload_n 0, 1) := by decide +kernel
theorem d15_7 : decode jdk_67_method_7_code 7 = .ok (.areturn, 1) := by decide +kernel
theorem d16_0 : decode jdk_65_method_131_code 0 = .ok (.iload_n 1, 1) := by decide +kernel
theorem d16_1 : decode jdk_65_method_131_code 1 = .ok (.iload_n 0, 1) := by decide +kernel
theorem d16_2 : decode jdk_65_method_131_code 2 = .ok (.if_icmp .ge 35, 3) := by decide +kernel
theorem d16_37 : decode jdk_65_method_131_code 37 = .ok (.return_, 1) := by decide +kernel
theorem d17_0 : decode jdk_29_method_69_code 0 = .ok (.iload_n 0, 1) := by decide +kernel
theorem d17_1 : decode jdk_29_method_69_code 1 = .ok (.iload_n 1, 1) := by decide +kernel
theorem d17_10 : decode jdk_29_method_69_code 10 = .ok (.ireturn, 1) := by decide +kernel
theorem d17_2 : decode jdk_29_method_69_code 2 = .ok (.if_icmp .gt 7, 3) := by decide +kernel
theorem d17_9 : decode jdk_29_method_69_code 9 = .ok (.iload_n 1, 1) := by decide +kernel
theorem d18_0 : decode jdk_65_method_133_code 0 = .ok (.iload_n 1, 1) := by decide +kernel
theorem d18_1 : decode jdk_65_method_133_code 1 = .ok (.iload_n 2, 1) := by decide +kernel
theorem d18_10 : decode jdk_65_method_133_code 10 = .ok (.newarray .byte, 2) := by decide +kernel
theorem d18_12 : decode jdk_65_method_133_code 12 = .ok (.astore 4, 2) := by decide +kernel
theorem d18_14 : decode jdk_65_method_133_code 14 = .ok (.aload_n 0, 1) := by decide +kernel
theorem d18_15 : decode jdk_65_method_133_code 15 = .ok (.iload_n 1, 1) := by decide +kernel
theorem d18_16 : decode jdk_65_method_133_code 16 = .ok (.aload 4, 2) := by decide +kernel
theorem d18_18 : decode jdk_65_method_133_code 18 = .ok (.iconst 0, 1) := by decide +kernel
theorem d18_19 : decode jdk_65_method_133_code 19 = .ok (.aload_n 0, 1) := by decide +kernel
theorem d18_2 : decode jdk_65_method_133_code 2 = .ok (.invokestatic 343, 3) := by decide +kernel
theorem d18_20 : decode jdk_65_method_133_code 20 = .ok (.arraylength, 1) := by decide +kernel
theorem d18_21 : decode jdk_65_method_133_code 21 = .ok (.iload_n 1, 1) := by decide +kernel
theorem d18_22 : decode jdk_65_method_133_code 22 = .ok (.isub, 1) := by decide +kernel
theorem d18_23 : decode jdk_65_method_133_code 23 = .ok (.iload_n 3, 1) := by decide +kernel
theorem d18_24 : decode jdk_65_method_133_code 24 = .ok (.invokestatic 304, 3) := by decide +kernel
theorem d18_27 : decode jdk_65_method_133_code 27 = .ok (.invokestatic 150, 3) := by decide +kernel
theorem d18_30 : decode jdk_65_method_133_code 30 = .ok (.aload 4, 2) := by decide +kernel
theorem d18_32 : decode jdk_65_method_133_code 32 = .ok (.areturn, 1) := by decide +kernel
theorem d18_5 : decode jdk_65_method_133_code 5 = .ok (.iload_n 2, 1) := by decide +kernel
theorem d18_6 : decode jdk_65_method_133_code 6 = .ok (.iload_n 1, 1) := by decide +kernel
theorem d18_7 : decode jdk_65_method_133_code 7 = .ok (.isub, 1) := by decide +kernel
theorem d18_8 : decode jdk_65_method_133_code 8 = .ok (.istore_n 3, 1) := by decide +kernel
theorem d18_9 : decode jdk_65_method_133_code 9 = .ok (.iload_n 3, 1) := by decide +kernel
theorem d19_0 : decode jdk_65_method_132_code 0 = .ok (.iload_n 1, 1) := by decide +kernel
theorem d19_1 : decode jdk_65_method_132_code 1 = .ok (.ifCond .ne 9, 3) := by decide +kernel
theorem d19_10 : decode jdk_65_method_132_code 10 = .ok (.aload_n 0, 1) := by decide +kernel
theorem d19_11 : decode jdk_65_method_132_code 11 = .ok (.iload_n 1, 1) := by decide +kernel
theorem d19_12 : decode jdk_65_method_132_code 12 = .ok (.iload_n 2, 1) := by decide +kernel
theorem d19_13 : decode jdk_65_method_132_code 13 = .ok (.invokestatic 339, 3) := by decide +kernel
theorem d19_16 : decode jdk_65_method_132_code 16 = .ok (.areturn, 1) := by decide +kernel
theorem d19_4 : decode jdk_65_method_132_code 4 = .ok (.iload_n 2, 1) := by decide +kernel
theorem d19_5 : decode jdk_65_method_132_code 5 = .ok (.aload_n 0, 1) := by decide +kernel
theorem d19_6 : decode jdk_65_method_132_code 6 = .ok (.arraylength, 1) := by decide +kernel
theorem d19_7 : decode jdk_65_method_132_code 7 = .ok (.if_icmp .eq 10, 3) := by decide +kernel
theorem d1_0 : decode jdk_59_method_2_code 0 = .ok (.aload_n 0, 1) := by decide +kernel
theorem d1_1 : decode jdk_59_method_2_code 1 = .ok (.aload_n 1, 1) := by decide +kernel
theorem d1_2 : decode jdk_59_method_2_code 2 = .ok (.invokespecial 7, 3) := by decide +kernel
theorem d1_5 : decode jdk_59_method_2_code 5 = .ok (.return_, 1) := by decide +kernel
theorem d20_0 : decode jdk_68_method_64_code 0 = .ok (.aload_n 0, 1) := by decide +kernel
theorem d20_1 : decode jdk_68_method_64_code 1 = .ok (.getfield 15, 3) := by decide +kernel
theorem d20_4 : decode jdk_68_method_64_code 4 = .ok (.areturn, 1) := by decide +kernel
theorem d21_0 : decode jdk_68_method_6_code 0 = .ok (.aload_n 0, 1) := by decide +kernel
theorem d21_1 : decode jdk_68_method_6_code 1 = .ok (.getfield 79, 3) := by decide +kernel
theorem d21_4 : decode jdk_68_method_6_code 4 = .ok (.ireturn, 1) := by decide +kernel
theorem d22_0 : decode jdk_67_method_93_code 0 = .ok (.aload_n 0, 1) := by decide +kernel
theorem d22_1 : decode jdk_67_method_93_code 1 = .ok (.invokespecial 343, 3) := by decide +kernel
theorem d22_4 : decode jdk_67_method_93_code 4 = .ok (.ireturn, 1) := by decide +kernel
theorem d23_0 : decode jdk_42_method_150_code 0 = .ok (.aload_n 0, 1) := by decide +kernel
theorem d23_1 : decode jdk_42_method_150_code 1 = .ok (.invokespecial 1, 3) := by decide +kernel
theorem d23_10 : decode jdk_42_method_150_code 10 = .ok (.invokevirtual 549, 3) := by decide +kernel
theorem d23_13 : decode jdk_42_method_150_code 13 = .ok (.istore 4, 2) := by decide +kernel
theorem d23_15 : decode jdk_42_method_150_code 15 = .ok (.aload_n 1, 1) := by decide +kernel
theorem d23_16 : decode jdk_42_method_150_code 16 = .ok (.invokevirtual 1047, 3) := by decide +kernel
theorem d23_19 : decode jdk_42_method_150_code 19 = .ok (.ifCond .eq 22, 3) := by decide +kernel
theorem d23_22 : decode jdk_42_method_150_code 22 = .ok (.aload_n 0, 1) := by decide +kernel
theorem d23_23 : decode jdk_42_method_150_code 23 = .ok (.iconst 0, 1) := by decide +kernel
theorem d23_24 : decode jdk_42_method_150_code 24 = .ok (.putfield 15, 3) := by decide +kernel
theorem d23_27 : decode jdk_42_method_150_code 27 = .ok (.aload_n 0, 1) := by decide +kernel
theorem d23_28 : decode jdk_42_method_150_code 28 = .ok (.aload_n 3, 1) := by decide +kernel
theorem d23_29 : decode jdk_42_method_150_code 29 = .ok (.iconst 0, 1) := by decide +kernel
theorem d23_30 : decode jdk_42_method_150_code 30 = .ok (.iload 4, 2) := by decide +kernel
theorem d23_32 : decode jdk_42_method_150_code 32 = .ok (.invokestatic 54, 3) := by decide +kernel
theorem d23_35 : decode jdk_42_method_150_code 35 = .ok (.putfield 9, 3) := by decide +kernel
theorem d23_38 : decode jdk_42_method_150_code 38 = .ok (.goto 59, 3) := by decide +kernel
theorem d23_4 : decode jdk_42_method_150_code 4 = .ok (.aload_n 1, 1) := by decide +kernel
theorem d23_5 : decode jdk_42_method_150_code 5 = .ok (.invokevirtual 552, 3) := by decide +kernel
theorem d23_8 : decode jdk_42_method_150_code 8 = .ok (.astore_n 3, 1) := by decide +kernel
theorem d23_9 : decode jdk_42_method_150_code 9 = .ok (.aload_n 1, 1) := by decide +kernel
theorem d23_97 : decode jdk_42_method_150_code 97 = .ok (.return_, 1) := by decide +kernel
theorem d24_0 : decode jdk_42_method_53_code 0 = .ok (.aload_n 0, 1) := by decide +kernel
theorem d24_1 : decode jdk_42_method_53_code 1 = .ok (.aload_n 1, 1) := by decide +kernel
theorem d24_2 : decode jdk_42_method_53_code 2 = .ok (.aconst_null, 1) := by decide +kernel
theorem d24_3 : decode jdk_42_method_53_code 3 = .ok (.invokespecial 489, 3) := by decide +kernel
theorem d24_6 : decode jdk_42_method_53_code 6 = .ok (.return_, 1) := by decide +kernel
theorem d25_0 : decode jdk_67_method_42_code 0 = .ok (.new 18, 3) := by decide +kernel
theorem d25_3 : decode jdk_67_method_42_code 3 = .ok (.dup, 1) := by decide +kernel
theorem d25_4 : decode jdk_67_method_42_code 4 = .ok (.aload_n 0, 1) := by decide +kernel
theorem d25_5 : decode jdk_67_method_42_code 5 = .ok (.invokespecial 137, 3) := by decide +kernel
theorem d25_8 : decode jdk_67_method_42_code 8 = .ok (.areturn, 1) := by decide +kernel
theorem d26_0 : decode jdk_52_method_3_code 0 = .ok (.iload_n 0, 1) := by decide +kernel
theorem d26_1 : decode jdk_52_method_3_code 1 = .ok (.ifCond .ge 11, 3) := by decide +kernel
theorem d26_12 : decode jdk_52_method_3_code 12 = .ok (.iload_n 0, 1) := by decide +kernel
theorem d26_13 : decode jdk_52_method_3_code 13 = .ok (.ldc 20, 2) := by decide +kernel
theorem d26_15 : decode jdk_52_method_3_code 15 = .ok (.if_icmp .lt 40, 3) := by decide +kernel
theorem d26_55 : decode jdk_52_method_3_code 55 = .ok (.iload_n 0, 1) := by decide +kernel
theorem d26_56 : decode jdk_52_method_3_code 56 = .ok (.iconst 1, 1) := by decide +kernel
theorem d26_57 : decode jdk_52_method_3_code 57 = .ok (.ishl, 1) := by decide +kernel
theorem d26_58 : decode jdk_52_method_3_code 58 = .ok (.ireturn, 1) := by decide +kernel
theorem d27_0 : decode jdk_52_method_2_code 0 = .ok (.iload_n 0, 1) := by decide +kernel
theorem d27_1 : decode jdk_52_method_2_code 1 = .ok (.invokestatic 11, 3) := by decide +kernel
theorem d27_4 : decode jdk_52_method_2_code 4 = .ok (.newarray .byte, 2) := by decide +kernel
theorem d27_6 : decode jdk_52_method_2_code 6 = .ok (.areturn, 1) := by decide +kernel
theorem d28_0 : decode jdk_123_method_3_code 0 = .ok (.iload_n 1, 1) := by decide +kernel
theorem d28_1 : decode jdk_123_method_3_code 1 = .ok (.iload_n 2, 1) := by decide +kernel
theorem d28_10 : decode jdk_123_method_3_code 10 = .ok (.if_icmp .ge 21, 3) := by decide +kernel
theorem d28_13 : decode jdk_123_method_3_code 13 = .ok (.aload_n 0, 1) := by decide +kernel
theorem d28_14 : decode jdk_123_method_3_code 14 = .ok (.iload 4, 2) := by decide +kernel
theorem d28_16 : decode jdk_123_method_3_code 16 = .ok (.baload, 1) := by decide +kernel
theorem d28_17 : decode jdk_123_method_3_code 17 = .ok (.ifCond .ge 8, 3) := by decide +kernel
theorem d28_2 : decode jdk_123_method_3_code 2 = .ok (.iadd, 1) := by decide +kernel
theorem d28_20 : decode jdk_123_method_3_code 20 = .ok (.iload 4, 2) := by decide +kernel
theorem d28_22 : decode jdk_123_method_3_code 22 = .ok (.iload_n 1, 1) := by decide +kernel
theorem d28_23 : decode jdk_123_method_3_code 23 = .ok (.isub, 1) := by decide +kernel
theorem d28_24 : decode jdk_123_method_3_code 24 = .ok (.ireturn, 1) := by decide +kernel
theorem d28_25 : decode jdk_123_method_3_code 25 = .ok (.iinc 4 1, 3) := by decide +kernel
theorem d28_28 : decode jdk_123_method_3_code 28 = .ok (.goto (-21), 3) := by decide +kernel
theorem d28_3 : decode jdk_123_method_3_code 3 = .ok (.istore_n 3, 1) := by decide +kernel
theorem d28_31 : decode jdk_123_method_3_code 31 = .ok (.iload_n 2, 1) := by decide +kernel
theorem d28_32 : decode jdk_123_method_3_code 32 = .ok (.ireturn, 1) := by decide +kernel
theorem d28_4 : decode jdk_123_method_3_code 4 = .ok (.iload_n 1, 1) := by decide +kernel
theorem d28_5 : decode jdk_123_method_3_code 5 = .ok (.istore 4, 2) := by decide +kernel
theorem d28_7 : decode jdk_123_method_3_code 7 = .ok (.iload 4, 2) := by decide +kernel
theorem d28_9 : decode jdk_123_method_3_code 9 = .ok (.iload_n 3, 1) := by decide +kernel
theorem d29_0 : decode jdk_123_method_2_code 0 = .ok (.aload_n 0, 1) := by decide +kernel
theorem d29_1 : decode jdk_123_method_2_code 1 = .ok (.iload_n 1, 1) := by decide +kernel
theorem d29_10 : decode jdk_123_method_2_code 10 = .ok (.iconst 1, 1) := by decide +kernel
theorem d29_11 : decode jdk_123_method_2_code 11 = .ok (.goto 4, 3) := by decide +kernel
theorem d29_14 : decode jdk_123_method_2_code 14 = .ok (.iconst 0, 1) := by decide +kernel
theorem d29_15 : decode jdk_123_method_2_code 15 = .ok (.ireturn, 1) := by decide +kernel
theorem d29_2 : decode jdk_123_method_2_code 2 = .ok (.iload_n 2, 1) := by decide +kernel
theorem d29_3 : decode jdk_123_method_2_code 3 = .ok (.invokestatic 7, 3) := by decide +kernel
theorem d29_6 : decode jdk_123_method_2_code 6 = .ok (.iload_n 2, 1) := by decide +kernel
theorem d29_7 : decode jdk_123_method_2_code 7 = .ok (.if_icmp .eq 7, 3) := by decide +kernel
theorem d2_0 : decode prog_48_method_4_code 0 = .ok (.aload_n 0, 1) := by decide +kernel
theorem d2_1 : decode prog_48_method_4_code 1 = .ok (.aload_n 2, 1) := by decide +kernel
theorem d2_10 : decode prog_48_method_4_code 10 = .ok (.aload_n 0, 1) := by decide +kernel
theorem d2_11 : decode prog_48_method_4_code 11 = .ok (.aload_n 3, 1) := by decide +kernel
theorem d2_12 : decode prog_48_method_4_code 12 = .ok (.putfield 31, 3) := by decide +kernel
theorem d2_15 : decode prog_48_method_4_code 15 = .ok (.aload_n 0, 1) := by decide +kernel
theorem d2_16 : decode prog_48_method_4_code 16 = .ok (.aload 4, 2) := by decide +kernel
theorem d2_18 : decode prog_48_method_4_code 18 = .ok (.putfield 35, 3) := by decide +kernel
theorem d2_2 : decode prog_48_method_4_code 2 = .ok (.invokespecial 22, 3) := by decide +kernel
theorem d2_21 : decode prog_48_method_4_code 21 = .ok (.aload_n 0, 1) := by decide +kernel
theorem d2_22 : decode prog_48_method_4_code 22 = .ok (.aload 5, 2) := by decide +kernel
theorem d2_24 : decode prog_48_method_4_code 24 = .ok (.putfield 39, 3) := by decide +kernel
theorem d2_27 : decode prog_48_method_4_code 27 = .ok (.return_, 1) := by decide +kernel
theorem d2_5 : decode prog_48_method_4_code 5 = .ok (.aload_n 0, 1) := by decide +kernel
theorem d2_6 : decode prog_48_method_4_code 6 = .ok (.aload_n 1, 1) := by decide +kernel
theorem d2_7 : decode prog_48_method_4_code 7 = .ok (.putfield 27, 3) := by decide +kernel
theorem d30_0 : decode jdk_65_method_121_code 0 = .ok (.iload_n 1, 1) := by decide +kernel
theorem d30_1 : decode jdk_65_method_121_code 1 = .ok (.aload_n 0, 1) := by decide +kernel
theorem d30_14 : decode jdk_65_method_121_code 14 = .ok (.iload_n 1, 1) := by decide +kernel
theorem d30_15 : decode jdk_65_method_121_code 15 = .ok (.newarray .byte, 2) := by decide +kernel
theorem d30_17 : decode jdk_65_method_121_code 17 = .ok (.astore_n 2, 1) := by decide +kernel
theorem d30_18 : decode jdk_65_method_121_code 18 = .ok (.aload_n 0, 1) := by decide +kernel
theorem d30_19 : decode jdk_65_method_121_code 19 = .ok (.iconst 0, 1) := by decide +kernel
theorem d30_2 : decode jdk_65_method_121_code 2 = .ok (.arraylength, 1) := by decide +kernel
theorem d30_20 : decode jdk_65_method_121_code 20 = .ok (.aload_n 2, 1) := by decide +kernel
theorem d30_21 : decode jdk_65_method_121_code 21 = .ok (.iconst 0, 1) := by decide +kernel
theorem d30_22 : decode jdk_65_method_121_code 22 = .ok (.aload_n 0, 1) := by decide +kernel
theorem d30_23 : decode jdk_65_method_121_code 23 = .ok (.arraylength, 1) := by decide +kernel
theorem d30_24 : decode jdk_65_method_121_code 24 = .ok (.iload_n 1, 1) := by decide +kernel
theorem d30_25 : decode jdk_65_method_121_code 25 = .ok (.invokestatic 304, 3) := by decide +kernel
theorem d30_28 : decode jdk_65_method_121_code 28 = .ok (.invokestatic 150, 3) := by decide +kernel
theorem d30_3 : decode jdk_65_method_121_code 3 = .ok (.if_icmp .ne 11, 3) := by decide +kernel
theorem d30_31 : decode jdk_65_method_121_code 31 = .ok (.aload_n 2, 1) := by decide +kernel
theorem d30_32 : decode jdk_65_method_121_code 32 = .ok (.areturn, 1) := by decide +kernel
theorem d31_0 : decode jdk_42_method_46_code 0 = .ok (.iload_n 0, 1) := by decide +kernel
theorem d31_1 : decode jdk_42_method_46_code 1 = .ok (.iconst 1, 1) := by decide +kernel
theorem d31_100 : decode jdk_42_method_46_code 100 = .ok (.bipush 63, 2) := by decide +kernel
theorem d31_102 : decode jdk_42_method_46_code 102 = .ok (.iand, 1) := by decide +kernel
theorem d31_103 : decode jdk_42_method_46_code 103 = .ok (.ior, 1) := by decide +kernel
theorem d31_104 : decode jdk_42_method_46_code 104 = .ok (.i2b, 1) := by decide +kernel
theorem d31_105 : decode jdk_42_method_46_code 105 = .ok (.bastore, 1) := by decide +kernel
theorem d31_106 : decode jdk_42_method_46_code 106 = .ok (.goto 12, 3) := by decide +kernel
theorem d31_109 : decode jdk_42_method_46_code 109 = .ok (.aload 4, 2) := by decide +kernel
theorem d31_11 : decode jdk_42_method_46_code 11 = .ok (.aload_n 1, 1) := by decide +kernel
theorem d31_111 : decode jdk_42_method_46_code 111 = .ok (.iload_n 3, 1) := by decide +kernel
theorem d31_112 : decode jdk_42_method_46_code 112 = .ok (.iinc 3 1, 3) := by decide +kernel
theorem d31_115 : decode jdk_42_method_46_code 115 = .ok (.iload 8, 2) := by decide +kernel
theorem d31_117 : decode jdk_42_method_46_code 117 = .ok (.bastore, 1) := by decide +kernel
theorem d31_118 : decode jdk_42_method_46_code 118 = .ok (.iinc 7 1, 3) := by decide +kernel
theorem d31_12 : decode jdk_42_method_46_code 12 = .ok (.iconst 0, 1) := by decide +kernel
theorem d31_121 : decode jdk_42_method_46_code 121 = .ok (.goto (-72), 3) := by decide +kernel
theorem d31_124 : decode jdk_42_method_46_code 124 = .ok (.iload_n 3, 1) := by decide +kernel
theorem d31_125 : decode jdk_42_method_46_code 125 = .ok (.aload 4, 2) := by decide +kernel
theorem d31_127 : decode jdk_42_method_46_code 127 = .ok (.arraylength, 1) := by decide +kernel
theorem d31_128 : decode jdk_42_method_46_code 128 = .ok (.if_icmp .ne 6, 3) := by decide +kernel
theorem d31_13 : decode jdk_42_method_46_code 13 = .ok (.aload_n 1, 1) := by decide +kernel
theorem d31_134 : decode jdk_42_method_46_code 134 = .ok (.aload 4, 2) := by decide +kernel
theorem d31_136 : decode jdk_42_method_46_code 136 = .ok (.iload_n 3, 1) := by decide +kernel
theorem d31_137 : decode jdk_42_method_46_code 137 = .ok (.invokestatic 102, 3) := by decide +kernel
theorem d31_14 : decode jdk_42_method_46_code 14 = .ok (.arraylength, 1) := by decide +kernel
theorem d31_140 : decode jdk_42_method_46_code 140 = .ok (.areturn, 1) := by decide +kernel
theorem d31_15 : decode jdk_42_method_46_code 15 = .ok (.invokestatic 128, 3) := by decide +kernel
theorem d31_18 : decode jdk_42_method_46_code 18 = .ok (.ifCond .ne 11, 3) := by decide +kernel
theorem d31_2 : decode jdk_42_method_46_code 2 = .ok (.if_icmp .ne 9, 3) := by decide +kernel
theorem d31_21 : decode jdk_42_method_46_code 21 = .ok (.aload_n 1, 1) := by decide +kernel
theorem d31_22 : decode jdk_42_method_46_code 22 = .ok (.invokevirtual 279, 3) := by decide +kernel
theorem d31_25 : decode jdk_42_method_46_code 25 = .ok (.checkcast 280, 3) := by decide +kernel
theorem d31_28 : decode jdk_42_method_46_code 28 = .ok (.areturn, 1) := by decide +kernel
theorem d31_29 : decode jdk_42_method_46_code 29 = .ok (.iconst 0, 1) := by decide +kernel
theorem d31_30 : decode jdk_42_method_46_code 30 = .ok (.istore_n 3, 1) := by decide +kernel
theorem d31_31 : decode jdk_42_method_46_code 31 = .ok (.aload_n 1, 1) := by decide +kernel
theorem d31_32 : decode jdk_42_method_46_code 32 = .ok (.arraylength, 1) := by decide +kernel
theorem d31_33 : decode jdk_42_method_46_code 33 = .ok (.invokestatic 60, 3) := by decide +kernel
theorem d31_36 : decode jdk_42_method_46_code 36 = .ok (.astore 4, 2) := by decide +kernel
theorem d31_38 : decode jdk_42_method_46_code 38 = .ok (.aload_n 1, 1) := by decide +kernel
theorem d31_39 : decode jdk_42_method_46_code 39 = .ok (.astore 5, 2) := by decide +kernel
theorem d31_41 : decode jdk_42_method_46_code 41 = .ok (.aload 5, 2) := by decide +kernel
theorem d31_43 : decode jdk_42_method_46_code 43 = .ok (.arraylength, 1) := by decide +kernel
theorem d31_44 : decode jdk_42_method_46_code 44 = .ok (.istore 6, 2) := by decide +kernel
theorem d31_46 : decode jdk_42_method_46_code 46 = .ok (.iconst 0, 1) := by decide +kernel
theorem d31_47 : decode jdk_42_method_46_code 47 = .ok (.istore 7, 2) := by decide +kernel
theorem d31_49 : decode jdk_42_method_46_code 49 = .ok (.iload 7, 2) := by decide +kernel
theorem d31_51 : decode jdk_42_method_46_code 51 = .ok (.iload 6, 2) := by decide +kernel
theorem d31_53 : decode jdk_42_method_46_code 53 = .ok (.if_icmp .ge 71, 3) := by decide +kernel
theorem d31_56 : decode jdk_42_method_46_code 56 = .ok (.aload 5, 2) := by decide +kernel
theorem d31_58 : decode jdk_42_method_46_code 58 = .ok (.iload 7, 2) := by decide +kernel
theorem d31_60 : decode jdk_42_method_46_code 60 = .ok (.baload, 1) := by decide +kernel
theorem d31_61 : decode jdk_42_method_46_code 61 = .ok (.istore 8, 2) := by decide +kernel
theorem d31_63 : decode jdk_42_method_46_code 63 = .ok (.iload 8, 2) := by decide +kernel
theorem d31_65 : decode jdk_42_method_46_code 65 = .ok (.ifCond .ge 44, 3) := by decide +kernel
theorem d31_68 : decode jdk_42_method_46_code 68 = .ok (.aload 4, 2) := by decide +kernel
theorem d31_70 : decode jdk_42_method_46_code 70 = .ok (.iload_n 3, 1) := by decide +kernel
theorem d31_71 : decode jdk_42_method_46_code 71 = .ok (.iinc 3 1, 3) := by decide +kernel
theorem d31_74 : decode jdk_42_method_46_code 74 = .ok (.sipush 192, 3) := by decide +kernel
theorem d31_77 : decode jdk_42_method_46_code 77 = .ok (.iload 8, 2) := by decide +kernel
theorem d31_79 : decode jdk_42_method_46_code 79 = .ok (.sipush 255, 3) := by decide +kernel
theorem d31_82 : decode jdk_42_method_46_code 82 = .ok (.iand, 1) := by decide +kernel
theorem d31_83 : decode jdk_42_method_46_code 83 = .ok (.bipush 6, 2) := by decide +kernel
theorem d31_85 : decode jdk_42_method_46_code 85 = .ok (.ishr, 1) := by decide +kernel
theorem d31_86 : decode jdk_42_method_46_code 86 = .ok (.ior, 1) := by decide +kernel
theorem d31_87 : decode jdk_42_method_46_code 87 = .ok (.i2b, 1) := by decide +kernel
theorem d31_88 : decode jdk_42_method_46_code 88 = .ok (.bastore, 1) := by decide +kernel
theorem d31_89 : decode jdk_42_method_46_code 89 = .ok (.aload 4, 2) := by decide +kernel
theorem d31_91 : decode jdk_42_method_46_code 91 = .ok (.iload_n 3, 1) := by decide +kernel
theorem d31_92 : decode jdk_42_method_46_code 92 = .ok (.iinc 3 1, 3) := by decide +kernel
theorem d31_95 : decode jdk_42_method_46_code 95 = .ok (.sipush 128, 3) := by decide +kernel
theorem d31_98 : decode jdk_42_method_46_code 98 = .ok (.iload 8, 2) := by decide +kernel
theorem d32_0 : decode jdk_42_method_18_code 0 = .ok (.aload_n 0, 1) := by decide +kernel
theorem d32_1 : decode jdk_42_method_18_code 1 = .ok (.getstatic 86, 3) := by decide +kernel
theorem d32_10 : decode jdk_42_method_18_code 10 = .ok (.invokestatic 252, 3) := by decide +kernel
theorem d32_13 : decode jdk_42_method_18_code 13 = .ok (.areturn, 1) := by decide +kernel
theorem d32_4 : decode jdk_42_method_18_code 4 = .ok (.if_acmp .ne 10, 3) := by decide +kernel
theorem d32_7 : decode jdk_42_method_18_code 7 = .ok (.iload_n 1, 1) := by decide +kernel
theorem d32_8 : decode jdk_42_method_18_code 8 = .ok (.aload_n 2, 1) := by decide +kernel
theorem d32_9 : decode jdk_42_method_18_code 9 = .ok (.iconst 1, 1) := by decide +kernel
theorem d33_0 : decode jdk_42_method_64_code 0 = .ok (.aload_n 1, 1) := by decide +kernel
theorem d33_1 : decode jdk_42_method_64_code 1 = .ok (.ifnonnull 11, 3) := by decide +kernel
theorem d33_12 : decode jdk_42_method_64_code 12 = .ok (.aload_n 1, 1) := by decide +kernel
theorem d33_13 : decode jdk_42_method_64_code 13 = .ok (.aload_n 0, 1) := by decide +kernel
theorem d33_14 : decode jdk_42_method_64_code 14 = .ok (.invokevirtual 335, 3) := by decide +kernel
theorem d33_17 : decode jdk_42_method_64_code 17 = .ok (.aload_n 0, 1) := by decide +kernel
theorem d33_18 : decode jdk_42_method_64_code 18 = .ok (.getfield 9, 3) := by decide +kernel
theorem d33_21 : decode jdk_42_method_64_code 21 = .ok (.invokestatic 535, 3) := by decide +kernel
theorem d33_24 : decode jdk_42_method_64_code 24 = .ok (.areturn, 1) := by decide +kernel
theorem d34_0 : decode prog_44_method_2_code 0 = .ok (.new 8, 3) := by decide +kernel
theorem d34_10 : decode prog_44_method_2_code 10 = .ok (.invokespecial 21, 3) := by decide +kernel
theorem d34_13 : decode prog_44_method_2_code 13 = .ok (.aload_n 0, 1) := by decide +kernel
theorem d34_14 : decode prog_44_method_2_code 14 = .ok (.invokevirtual 22, 3) := by decide +kernel
theorem d34_17 : decode prog_44_method_2_code 17 = .ok (.ldc 26, 2) := by decide +kernel
theorem d34_19 : decode prog_44_method_2_code 19 = .ok (.invokevirtual 22, 3) := by decide +kernel
theorem d34_22 : decode prog_44_method_2_code 22 = .ok (.invokevirtual 28, 3) := by decide +kernel
theorem d34_25 : decode prog_44_method_2_code 25 = .ok (.getstatic 32, 3) := by decide +kernel
theorem d34_28 : decode prog_44_method_2_code 28 = .ok (.invokevirtual 38, 3) := by decide +kernel
theorem d34_3 : decode prog_44_method_2_code 3 = .ok (.dup, 1) := by decide +kernel
theorem d34_31 : decode prog_44_method_2_code 31 = .ok (.invokespecial 44, 3) := by decide +kernel
theorem d34_34 : decode prog_44_method_2_code 34 = .ok (.areturn, 1) := by decide +kernel
theorem d34_4 : decode prog_44_method_2_code 4 = .ok (.ldc 17, 2) := by decide +kernel
theorem d34_6 : decode prog_44_method_2_code 6 = .ok (.new 19, 3) := by decide +kernel
theorem d34_9 : decode prog_44_method_2_code 9 = .ok (.dup, 1) := by decide +kernel
theorem d35_0 : decode prog_48_method_3_code 0 = .ok (.aload_n 0, 1) := by decide +kernel
theorem d35_1 : decode prog_48_method_3_code 1 = .ok (.aload_n 1, 1) := by decide +kernel
theorem d35_11 : decode prog_48_method_3_code 11 = .ok (.return_, 1) := by decide +kernel
theorem d35_2 : decode prog_48_method_3_code 2 = .ok (.aload_n 2, 1) := by decide +kernel
theorem d35_3 : decode prog_48_method_3_code 3 = .ok (.aload_n 3, 1) := by decide +kernel
theorem d35_4 : decode prog_48_method_3_code 4 = .ok (.aconst_null, 1) := by decide +kernel
theorem d35_5 : decode prog_48_method_3_code 5 = .ok (.getstatic 19, 3) := by decide +kernel
theorem d35_8 : decode prog_48_method_3_code 8 = .ok (.invokespecial 13, 3) := by decide +kernel
theorem d36_0 : decode prog_48_method_1_code 0 = .ok (.aload_n 0, 1) := by decide +kernel
theorem d36_1 : decode prog_48_method_1_code 1 = .ok (.aload_n 1, 1) := by decide +kernel
theorem d36_11 : decode prog_48_method_1_code 11 = .ok (.invokespecial 13, 3) := by decide +kernel
theorem d36_14 : decode prog_48_method_1_code 14 = .ok (.return_, 1) := by decide +kernel
theorem d36_2 : decode prog_48_method_1_code 2 = .ok (.aload_n 2, 1) := by decide +kernel
theorem d36_3 : decode prog_48_method_1_code 3 = .ok (.aload_n 2, 1) := by decide +kernel
theorem d36_4 : decode prog_48_method_1_code 4 = .ok (.invokestatic 1, 3) := by decide +kernel
theorem d36_7 : decode prog_48_method_1_code 7 = .ok (.aconst_null, 1) := by decide +kernel
theorem d36_8 : decode prog_48_method_1_code 8 = .ok (.getstatic 7, 3) := by decide +kernel
theorem d37_0 : decode prog_48_method_2_code 0 = .ok (.aload_n 0, 1) := by decide +kernel
theorem d37_1 : decode prog_48_method_2_code 1 = .ok (.aload_n 1, 1) := by decide +kernel
theorem d37_11 : decode prog_48_method_2_code 11 = .ok (.invokespecial 13, 3) := by decide +kernel
theorem d37_14 : decode prog_48_method_2_code 14 = .ok (.return_, 1) := by decide +kernel
theorem d37_2 : decode prog_48_method_2_code 2 = .ok (.aload_n 2, 1) := by decide +kernel
theorem d37_3 : decode prog_48_method_2_code 3 = .ok (.aload_n 2, 1) := by decide +kernel
theorem d37_4 : decode prog_48_method_2_code 4 = .ok (.invokestatic 1, 3) := by decide +kernel
theorem d37_7 : decode prog_48_method_2_code 7 = .ok (.aload_n 3, 1) := by decide +kernel
theorem d37_8 : decode prog_48_method_2_code 8 = .ok (.getstatic 19, 3) := by decide +kernel
theorem d38_0 : decode prog_48_method_5_code 0 = .ok (.new 14, 3) := by decide +kernel
theorem d38_10 : decode prog_48_method_5_code 10 = .ok (.aconst_null, 1) := by decide +kernel
theorem d38_11 : decode prog_48_method_5_code 11 = .ok (.getstatic 42, 3) := by decide +kernel
theorem d38_14 : decode prog_48_method_5_code 14 = .ok (.invokespecial 13, 3) := by decide +kernel
theorem d38_17 : decode prog_48_method_5_code 17 = .ok (.areturn, 1) := by decide +kernel
theorem d38_3 : decode prog_48_method_5_code 3 = .ok (.dup, 1) := by decide +kernel
theorem d38_4 : decode prog_48_method_5_code 4 = .ok (.aload_n 0, 1) := by decide +kernel
theorem d38_5 : decode prog_48_method_5_code 5 = .ok (.aload_n 1, 1) := by decide +kernel
theorem d38_6 : decode prog_48_method_5_code 6 = .ok (.aload_n 1, 1) := by decide +kernel
theorem d38_7 : decode prog_48_method_5_code 7 = .ok (.invokestatic 1, 3) := by decide +kernel
theorem d39_0 : decode jdk_78_method_6_code 0 = .ok (.aload_n 0, 1) := by decide +kernel
theorem d39_1 : decode jdk_78_method_6_code 1 = .ok (.getfield 31, 3) := by decide +kernel
theorem d39_4 : decode jdk_78_method_6_code 4 = .ok (.areturn, 1) := by decide +kernel
theorem d3_0 : decode jdk_30_method_1_code 0 = .ok (.aload_n 0, 1) := by decide +kernel
theorem d3_1 : decode jdk_30_method_1_code 1 = .ok (.invokespecial 1, 3) := by decide +kernel
theorem d3_4 : decode jdk_30_method_1_code 4 = .ok (.return_, 1) := by decide +kernel
theorem d40_0 : decode prog_48_method_6_code 0 = .ok (.new 14, 3) := by decide +kernel
theorem d40_12 : decode prog_48_method_6_code 12 = .ok (.aload_n 0, 1) := by decide +kernel
theorem d40_13 : decode prog_48_method_6_code 13 = .ok (.getfield 31, 3) := by decide +kernel
theorem d40_16 : decode prog_48_method_6_code 16 = .ok (.aconst_null, 1) := by decide +kernel
theorem d40_17 : decode prog_48_method_6_code 17 = .ok (.getstatic 19, 3) := by decide +kernel
theorem d40_20 : decode prog_48_method_6_code 20 = .ok (.invokespecial 13, 3) := by decide +kernel
theorem d40_23 : decode prog_48_method_6_code 23 = .ok (.areturn, 1) := by decide +kernel
theorem d40_3 : decode prog_48_method_6_code 3 = .ok (.dup, 1) := by decide +kernel
theorem d40_4 : decode prog_48_method_6_code 4 = .ok (.aload_n 0, 1) := by decide +kernel
theorem d40_5 : decode prog_48_method_6_code 5 = .ok (.getfield 27, 3) := by decide +kernel
theorem d40_8 : decode prog_48_method_6_code 8 = .ok (.aload_n 0, 1) := by decide +kernel
theorem d40_9 : decode prog_48_method_6_code 9 = .ok (.invokevirtual 45, 3) := by decide +kernel
theorem d41_0 : decode prog_48_method_9_code 0 = .ok (.aload_n 0, 1) := by decide +kernel
theorem d41_1 : decode prog_48_method_9_code 1 = .ok (.getfield 39, 3) := by decide +kernel
theorem d41_10 : decode prog_48_method_9_code 10 = .ok (.iconst 1, 1) := by decide +kernel
theorem d41_11 : decode prog_48_method_9_code 11 = .ok (.goto 4, 3) := by decide +kernel
theorem d41_14 : decode prog_48_method_9_code 14 = .ok (.iconst 0, 1) := by decide +kernel
theorem d41_15 : decode prog_48_method_9_code 15 = .ok (.ireturn, 1) := by decide +kernel
theorem d41_4 : decode prog_48_method_9_code 4 = .ok (.getstatic 42, 3) := by decide +kernel
theorem d41_7 : decode prog_48_method_9_code 7 = .ok (.if_acmp .ne 7, 3) := by decide +kernel
theorem d42_0 : decode method_2_code 0 = .ok (.iload_n 0, 1) := by decide +kernel
theorem d42_1 : decode method_2_code 1 = .ok (.iconst 3, 1) := by decide +kernel
theorem d42_11 : decode method_2_code 11 = .ok (.areturn, 1) := by decide +kernel
theorem d42_12 : decode method_2_code 12 = .ok (.iload_n 1, 1) := by decide +kernel
theorem d42_13 : decode method_2_code 13 = .ok (.iconst 1, 1) := by decide +kernel
theorem d42_14 : decode method_2_code 14 = .ok (.if_icmp .ne 7, 3) := by decide +kernel
theorem d42_17 : decode method_2_code 17 = .ok (.getstatic 13, 3) := by decide +kernel
theorem d42_2 : decode method_2_code 2 = .ok (.iand, 1) := by decide +kernel
theorem d42_20 : decode method_2_code 20 = .ok (.areturn, 1) := by decide +kernel
theorem d42_21 : decode method_2_code 21 = .ok (.iload_n 1, 1) := by decide +kernel
theorem d42_22 : decode method_2_code 22 = .ok (.iconst 2, 1) := by decide +kernel
theorem d42_23 : decode method_2_code 23 = .ok (.if_icmp .ne 7, 3) := by decide +kernel
theorem d42_26 : decode method_2_code 26 = .ok (.getstatic 16, 3) := by decide +kernel
theorem d42_29 : decode method_2_code 29 = .ok (.areturn, 1) := by decide +kernel
theorem d42_3 : decode method_2_code 3 = .ok (.istore_n 1, 1) := by decide +kernel
theorem d42_30 : decode method_2_code 30 = .ok (.getstatic 19, 3) := by decide +kernel
theorem d42_33 : decode method_2_code 33 = .ok (.areturn, 1) := by decide +kernel
theorem d42_4 : decode method_2_code 4 = .ok (.iload_n 1, 1) := by decide +kernel
theorem d42_5 : decode method_2_code 5 = .ok (.ifCond .ne 7, 3) := by decide +kernel
theorem d42_8 : decode method_2_code 8 = .ok (.getstatic 7, 3) := by decide +kernel
theorem d4_0 : decode prog_44_method_1_code 0 = .ok (.aload_n 0, 1) := by decide +kernel
theorem d4_1 : decode prog_44_method_1_code 1 = .ok (.invokespecial 1, 3) := by decide +kernel
theorem d4_10 : decode prog_44_method_1_code 10 = .ok (.aload_n 2, 1) := by decide +kernel
theorem d4_11 : decode prog_44_method_1_code 11 = .ok (.putfield 13, 3) := by decide +kernel
theorem d4_14 : decode prog_44_method_1_code 14 = .ok (.return_, 1) := by decide +kernel
theorem d4_4 : decode prog_44_method_1_code 4 = .ok (.aload_n 0, 1) := by decide +kernel
theorem d4_5 : decode prog_44_method_1_code 5 = .ok (.aload_n 1, 1) := by decide +kernel
theorem d4_6 : decode prog_44_method_1_code 6 = .ok (.putfield 7, 3) := by decide +kernel
theorem d4_9 : decode prog_44_method_1_code 9 = .ok (.aload_n 0, 1) := by decide +kernel
theorem d5_0 : decode jdk_68_method_2_code 0 = .ok (.aload_n 0, 1) := by decide +kernel
theorem d5_1 : decode jdk_68_method_2_code 1 = .ok (.invokespecial 3, 3) := by decide +kernel
theorem d5_10 : decode jdk_68_method_2_code 10 = .ok (.aload_n 0, 1) := by decide +kernel
theorem d5_11 : decode jdk_68_method_2_code 11 = .ok (.iload_n 1, 1) := by decide +kernel
theorem d5_12 : decode jdk_68_method_2_code 12 = .ok (.newarray .byte, 2) := by decide +kernel
theorem d5_14 : decode jdk_68_method_2_code 14 = .ok (.putfield 15, 3) := by decide +kernel
theorem d5_17 : decode jdk_68_method_2_code 17 = .ok (.aload_n 0, 1) := by decide +kernel
theorem d5_18 : decode jdk_68_method_2_code 18 = .ok (.iconst 0, 1) := by decide +kernel
theorem d5_19 : decode jdk_68_method_2_code 19 = .ok (.putfield 22, 3) := by decide +kernel
theorem d5_22 : decode jdk_68_method_2_code 22 = .ok (.goto 16, 3) := by decide +kernel
theorem d5_38 : decode jdk_68_method_2_code 38 = .ok (.return_, 1) := by decide +kernel
theorem d5_4 : decode jdk_68_method_2_code 4 = .ok (.getstatic 18, 3) := by decide +kernel
theorem d5_7 : decode jdk_68_method_2_code 7 = .ok (.ifCond .eq 18, 3) := by decide +kernel
theorem d6_0 : decode jdk_67_method_1_code 0 = .ok (.aload_n 0, 1) := by decide +kernel
theorem d6_1 : decode jdk_67_method_1_code 1 = .ok (.bipush 16, 2) := by decide +kernel
theorem d6_3 : decode jdk_67_method_1_code 3 = .ok (.invokespecial 1, 3) := by decide +kernel
theorem d6_6 : decode jdk_67_method_1_code 6 = .ok (.return_, 1) := by decide +kernel
theorem d7_0 : decode jdk_42_method_152_code 0 = .ok (.getstatic 38, 3) := by decide +kernel
theorem d7_10 : decode jdk_42_method_152_code 10 = .ok (.goto 4, 3) := by decide +kernel
theorem d7_14 : decode jdk_42_method_152_code 14 = .ok (.ireturn, 1) := by decide +kernel
theorem d7_3 : decode jdk_42_method_152_code 3 = .ok (.ifCond .eq 10, 3) := by decide +kernel
theorem d7_6 : decode jdk_42_method_152_code 6 = .ok (.aload_n 0, 1) := by decide +kernel
theorem d7_7 : decode jdk_42_method_152_code 7 = .ok (.getfield 15, 3) := by decide +kernel
theorem d8_0 : decode jdk_68_method_9_code 0 = .ok (.aload_n 0, 1) := by decide +kernel
theorem d8_1 : decode jdk_68_method_9_code 1 = .ok (.getfield 15, 3) := by decide +kernel
theorem d8_10 : decode jdk_68_method_9_code 10 = .ok (.istore_n 2, 1) := by decide +kernel
theorem d8_11 : decode jdk_68_method_9_code 11 = .ok (.iload_n 1, 1) := by decide +kernel
theorem d8_12 : decode jdk_68_method_9_code 12 = .ok (.iload_n 2, 1) := by decide +kernel
theorem d8_13 : decode jdk_68_method_9_code 13 = .ok (.isub, 1) := by decide +kernel
theorem d8_14 : decode jdk_68_method_9_code 14 = .ok (.ifCond .le 24, 3) := by decide +kernel
theorem d8_38 : decode jdk_68_method_9_code 38 = .ok (.return_, 1) := by decide +kernel
theorem d8_4 : decode jdk_68_method_9_code 4 = .ok (.arraylength, 1) := by decide +kernel
theorem d8_5 : decode jdk_68_method_9_code 5 = .ok (.aload_n 0, 1) := by decide +kernel
theorem d8_6 : decode jdk_68_method_9_code 6 = .ok (.getfield 22, 3) := by decide +kernel
theorem d8_9 : decode jdk_68_method_9_code 9 = .ok (.ishr, 1) := by decide +kernel
theorem d9_0 : decode jdk_42_method_147_code 0 = .ok (.aload_n 0, 1) := by decide +kernel
theorem d9_1 : decode jdk_42_method_147_code 1 = .ok (.invokevirtual 335, 3) := by decide +kernel
theorem d9_12 : decode jdk_42_method_147_code 12 = .ok (.iconst 0, 1) := by decide +kernel
theorem d9_13 : decode jdk_42_method_147_code 13 = .ok (.aload_n 1, 1) := by decide +kernel
theorem d9_14 : decode jdk_42_method_147_code 14 = .ok (.iload_n 2, 1) := by decide +kernel
theorem d9_15 : decode jdk_42_method_147_code 15 = .ok (.iload_n 3, 1) := by decide +kernel
theorem d9_16 : decode jdk_42_method_147_code 16 = .ok (.ishl, 1) := by decide +kernel
theorem d9_17 : decode jdk_42_method_147_code 17 = .ok (.aload_n 0, 1) := by decide +kernel
theorem d9_18 : decode jdk_42_method_147_code 18 = .ok (.getfield 9, 3) := by decide +kernel
theorem d9_21 : decode jdk_42_method_147_code 21 = .ok (.arraylength, 1) := by decide +kernel
theorem d9_22 : decode jdk_42_method_147_code 22 = .ok (.invokestatic 212, 3) := by decide +kernel
theorem d9_25 : decode jdk_42_method_147_code 25 = .ok (.goto 18, 3) := by decide +kernel
theorem d9_4 : decode jdk_42_method_147_code 4 = .ok (.iload_n 3, 1) := by decide +kernel
theorem d9_43 : decode jdk_42_method_147_code 43 = .ok (.return_, 1) := by decide +kernel
theorem d9_5 : decode jdk_42_method_147_code 5 = .ok (.if_icmp .ne 23, 3) := by decide +kernel
theorem d9_8 : decode jdk_42_method_147_code 8 = .ok (.aload_n 0, 1) := by decide +kernel
theorem d9_9 : decode jdk_42_method_147_code 9 = .ok (.getfield 9, 3) := by decide +kernel
theorem pd_0 : parseMethodDescriptor "(Ljava/lang/String;)V" = some ⟨[(.object "java/lang/String")], none⟩ := by decide +kernel
theorem pd_1 : parseMethodDescriptor "()V" = some ⟨[], none⟩ := by decide +kernel
theorem pd_2 : parseMethodDescriptor "(I)V" = some ⟨[.int], none⟩ := by decide +kernel
theorem pd_3 : parseMethodDescriptor "()B" = some ⟨[], some .byte⟩ := by decide +kernel
theorem pd_4 : parseMethodDescriptor "([BIB)V" = some ⟨[(.array .byte), .int, .byte], none⟩ := by decide +kernel
theorem pd_5 : parseMethodDescriptor "()I" = some ⟨[], some .int⟩ := by decide +kernel
theorem pd_6 : parseMethodDescriptor "(ILjava/lang/String;)V" = some ⟨[.int, (.object "java/lang/String")], none⟩ := by decide +kernel
theorem pd_7 : parseMethodDescriptor "(Ljava/lang/String;)Ljava/lang/AbstractStringBuilder;" = some ⟨[(.object "java/lang/String")], some (.object "java/lang/AbstractStringBuilder")⟩ := by decide +kernel
theorem pd_8 : parseMethodDescriptor "(II)V" = some ⟨[.int, .int], none⟩ := by decide +kernel
theorem pd_9 : parseMethodDescriptor "(II)I" = some ⟨[.int, .int], some .int⟩ := by decide +kernel
theorem pd_10 : parseMethodDescriptor "([BII)[B" = some ⟨[(.array .byte), .int, .int], some (.array .byte)⟩ := by decide +kernel
theorem pd_11 : parseMethodDescriptor "()[B" = some ⟨[], some (.array .byte)⟩ := by decide +kernel
theorem pd_12 : parseMethodDescriptor "()Z" = some ⟨[], some .boolean⟩ := by decide +kernel
theorem pd_13 : parseMethodDescriptor "(Ljava/lang/AbstractStringBuilder;Ljava/lang/Void;)V" = some ⟨[(.object "java/lang/AbstractStringBuilder"), (.object "java/lang/Void")], none⟩ := by decide +kernel
theorem pd_14 : parseMethodDescriptor "(Ljava/lang/StringBuilder;)V" = some ⟨[(.object "java/lang/StringBuilder")], none⟩ := by decide +kernel
theorem pd_15 : parseMethodDescriptor "(I)I" = some ⟨[.int], some .int⟩ := by decide +kernel
theorem pd_16 : parseMethodDescriptor "([BII)I" = some ⟨[(.array .byte), .int, .int], some .int⟩ := by decide +kernel
theorem pd_17 : parseMethodDescriptor "([BII)Z" = some ⟨[(.array .byte), .int, .int], some .boolean⟩ := by decide +kernel
theorem pd_18 : parseMethodDescriptor "(I)[B" = some ⟨[.int], some (.array .byte)⟩ := by decide +kernel
theorem pd_19 : parseMethodDescriptor "([BI)[B" = some ⟨[(.array .byte), .int], some (.array .byte)⟩ := by decide +kernel
theorem pd_20 : parseMethodDescriptor "(B[BZ)[B" = some ⟨[.byte, (.array .byte), .boolean], some (.array .byte)⟩ := by decide +kernel
theorem pd_21 : parseMethodDescriptor "(Ljava/nio/charset/Charset;B[B)[B" = some ⟨[(.object "java/nio/charset/Charset"), .byte, (.array .byte)], some (.array .byte)⟩ := by decide +kernel
theorem pd_22 : parseMethodDescriptor "(Ljava/lang/String;)Ljava/lang/StringBuilder;" = some ⟨[(.object "java/lang/String")], some (.object "java/lang/StringBuilder")⟩ := by decide +kernel
theorem pd_23 : parseMethodDescriptor "()Ljava/lang/String;" = some ⟨[], some (.object "java/lang/String")⟩ := by decide +kernel
theorem pd_24 : parseMethodDescriptor "(Ljava/nio/charset/Charset;)[B" = some ⟨[(.object "java/nio/charset/Charset")], some (.array .byte)⟩ := by decide +kernel
theorem pd_25 : parseMethodDescriptor "(Ljava/lang/String;[B)V" = some ⟨[(.object "java/lang/String"), (.array .byte)], none⟩ := by decide +kernel
theorem pd_26 : parseMethodDescriptor "(Lcom/example/onegate/onegate/core/http/HttpResponse$Status;Ljava/lang/String;Lcom/example/onegate/onegate/core/http/HttpResponse$Content;Ljava/lang/String;Lcom/example/onegate/onegate/gate/Answer$Line;)V" = some ⟨[(.object "com/example/onegate/onegate/core/http/HttpResponse$Status"), (.object "java/lang/String"), (.object "com/example/onegate/onegate/core/http/HttpResponse$Content"), (.object "java/lang/String"), (.object "com/example/onegate/onegate/gate/Answer$Line")], none⟩ := by decide +kernel
theorem pd_27 : parseMethodDescriptor "(Ljava/lang/String;)Lcom/example/onegate/onegate/core/http/HttpResponse$Content;" = some ⟨[(.object "java/lang/String")], some (.object "com/example/onegate/onegate/core/http/HttpResponse$Content")⟩ := by decide +kernel
theorem pd_28 : parseMethodDescriptor "(I)Lcom/example/onegate/onegate/core/http/HttpResponse$Status;" = some ⟨[.int], some (.object "com/example/onegate/onegate/core/http/HttpResponse$Status")⟩ := by decide +kernel
theorem pd_29 : parseMethodDescriptor "(Lcom/example/onegate/onegate/core/http/HttpResponse$Status;Ljava/lang/String;Lcom/example/onegate/onegate/core/http/HttpResponse$Content;)V" = some ⟨[(.object "com/example/onegate/onegate/core/http/HttpResponse$Status"), (.object "java/lang/String"), (.object "com/example/onegate/onegate/core/http/HttpResponse$Content")], none⟩ := by decide +kernel
theorem pd_30 : parseMethodDescriptor "(Lcom/example/onegate/onegate/core/http/HttpResponse$Status;Ljava/lang/String;)V" = some ⟨[(.object "com/example/onegate/onegate/core/http/HttpResponse$Status"), (.object "java/lang/String")], none⟩ := by decide +kernel
theorem pd_31 : parseMethodDescriptor "(Lcom/example/onegate/onegate/core/http/HttpResponse$Status;Ljava/lang/String;Ljava/lang/String;)V" = some ⟨[(.object "com/example/onegate/onegate/core/http/HttpResponse$Status"), (.object "java/lang/String"), (.object "java/lang/String")], none⟩ := by decide +kernel
theorem pd_32 : parseMethodDescriptor "(Lcom/example/onegate/onegate/core/http/HttpResponse$Status;Ljava/lang/String;)Lcom/example/onegate/onegate/gate/Answer;" = some ⟨[(.object "com/example/onegate/onegate/core/http/HttpResponse$Status"), (.object "java/lang/String")], some (.object "com/example/onegate/onegate/gate/Answer")⟩ := by decide +kernel
theorem pd_33 : parseMethodDescriptor "()Lcom/example/onegate/onegate/gate/Answer;" = some ⟨[], some (.object "com/example/onegate/onegate/gate/Answer")⟩ := by decide +kernel
theorem pn_0 : plainName "java/lang/Throwable" = true := by first | (simp [plainName, overriddenIn]; done) | decide +kernel
theorem pn_1 : plainName "java/lang/Exception" = true := by first | (simp [plainName, overriddenIn]; done) | decide +kernel
theorem pn_2 : plainName "com/example/onegate/onegate/gate/Answer" = true := by first | (simp [plainName, overriddenIn]; done) | decide +kernel
theorem pn_3 : plainName "java/lang/Record" = true := by first | (simp [plainName, overriddenIn]; done) | decide +kernel
theorem pn_4 : plainName "com/example/onegate/onegate/core/http/HttpResponse$Content" = true := by first | (simp [plainName, overriddenIn]; done) | decide +kernel
theorem pn_5 : plainName "java/lang/AbstractStringBuilder" = true := by first | (simp [plainName, overriddenIn]; done) | decide +kernel
theorem pn_6 : plainName "java/lang/StringBuilder" = true := by first | (simp [plainName, overriddenIn]; done) | decide +kernel
theorem pn_7 : plainName "java/lang/String" = true := by first | (simp [plainName, overriddenIn]; done) | decide +kernel
theorem pn_8 : plainName "java/util/Arrays" = true := by first | (simp [plainName, overriddenIn]; done) | decide +kernel
theorem pn_9 : plainName "java/lang/StringUTF16" = true := by first | (simp [plainName, overriddenIn]; done) | decide +kernel
theorem pn_10 : plainName "java/lang/StringCoding" = true := by first | (simp [plainName, overriddenIn]; done) | decide +kernel
theorem pn_11 : plainName "com/example/onegate/onegate/gate/AnswerBrokeOffPinLaw" = true := by first | (simp [plainName, overriddenIn]; done) | decide +kernel
theorem own_tww {Z : State} {a0 : Array Value} (C : Cx Z a0) : ∀ d ∈ own_tw "com/example/onegate/onegate/gate/Answer", d.before a0 Z = true := fun d hd => C.1 d ((by decide +kernel : ∀ d ∈ own_tw "com/example/onegate/onegate/gate/Answer", d ∈ tables_1) d hd)
section OwnWalks
variable {l : Launch} {Z : State} {a0 : Array Value}
theorem rm_thr (C : Cx Z a0) (h0 : Heap) (x : Addr) (Ex : Exa Z h0 x "com/example/onegate/onegate/gate/Answer") (Ux : Unt h0 x) (Bx : Fld Z h0 x "java/lang/Throwable" "backtrace" "Ljava/lang/Object;" .null) (T_cause : Fld Z h0 x "java/lang/Throwable" "cause" "Ljava/lang/Throwable;" .null) (T_stackTrace : Fld Z h0 x "java/lang/Throwable" "stackTrace" "[Ljava/lang/StackTraceElement;" .null) (T_suppressedExceptions : Fld Z h0 x "java/lang/Throwable" "suppressedExceptions" "Ljava/util/List;" .null) (Mx : Fld Z h0 x "java/lang/Throwable" "detailMessage" "Ljava/lang/String;" .null) (F_status : Fld Z h0 x "com/example/onegate/onegate/gate/Answer" "status" "Lcom/example/onegate/onegate/core/http/HttpResponse$Status;" .null) (F_content : Fld Z h0 x "com/example/onegate/onegate/gate/Answer" "content" "Lcom/example/onegate/onegate/core/http/HttpResponse$Content;" .null) (F_report : Fld Z h0 x "com/example/onegate/onegate/gate/Answer" "report" "Ljava/lang/String;" .null) (F_line : Fld Z h0 x "com/example/onegate/onegate/gate/Answer" "line" "Lcom/example/onegate/onegate/gate/Answer$Line;" .null) (nx : Z.heap.size ≤ x) (u2 : Value) (r2 : u2.isRef = true) :
    Ct l Z a0 own_EL (⟨"java/lang/Throwable", "<init>", "(Ljava/lang/String;)V"⟩ : MethodName) jdk_78_method_2_code 2 (Option.none : Option Jvm.ClassFile.FieldType) [] (rmm 3 1 2752 42) #[(.ref x), u2] h0 [] (fun v h so => v = none ∧ Keep h0 h [x] ∧ Exa Z h x "com/example/onegate/onegate/gate/Answer" ∧ Fld Z h x "java/lang/Throwable" "detailMessage" "Ljava/lang/String;" u2 ∧ Fld Z h x "com/example/onegate/onegate/gate/Answer" "status" "Lcom/example/onegate/onegate/core/http/HttpResponse$Status;" .null ∧ Fld Z h x "com/example/onegate/onegate/gate/Answer" "content" "Lcom/example/onegate/onegate/core/http/HttpResponse$Content;" .null ∧ Fld Z h x "com/example/onegate/onegate/gate/Answer" "report" "Ljava/lang/String;" .null ∧ Fld Z h x "com/example/onegate/onegate/gate/Answer" "line" "Lcom/example/onegate/onegate/gate/Answer$Line;" .null) := by
  refine own_enter (plainFor_of_name pn_0) C.ew (F0 := fun m => mkF m 0 #[vR x, .val u2] []) (fun m => by rcases ref_cases r2 with rfl | ⟨_, rfl⟩ <;> rfl) ?_
  intro p e s m below meth c s₁ G hx hby hml hret hnm W0 S0 go fin
  have z0 := W0.sz
  show G s₁ (mkF m 0 #[vR x, .val u2] [])
  have lx : ltN x h0.size := Ex.lt
  refine go (g' := (mkF m 1 #[vR x, .val u2] [(.ref x)])) (fun _ k => XS.aloadN W0.here hx rfl (hb hby d0_0) rfl rfl k) ?_
  obtain ⟨T1, W1, st1⟩ := own_initO W0 hx (w77 C) (w19 C) (w20 C) (g := (mkF m 1 #[vR x, .val u2] [(.ref x)])) rfl (by rw [hml]; rfl) rfl (hb hby d0_1) (nle rfl) (Wd := 0) (nle rfl) (nle rfl)
  refine go (g' := (mkF m 4 #[vR x, .val u2] [])) (st1) ?_
  refine go (g' := (mkF m 6 #[vR x, .val u2] [(.ref x), (.ref x)])) (fun _ k => XS.aloadN W1.here hx rfl (hb hby d0_4) rfl rfl (XS.aloadN W1.here hx rfl (hb hby d0_5) rfl rfl k)) ?_
  obtain ⟨T2, h2, W2, R2, F2, st2⟩ := own_put W1 hx (host := "") (Or.inl (w78 C)) Via.refl T_cause Ex (Or.inl (w79 C)) (w55 C) (ty := (.object "java/lang/Throwable")) (by decide) rfl rfl (own_safeE W1 Ex (by decide) (by decide)) (by omega) (g := (mkF m 6 #[vR x, .val u2] [(.ref x), (.ref x)])) rfl rfl (hb hby d0_6)
  have z3 : h2.size = h0.size := R2.size
  have f4 := Ex.wr R2
  have f5 := Bx.other R2 (Or.inr (slot_ne (Or.inl (w110 C)) (Or.inl (w79 C)) (by decide) (t := (.object "java/lang/Object")) (t' := (.object "java/lang/Throwable")) (by decide) (by decide)))
  have f6 := T_stackTrace.other R2 (Or.inr (slot_ne (Or.inl (w82 C)) (Or.inl (w79 C)) (by decide) (t := (.array (.object "java/lang/StackTraceElement"))) (t' := (.object "java/lang/Throwable")) (by decide) (by decide)))
  have f7 := T_suppressedExceptions.other R2 (Or.inr (slot_ne (Or.inl (w85 C)) (Or.inl (w79 C)) (by decide) (t := (.object "java/util/List")) (t' := (.object "java/lang/Throwable")) (by decide) (by decide)))
  have f8 := Mx.other R2 (Or.inr (slot_ne (Or.inl (w109 C)) (Or.inl (w79 C)) (by decide) (t := (.object "java/lang/String")) (t' := (.object "java/lang/Throwable")) (by decide) (by decide)))
  have f9 := F_status.other R2 (Or.inr (slot_ne (Or.inr (w115 C)) (Or.inl (w79 C)) (by decide) (t := (.object "com/example/onegate/onegate/core/http/HttpResponse$Status")) (t' := (.object "java/lang/Throwable")) (by decide) (by decide)))
  have f10 := F_content.other R2 (Or.inr (slot_ne (Or.inr (w117 C)) (Or.inl (w79 C)) (by decide) (t := (.object "com/example/onegate/onegate/core/http/HttpResponse$Content")) (t' := (.object "java/lang/Throwable")) (by decide) (by decide)))
  have f11 := F_report.other R2 (Or.inr (slot_ne (Or.inr (w119 C)) (Or.inl (w79 C)) (by decide) (t := (.object "java/lang/String")) (t' := (.object "java/lang/Throwable")) (by decide) (by decide)))
  have f12 := F_line.other R2 (Or.inr (slot_ne (Or.inr (w121 C)) (Or.inl (w79 C)) (by decide) (t := (.object "com/example/onegate/onegate/gate/Answer$Line")) (t' := (.object "java/lang/Throwable")) (by decide) (by decide)))
  refine go (g' := (mkF m 9 #[vR x, .val u2] [])) (st2) ?_
  refine go (g' := (mkF m 10 #[vR x, .val u2] [(.ref x)])) (fun _ k => XS.aloadN W2.here hx rfl (hb hby d0_9) rfl rfl k) ?_
  obtain ⟨gt13, ot13⟩ := C.us
  obtain ⟨T14, W14, st14⟩ := own_getS W2 hx (host := "") (Or.inl (w80 C)) Via.refl ot13 (g := (mkF m 10 #[vR x, .val u2] [(.ref x)])) rfl (hb hby d0_10)
  refine go (g' := (mkF m 13 #[vR x, .val u2] [(.ref gt13), (.ref x)])) (st14) ?_
  obtain ⟨T15, h15, W15, R15, F15, st15⟩ := own_put W14 hx (host := "") (Or.inl (w81 C)) Via.refl f6 f4 (Or.inl (w82 C)) (w55 C) (ty := (.array (.object "java/lang/StackTraceElement"))) (by decide) rfl rfl (own_safeE W14 f4 (by decide) (by decide)) (by omega) (g := (mkF m 13 #[vR x, .val u2] [(.ref gt13), (.ref x)])) rfl rfl (hb hby d0_13)
  have z16 : h15.size = h2.size := R15.size
  have f17 := f4.wr R15
  have f18 := f5.other R15 (Or.inr (slot_ne (Or.inl (w110 C)) (Or.inl (w82 C)) (by decide) (t := (.object "java/lang/Object")) (t' := (.array (.object "java/lang/StackTraceElement"))) (by decide) (by decide)))
  have f19 := F2.other R15 (Or.inr (slot_ne (Or.inl (w79 C)) (Or.inl (w82 C)) (by decide) (t := (.object "java/lang/Throwable")) (t' := (.array (.object "java/lang/StackTraceElement"))) (by decide) (by decide)))
  have f20 := f7.other R15 (Or.inr (slot_ne (Or.inl (w85 C)) (Or.inl (w82 C)) (by decide) (t := (.object "java/util/List")) (t' := (.array (.object "java/lang/StackTraceElement"))) (by decide) (by decide)))
  have f21 := f8.other R15 (Or.inr (slot_ne (Or.inl (w109 C)) (Or.inl (w82 C)) (by decide) (t := (.object "java/lang/String")) (t' := (.array (.object "java/lang/StackTraceElement"))) (by decide) (by decide)))
  have f22 := f9.other R15 (Or.inr (slot_ne (Or.inr (w115 C)) (Or.inl (w82 C)) (by decide) (t := (.object "com/example/onegate/onegate/core/http/HttpResponse$Status")) (t' := (.array (.object "java/lang/StackTraceElement"))) (by decide) (by decide)))
  have f23 := f10.other R15 (Or.inr (slot_ne (Or.inr (w117 C)) (Or.inl (w82 C)) (by decide) (t := (.object "com/example/onegate/onegate/core/http/HttpResponse$Content")) (t' := (.array (.object "java/lang/StackTraceElement"))) (by decide) (by decide)))
  have f24 := f11.other R15 (Or.inr (slot_ne (Or.inr (w119 C)) (Or.inl (w82 C)) (by decide) (t := (.object "java/lang/String")) (t' := (.array (.object "java/lang/StackTraceElement"))) (by decide) (by decide)))
  have f25 := f12.other R15 (Or.inr (slot_ne (Or.inr (w121 C)) (Or.inl (w82 C)) (by decide) (t := (.object "com/example/onegate/onegate/gate/Answer$Line")) (t' := (.array (.object "java/lang/StackTraceElement"))) (by decide) (by decide)))
  refine go (g' := (mkF m 16 #[vR x, .val u2] [])) (st15) ?_
  refine go (g' := (mkF m 17 #[vR x, .val u2] [(.ref x)])) (fun _ k => XS.aloadN W15.here hx rfl (hb hby d0_16) rfl rfl k) ?_
  obtain ⟨gt26, ot26⟩ := C.ss
  obtain ⟨T27, W27, st27⟩ := own_getS W15 hx (host := "") (Or.inl (w83 C)) Via.refl ot26 (g := (mkF m 17 #[vR x, .val u2] [(.ref x)])) rfl (hb hby d0_17)
  refine go (g' := (mkF m 20 #[vR x, .val u2] [(.ref gt26), (.ref x)])) (st27) ?_
  obtain ⟨T28, h28, W28, R28, F28, st28⟩ := own_put W27 hx (host := "") (Or.inl (w84 C)) Via.refl f20 f17 (Or.inl (w85 C)) (w55 C) (ty := (.object "java/util/List")) (by decide) rfl rfl (own_safeE W27 f17 (by decide) (by decide)) (by omega) (g := (mkF m 20 #[vR x, .val u2] [(.ref gt26), (.ref x)])) rfl rfl (hb hby d0_20)
  have z29 : h28.size = h15.size := R28.size
  have f30 := f17.wr R28
  have f31 := f18.other R28 (Or.inr (slot_ne (Or.inl (w110 C)) (Or.inl (w85 C)) (by decide) (t := (.object "java/lang/Object")) (t' := (.object "java/util/List")) (by decide) (by decide)))
  have f32 := f19.other R28 (Or.inr (slot_ne (Or.inl (w79 C)) (Or.inl (w85 C)) (by decide) (t := (.object "java/lang/Throwable")) (t' := (.object "java/util/List")) (by decide) (by decide)))
  have f33 := F15.other R28 (Or.inr (slot_ne (Or.inl (w82 C)) (Or.inl (w85 C)) (by decide) (t := (.array (.object "java/lang/StackTraceElement"))) (t' := (.object "java/util/List")) (by decide) (by decide)))
  have f34 := f21.other R28 (Or.inr (slot_ne (Or.inl (w109 C)) (Or.inl (w85 C)) (by decide) (t := (.object "java/lang/String")) (t' := (.object "java/util/List")) (by decide) (by decide)))
  have f35 := f22.other R28 (Or.inr (slot_ne (Or.inr (w115 C)) (Or.inl (w85 C)) (by decide) (t := (.object "com/example/onegate/onegate/core/http/HttpResponse$Status")) (t' := (.object "java/util/List")) (by decide) (by decide)))
  have f36 := f23.other R28 (Or.inr (slot_ne (Or.inr (w117 C)) (Or.inl (w85 C)) (by decide) (t := (.object "com/example/onegate/onegate/core/http/HttpResponse$Content")) (t' := (.object "java/util/List")) (by decide) (by decide)))
  have f37 := f24.other R28 (Or.inr (slot_ne (Or.inr (w119 C)) (Or.inl (w85 C)) (by decide) (t := (.object "java/lang/String")) (t' := (.object "java/util/List")) (by decide) (by decide)))
  have f38 := f25.other R28 (Or.inr (slot_ne (Or.inr (w121 C)) (Or.inl (w85 C)) (by decide) (t := (.object "com/example/onegate/onegate/gate/Answer$Line")) (t' := (.object "java/util/List")) (by decide) (by decide)))
  refine go (g' := (mkF m 23 #[vR x, .val u2] [])) (st28) ?_
  refine go (g' := (mkF m 24 #[vR x, .val u2] [(.ref x)])) (fun _ k => XS.aloadN W28.here hx rfl (hb hby d0_23) rfl rfl k) ?_
  have f40 := Ux.wr R2
  have f41 := f40.wr R15
  have f42 := f41.wr R28
  obtain ⟨T39, h39, W39, K39, P39, st39⟩ := own_fill W28 hx (rc := "com/example/onegate/onegate/gate/Answer") (own_tww C) (w55 C) f30 f42 f31 f33 ot13 (own_safeE W28 f30 (by decide) (by decide)) (by omega) (g := (mkF m 24 #[vR x, .val u2] [(.ref x)])) rfl (by rw [hml]; rfl) rfl (hb hby d0_24) (nle rfl) (Wd := 0) (nle rfl) (nle rfl) (nle rfl) (nle rfl)
  have z43 : h28.size ≤ h39.size := K39.1
  have E39 := f30.keep K39
  have F39_detailMessage : Fld Z h39 x "java/lang/Throwable" "detailMessage" "Ljava/lang/String;" .null := P39 f34 (slot_ne (Or.inl (w110 C)) (Or.inl (w109 C)) (by decide) (t := (.object "java/lang/Object")) (t' := (.object "java/lang/String")) (by decide) (by decide)) (slot_ne (Or.inl (w111 C)) (Or.inl (w109 C)) (by decide) (t := .int) (t' := (.object "java/lang/String")) (by decide) (by decide)) (slot_ne (Or.inl (w82 C)) (Or.inl (w109 C)) (by decide) (t := (.array (.object "java/lang/StackTraceElement"))) (t' := (.object "java/lang/String")) (by decide) (by decide))
  have F39_status : Fld Z h39 x "com/example/onegate/onegate/gate/Answer" "status" "Lcom/example/onegate/onegate/core/http/HttpResponse$Status;" .null := P39 f35 (slot_ne (Or.inl (w110 C)) (Or.inr (w115 C)) (by decide) (t := (.object "java/lang/Object")) (t' := (.object "com/example/onegate/onegate/core/http/HttpResponse$Status")) (by decide) (by decide)) (slot_ne (Or.inl (w111 C)) (Or.inr (w115 C)) (by decide) (t := .int) (t' := (.object "com/example/onegate/onegate/core/http/HttpResponse$Status")) (by decide) (by decide)) (slot_ne (Or.inl (w82 C)) (Or.inr (w115 C)) (by decide) (t := (.array (.object "java/lang/StackTraceElement"))) (t' := (.object "com/example/onegate/onegate/core/http/HttpResponse$Status")) (by decide) (by decide))
  have F39_content : Fld Z h39 x "com/example/onegate/onegate/gate/Answer" "content" "Lcom/example/onegate/onegate/core/http/HttpResponse$Content;" .null := P39 f36 (slot_ne (Or.inl (w110 C)) (Or.inr (w117 C)) (by decide) (t := (.object "java/lang/Object")) (t' := (.object "com/example/onegate/onegate/core/http/HttpResponse$Content")) (by decide) (by decide)) (slot_ne (Or.inl (w111 C)) (Or.inr (w117 C)) (by decide) (t := .int) (t' := (.object "com/example/onegate/onegate/core/http/HttpResponse$Content")) (by decide) (by decide)) (slot_ne (Or.inl (w82 C)) (Or.inr (w117 C)) (by decide) (t := (.array (.object "java/lang/StackTraceElement"))) (t' := (.object "com/example/onegate/onegate/core/http/HttpResponse$Content")) (by decide) (by decide))
  have F39_report : Fld Z h39 x "com/example/onegate/onegate/gate/Answer" "report" "Ljava/lang/String;" .null := P39 f37 (slot_ne (Or.inl (w110 C)) (Or.inr (w119 C)) (by decide) (t := (.object "java/lang/Object")) (t' := (.object "java/lang/String")) (by decide) (by decide)) (slot_ne (Or.inl (w111 C)) (Or.inr (w119 C)) (by decide) (t := .int) (t' := (.object "java/lang/String")) (by decide) (by decide)) (slot_ne (Or.inl (w82 C)) (Or.inr (w119 C)) (by decide) (t := (.array (.object "java/lang/StackTraceElement"))) (t' := (.object "java/lang/String")) (by decide) (by decide))
  have F39_line : Fld Z h39 x "com/example/onegate/onegate/gate/Answer" "line" "Lcom/example/onegate/onegate/gate/Answer$Line;" .null := P39 f38 (slot_ne (Or.inl (w110 C)) (Or.inr (w121 C)) (by decide) (t := (.object "java/lang/Object")) (t' := (.object "com/example/onegate/onegate/gate/Answer$Line")) (by decide) (by decide)) (slot_ne (Or.inl (w111 C)) (Or.inr (w121 C)) (by decide) (t := .int) (t' := (.object "com/example/onegate/onegate/gate/Answer$Line")) (by decide) (by decide)) (slot_ne (Or.inl (w82 C)) (Or.inr (w121 C)) (by decide) (t := (.array (.object "java/lang/StackTraceElement"))) (t' := (.object "com/example/onegate/onegate/gate/Answer$Line")) (by decide) (by decide))
  refine go (g' := (mkF m 27 #[vR x, .val u2] [(.ref x)])) (st39) ?_
  refine go (g' := (mkF m 30 #[vR x, .val u2] [u2, (.ref x)])) (fun _ k => XS.pop W39.here hx rfl (hb hby d0_27) rfl rfl (XS.aloadN W39.here hx rfl (hb hby d0_28) rfl rfl (XS.aloadN W39.here hx rfl (hb hby d0_29) rfl r2 k))) ?_
  obtain ⟨T44, h44, W44, R44, F44, st44⟩ := own_put W39 hx (host := "") (Or.inl (w113 C)) Via.refl F39_detailMessage E39 (Or.inl (w109 C)) (w55 C) (ty := (.object "java/lang/String")) (by decide) (own_nrR r2 rfl) (own_ftR r2 rfl) (own_safeE W39 E39 (by decide) (by decide)) (by omega) (g := (mkF m 30 #[vR x, .val u2] [u2, (.ref x)])) rfl rfl (hb hby d0_30)
  have z45 : h44.size = h39.size := R44.size
  have f46 := E39.wr R44
  have f47 := F39_status.other R44 (Or.inr (slot_ne (Or.inr (w115 C)) (Or.inl (w109 C)) (by decide) (t := (.object "com/example/onegate/onegate/core/http/HttpResponse$Status")) (t' := (.object "java/lang/String")) (by decide) (by decide)))
  have f48 := F39_content.other R44 (Or.inr (slot_ne (Or.inr (w117 C)) (Or.inl (w109 C)) (by decide) (t := (.object "com/example/onegate/onegate/core/http/HttpResponse$Content")) (t' := (.object "java/lang/String")) (by decide) (by decide)))
  have f49 := F39_report.other R44 (Or.inr (slot_ne (Or.inr (w119 C)) (Or.inl (w109 C)) (by decide) (t := (.object "java/lang/String")) (t' := (.object "java/lang/String")) (by decide) (by decide)))
  have f50 := F39_line.other R44 (Or.inr (slot_ne (Or.inr (w121 C)) (Or.inl (w109 C)) (by decide) (t := (.object "com/example/onegate/onegate/gate/Answer$Line")) (t' := (.object "java/lang/String")) (by decide) (by decide)))
  refine go (g' := (mkF m 33 #[vR x, .val u2] [])) (st44) ?_
  have KK51 : Keep h0 h44 [x] := ((((((Keep.refl h0 [x]).wr R2 (Or.inl (own_mi (i := 0) rfl))).wr R15 (Or.inl (own_mi (i := 0) rfl))).wr R28 (Or.inl (own_mi (i := 0) rfl))).trans K39 (allS (Or.inl (own_mi (i := 0) rfl)) all0)).wr R44 (Or.inl (own_mi (i := 0) rfl)))
  exact fin (v := none) (so := []) W44 (nle rfl) (nle rfl) (⟨rfl, KK51, f46, F44, f47, f48, f49, f50⟩) (fun _ q => nomatch q) (fun _ => rfl) (own_retV W44 hx hret (hb hby d0_33))
theorem rm_exc (C : Cx Z a0) (h0 : Heap) (x : Addr) (Ex : Exa Z h0 x "com/example/onegate/onegate/gate/Answer") (Ux : Unt h0 x) (Bx : Fld Z h0 x "java/lang/Throwable" "backtrace" "Ljava/lang/Object;" .null) (T_cause : Fld Z h0 x "java/lang/Throwable" "cause" "Ljava/lang/Throwable;" .null) (T_stackTrace : Fld Z h0 x "java/lang/Throwable" "stackTrace" "[Ljava/lang/StackTraceElement;" .null) (T_suppressedExceptions : Fld Z h0 x "java/lang/Throwable" "suppressedExceptions" "Ljava/util/List;" .null) (Mx : Fld Z h0 x "java/lang/Throwable" "detailMessage" "Ljava/lang/String;" .null) (F_status : Fld Z h0 x "com/example/onegate/onegate/gate/Answer" "status" "Lcom/example/onegate/onegate/core/http/HttpResponse$Status;" .null) (F_content : Fld Z h0 x "com/example/onegate/onegate/gate/Answer" "content" "Lcom/example/onegate/onegate/core/http/HttpResponse$Content;" .null) (F_report : Fld Z h0 x "com/example/onegate/onegate/gate/Answer" "report" "Ljava/lang/String;" .null) (F_line : Fld Z h0 x "com/example/onegate/onegate/gate/Answer" "line" "Lcom/example/onegate/onegate/gate/Answer$Line;" .null) (nx : Z.heap.size ≤ x) (u2 : Value) (r2 : u2.isRef = true) :
    Ct l Z a0 own_EL (⟨"java/lang/Exception", "<init>", "(Ljava/lang/String;)V"⟩ : MethodName) jdk_59_method_2_code 2 (Option.none : Option Jvm.ClassFile.FieldType) [] (rmm 4 1 2752 55) #[(.ref x), u2] h0 [] (fun v h so => v = none ∧ Keep h0 h [x] ∧ Exa Z h x "com/example/onegate/onegate/gate/Answer" ∧ Fld Z h x "java/lang/Throwable" "detailMessage" "Ljava/lang/String;" u2 ∧ Fld Z h x "com/example/onegate/onegate/gate/Answer" "status" "Lcom/example/onegate/onegate/core/http/HttpResponse$Status;" .null ∧ Fld Z h x "com/example/onegate/onegate/gate/Answer" "content" "Lcom/example/onegate/onegate/core/http/HttpResponse$Content;" .null ∧ Fld Z h x "com/example/onegate/onegate/gate/Answer" "report" "Ljava/lang/String;" .null ∧ Fld Z h x "com/example/onegate/onegate/gate/Answer" "line" "Lcom/example/onegate/onegate/gate/Answer$Line;" .null) := by
  refine own_enter (plainFor_of_name pn_1) C.ew (F0 := fun m => mkF m 0 #[vR x, .val u2] []) (fun m => by rcases ref_cases r2 with rfl | ⟨_, rfl⟩ <;> rfl) ?_
  intro p e s m below meth c s₁ G hx hby hml hret hnm W0 S0 go fin
  have z0 := W0.sz
  show G s₁ (mkF m 0 #[vR x, .val u2] [])
  have lx : ltN x h0.size := Ex.lt
  refine go (g' := (mkF m 2 #[vR x, .val u2] [u2, (.ref x)])) (fun _ k => XS.aloadN W0.here hx rfl (hb hby d1_0) rfl rfl (XS.aloadN W0.here hx rfl (hb hby d1_1) rfl r2 k)) ?_
  obtain ⟨v1, so1, vm1, T1, h1, W1, C1, q1, hso1, st1⟩ := own_special W0 hx (y := (⟨"java/lang/Throwable", "<init>", "(Ljava/lang/String;)V"⟩ : MethodName)) rfl (w71 C) (w72 C) (w75 C) (w76 C) (by decide) (rm_thr C h0 x Ex Ux Bx T_cause T_stackTrace T_suppressedExceptions Mx F_status F_content F_report F_line (by omega) u2 r2) (fun _ q => nomatch q) (Wd := 0) (nle rfl) (nle rfl) (nle rfl) (nle rfl) (g := (mkF m 2 #[vR x, .val u2] [u2, (.ref x)])) rfl (by rw [hml]; rfl) (a := x) (argsL := [u2]) (rest := []) (lenOf pd_0 rfl) rfl rfl (nle rfl) (hb hby d1_2)
  obtain ⟨rfl, K1, E1, M1, F1_status, F1_content, F1_report, F1_line⟩ := q1
  have z2 : h0.size ≤ h1.size := K1.1
  refine go (g' := (mkF m 5 #[vR x, .val u2] [])) (st1) ?_
  have KK3 : Keep h0 h1 [x] := ((Keep.refl h0 [x]).trans K1 (allS (Or.inl (own_mi (i := 0) rfl)) all0))
  exact fin (v := none) (so := []) W1 (nle rfl) (nle rfl) (⟨rfl, KK3, E1, M1, F1_status, F1_content, F1_report, F1_line⟩) (fun _ q => nomatch q) (fun _ => rfl) (own_retV W1 hx hret (hb hby d1_5))
theorem rm_ans5 (C : Cx Z a0) (h0 : Heap) (x : Addr) (Ex : Exa Z h0 x "com/example/onegate/onegate/gate/Answer") (Ux : Unt h0 x) (Bx : Fld Z h0 x "java/lang/Throwable" "backtrace" "Ljava/lang/Object;" .null) (T_cause : Fld Z h0 x "java/lang/Throwable" "cause" "Ljava/lang/Throwable;" .null) (T_stackTrace : Fld Z h0 x "java/lang/Throwable" "stackTrace" "[Ljava/lang/StackTraceElement;" .null) (T_suppressedExceptions : Fld Z h0 x "java/lang/Throwable" "suppressedExceptions" "Ljava/util/List;" .null) (Mx : Fld Z h0 x "java/lang/Throwable" "detailMessage" "Ljava/lang/String;" .null) (F_status : Fld Z h0 x "com/example/onegate/onegate/gate/Answer" "status" "Lcom/example/onegate/onegate/core/http/HttpResponse$Status;" .null) (F_content : Fld Z h0 x "com/example/onegate/onegate/gate/Answer" "content" "Lcom/example/onegate/onegate/core/http/HttpResponse$Content;" .null) (F_report : Fld Z h0 x "com/example/onegate/onegate/gate/Answer" "report" "Ljava/lang/String;" .null) (F_line : Fld Z h0 x "com/example/onegate/onegate/gate/Answer" "line" "Lcom/example/onegate/onegate/gate/Answer$Line;" .null) (nx : Z.heap.size ≤ x) (u1 : Value) (u2 : Value) (u3 : Value) (u4 : Value) (u5 : Value) (r1 : u1.isRef = true) (r2 : u2.isRef = true) (r3 : u3.isRef = true) (r4 : u4.isRef = true) (r5 : u5.isRef = true) :
    Ct l Z a0 own_EL (⟨"com/example/onegate/onegate/gate/Answer", "<init>", "(Lcom/example/onegate/onegate/core/http/HttpResponse$Status;Ljava/lang/String;Lcom/example/onegate/onegate/core/http/HttpResponse$Content;Ljava/lang/String;Lcom/example/onegate/onegate/gate/Answer$Line;)V"⟩ : MethodName) prog_48_method_4_code 6 (Option.none : Option Jvm.ClassFile.FieldType) [] (rmm 5 1 2752 68) #[(.ref x), u1, u2, u3, u4, u5] h0 [] (fun v h so => v = none ∧ Keep h0 h [x] ∧ Exa Z h x "com/example/onegate/onegate/gate/Answer" ∧ Fld Z h x "java/lang/Throwable" "detailMessage" "Ljava/lang/String;" u2 ∧ Fld Z h x "com/example/onegate/onegate/gate/Answer" "status" "Lcom/example/onegate/onegate/core/http/HttpResponse$Status;" u1 ∧ Fld Z h x "com/example/onegate/onegate/gate/Answer" "content" "Lcom/example/onegate/onegate/core/http/HttpResponse$Content;" u3 ∧ Fld Z h x "com/example/onegate/onegate/gate/Answer" "line" "Lcom/example/onegate/onegate/gate/Answer$Line;" u5) := by
  refine own_enter (plainFor_of_name pn_2) C.ew (F0 := fun m => mkF m 0 #[vR x, .val u1, .val u2, .val u3, .val u4, .val u5] []) (fun m => by rcases ref_cases r1 with rfl | ⟨_, rfl⟩ <;> rcases ref_cases r2 with rfl | ⟨_, rfl⟩ <;> rcases ref_cases r3 with rfl | ⟨_, rfl⟩ <;> rcases ref_cases r4 with rfl | ⟨_, rfl⟩ <;> rcases ref_cases r5 with rfl | ⟨_, rfl⟩ <;> rfl) ?_
  intro p e s m below meth c s₁ G hx hby hml hret hnm W0 S0 go fin
  have z0 := W0.sz
  show G s₁ (mkF m 0 #[vR x, .val u1, .val u2, .val u3, .val u4, .val u5] [])
  have lx : ltN x h0.size := Ex.lt
  refine go (g' := (mkF m 2 #[vR x, .val u1, .val u2, .val u3, .val u4, .val u5] [u2, (.ref x)])) (fun _ k => XS.aloadN W0.here hx rfl (hb hby d2_0) rfl rfl (XS.aloadN W0.here hx rfl (hb hby d2_1) rfl r2 k)) ?_
  obtain ⟨v1, so1, vm1, T1, h1, W1, C1, q1, hso1, st1⟩ := own_special W0 hx (y := (⟨"java/lang/Exception", "<init>", "(Ljava/lang/String;)V"⟩ : MethodName)) rfl (w66 C) (w67 C) (w69 C) (w70 C) (by decide) (rm_exc C h0 x Ex Ux Bx T_cause T_stackTrace T_suppressedExceptions Mx F_status F_content F_report F_line (by omega) u2 r2) (fun _ q => nomatch q) (Wd := 0) (nle rfl) (nle rfl) (nle rfl) (nle rfl) (g := (mkF m 2 #[vR x, .val u1, .val u2, .val u3, .val u4, .val u5] [u2, (.ref x)])) rfl (by rw [hml]; rfl) (a := x) (argsL := [u2]) (rest := []) (lenOf pd_0 rfl) rfl rfl (nle rfl) (hb hby d2_2)
  obtain ⟨rfl, K1, E1, M1, F1_status, F1_content, F1_report, F1_line⟩ := q1
  have z2 : h0.size ≤ h1.size := K1.1
  refine go (g' := (mkF m 5 #[vR x, .val u1, .val u2, .val u3, .val u4, .val u5] [])) (st1) ?_
  refine go (g' := (mkF m 7 #[vR x, .val u1, .val u2, .val u3, .val u4, .val u5] [u1, (.ref x)])) (fun _ k => XS.aloadN W1.here hx rfl (hb hby d2_5) rfl rfl (XS.aloadN W1.here hx rfl (hb hby d2_6) rfl r1 k)) ?_
  obtain ⟨T3, h3, W3, R3, F3, st3⟩ := own_put W1 hx (host := "") (Or.inl (w114 C)) Via.refl F1_status E1 (Or.inr ⟨(w115 C), rfl, hnm⟩) (w55 C) (ty := (.object "com/example/onegate/onegate/core/http/HttpResponse$Status")) (by decide) (own_nrR r1 rfl) (own_ftR r1 rfl) (own_safeE W1 E1 (by decide) (by decide)) (by omega) (g := (mkF m 7 #[vR x, .val u1, .val u2, .val u3, .val u4, .val u5] [u1, (.ref x)])) rfl rfl (hb hby d2_7)
  have z4 : h3.size = h1.size := R3.size
  have f5 := E1.wr R3
  have f6 := M1.other R3 (Or.inr (slot_ne (Or.inl (w109 C)) (Or.inr (w115 C)) (by decide) (t := (.object "java/lang/String")) (t' := (.object "com/example/onegate/onegate/core/http/HttpResponse$Status")) (by decide) (by decide)))
  have f7 := F1_content.other R3 (Or.inr (slot_ne (Or.inr (w117 C)) (Or.inr (w115 C)) (by decide) (t := (.object "com/example/onegate/onegate/core/http/HttpResponse$Content")) (t' := (.object "com/example/onegate/onegate/core/http/HttpResponse$Status")) (by decide) (by decide)))
  have f8 := F1_report.other R3 (Or.inr (slot_ne (Or.inr (w119 C)) (Or.inr (w115 C)) (by decide) (t := (.object "java/lang/String")) (t' := (.object "com/example/onegate/onegate/core/http/HttpResponse$Status")) (by decide) (by decide)))
  have f9 := F1_line.other R3 (Or.inr (slot_ne (Or.inr (w121 C)) (Or.inr (w115 C)) (by decide) (t := (.object "com/example/onegate/onegate/gate/Answer$Line")) (t' := (.object "com/example/onegate/onegate/core/http/HttpResponse$Status")) (by decide) (by decide)))
  refine go (g' := (mkF m 10 #[vR x, .val u1, .val u2, .val u3, .val u4, .val u5] [])) (st3) ?_
  refine go (g' := (mkF m 12 #[vR x, .val u1, .val u2, .val u3, .val u4, .val u5] [u3, (.ref x)])) (fun _ k => XS.aloadN W3.here hx rfl (hb hby d2_10) rfl rfl (XS.aloadN W3.here hx rfl (hb hby d2_11) rfl r3 k)) ?_
  obtain ⟨T10, h10, W10, R10, F10, st10⟩ := own_put W3 hx (host := "") (Or.inl (w116 C)) Via.refl f7 f5 (Or.inr ⟨(w117 C), rfl, hnm⟩) (w55 C) (ty := (.object "com/example/onegate/onegate/core/http/HttpResponse$Content")) (by decide) (own_nrR r3 rfl) (own_ftR r3 rfl) (own_safeE W3 f5 (by decide) (by decide)) (by omega) (g := (mkF m 12 #[vR x, .val u1, .val u2, .val u3, .val u4, .val u5] [u3, (.ref x)])) rfl rfl (hb hby d2_12)
  have z11 : h10.size = h3.size := R10.size
  have f12 := f5.wr R10
  have f13 := f6.other R10 (Or.inr (slot_ne (Or.inl (w109 C)) (Or.inr (w117 C)) (by decide) (t := (.object "java/lang/String")) (t' := (.object "com/example/onegate/onegate/core/http/HttpResponse$Content")) (by decide) (by decide)))
  have f14 := F3.other R10 (Or.inr (slot_ne (Or.inr (w115 C)) (Or.inr (w117 C)) (by decide) (t := (.object "com/example/onegate/onegate/core/http/HttpResponse$Status")) (t' := (.object "com/example/onegate/onegate/core/http/HttpResponse$Content")) (by decide) (by decide)))
  have f15 := f8.other R10 (Or.inr (slot_ne (Or.inr (w119 C)) (Or.inr (w117 C)) (by decide) (t := (.object "java/lang/String")) (t' := (.object "com/example/onegate/onegate/core/http/HttpResponse$Content")) (by decide) (by decide)))
  have f16 := f9.other R10 (Or.inr (slot_ne (Or.inr (w121 C)) (Or.inr (w117 C)) (by decide) (t := (.object "com/example/onegate/onegate/gate/Answer$Line")) (t' := (.object "com/example/onegate/onegate/core/http/HttpResponse$Content")) (by decide) (by decide)))
  refine go (g' := (mkF m 15 #[vR x, .val u1, .val u2, .val u3, .val u4, .val u5] [])) (st10) ?_
  refine go (g' := (mkF m 18 #[vR x, .val u1, .val u2, .val u3, .val u4, .val u5] [u4, (.ref x)])) (fun _ k => XS.aloadN W10.here hx rfl (hb hby d2_15) rfl rfl (XS.aload W10.here hx rfl (hb hby d2_16) rfl r4 k)) ?_
  obtain ⟨T17, h17, W17, R17, F17, st17⟩ := own_put W10 hx (host := "") (Or.inl (w118 C)) Via.refl f15 f12 (Or.inr ⟨(w119 C), rfl, hnm⟩) (w55 C) (ty := (.object "java/lang/String")) (by decide) (own_nrR r4 rfl) (own_ftR r4 rfl) (own_safeE W10 f12 (by decide) (by decide)) (by omega) (g := (mkF m 18 #[vR x, .val u1, .val u2, .val u3, .val u4, .val u5] [u4, (.ref x)])) rfl rfl (hb hby d2_18)
  have z18 : h17.size = h10.size := R17.size
  have f19 := f12.wr R17
  have f20 := f13.other R17 (Or.inr (slot_ne (Or.inl (w109 C)) (Or.inr (w119 C)) (by decide) (t := (.object "java/lang/String")) (t' := (.object "java/lang/String")) (by decide) (by decide)))
  have f21 := f14.other R17 (Or.inr (slot_ne (Or.inr (w115 C)) (Or.inr (w119 C)) (by decide) (t := (.object "com/example/onegate/onegate/core/http/HttpResponse$Status")) (t' := (.object "java/lang/String")) (by decide) (by decide)))
  have f22 := F10.other R17 (Or.inr (slot_ne (Or.inr (w117 C)) (Or.inr (w119 C)) (by decide) (t := (.object "com/example/onegate/onegate/core/http/HttpResponse$Content")) (t' := (.object "java/lang/String")) (by decide) (by decide)))
  have f23 := f16.other R17 (Or.inr (slot_ne (Or.inr (w121 C)) (Or.inr (w119 C)) (by decide) (t := (.object "com/example/onegate/onegate/gate/Answer$Line")) (t' := (.object "java/lang/String")) (by decide) (by decide)))
  refine go (g' := (mkF m 21 #[vR x, .val u1, .val u2, .val u3, .val u4, .val u5] [])) (st17) ?_
  refine go (g' := (mkF m 24 #[vR x, .val u1, .val u2, .val u3, .val u4, .val u5] [u5, (.ref x)])) (fun _ k => XS.aloadN W17.here hx rfl (hb hby d2_21) rfl rfl (XS.aload W17.here hx rfl (hb hby d2_22) rfl r5 k)) ?_
  obtain ⟨T24, h24, W24, R24, F24, st24⟩ := own_put W17 hx (host := "") (Or.inl (w120 C)) Via.refl f23 f19 (Or.inr ⟨(w121 C), rfl, hnm⟩) (w55 C) (ty := (.object "com/example/onegate/onegate/gate/Answer$Line")) (by decide) (own_nrR r5 rfl) (own_ftR r5 rfl) (own_safeE W17 f19 (by decide) (by decide)) (by omega) (g := (mkF m 24 #[vR x, .val u1, .val u2, .val u3, .val u4, .val u5] [u5, (.ref x)])) rfl rfl (hb hby d2_24)
  have z25 : h24.size = h17.size := R24.size
  have f26 := f19.wr R24
  have f27 := f20.other R24 (Or.inr (slot_ne (Or.inl (w109 C)) (Or.inr (w121 C)) (by decide) (t := (.object "java/lang/String")) (t' := (.object "com/example/onegate/onegate/gate/Answer$Line")) (by decide) (by decide)))
  have f28 := f21.other R24 (Or.inr (slot_ne (Or.inr (w115 C)) (Or.inr (w121 C)) (by decide) (t := (.object "com/example/onegate/onegate/core/http/HttpResponse$Status")) (t' := (.object "com/example/onegate/onegate/gate/Answer$Line")) (by decide) (by decide)))
  have f29 := f22.other R24 (Or.inr (slot_ne (Or.inr (w117 C)) (Or.inr (w121 C)) (by decide) (t := (.object "com/example/onegate/onegate/core/http/HttpResponse$Content")) (t' := (.object "com/example/onegate/onegate/gate/Answer$Line")) (by decide) (by decide)))
  have f30 := F17.other R24 (Or.inr (slot_ne (Or.inr (w119 C)) (Or.inr (w121 C)) (by decide) (t := (.object "java/lang/String")) (t' := (.object "com/example/onegate/onegate/gate/Answer$Line")) (by decide) (by decide)))
  refine go (g' := (mkF m 27 #[vR x, .val u1, .val u2, .val u3, .val u4, .val u5] [])) (st24) ?_
  have KK31 : Keep h0 h24 [x] := ((((((Keep.refl h0 [x]).trans K1 (allS (Or.inl (own_mi (i := 0) rfl)) all0)).wr R3 (Or.inl (own_mi (i := 0) rfl))).wr R10 (Or.inl (own_mi (i := 0) rfl))).wr R17 (Or.inl (own_mi (i := 0) rfl))).wr R24 (Or.inl (own_mi (i := 0) rfl)))
  exact fin (v := none) (so := []) W24 (nle rfl) (nle rfl) (⟨rfl, KK31, f26, f27, f28, f29, F24⟩) (fun _ q => nomatch q) (fun _ => rfl) (own_retV W24 hx hret (hb hby d2_27))
theorem rm_record (C : Cx Z a0) (h0 : Heap) (x : Addr) :
    Ct l Z a0 own_EL (⟨"java/lang/Record", "<init>", "()V"⟩ : MethodName) jdk_30_method_1_code 1 (Option.none : Option Jvm.ClassFile.FieldType) [] (rmm 1 0 0 12) #[(.ref x)] h0 [] (fun v h so => v = none ∧ h0 = h) := by
  refine own_enter (plainFor_of_name pn_3) C.ew (F0 := fun m => mkF m 0 #[vR x] []) (fun m => by first | (simp [entryFrame, mkF, argsToLocals, Value.category]; done) | rfl) ?_
  intro p e s m below meth c s₁ G hx hby hml hret hnm W0 S0 go fin
  have z0 := W0.sz
  show G s₁ (mkF m 0 #[vR x] [])
  refine go (g' := (mkF m 1 #[vR x] [(.ref x)])) (fun _ k => XS.aloadN W0.here hx rfl (hb hby d3_0) rfl rfl k) ?_
  obtain ⟨T1, W1, st1⟩ := own_initO W0 hx (w48 C) (w19 C) (w20 C) (g := (mkF m 1 #[vR x] [(.ref x)])) rfl (by rw [hml]; rfl) rfl (hb hby d3_1) (nle rfl) (Wd := 0) (nle rfl) (nle rfl)
  refine go (g' := (mkF m 4 #[vR x] [])) (st1) ?_
  exact fin (v := none) (so := []) W1 (nle rfl) (nle rfl) (⟨rfl, rfl⟩) (fun _ q => nomatch q) (fun _ => rfl) (own_retV W1 hx hret (hb hby d3_4))
theorem rm_cont (C : Cx Z a0) (h0 : Heap) (x : Addr) (u0 : Value) (r0 : u0.isRef = true) (u1 : Value) (r1 : u1.isRef = true) (F_type : Fld Z h0 x "com/example/onegate/onegate/core/http/HttpResponse$Content" "type" "Ljava/lang/String;" .null) (F_bytes : Fld Z h0 x "com/example/onegate/onegate/core/http/HttpResponse$Content" "bytes" "[B" .null) (Ex : Exa Z h0 x "com/example/onegate/onegate/core/http/HttpResponse$Content") (nx : Z.heap.size ≤ x) :
    Ct l Z a0 own_EL (⟨"com/example/onegate/onegate/core/http/HttpResponse$Content", "<init>", "(Ljava/lang/String;[B)V"⟩ : MethodName) prog_44_method_1_code 3 (Option.none : Option Jvm.ClassFile.FieldType) [] (rmm 2 0 0 24) #[(.ref x), u0, u1] h0 [] (fun v h so => v = none ∧ Keep h0 h [x] ∧ Exa Z h x "com/example/onegate/onegate/core/http/HttpResponse$Content" ∧ Fld Z h x "com/example/onegate/onegate/core/http/HttpResponse$Content" "type" "Ljava/lang/String;" u0 ∧ Fld Z h x "com/example/onegate/onegate/core/http/HttpResponse$Content" "bytes" "[B" u1) := by
  refine own_enter (plainFor_of_name pn_4) C.ew (F0 := fun m => mkF m 0 #[vR x, .val u0, .val u1] []) (fun m => by rcases ref_cases r0 with rfl | ⟨_, rfl⟩ <;> rcases ref_cases r1 with rfl | ⟨_, rfl⟩ <;> rfl) ?_
  intro p e s m below meth c s₁ G hx hby hml hret hnm W0 S0 go fin
  have z0 := W0.sz
  show G s₁ (mkF m 0 #[vR x, .val u0, .val u1] [])
  have lx : ltN x h0.size := Ex.lt
  refine go (g' := (mkF m 1 #[vR x, .val u0, .val u1] [(.ref x)])) (fun _ k => XS.aloadN W0.here hx rfl (hb hby d4_0) rfl rfl k) ?_
  obtain ⟨v1, so1, vm1, T1, h1, W1, C1, q1, hso1, st1⟩ := own_special W0 hx (y := (⟨"java/lang/Record", "<init>", "()V"⟩ : MethodName)) rfl (w43 C) (w44 C) (w46 C) (w47 C) (by decide) (rm_record C h0 x) (fun _ q => nomatch q) (Wd := 0) (nle rfl) (nle rfl) (nle rfl) (nle rfl) (g := (mkF m 1 #[vR x, .val u0, .val u1] [(.ref x)])) rfl (by rw [hml]; rfl) (a := x) (argsL := []) (rest := []) (lenOf pd_1 rfl) rfl rfl (nle rfl) (hb hby d4_1)
  obtain ⟨rfl, rfl⟩ := q1
  refine go (g' := (mkF m 4 #[vR x, .val u0, .val u1] [])) (st1) ?_
  refine go (g' := (mkF m 6 #[vR x, .val u0, .val u1] [u0, (.ref x)])) (fun _ k => XS.aloadN W1.here hx rfl (hb hby d4_4) rfl rfl (XS.aloadN W1.here hx rfl (hb hby d4_5) rfl r0 k)) ?_
  obtain ⟨T2, h2, W2, R2, F2, st2⟩ := own_put W1 hx (host := "") (Or.inl (w49 C)) Via.refl F_type Ex (Or.inr ⟨(w50 C), rfl, hnm⟩) (w38 C) (ty := (.object "java/lang/String")) (by decide) (own_nrR r0 rfl) (own_ftR r0 rfl) (own_safeE W1 Ex (by decide) (by decide)) (by omega) (g := (mkF m 6 #[vR x, .val u0, .val u1] [u0, (.ref x)])) rfl rfl (hb hby d4_6)
  have z3 : h2.size = h0.size := R2.size
  have f4 := F_bytes.other R2 (Or.inr (slot_ne (Or.inr (w52 C)) (Or.inr (w50 C)) (by decide) (t := (.array .byte)) (t' := (.object "java/lang/String")) (by decide) (by decide)))
  have f5 := Ex.wr R2
  refine go (g' := (mkF m 9 #[vR x, .val u0, .val u1] [])) (st2) ?_
  refine go (g' := (mkF m 11 #[vR x, .val u0, .val u1] [u1, (.ref x)])) (fun _ k => XS.aloadN W2.here hx rfl (hb hby d4_9) rfl rfl (XS.aloadN W2.here hx rfl (hb hby d4_10) rfl r1 k)) ?_
  obtain ⟨T6, h6, W6, R6, F6, st6⟩ := own_put W2 hx (host := "") (Or.inl (w51 C)) Via.refl f4 f5 (Or.inr ⟨(w52 C), rfl, hnm⟩) (w38 C) (ty := (.array .byte)) (by decide) (own_nrR r1 rfl) (own_ftR r1 rfl) (own_safeE W2 f5 (by decide) (by decide)) (by omega) (g := (mkF m 11 #[vR x, .val u0, .val u1] [u1, (.ref x)])) rfl rfl (hb hby d4_11)
  have z7 : h6.size = h2.size := R6.size
  have f8 := F2.other R6 (Or.inr (slot_ne (Or.inr (w50 C)) (Or.inr (w52 C)) (by decide) (t := (.object "java/lang/String")) (t' := (.array .byte)) (by decide) (by decide)))
  have f9 := f5.wr R6
  refine go (g' := (mkF m 14 #[vR x, .val u0, .val u1] [])) (st6) ?_
  have KK10 : Keep h0 h6 [x] := (((Keep.refl h0 [x]).wr R2 (Or.inl (own_mi (i := 0) rfl))).wr R6 (Or.inl (own_mi (i := 0) rfl)))
  exact fin (v := none) (so := []) W6 (nle rfl) (nle rfl) (⟨rfl, KK10, f9, f8, F6⟩) (fun _ q => nomatch q) (fun _ => rfl) (own_retV W6 hx hret (hb hby d4_14))
theorem rm_asbinit (C : Cx Z a0) (h0 : Heap) (x : Addr) (Ex : Exa Z h0 x "java/lang/StringBuilder") (Fv : Fld Z h0 x "java/lang/AbstractStringBuilder" "value" "[B" .null) (Fc : Fld Z h0 x "java/lang/AbstractStringBuilder" "coder" "B" vZ) (Fn : Fld Z h0 x "java/lang/AbstractStringBuilder" "count" "I" vZ) (nx : Z.heap.size ≤ x) :
    Ct l Z a0 own_EL (⟨"java/lang/AbstractStringBuilder", "<init>", "(I)V"⟩ : MethodName) jdk_68_method_2_code 2 (Option.none : Option Jvm.ClassFile.FieldType) [] (rmm 1 1 16 12) #[(.ref x), (.int (16 : Int32))] h0 [] (fun v h so => v = none ∧ Keep h0 h [x] ∧ ∃ (t : Addr) (kt : ClassId), so = [t] ∧ h0.size ≤ t ∧ Bl Z h x t kt []) := by
  refine own_enter (plainFor_of_name pn_5) C.ew (F0 := fun m => mkF m 0 #[vR x, vI (16 : Int32)] []) (fun m => by first | (simp [entryFrame, mkF, argsToLocals, Value.category]; done) | rfl) ?_
  intro p e s m below meth c s₁ G hx hby hml hret hnm W0 S0 go fin
  have z0 := W0.sz
  show G s₁ (mkF m 0 #[vR x, vI (16 : Int32)] [])
  have lx : ltN x h0.size := Ex.lt
  refine go (g' := (mkF m 1 #[vR x, vI (16 : Int32)] [(.ref x)])) (fun _ k => XS.aloadN W0.here hx rfl (hb hby d5_0) rfl rfl k) ?_
  obtain ⟨T1, W1, st1⟩ := own_initO W0 hx (w153 C) (w19 C) (w20 C) (g := (mkF m 1 #[vR x, vI (16 : Int32)] [(.ref x)])) rfl (by rw [hml]; rfl) rfl (hb hby d5_1) (nle rfl) (Wd := 0) (nle rfl) (nle rfl)
  refine go (g' := (mkF m 4 #[vR x, vI (16 : Int32)] [])) (st1) ?_
  obtain ⟨gCS, OCS, nCS⟩ := C.cs
  obtain ⟨T2, W2, st2⟩ := own_getS W1 hx (host := "") (Or.inl (w154 C)) Via.refl OCS (g := (mkF m 4 #[vR x, vI (16 : Int32)] [])) rfl (hb hby d5_4)
  refine go (g' := (mkF m 7 #[vR x, vI (16 : Int32)] [(.int gCS)])) (st2) ?_
  refine go (g' := (mkF m 12 #[vR x, vI (16 : Int32)] [(.int (16 : Int32)), (.ref x)])) (fun _ k => XS.ifNo W2.here hx rfl (hb hby d5_7) rfl ((if0 _ _).trans (feq nCS).1) (XS.aloadN W2.here hx rfl (hb hby d5_10) rfl rfl (XS.iloadN W2.here hx rfl (hb hby d5_11) rfl k))) ?_
  obtain ⟨x3, T3, h3, k3, g3, W3, E3, A3, st3⟩ := own_newP W2 hx (aty := .byte) (w26 C) (g := (mkF m 12 #[vR x, vI (16 : Int32)] [(.int (16 : Int32)), (.ref x)])) rfl (hb hby d5_12) rfl (by decide) (cap := 16) (by decide) (nle rfl) (nle rfl) (nle rfl)
  have z4 : h0.size ≤ h3.size := E3.1
  have l3 : ltN x3 h3.size := A3.lt
  have V3 : Arv Z h3 x3 k3 .byte (16 : Int32) [vZ, vZ, vZ, vZ, vZ, vZ, vZ, vZ, vZ, vZ, vZ, vZ, vZ, vZ, vZ, vZ] vZ := A3.pad (pad_rep [] vZ 16)
  refine go (g' := (mkF m 14 #[vR x, vI (16 : Int32)] [(.ref x3), (.ref x)])) (st3) ?_
  have X5 : Ext h0 h3 := own_xt (own_xr h0) E3
  have f6 := Fv.ext X5
  have f7 := Ex.ext X5
  obtain ⟨T8, h8, W8, R8, F8, st8⟩ := own_put W3 hx (host := "") (Or.inl (w155 C)) Via.refl f6 f7 (Or.inl (w156 C)) (w142 C) (ty := (.array .byte)) (by decide) rfl rfl (own_safeE W3 f7 (by decide) (by decide)) (by omega) (g := (mkF m 14 #[vR x, vI (16 : Int32)] [(.ref x3), (.ref x)])) rfl rfl (hb hby d5_14)
  have f9 := Fc.ext X5
  have f10 := Fn.ext X5
  have z11 : h8.size = h3.size := R8.size
  have f12 := f7.wr R8
  have f13 := f9.other R8 (Or.inr (slot_ne (Or.inl (w158 C)) (Or.inl (w156 C)) (by decide) (t := .byte) (t' := (.array .byte)) (by decide) (by decide)))
  have f14 := f10.other R8 (Or.inr (slot_ne (Or.inl (w180 C)) (Or.inl (w156 C)) (by decide) (t := .int) (t' := (.array .byte)) (by decide) (by decide)))
  have S8_x3 : Safe Z own_EL s.vm h8 x3 := Safe.wr R8 (own_safeE W3 f7 (by decide) (by decide)) W3.ch (own_safeB W2 X5 (by omega))
  refine go (g' := (mkF m 17 #[vR x, vI (16 : Int32)] [])) (st8) ?_
  refine go (g' := (mkF m 19 #[vR x, vI (16 : Int32)] [vZ, (.ref x)])) (fun _ k => XS.aloadN W8.here hx rfl (hb hby d5_17) rfl rfl (XS.iconst W8.here hx rfl (hb hby d5_18) k)) ?_
  obtain ⟨T15, h15, W15, R15, F15, st15⟩ := own_put W8 hx (host := "") (Or.inl (w157 C)) Via.refl f13 f12 (Or.inl (w158 C)) (w142 C) (ty := .byte) (by decide) rfl (by decide) (own_safeE W8 f12 (by decide) (by decide)) (by omega) (g := (mkF m 19 #[vR x, vI (16 : Int32)] [vZ, (.ref x)])) rfl rfl (hb hby d5_19)
  have z16 : h15.size = h8.size := R15.size
  have f17 := f12.wr R15
  have f18 := F8.other R15 (Or.inr (slot_ne (Or.inl (w156 C)) (Or.inl (w158 C)) (by decide) (t := (.array .byte)) (t' := .byte) (by decide) (by decide)))
  have f19 := f14.other R15 (Or.inr (slot_ne (Or.inl (w180 C)) (Or.inl (w158 C)) (by decide) (t := .int) (t' := .byte) (by decide) (by decide)))
  have S15_x3 : Safe Z own_EL s.vm h15 x3 := Safe.wr R15 (own_safeE W8 f12 (by decide) (by decide)) W8.ch S8_x3
  refine go (g' := (mkF m 22 #[vR x, vI (16 : Int32)] [])) (st15) ?_
  refine go (g' := (mkF m 38 #[vR x, vI (16 : Int32)] [])) (fun _ k => XS.goto W15.here hx rfl (pc0 := 22) (pc' := 38) rfl (hb hby d5_22) (by decide) (by decide) k) ?_
  have l22 : ltN x3 h3.size := V3.lt
  have f21 := V3.other R8 (one (by omega))
  have l24 : ltN x3 h3.size := V3.lt
  have f23 := f21.other R15 (one (by omega))
  have PV20 : Arv Z h15 x3 k3 .byte (16 : Int32) (([] : List Int32).map Value.int) vZ := Arv.pad (vs' := []) f23 (fun i => (pad_rep [] vZ 16 i).symm)
  have KK25 : Keep h0 h15 [x] := ((((Keep.refl h0 [x]).ext E3).wr R8 (Or.inl (own_mi (i := 0) rfl))).wr R15 (Or.inl (own_mi (i := 0) rfl)))
  exact fin (v := none) (so := [x3]) W15 (nle rfl) (nle rfl) (⟨rfl, KK25, x3, _, rfl, by omega, ⟨f17, f18, F15, f19, PV20⟩⟩) (allS S15_x3 all0) (fun _ => rfl) (own_retV W15 hx hret (hb hby d5_38))
theorem rm_sbinit (C : Cx Z a0) (h0 : Heap) (x : Addr) (Ex : Exa Z h0 x "java/lang/StringBuilder") (Fv : Fld Z h0 x "java/lang/AbstractStringBuilder" "value" "[B" .null) (Fc : Fld Z h0 x "java/lang/AbstractStringBuilder" "coder" "B" vZ) (Fn : Fld Z h0 x "java/lang/AbstractStringBuilder" "count" "I" vZ) (nx : Z.heap.size ≤ x) :
    Ct l Z a0 own_EL (⟨"java/lang/StringBuilder", "<init>", "()V"⟩ : MethodName) jdk_67_method_1_code 1 (Option.none : Option Jvm.ClassFile.FieldType) [] (rmm 2 1 16 25) #[(.ref x)] h0 [] (fun v h so => v = none ∧ Keep h0 h [x] ∧ ∃ (t : Addr) (kt : ClassId), so = [t] ∧ h0.size ≤ t ∧ Bl Z h x t kt []) := by
  refine own_enter (plainFor_of_name pn_6) C.ew (F0 := fun m => mkF m 0 #[vR x] []) (fun m => by first | (simp [entryFrame, mkF, argsToLocals, Value.category]; done) | rfl) ?_
  intro p e s m below meth c s₁ G hx hby hml hret hnm W0 S0 go fin
  have z0 := W0.sz
  show G s₁ (mkF m 0 #[vR x] [])
  have lx : ltN x h0.size := Ex.lt
  refine go (g' := (mkF m 3 #[vR x] [(.int (16 : Int32)), (.ref x)])) (fun _ k => XS.aloadN W0.here hx rfl (hb hby d6_0) rfl rfl (XS.bipush W0.here hx rfl (hb hby d6_1) k)) ?_
  obtain ⟨v1, so1, vm1, T1, h1, W1, C1, q1, hso1, st1⟩ := own_special W0 hx (y := (⟨"java/lang/AbstractStringBuilder", "<init>", "(I)V"⟩ : MethodName)) rfl (w147 C) (w148 C) (w151 C) (w152 C) (by decide) (rm_asbinit C h0 x Ex Fv Fc Fn (by omega)) (fun _ q => nomatch q) (Wd := 0) (nle rfl) (nle rfl) (nle rfl) (nle rfl) (g := (mkF m 3 #[vR x] [(.int (16 : Int32)), (.ref x)])) rfl (by rw [hml]; rfl) (a := x) (argsL := [(.int (16 : Int32))]) (rest := []) (lenOf pd_2 rfl) rfl rfl (nle rfl) (hb hby d6_3)
  obtain ⟨rfl, K1, t1, k1, rfl, g1, B1⟩ := q1
  have z2 : h0.size ≤ h1.size := K1.1
  have lt1 : ltN t1 h1.size := B1.2.2.2.2.lt
  refine go (g' := (mkF m 6 #[vR x] [])) (st1) ?_
  have KK3 : Keep h0 h1 [x] := ((Keep.refl h0 [x]).trans K1 (allS (Or.inl (own_mi (i := 0) rfl)) all0))
  exact fin (v := none) (so := [t1]) W1 (nle rfl) (nle rfl) (⟨rfl, KK3, t1, _, rfl, by omega, B1⟩) (allS (hso1 _ (own_mi (i := 0) rfl)) all0) (fun _ => rfl) (own_retV W1 hx hret (hb hby d6_6))
theorem rm_coder0 (C : Cx Z a0) (h0 : Heap) (a : Addr) (Fa : Fld Z h0 a "java/lang/String" "coder" "B" vZ) :
    Ct l Z a0 own_EL (⟨"java/lang/String", "coder", "()B"⟩ : MethodName) jdk_42_method_152_code 1 (Option.some Jvm.ClassFile.FieldType.byte) [] (rmm 0 0 0 0) #[(.ref a)] h0 [] (fun v h so => v = some vZ ∧ h0 = h) := by
  refine own_enter (plainFor_of_name pn_7) C.ew (F0 := fun m => mkF m 0 #[vR a] []) (fun m => by first | (simp [entryFrame, mkF, argsToLocals, Value.category]; done) | rfl) ?_
  intro p e s m below meth c s₁ G hx hby hml hret hnm W0 S0 go fin
  have z0 := W0.sz
  show G s₁ (mkF m 0 #[vR a] [])
  obtain ⟨gCS, OCS, nCS⟩ := C.cs
  obtain ⟨T1, W1, st1⟩ := own_getS W0 hx (host := "") (Or.inl (w21 C)) Via.refl OCS (g := (mkF m 0 #[vR a] [])) rfl (hb hby d7_0)
  refine go (g' := (mkF m 3 #[vR a] [(.int gCS)])) (st1) ?_
  refine go (g' := (mkF m 7 #[vR a] [(.ref a)])) (fun _ k => XS.ifNo W1.here hx rfl (hb hby d7_3) rfl ((if0 _ _).trans (feq nCS).1) (XS.aloadN W1.here hx rfl (hb hby d7_6) rfl rfl k)) ?_
  obtain ⟨T2, W2, st2⟩ := own_get W1 hx (host := "") (Or.inl (w33 C)) Via.refl Fa (g := (mkF m 7 #[vR a] [(.ref a)])) rfl rfl (hb hby d7_7)
  refine go (g' := (mkF m 10 #[vR a] [vZ])) (st2) ?_
  refine go (g' := (mkF m 14 #[vR a] [vZ])) (fun _ k => XS.goto W2.here hx rfl (pc0 := 10) (pc' := 14) rfl (hb hby d7_10) (by decide) (by decide) k) ?_
  exact fin (v := some vZ) (so := []) W2 (nle rfl) (nle rfl) (⟨rfl, rfl⟩) (fun _ q => nomatch q) (fun q => nomatch q) (own_retI W2 hx hret (by decide) rfl (hb hby d7_14))
theorem rm_coder1 (C : Cx Z a0) (h0 : Heap) (a : Addr) (Fa : Fld Z h0 a "java/lang/String" "coder" "B" (.int (1 : Int32))) :
    Ct l Z a0 own_EL (⟨"java/lang/String", "coder", "()B"⟩ : MethodName) jdk_42_method_152_code 1 (Option.some Jvm.ClassFile.FieldType.byte) [] (rmm 0 0 0 0) #[(.ref a)] h0 [] (fun v h so => v = some (.int (1 : Int32)) ∧ h0 = h) := by
  refine own_enter (plainFor_of_name pn_7) C.ew (F0 := fun m => mkF m 0 #[vR a] []) (fun m => by first | (simp [entryFrame, mkF, argsToLocals, Value.category]; done) | rfl) ?_
  intro p e s m below meth c s₁ G hx hby hml hret hnm W0 S0 go fin
  have z0 := W0.sz
  show G s₁ (mkF m 0 #[vR a] [])
  obtain ⟨gCS, OCS, nCS⟩ := C.cs
  obtain ⟨T1, W1, st1⟩ := own_getS W0 hx (host := "") (Or.inl (w21 C)) Via.refl OCS (g := (mkF m 0 #[vR a] [])) rfl (hb hby d7_0)
  refine go (g' := (mkF m 3 #[vR a] [(.int gCS)])) (st1) ?_
  refine go (g' := (mkF m 7 #[vR a] [(.ref a)])) (fun _ k => XS.ifNo W1.here hx rfl (hb hby d7_3) rfl ((if0 _ _).trans (feq nCS).1) (XS.aloadN W1.here hx rfl (hb hby d7_6) rfl rfl k)) ?_
  obtain ⟨T2, W2, st2⟩ := own_get W1 hx (host := "") (Or.inl (w33 C)) Via.refl Fa (g := (mkF m 7 #[vR a] [(.ref a)])) rfl rfl (hb hby d7_7)
  refine go (g' := (mkF m 10 #[vR a] [(.int (1 : Int32))])) (st2) ?_
  refine go (g' := (mkF m 14 #[vR a] [(.int (1 : Int32))])) (fun _ k => XS.goto W2.here hx rfl (pc0 := 10) (pc' := 14) rfl (hb hby d7_10) (by decide) (by decide) k) ?_
  exact fin (v := some (.int (1 : Int32))) (so := []) W2 (nle rfl) (nle rfl) (⟨rfl, rfl⟩) (fun _ q => nomatch q) (fun q => nomatch q) (own_retI W2 hx hret (by decide) rfl (hb hby d7_14))
theorem rm_ens0 (C : Cx Z a0) (h0 : Heap) (b t : Addr) (kt : ClassId) (vs : List Value) (n : Nat) (l1 : n ≤ 16) (Fv : Fld Z h0 b "java/lang/AbstractStringBuilder" "value" "[B" (.ref t)) (Fc : Fld Z h0 b "java/lang/AbstractStringBuilder" "coder" "B" vZ) (Vt : Arv Z h0 t kt .byte (16 : Int32) vs vZ) :
    Ct l Z a0 own_EL (⟨"java/lang/AbstractStringBuilder", "ensureCapacityInternal", "(I)V"⟩ : MethodName) jdk_68_method_9_code 3 (Option.none : Option Jvm.ClassFile.FieldType) [] (rmm 0 0 0 0) #[(.ref b), (.int (Int32.ofNat n))] h0 [] (fun v h so => v = none ∧ h0 = h) := by
  refine own_enter (plainFor_of_name pn_5) C.ew (F0 := fun m => mkF m 0 #[vR b, vI (Int32.ofNat n), .unset] []) (fun m => by first | (simp [entryFrame, mkF, argsToLocals, Value.category]; done) | rfl) ?_
  intro p e s m below meth c s₁ G hx hby hml hret hnm W0 S0 go fin
  have z0 := W0.sz
  show G s₁ (mkF m 0 #[vR b, vI (Int32.ofNat n), .unset] [])
  refine go (g' := (mkF m 1 #[vR b, vI (Int32.ofNat n), .unset] [(.ref b)])) (fun _ k => XS.aloadN W0.here hx rfl (hb hby d8_0) rfl rfl k) ?_
  obtain ⟨T1, W1, st1⟩ := own_get W0 hx (host := "") (Or.inl (w155 C)) Via.refl Fv (g := (mkF m 1 #[vR b, vI (Int32.ofNat n), .unset] [(.ref b)])) rfl rfl (hb hby d8_1)
  refine go (g' := (mkF m 4 #[vR b, vI (Int32.ofNat n), .unset] [(.ref t)])) (st1) ?_
  refine go (g' := (mkF m 5 #[vR b, vI (Int32.ofNat n), .unset] [(.int (16 : Int32))])) (own_alen W1 hx Vt (g := (mkF m 4 #[vR b, vI (Int32.ofNat n), .unset] [(.ref t)])) rfl rfl (hb hby d8_4)) ?_
  refine go (g' := (mkF m 6 #[vR b, vI (Int32.ofNat n), .unset] [(.ref b), (.int (16 : Int32))])) (fun _ k => XS.aloadN W1.here hx rfl (hb hby d8_5) rfl rfl k) ?_
  obtain ⟨T2, W2, st2⟩ := own_get W1 hx (host := "") (Or.inl (w157 C)) Via.refl Fc (g := (mkF m 6 #[vR b, vI (Int32.ofNat n), .unset] [(.ref b), (.int (16 : Int32))])) rfl rfl (hb hby d8_6)
  refine go (g' := (mkF m 9 #[vR b, vI (Int32.ofNat n), .unset] [vZ, (.int (16 : Int32))])) (st2) ?_
  refine go (g' := (mkF m 10 #[vR b, vI (Int32.ofNat n), .unset] [(.int ((16 : Int32) >>> ((0 : Int32) &&& 31)))])) (fun _ k => XS.ishr W2.here hx rfl (hb hby d8_9) rfl k) ?_
  rw [show ((16 : Int32) >>> ((0 : Int32) &&& 31)) = (16 : Int32) from by decide]
  refine go (g' := (mkF m 38 #[vR b, vI (Int32.ofNat n), vI (16 : Int32)] [])) (fun _ k => XS.istoreN W2.here hx rfl (hb hby d8_10) rfl (l' := #[vR b, vI (Int32.ofNat n), vI (16 : Int32)]) rfl (XS.iloadN W2.here hx rfl (hb hby d8_11) rfl (XS.iloadN W2.here hx rfl (hb hby d8_12) rfl (XS.isub W2.here hx rfl (hb hby d8_13) rfl (XS.ifYes W2.here hx rfl (pc0 := 14) (pc' := 38) rfl (hb hby d8_14) rfl ((if0 _ _).trans (flt (own_sle (cap := 16) l1 (by decide))).2.2.2) (by decide) (by decide) k))))) ?_
  exact fin (v := none) (so := []) W2 (nle rfl) (nle rfl) (⟨rfl, rfl⟩) (fun _ q => nomatch q) (fun _ => rfl) (own_retV W2 hx hret (hb hby d8_38))
theorem rm_ens1 (C : Cx Z a0) (h0 : Heap) (b t : Addr) (kt : ClassId) (vs : List Value) (n : Nat) (l1 : n ≤ 16) (Fv : Fld Z h0 b "java/lang/AbstractStringBuilder" "value" "[B" (.ref t)) (Fc : Fld Z h0 b "java/lang/AbstractStringBuilder" "coder" "B" (.int (1 : Int32))) (Vt : Arv Z h0 t kt .byte (32 : Int32) vs vZ) :
    Ct l Z a0 own_EL (⟨"java/lang/AbstractStringBuilder", "ensureCapacityInternal", "(I)V"⟩ : MethodName) jdk_68_method_9_code 3 (Option.none : Option Jvm.ClassFile.FieldType) [] (rmm 0 0 0 0) #[(.ref b), (.int (Int32.ofNat n))] h0 [] (fun v h so => v = none ∧ h0 = h) := by
  refine own_enter (plainFor_of_name pn_5) C.ew (F0 := fun m => mkF m 0 #[vR b, vI (Int32.ofNat n), .unset] []) (fun m => by first | (simp [entryFrame, mkF, argsToLocals, Value.category]; done) | rfl) ?_
  intro p e s m below meth c s₁ G hx hby hml hret hnm W0 S0 go fin
  have z0 := W0.sz
  show G s₁ (mkF m 0 #[vR b, vI (Int32.ofNat n), .unset] [])
  refine go (g' := (mkF m 1 #[vR b, vI (Int32.ofNat n), .unset] [(.ref b)])) (fun _ k => XS.aloadN W0.here hx rfl (hb hby d8_0) rfl rfl k) ?_
  obtain ⟨T1, W1, st1⟩ := own_get W0 hx (host := "") (Or.inl (w155 C)) Via.refl Fv (g := (mkF m 1 #[vR b, vI (Int32.ofNat n), .unset] [(.ref b)])) rfl rfl (hb hby d8_1)
  refine go (g' := (mkF m 4 #[vR b, vI (Int32.ofNat n), .unset] [(.ref t)])) (st1) ?_
  refine go (g' := (mkF m 5 #[vR b, vI (Int32.ofNat n), .unset] [(.int (32 : Int32))])) (own_alen W1 hx Vt (g := (mkF m 4 #[vR b, vI (Int32.ofNat n), .unset] [(.ref t)])) rfl rfl (hb hby d8_4)) ?_
  refine go (g' := (mkF m 6 #[vR b, vI (Int32.ofNat n), .unset] [(.ref b), (.int (32 : Int32))])) (fun _ k => XS.aloadN W1.here hx rfl (hb hby d8_5) rfl rfl k) ?_
  obtain ⟨T2, W2, st2⟩ := own_get W1 hx (host := "") (Or.inl (w157 C)) Via.refl Fc (g := (mkF m 6 #[vR b, vI (Int32.ofNat n), .unset] [(.ref b), (.int (32 : Int32))])) rfl rfl (hb hby d8_6)
  refine go (g' := (mkF m 9 #[vR b, vI (Int32.ofNat n), .unset] [(.int (1 : Int32)), (.int (32 : Int32))])) (st2) ?_
  refine go (g' := (mkF m 10 #[vR b, vI (Int32.ofNat n), .unset] [(.int ((32 : Int32) >>> ((1 : Int32) &&& 31)))])) (fun _ k => XS.ishr W2.here hx rfl (hb hby d8_9) rfl k) ?_
  rw [show ((32 : Int32) >>> ((1 : Int32) &&& 31)) = (16 : Int32) from by decide]
  refine go (g' := (mkF m 38 #[vR b, vI (Int32.ofNat n), vI (16 : Int32)] [])) (fun _ k => XS.istoreN W2.here hx rfl (hb hby d8_10) rfl (l' := #[vR b, vI (Int32.ofNat n), vI (16 : Int32)]) rfl (XS.iloadN W2.here hx rfl (hb hby d8_11) rfl (XS.iloadN W2.here hx rfl (hb hby d8_12) rfl (XS.isub W2.here hx rfl (hb hby d8_13) rfl (XS.ifYes W2.here hx rfl (pc0 := 14) (pc' := 38) rfl (hb hby d8_14) rfl ((if0 _ _).trans (flt (own_sle (cap := 16) l1 (by decide))).2.2.2) (by decide) (by decide) k))))) ?_
  exact fin (v := none) (so := []) W2 (nle rfl) (nle rfl) (⟨rfl, rfl⟩) (fun _ q => nomatch q) (fun _ => rfl) (own_retV W2 hx hret (hb hby d8_38))
theorem rm_gbl (C : Cx Z a0) (h0 : Heap) (a : Addr) (cs : List Int32) (Sa : Str Z h0 a cs) (t : Addr) (kt : ClassId) (ds : List Int32) (l1 : ds.length + cs.length ≤ 16) (Vt : Arv Z h0 t kt .byte (16 : Int32) (ds.map Value.int) vZ) (nt : Z.heap.size ≤ t) :
    Ct l Z a0 own_EL (⟨"java/lang/String", "getBytes", "([BIB)V"⟩ : MethodName) jdk_42_method_147_code 4 (Option.none : Option Jvm.ClassFile.FieldType) [] (rmm 1 0 0 30) #[(.ref a), (.ref t), (.int (Int32.ofNat ds.length)), vZ] h0 [t] (fun v h so => v = none ∧ Keep h0 h [t] ∧ Arv Z h t kt .byte (16 : Int32) ((ds ++ (cs.map fun c => c.toInt8.toInt32)).map Value.int) vZ) := by
  refine own_enter (plainFor_of_name pn_7) C.ew (F0 := fun m => mkF m 0 #[vR a, vR t, vI (Int32.ofNat ds.length), .val vZ] []) (fun m => by first | (simp [entryFrame, mkF, argsToLocals, Value.category]; done) | rfl) ?_
  intro p e s m below meth c s₁ G hx hby hml hret hnm W0 S0 go fin
  have z0 := W0.sz
  show G s₁ (mkF m 0 #[vR a, vR t, vI (Int32.ofNat ds.length), .val vZ] [])
  have hl_cs : cs.length ≤ 4000 := by omega
  have lt : ltN t h0.size := Vt.lt
  obtain ⟨sE1, sC1, sP1, t1, k1, sV1, sK1⟩ := id Sa
  have sA1 : Arv Z h0 t1 k1 .byte (Int32.ofNat cs.length) ((cs.map fun c => c.toInt8.toInt32).map Value.int) vZ := sK1
  refine go (g' := (mkF m 1 #[vR a, vR t, vI (Int32.ofNat ds.length), .val vZ] [(.ref a)])) (fun _ k => XS.aloadN W0.here hx rfl (hb hby d9_0) rfl rfl k) ?_
  obtain ⟨v2, so2, vm2, T2, h2, W2, C2, q2, hso2, st2⟩ := own_virtual W0 hx (w174 C) (w175 C) (w177 C) (w176 C) (w10 C) (w178 C) (by decide) (own_nf W0 (w177 C)) Sa.1 (rm_coder0 C h0 a sC1) (fun _ q => nomatch q) (Wd := 0) (nle rfl) (nle rfl) (nle rfl) (nle rfl) (g := (mkF m 1 #[vR a, vR t, vI (Int32.ofNat ds.length), .val vZ] [(.ref a)])) rfl (by rw [hml]; rfl) (argsL := []) (rest := []) (lenOf pd_3 rfl) rfl rfl (nle rfl) (hb hby d9_1)
  obtain ⟨rfl, rfl⟩ := q2
  have S2_t : Safe Z own_EL vm2 h0 t := C2.safe (olt (by omega)) (S0 _ (own_mi (i := 0) rfl))
  refine go (g' := (mkF m 4 #[vR a, vR t, vI (Int32.ofNat ds.length), .val vZ] [vZ])) (st2) ?_
  refine go (g' := (mkF m 9 #[vR a, vR t, vI (Int32.ofNat ds.length), .val vZ] [(.ref a)])) (fun _ k => XS.iloadN W2.here hx rfl (hb hby d9_4) rfl (XS.icmpNo W2.here hx rfl (hb hby d9_5) rfl (teq ((by decide) : (0 : Int32) = (0 : Int32))).2 (XS.aloadN W2.here hx rfl (hb hby d9_8) rfl rfl k))) ?_
  obtain ⟨T3, W3, st3⟩ := own_get W2 hx (host := "") (Or.inl (w35 C)) Via.refl sV1 (g := (mkF m 9 #[vR a, vR t, vI (Int32.ofNat ds.length), .val vZ] [(.ref a)])) rfl rfl (hb hby d9_9)
  refine go (g' := (mkF m 12 #[vR a, vR t, vI (Int32.ofNat ds.length), .val vZ] [(.ref t1)])) (st3) ?_
  refine go (g' := (mkF m 17 #[vR a, vR t, vI (Int32.ofNat ds.length), .val vZ] [(.int ((Int32.ofNat ds.length) <<< ((0 : Int32) &&& 31))), (.ref t), vZ, (.ref t1)])) (fun _ k => XS.iconst W3.here hx rfl (hb hby d9_12) (XS.aloadN W3.here hx rfl (hb hby d9_13) rfl rfl (XS.iloadN W3.here hx rfl (hb hby d9_14) rfl (XS.iloadN W3.here hx rfl (hb hby d9_15) rfl (XS.ishl W3.here hx rfl (hb hby d9_16) rfl k))))) ?_
  rw [show ((Int32.ofNat ds.length) <<< ((0 : Int32) &&& 31)) = (Int32.ofNat ds.length) from own_shl0 _]
  refine go (g' := (mkF m 18 #[vR a, vR t, vI (Int32.ofNat ds.length), .val vZ] [(.ref a), (.int (Int32.ofNat ds.length)), (.ref t), vZ, (.ref t1)])) (fun _ k => XS.aloadN W3.here hx rfl (hb hby d9_17) rfl rfl k) ?_
  obtain ⟨T4, W4, st4⟩ := own_get W3 hx (host := "") (Or.inl (w35 C)) Via.refl sV1 (g := (mkF m 18 #[vR a, vR t, vI (Int32.ofNat ds.length), .val vZ] [(.ref a), (.int (Int32.ofNat ds.length)), (.ref t), vZ, (.ref t1)])) rfl rfl (hb hby d9_18)
  refine go (g' := (mkF m 21 #[vR a, vR t, vI (Int32.ofNat ds.length), .val vZ] [(.ref t1), (.int (Int32.ofNat ds.length)), (.ref t), vZ, (.ref t1)])) (st4) ?_
  refine go (g' := (mkF m 22 #[vR a, vR t, vI (Int32.ofNat ds.length), .val vZ] [(.int (Int32.ofNat cs.length)), (.int (Int32.ofNat ds.length)), (.ref t), vZ, (.ref t1)])) (own_alen W4 hx sA1 (g := (mkF m 21 #[vR a, vR t, vI (Int32.ofNat ds.length), .val vZ] [(.ref t1), (.int (Int32.ofNat ds.length)), (.ref t), vZ, (.ref t1)])) rfl rfl (hb hby d9_21)) ?_
  have P5 : Arv Z h0 t kt .byte (16 : Int32) (ds.map Value.int ++ List.replicate cs.length vZ) vZ := Vt.pad (pad_rep _ _ _)
  have e0 : (0 : Int32).toNatClampNeg = 0 := by decide
  have e1 : (Int32.ofNat ds.length).toNatClampNeg = ds.length := own_cl (by omega)
  have e2 : (Int32.ofNat cs.length).toNatClampNeg = cs.length := own_cl (by omega)
  have e3 : (16 : Int32).toNatClampNeg = 16 := by decide
  obtain ⟨T5, h5, W5, K5, V5, st5⟩ := own_cp W4 hx (w202 C) (w205 C) (w203 C) (w204 C) sA1 P5 rfl S2_t (sp := (0 : Int32)) (dp := (Int32.ofNat ds.length)) (nn := (Int32.ofNat cs.length)) (by decide) (own_nn (by omega)) (own_nn (by omega)) (by rw [e0, e2]; omega) (by rw [e1, e2, e3]; omega) (us := (cs.map fun c => c.toInt8.toInt32).map Value.int) (by rw [e0, e2]; exact (own_rg0 (cs.map fun c => c.toInt8.toInt32) cs.length _ (by simp)).symm) (by rw [e1, e2]; simp) (by omega) (g := (mkF m 22 #[vR a, vR t, vI (Int32.ofNat ds.length), .val vZ] [(.int (Int32.ofNat cs.length)), (.int (Int32.ofNat ds.length)), (.ref t), vZ, (.ref t1)])) rfl (by rw [hml]; rfl) rfl (hb hby d9_22) (nle rfl) (Wd := 0) (nle rfl) (nle rfl)
  have z6 : h0.size ≤ h5.size := K5.1
  have U5 : Arv Z h5 t kt .byte (16 : Int32) ((ds ++ (cs.map fun c => c.toInt8.toInt32)).map Value.int) vZ := by have q := V5; rw [e1, e2, own_app0] at q; exact q
  refine go (g' := (mkF m 25 #[vR a, vR t, vI (Int32.ofNat ds.length), .val vZ] [])) (st5) ?_
  refine go (g' := (mkF m 43 #[vR a, vR t, vI (Int32.ofNat ds.length), .val vZ] [])) (fun _ k => XS.goto W5.here hx rfl (pc0 := 25) (pc' := 43) rfl (hb hby d9_25) (by decide) (by decide) k) ?_
  have KK7 : Keep h0 h5 [t] := ((Keep.refl h0 [t]).trans K5 (allS (Or.inl (own_mi (i := 0) rfl)) all0))
  exact fin (v := none) (so := []) W5 (nle rfl) (nle rfl) (⟨rfl, KK7, U5⟩) (fun _ q => nomatch q) (fun _ => rfl) (own_retV W5 hx hret (hb hby d9_43))
theorem rm_lenl (C : Cx Z a0) (h0 : Heap) (a : Addr) (cs : List Int32) (Sa : Str Z h0 a cs) (l0 : cs.length ≤ 4000) :
    Ct l Z a0 own_EL (⟨"java/lang/String", "length", "()I"⟩ : MethodName) jdk_42_method_54_code 1 (Option.some Jvm.ClassFile.FieldType.int) [] (rmm 1 0 0 13) #[(.ref a)] h0 [] (fun v h so => v = some (.int (Int32.ofNat cs.length)) ∧ h0 = h) := by
  refine own_enter (plainFor_of_name pn_7) C.ew (F0 := fun m => mkF m 0 #[vR a] []) (fun m => by first | (simp [entryFrame, mkF, argsToLocals, Value.category]; done) | rfl) ?_
  intro p e s m below meth c s₁ G hx hby hml hret hnm W0 S0 go fin
  have z0 := W0.sz
  show G s₁ (mkF m 0 #[vR a] [])
  obtain ⟨Ea, Ca, pa, u, ku, Fa, Va0⟩ := id Sa
  have Va : Arv Z h0 u ku .byte (Int32.ofNat cs.length) ((cs.map fun c => c.toInt8.toInt32).map Value.int) vZ := Va0
  have la : ltN a h0.size := Ea.lt
  have lu : ltN u h0.size := Va.lt
  refine go (g' := (mkF m 1 #[vR a] [(.ref a)])) (fun _ k => XS.aloadN W0.here hx rfl (hb hby d10_0) rfl rfl k) ?_
  obtain ⟨T1, W1, st1⟩ := own_get W0 hx (host := "") (Or.inl (w35 C)) Via.refl Fa (g := (mkF m 1 #[vR a] [(.ref a)])) rfl rfl (hb hby d10_1)
  refine go (g' := (mkF m 4 #[vR a] [(.ref u)])) (st1) ?_
  refine go (g' := (mkF m 5 #[vR a] [(.int (Int32.ofNat cs.length))])) (own_alen W1 hx Va (g := (mkF m 4 #[vR a] [(.ref u)])) rfl rfl (hb hby d10_4)) ?_
  refine go (g' := (mkF m 6 #[vR a] [(.ref a), (.int (Int32.ofNat cs.length))])) (fun _ k => XS.aloadN W1.here hx rfl (hb hby d10_5) rfl rfl k) ?_
  obtain ⟨v2, so2, vm2, T2, h2, W2, C2, q2, hso2, st2⟩ := own_virtual W1 hx (w174 C) (w175 C) (w177 C) (w176 C) (w10 C) (w178 C) (by decide) (own_nf W1 (w177 C)) Ea (rm_coder0 C h0 a Ca) (fun _ q => nomatch q) (Wd := 1) (nle rfl) (nle rfl) (nle rfl) (nle rfl) (g := (mkF m 6 #[vR a] [(.ref a), (.int (Int32.ofNat cs.length))])) rfl (by rw [hml]; rfl) (argsL := []) (rest := [(.int (Int32.ofNat cs.length))]) (lenOf pd_3 rfl) rfl rfl (nle rfl) (hb hby d10_6)
  obtain ⟨rfl, rfl⟩ := q2
  refine go (g' := (mkF m 9 #[vR a] [vZ, (.int (Int32.ofNat cs.length))])) (st2) ?_
  refine go (g' := (mkF m 10 #[vR a] [(.int ((Int32.ofNat cs.length) >>> ((0 : Int32) &&& 31)))])) (fun _ k => XS.ishr W2.here hx rfl (hb hby d10_9) rfl k) ?_
  rw [show ((Int32.ofNat cs.length) >>> ((0 : Int32) &&& 31)) = (Int32.ofNat cs.length) from own_shr0 _]
  exact fin (v := some (.int (Int32.ofNat cs.length))) (so := []) W2 (nle rfl) (nle rfl) (⟨rfl, rfl⟩) (fun _ q => nomatch q) (fun q => nomatch q) (own_retI W2 hx hret (by decide) rfl (hb hby d10_10))
theorem rm_bl10 (C : Cx Z a0) (h0 : Heap) (b : Addr) (Fc : Fld Z h0 b "java/lang/AbstractStringBuilder" "coder" "B" vZ) :
    Ct l Z a0 own_EL (⟨"java/lang/AbstractStringBuilder", "isLatin1", "()Z"⟩ : MethodName) jdk_68_method_68_code 1 (Option.some Jvm.ClassFile.FieldType.boolean) [] (rmm 0 0 0 0) #[(.ref b)] h0 [] (fun v h so => v = some (.int (1 : Int32)) ∧ h0 = h) := by
  refine own_enter (plainFor_of_name pn_5) C.ew (F0 := fun m => mkF m 0 #[vR b] []) (fun m => by first | (simp [entryFrame, mkF, argsToLocals, Value.category]; done) | rfl) ?_
  intro p e s m below meth c s₁ G hx hby hml hret hnm W0 S0 go fin
  have z0 := W0.sz
  show G s₁ (mkF m 0 #[vR b] [])
  obtain ⟨gCS, OCS, nCS⟩ := C.cs
  obtain ⟨T1, W1, st1⟩ := own_getS W0 hx (host := "") (Or.inl (w154 C)) Via.refl OCS (g := (mkF m 0 #[vR b] [])) rfl (hb hby d11_0)
  refine go (g' := (mkF m 3 #[vR b] [(.int gCS)])) (st1) ?_
  refine go (g' := (mkF m 7 #[vR b] [(.ref b)])) (fun _ k => XS.ifNo W1.here hx rfl (hb hby d11_3) rfl ((if0 _ _).trans (feq nCS).1) (XS.aloadN W1.here hx rfl (hb hby d11_6) rfl rfl k)) ?_
  obtain ⟨T2, W2, st2⟩ := own_get W1 hx (host := "") (Or.inl (w157 C)) Via.refl Fc (g := (mkF m 7 #[vR b] [(.ref b)])) rfl rfl (hb hby d11_7)
  refine go (g' := (mkF m 10 #[vR b] [vZ])) (st2) ?_
  refine go (g' := (mkF m 18 #[vR b] [(.int (1 : Int32))])) (fun _ k => XS.ifNo W2.here hx rfl (hb hby d11_10) rfl ((if0 _ _).trans (teq ((by decide) : (0 : Int32) = (0 : Int32))).2) (XS.iconst W2.here hx rfl (hb hby d11_13) (XS.goto W2.here hx rfl (pc0 := 14) (pc' := 18) rfl (hb hby d11_14) (by decide) (by decide) k))) ?_
  exact fin (v := some (.int (1 : Int32))) (so := []) W2 (nle rfl) (nle rfl) (⟨rfl, rfl⟩) (fun _ q => nomatch q) (fun q => nomatch q) (own_retI W2 hx hret (by decide) rfl (hb hby d11_18))
theorem rm_ifn00 (C : Cx Z a0) (h0 : Heap) (b : Addr) (Eb : Exa Z h0 b "java/lang/StringBuilder") (Fc : Fld Z h0 b "java/lang/AbstractStringBuilder" "coder" "B" vZ) (a : Addr) (Ea : Exa Z h0 a "java/lang/String") (Ca : Fld Z h0 a "java/lang/String" "coder" "B" vZ) :
    Ct l Z a0 own_EL (⟨"java/lang/AbstractStringBuilder", "inflateIfNeededFor", "(Ljava/lang/String;)V"⟩ : MethodName) jdk_68_method_71_code 2 (Option.none : Option Jvm.ClassFile.FieldType) [] (rmm 1 0 0 13) #[(.ref b), (.ref a)] h0 [] (fun v h so => v = none ∧ h0 = h) := by
  refine own_enter (plainFor_of_name pn_5) C.ew (F0 := fun m => mkF m 0 #[vR b, vR a] []) (fun m => by first | (simp [entryFrame, mkF, argsToLocals, Value.category]; done) | rfl) ?_
  intro p e s m below meth c s₁ G hx hby hml hret hnm W0 S0 go fin
  have z0 := W0.sz
  show G s₁ (mkF m 0 #[vR b, vR a] [])
  obtain ⟨gCS, OCS, nCS⟩ := C.cs
  obtain ⟨T1, W1, st1⟩ := own_getS W0 hx (host := "") (Or.inl (w154 C)) Via.refl OCS (g := (mkF m 0 #[vR b, vR a] [])) rfl (hb hby d12_0)
  refine go (g' := (mkF m 3 #[vR b, vR a] [(.int gCS)])) (st1) ?_
  refine go (g' := (mkF m 7 #[vR b, vR a] [(.ref b)])) (fun _ k => XS.ifNo W1.here hx rfl (hb hby d12_3) rfl ((if0 _ _).trans (feq nCS).1) (XS.aloadN W1.here hx rfl (hb hby d12_6) rfl rfl k)) ?_
  obtain ⟨T2, W2, st2⟩ := own_get W1 hx (host := "") (Or.inl (w157 C)) Via.refl Fc (g := (mkF m 7 #[vR b, vR a] [(.ref b)])) rfl rfl (hb hby d12_7)
  refine go (g' := (mkF m 10 #[vR b, vR a] [vZ])) (st2) ?_
  refine go (g' := (mkF m 11 #[vR b, vR a] [(.ref a), vZ])) (fun _ k => XS.aloadN W2.here hx rfl (hb hby d12_10) rfl rfl k) ?_
  obtain ⟨v3, so3, vm3, T3, h3, W3, C3, q3, hso3, st3⟩ := own_virtual W2 hx (w196 C) (w175 C) (w177 C) (w176 C) (w10 C) (w178 C) (by decide) (own_nf W2 (w177 C)) Ea (rm_coder0 C h0 a Ca) (fun _ q => nomatch q) (Wd := 1) (nle rfl) (nle rfl) (nle rfl) (nle rfl) (g := (mkF m 11 #[vR b, vR a] [(.ref a), vZ])) rfl (by rw [hml]; rfl) (argsL := []) (rest := [vZ]) (lenOf pd_3 rfl) rfl rfl (nle rfl) (hb hby d12_11)
  obtain ⟨rfl, rfl⟩ := q3
  refine go (g' := (mkF m 14 #[vR b, vR a] [vZ, vZ])) (st3) ?_
  refine go (g' := (mkF m 21 #[vR b, vR a] [])) (fun _ k => XS.icmpYes W3.here hx rfl (pc0 := 14) (pc' := 21) rfl (hb hby d12_14) rfl (teq ((by decide) : (0 : Int32) = (0 : Int32))).1 (by decide) (by decide) k) ?_
  exact fin (v := none) (so := []) W3 (nle rfl) (nle rfl) (⟨rfl, rfl⟩) (fun _ q => nomatch q) (fun _ => rfl) (own_retV W3 hx hret (hb hby d12_21))
theorem rm_ps00 (C : Cx Z a0) (h0 : Heap) (b t : Addr) (kt : ClassId) (ds : List Int32) (a : Addr) (cs : List Int32) (Sa : Str Z h0 a cs) (l1 : ds.length + cs.length ≤ 16) (Bb : Bl Z h0 b t kt ds) (nb : Z.heap.size ≤ b) (nt : Z.heap.size ≤ t) :
    Ct l Z a0 own_EL (⟨"java/lang/AbstractStringBuilder", "putStringAt", "(ILjava/lang/String;)V"⟩ : MethodName) jdk_68_method_73_code 3 (Option.none : Option Jvm.ClassFile.FieldType) [] (rmm 2 0 0 45) #[(.ref b), (.int (Int32.ofNat ds.length)), (.ref a)] h0 [t] (fun v h so => v = none ∧ Keep h0 h [t] ∧ Arv Z h t kt .byte (16 : Int32) ((ds ++ (cs.map fun c => c.toInt8.toInt32)).map Value.int) vZ) := by
  refine own_enter (plainFor_of_name pn_5) C.ew (F0 := fun m => mkF m 0 #[vR b, vI (Int32.ofNat ds.length), vR a] []) (fun m => by first | (simp [entryFrame, mkF, argsToLocals, Value.category]; done) | rfl) ?_
  intro p e s m below meth c s₁ G hx hby hml hret hnm W0 S0 go fin
  have z0 := W0.sz
  show G s₁ (mkF m 0 #[vR b, vI (Int32.ofNat ds.length), vR a] [])
  obtain ⟨Eb, Fv, Fc, Fn, Vt⟩ := id Bb
  have lt : ltN t h0.size := Vt.lt
  have lb : ltN b h0.size := Eb.lt
  have nbt : b ≠ t := Exa.neArv Eb Vt (w142 C)
  obtain ⟨Ea, Ca, pa, u, ku, Fa, Va0⟩ := id Sa
  have Va : Arv Z h0 u ku .byte (Int32.ofNat cs.length) ((cs.map fun c => c.toInt8.toInt32).map Value.int) vZ := Va0
  have la : ltN a h0.size := Ea.lt
  have lu : ltN u h0.size := Va.lt
  have nab : a ≠ b := Exa.ne Ea Eb (by decide)
  have nub : u ≠ b := Ne.symm (Exa.neArv Eb Va (w142 C))
  have hl_cs : cs.length ≤ 4000 := by omega
  refine go (g' := (mkF m 2 #[vR b, vI (Int32.ofNat ds.length), vR a] [(.ref a), (.ref b)])) (fun _ k => XS.aloadN W0.here hx rfl (hb hby d13_0) rfl rfl (XS.aloadN W0.here hx rfl (hb hby d13_1) rfl rfl k)) ?_
  obtain ⟨v1, so1, vm1, T1, h1, W1, C1, q1, hso1, st1⟩ := own_virtual W0 hx (w191 C) (own_decl (w192 C) (w195 C)) (w194 C) (w192 C) (w151 C) (w195 C) (by decide) (own_nf W0 (w194 C)) Eb (rm_ifn00 C h0 b Eb Fc a Ea Ca) (fun _ q => nomatch q) (Wd := 0) (nle rfl) (nle rfl) (nle rfl) (nle rfl) (g := (mkF m 2 #[vR b, vI (Int32.ofNat ds.length), vR a] [(.ref a), (.ref b)])) rfl (by rw [hml]; rfl) (argsL := [(.ref a)]) (rest := []) (lenOf pd_0 rfl) rfl rfl (nle rfl) (hb hby d13_2)
  obtain ⟨rfl, rfl⟩ := q1
  have S1_t : Safe Z own_EL vm1 h0 t := C1.safe (olt (by omega)) (S0 _ (own_mi (i := 0) rfl))
  refine go (g' := (mkF m 5 #[vR b, vI (Int32.ofNat ds.length), vR a] [])) (st1) ?_
  refine go (g' := (mkF m 7 #[vR b, vI (Int32.ofNat ds.length), vR a] [(.ref b), (.ref a)])) (fun _ k => XS.aloadN W1.here hx rfl (hb hby d13_5) rfl rfl (XS.aloadN W1.here hx rfl (hb hby d13_6) rfl rfl k)) ?_
  obtain ⟨T2, W2, st2⟩ := own_get W1 hx (host := "") (Or.inl (w155 C)) Via.refl Fv (g := (mkF m 7 #[vR b, vI (Int32.ofNat ds.length), vR a] [(.ref b), (.ref a)])) rfl rfl (hb hby d13_7)
  refine go (g' := (mkF m 10 #[vR b, vI (Int32.ofNat ds.length), vR a] [(.ref t), (.ref a)])) (st2) ?_
  refine go (g' := (mkF m 12 #[vR b, vI (Int32.ofNat ds.length), vR a] [(.ref b), (.int (Int32.ofNat ds.length)), (.ref t), (.ref a)])) (fun _ k => XS.iloadN W2.here hx rfl (hb hby d13_10) rfl (XS.aloadN W2.here hx rfl (hb hby d13_11) rfl rfl k)) ?_
  obtain ⟨T3, W3, st3⟩ := own_get W2 hx (host := "") (Or.inl (w157 C)) Via.refl Fc (g := (mkF m 12 #[vR b, vI (Int32.ofNat ds.length), vR a] [(.ref b), (.int (Int32.ofNat ds.length)), (.ref t), (.ref a)])) rfl rfl (hb hby d13_12)
  refine go (g' := (mkF m 15 #[vR b, vI (Int32.ofNat ds.length), vR a] [vZ, (.int (Int32.ofNat ds.length)), (.ref t), (.ref a)])) (st3) ?_
  obtain ⟨v4, so4, vm4, T4, h4, W4, C4, q4, hso4, st4⟩ := own_virtual W3 hx (w197 C) (w198 C) (w200 C) (w199 C) (w10 C) (w201 C) (by decide) (own_nf W3 (w200 C)) Ea (rm_gbl C h0 a cs Sa t kt ds l1 Vt (by omega)) (allS S1_t all0) (Wd := 0) (nle rfl) (nle rfl) (nle rfl) (nle rfl) (g := (mkF m 15 #[vR b, vI (Int32.ofNat ds.length), vR a] [vZ, (.int (Int32.ofNat ds.length)), (.ref t), (.ref a)])) rfl (by rw [hml]; rfl) (argsL := [(.ref t), (.int (Int32.ofNat ds.length)), vZ]) (rest := []) (lenOf pd_4 rfl) rfl rfl (nle rfl) (hb hby d13_15)
  obtain ⟨rfl, K4, V4⟩ := q4
  have z5 : h0.size ≤ h4.size := K4.1
  have S4_t : Safe Z own_EL vm4 h4 t := C4.safe (olt (by omega)) S1_t
  refine go (g' := (mkF m 18 #[vR b, vI (Int32.ofNat ds.length), vR a] [])) (st4) ?_
  have KK6 : Keep h0 h4 [t] := ((Keep.refl h0 [t]).trans K4 (allS (Or.inl (own_mi (i := 0) rfl)) all0))
  exact fin (v := none) (so := []) W4 (nle rfl) (nle rfl) (⟨rfl, KK6, V4⟩) (fun _ q => nomatch q) (fun _ => rfl) (own_retV W4 hx hret (hb hby d13_18))
theorem rm_ap00 (C : Cx Z a0) (h0 : Heap) (b t : Addr) (kt : ClassId) (ds : List Int32) (a : Addr) (cs : List Int32) (Sa : Str Z h0 a cs) (l1 : ds.length + cs.length ≤ 16) (Bb : Bl Z h0 b t kt ds) (nb : Z.heap.size ≤ b) (nt : Z.heap.size ≤ t) :
    Ct l Z a0 own_EL (⟨"java/lang/AbstractStringBuilder", "append", "(Ljava/lang/String;)Ljava/lang/AbstractStringBuilder;"⟩ : MethodName) jdk_68_method_22_code 3 (Option.some (Jvm.ClassFile.FieldType.object "java/lang/AbstractStringBuilder")) [] (rmm 3 0 0 59) #[(.ref b), (.ref a)] h0 [t] (fun v h so => v = some (.ref b) ∧ Keep h0 h [b, t] ∧ Bl Z h b t kt (ds ++ (cs.map fun c => c.toInt8.toInt32))) := by
  refine own_enter (plainFor_of_name pn_5) C.ew (F0 := fun m => mkF m 0 #[vR b, vR a, .unset] []) (fun m => by first | (simp [entryFrame, mkF, argsToLocals, Value.category]; done) | rfl) ?_
  intro p e s m below meth c s₁ G hx hby hml hret hnm W0 S0 go fin
  have z0 := W0.sz
  show G s₁ (mkF m 0 #[vR b, vR a, .unset] [])
  obtain ⟨Eb, Fv, Fc, Fn, Vt⟩ := id Bb
  have lt : ltN t h0.size := Vt.lt
  have lb : ltN b h0.size := Eb.lt
  have nbt : b ≠ t := Exa.neArv Eb Vt (w142 C)
  obtain ⟨Ea, Ca, pa, u, ku, Fa, Va0⟩ := id Sa
  have Va : Arv Z h0 u ku .byte (Int32.ofNat cs.length) ((cs.map fun c => c.toInt8.toInt32).map Value.int) vZ := Va0
  have la : ltN a h0.size := Ea.lt
  have lu : ltN u h0.size := Va.lt
  have nab : a ≠ b := Exa.ne Ea Eb (by decide)
  have nub : u ≠ b := Ne.symm (Exa.neArv Eb Va (w142 C))
  have hl_cs : cs.length ≤ 4000 := by omega
  refine go (g' := (mkF m 10 #[vR b, vR a, .unset] [(.ref a)])) (fun _ k => XS.aloadN W0.here hx rfl (hb hby d14_0) rfl rfl (XS.ifnonnullYes W0.here hx rfl (pc0 := 1) (pc' := 9) rfl (hb hby d14_1) rfl (by decide) (by decide) (XS.aloadN W0.here hx rfl (hb hby d14_9) rfl rfl k))) ?_
  obtain ⟨v1, so1, vm1, T1, h1, W1, C1, q1, hso1, st1⟩ := own_virtual W0 hx (w169 C) (w170 C) (w172 C) (w171 C) (w10 C) (w173 C) (by decide) (own_nf W0 (w172 C)) Ea (rm_lenl C h0 a cs Sa hl_cs) (fun _ q => nomatch q) (Wd := 0) (nle rfl) (nle rfl) (nle rfl) (nle rfl) (g := (mkF m 10 #[vR b, vR a, .unset] [(.ref a)])) rfl (by rw [hml]; rfl) (argsL := []) (rest := []) (lenOf pd_5 rfl) rfl rfl (nle rfl) (hb hby d14_10)
  obtain ⟨rfl, rfl⟩ := q1
  have S1_t : Safe Z own_EL vm1 h0 t := C1.safe (olt (by omega)) (S0 _ (own_mi (i := 0) rfl))
  refine go (g' := (mkF m 13 #[vR b, vR a, .unset] [(.int (Int32.ofNat cs.length))])) (st1) ?_
  refine go (g' := (mkF m 16 #[vR b, vR a, vI (Int32.ofNat cs.length)] [(.ref b), (.ref b)])) (fun _ k => XS.istoreN W1.here hx rfl (hb hby d14_13) rfl (l' := #[vR b, vR a, vI (Int32.ofNat cs.length)]) rfl (XS.aloadN W1.here hx rfl (hb hby d14_14) rfl rfl (XS.aloadN W1.here hx rfl (hb hby d14_15) rfl rfl k))) ?_
  obtain ⟨T2, W2, st2⟩ := own_get W1 hx (host := "") (Or.inl (w179 C)) Via.refl Fn (g := (mkF m 16 #[vR b, vR a, vI (Int32.ofNat cs.length)] [(.ref b), (.ref b)])) rfl rfl (hb hby d14_16)
  refine go (g' := (mkF m 19 #[vR b, vR a, vI (Int32.ofNat cs.length)] [(.int (Int32.ofNat ds.length)), (.ref b)])) (st2) ?_
  refine go (g' := (mkF m 21 #[vR b, vR a, vI (Int32.ofNat cs.length)] [(.int ((Int32.ofNat ds.length) + (Int32.ofNat cs.length))), (.ref b)])) (fun _ k => XS.iloadN W2.here hx rfl (hb hby d14_19) rfl (XS.iadd W2.here hx rfl (hb hby d14_20) rfl k)) ?_
  rw [show ((Int32.ofNat ds.length) + (Int32.ofNat cs.length)) = (Int32.ofNat (ds.length + cs.length)) from own_addn ds.length cs.length]
  obtain ⟨v3, so3, vm3, T3, h3, W3, C3, q3, hso3, st3⟩ := own_virtual W2 hx (w181 C) (own_decl (w182 C) (w185 C)) (w184 C) (w182 C) (w151 C) (w185 C) (by decide) (own_nf W2 (w184 C)) Eb (rm_ens0 C h0 b t kt _ (ds.length + cs.length) l1 Fv Fc Vt) (fun _ q => nomatch q) (Wd := 0) (nle rfl) (nle rfl) (nle rfl) (nle rfl) (g := (mkF m 21 #[vR b, vR a, vI (Int32.ofNat cs.length)] [(.int (Int32.ofNat (ds.length + cs.length))), (.ref b)])) rfl (by rw [hml]; rfl) (argsL := [(.int (Int32.ofNat (ds.length + cs.length)))]) (rest := []) (lenOf pd_2 rfl) rfl rfl (nle rfl) (hb hby d14_21)
  obtain ⟨rfl, rfl⟩ := q3
  have S3_t : Safe Z own_EL vm3 h0 t := C3.safe (olt (by omega)) S1_t
  refine go (g' := (mkF m 24 #[vR b, vR a, vI (Int32.ofNat cs.length)] [])) (st3) ?_
  refine go (g' := (mkF m 26 #[vR b, vR a, vI (Int32.ofNat cs.length)] [(.ref b), (.ref b)])) (fun _ k => XS.aloadN W3.here hx rfl (hb hby d14_24) rfl rfl (XS.aloadN W3.here hx rfl (hb hby d14_25) rfl rfl k)) ?_
  obtain ⟨T4, W4, st4⟩ := own_get W3 hx (host := "") (Or.inl (w179 C)) Via.refl Fn (g := (mkF m 26 #[vR b, vR a, vI (Int32.ofNat cs.length)] [(.ref b), (.ref b)])) rfl rfl (hb hby d14_26)
  refine go (g' := (mkF m 29 #[vR b, vR a, vI (Int32.ofNat cs.length)] [(.int (Int32.ofNat ds.length)), (.ref b)])) (st4) ?_
  refine go (g' := (mkF m 30 #[vR b, vR a, vI (Int32.ofNat cs.length)] [(.ref a), (.int (Int32.ofNat ds.length)), (.ref b)])) (fun _ k => XS.aloadN W4.here hx rfl (hb hby d14_29) rfl rfl k) ?_
  obtain ⟨v5, so5, vm5, T5, h5, W5, C5, q5, hso5, st5⟩ := own_virtual W4 hx (w186 C) (own_decl (w187 C) (w190 C)) (w189 C) (w187 C) (w151 C) (w190 C) (by decide) (own_nf W4 (w189 C)) Eb (rm_ps00 C h0 b t kt ds a cs Sa l1 Bb (by omega) (by omega)) (allS S3_t all0) (Wd := 0) (nle rfl) (nle rfl) (nle rfl) (nle rfl) (g := (mkF m 30 #[vR b, vR a, vI (Int32.ofNat cs.length)] [(.ref a), (.int (Int32.ofNat ds.length)), (.ref b)])) rfl (by rw [hml]; rfl) (argsL := [(.int (Int32.ofNat ds.length)), (.ref a)]) (rest := []) (lenOf pd_6 rfl) rfl rfl (nle rfl) (hb hby d14_30)
  obtain ⟨rfl, K5, V5⟩ := q5
  have z6 : h0.size ≤ h5.size := K5.1
  have S5_t : Safe Z own_EL vm5 h5 t := C5.safe (olt (by omega)) S3_t
  refine go (g' := (mkF m 33 #[vR b, vR a, vI (Int32.ofNat cs.length)] [])) (st5) ?_
  refine go (g' := (mkF m 35 #[vR b, vR a, vI (Int32.ofNat cs.length)] [(.ref b), (.ref b)])) (fun _ k => XS.aloadN W5.here hx rfl (hb hby d14_33) rfl rfl (XS.dup W5.here hx rfl (hb hby d14_34) rfl rfl k)) ?_
  have f7 := Fn.keep K5 (ninS nbt nin0)
  obtain ⟨T8, W8, st8⟩ := own_get W5 hx (host := "") (Or.inl (w179 C)) Via.refl f7 (g := (mkF m 35 #[vR b, vR a, vI (Int32.ofNat cs.length)] [(.ref b), (.ref b)])) rfl rfl (hb hby d14_35)
  refine go (g' := (mkF m 38 #[vR b, vR a, vI (Int32.ofNat cs.length)] [(.int (Int32.ofNat ds.length)), (.ref b)])) (st8) ?_
  refine go (g' := (mkF m 40 #[vR b, vR a, vI (Int32.ofNat cs.length)] [(.int ((Int32.ofNat ds.length) + (Int32.ofNat cs.length))), (.ref b)])) (fun _ k => XS.iloadN W8.here hx rfl (hb hby d14_38) rfl (XS.iadd W8.here hx rfl (hb hby d14_39) rfl k)) ?_
  rw [show ((Int32.ofNat ds.length) + (Int32.ofNat cs.length)) = (Int32.ofNat (ds.length + cs.length)) from own_addn ds.length cs.length]
  have f9 := Eb.keep K5
  obtain ⟨T10, h10, W10, R10, F10, st10⟩ := own_put W8 hx (host := "") (Or.inl (w179 C)) Via.refl f7 f9 (Or.inl (w180 C)) (w142 C) (ty := .int) (by decide) rfl rfl (own_safeE W8 f9 (by decide) (by decide)) (by omega) (g := (mkF m 40 #[vR b, vR a, vI (Int32.ofNat cs.length)] [(.int (Int32.ofNat (ds.length + cs.length))), (.ref b)])) rfl rfl (hb hby d14_40)
  have f11 := Fv.keep K5 (ninS nbt nin0)
  have f12 := Fc.keep K5 (ninS nbt nin0)
  have z13 : h10.size = h5.size := R10.size
  have f14 := f9.wr R10
  have f15 := f11.other R10 (Or.inr (slot_ne (Or.inl (w156 C)) (Or.inl (w180 C)) (by decide) (t := (.array .byte)) (t' := .int) (by decide) (by decide)))
  have f16 := f12.other R10 (Or.inr (slot_ne (Or.inl (w158 C)) (Or.inl (w180 C)) (by decide) (t := .byte) (t' := .int) (by decide) (by decide)))
  have S10_t : Safe Z own_EL vm5 h10 t := Safe.wr R10 (own_safeE W8 f9 (by decide) (by decide)) W8.ch S5_t
  refine go (g' := (mkF m 43 #[vR b, vR a, vI (Int32.ofNat cs.length)] [])) (st10) ?_
  refine go (g' := (mkF m 44 #[vR b, vR a, vI (Int32.ofNat cs.length)] [(.ref b)])) (fun _ k => XS.aloadN W10.here hx rfl (hb hby d14_43) rfl rfl k) ?_
  have KK17 : Keep h0 h10 [b, t] := (((Keep.refl h0 [b, t]).trans K5 (allS (Or.inl (own_mi (i := 1) rfl)) all0)).wr R10 (Or.inl (own_mi (i := 0) rfl)))
  have f18 := V5.other R10 (Ne.symm nbt)
  exact fin (v := some (.ref b)) (so := []) W10 (nle rfl) (nle rfl) (⟨rfl, KK17, ⟨f14, f15, f16, own_cntA F10, f18⟩⟩) (fun _ q => nomatch q) (fun q => nomatch q) (own_retA W10 hx hret rfl rfl rfl (hb hby d14_44))
theorem rm_sap00 (C : Cx Z a0) (h0 : Heap) (b t : Addr) (kt : ClassId) (ds : List Int32) (a : Addr) (cs : List Int32) (Sa : Str Z h0 a cs) (l1 : ds.length + cs.length ≤ 16) (Bb : Bl Z h0 b t kt ds) (nb : Z.heap.size ≤ b) (nt : Z.heap.size ≤ t) :
    Ct l Z a0 own_EL (⟨"java/lang/StringBuilder", "append", "(Ljava/lang/String;)Ljava/lang/StringBuilder;"⟩ : MethodName) jdk_67_method_7_code 2 (Option.some (Jvm.ClassFile.FieldType.object "java/lang/StringBuilder")) [] (rmm 4 0 0 73) #[(.ref b), (.ref a)] h0 [t] (fun v h so => v = some (.ref b) ∧ Keep h0 h [b, t] ∧ Bl Z h b t kt (ds ++ (cs.map fun c => c.toInt8.toInt32))) := by
  refine own_enter (plainFor_of_name pn_6) C.ew (F0 := fun m => mkF m 0 #[vR b, vR a] []) (fun m => by first | (simp [entryFrame, mkF, argsToLocals, Value.category]; done) | rfl) ?_
  intro p e s m below meth c s₁ G hx hby hml hret hnm W0 S0 go fin
  have z0 := W0.sz
  show G s₁ (mkF m 0 #[vR b, vR a] [])
  obtain ⟨Eb, Fv, Fc, Fn, Vt⟩ := id Bb
  have lt : ltN t h0.size := Vt.lt
  have lb : ltN b h0.size := Eb.lt
  have nbt : b ≠ t := Exa.neArv Eb Vt (w142 C)
  obtain ⟨Ea, Ca, pa, u, ku, Fa, Va0⟩ := id Sa
  have Va : Arv Z h0 u ku .byte (Int32.ofNat cs.length) ((cs.map fun c => c.toInt8.toInt32).map Value.int) vZ := Va0
  have la : ltN a h0.size := Ea.lt
  have lu : ltN u h0.size := Va.lt
  have nab : a ≠ b := Exa.ne Ea Eb (by decide)
  have nub : u ≠ b := Ne.symm (Exa.neArv Eb Va (w142 C))
  have hl_cs : cs.length ≤ 4000 := by omega
  refine go (g' := (mkF m 2 #[vR b, vR a] [(.ref a), (.ref b)])) (fun _ k => XS.aloadN W0.here hx rfl (hb hby d15_0) rfl rfl (XS.aloadN W0.here hx rfl (hb hby d15_1) rfl rfl k)) ?_
  obtain ⟨v1, so1, vm1, T1, h1, W1, C1, q1, hso1, st1⟩ := own_super W0 hx (y := (⟨"java/lang/AbstractStringBuilder", "append", "(Ljava/lang/String;)Ljava/lang/AbstractStringBuilder;"⟩ : MethodName)) (w164 C) (own_sameM (y := (⟨"java/lang/AbstractStringBuilder", "append", "(Ljava/lang/String;)Ljava/lang/AbstractStringBuilder;"⟩ : MethodName)) (w167 C) (w184 C) rfl (by decide)) (w165 C) (w166 C) (by decide) (w151 C) (w168 C) (Ins.self Eb) (rm_ap00 C h0 b t kt ds a cs Sa l1 Bb (by omega) (by omega)) (allS (S0 _ (own_mi (i := 0) rfl)) all0) (Wd := 0) (nle rfl) (nle rfl) (nle rfl) (nle rfl) (g := (mkF m 2 #[vR b, vR a] [(.ref a), (.ref b)])) rfl (by rw [hml]; rfl) (argsL := [(.ref a)]) (rest := []) (lenOf pd_7 rfl) rfl rfl (nle rfl) (hb hby d15_2)
  obtain ⟨rfl, K1, B1⟩ := q1
  have z2 : h0.size ≤ h1.size := K1.1
  have S1_t : Safe Z own_EL vm1 h1 t := C1.safe (olt (by omega)) (S0 _ (own_mi (i := 0) rfl))
  refine go (g' := (mkF m 5 #[vR b, vR a] [(.ref b)])) (st1) ?_
  refine go (g' := (mkF m 7 #[vR b, vR a] [(.ref b)])) (fun _ k => XS.pop W1.here hx rfl (hb hby d15_5) rfl rfl (XS.aloadN W1.here hx rfl (hb hby d15_6) rfl rfl k)) ?_
  have KK3 : Keep h0 h1 [b, t] := ((Keep.refl h0 [b, t]).trans K1 (allS (Or.inl (own_mi (i := 0) rfl)) (allS (Or.inl (own_mi (i := 1) rfl)) all0)))
  exact fin (v := some (.ref b)) (so := []) W1 (nle rfl) (nle rfl) (⟨rfl, KK3, B1⟩) (fun _ q => nomatch q) (fun q => nomatch q) (own_retA W1 hx hret rfl rfl rfl (hb hby d15_7))
theorem rm_chk (C : Cx Z a0) (h0 : Heap) (hi : Nat) (h2 : hi ≤ 4000) :
    Ct l Z a0 own_EL (⟨"java/util/Arrays", "checkLength", "(II)V"⟩ : MethodName) jdk_65_method_131_code 2 (Option.none : Option Jvm.ClassFile.FieldType) [] (rmm 0 0 0 0) #[vZ, (.int (Int32.ofNat hi))] h0 [] (fun v h so => v = none ∧ h0 = h) := by
  refine own_enter (plainFor_of_name pn_8) C.ew (F0 := fun m => mkF m 0 #[.val vZ, vI (Int32.ofNat hi)] []) (fun m => by first | (simp [entryFrame, mkF, argsToLocals, Value.category]; done) | rfl) ?_
  intro p e s m below meth c s₁ G hx hby hml hret hnm W0 S0 go fin
  have z0 := W0.sz
  show G s₁ (mkF m 0 #[.val vZ, vI (Int32.ofNat hi)] [])
  refine go (g' := (mkF m 37 #[.val vZ, vI (Int32.ofNat hi)] [])) (fun _ k => XS.iloadN W0.here hx rfl (hb hby d16_0) rfl (XS.iloadN W0.here hx rfl (hb hby d16_1) rfl (XS.icmpYes W0.here hx rfl (pc0 := 2) (pc' := 37) rfl (hb hby d16_2) rfl (flt (own_nn (by omega))).2.1 (by decide) (by decide) k))) ?_
  exact fin (v := none) (so := []) W0 (nle rfl) (nle rfl) (⟨rfl, rfl⟩) (fun _ q => nomatch q) (fun _ => rfl) (own_retV W0 hx hret (hb hby d16_37))
theorem rm_min (C : Cx Z a0) (h0 : Heap) (a b : Nat) (h1 : b < a) (h2 : a ≤ 4000) :
    Ct l Z a0 own_EL (⟨"java/lang/Math", "min", "(II)I"⟩ : MethodName) jdk_29_method_69_code 2 (Option.some Jvm.ClassFile.FieldType.int) [] (rmm 0 0 0 0) #[(.int (Int32.ofNat a)), (.int (Int32.ofNat b))] h0 [] (fun v h so => v = some (.int (Int32.ofNat b)) ∧ h0 = h) := by
  refine own_enter (Jvm.Free.JP.mathPlain rfl (by decide +kernel)) C.ew (F0 := fun m => mkF m 0 #[vI (Int32.ofNat a), vI (Int32.ofNat b)] []) (fun m => by first | (simp [entryFrame, mkF, argsToLocals, Value.category]; done) | rfl) ?_
  intro p e s m below meth c s₁ G hx hby hml hret hnm W0 S0 go fin
  have z0 := W0.sz
  show G s₁ (mkF m 0 #[vI (Int32.ofNat a), vI (Int32.ofNat b)] [])
  refine go (g' := (mkF m 10 #[vI (Int32.ofNat a), vI (Int32.ofNat b)] [(.int (Int32.ofNat b))])) (fun _ k => XS.iloadN W0.here hx rfl (hb hby d17_0) rfl (XS.iloadN W0.here hx rfl (hb hby d17_1) rfl (XS.icmpYes W0.here hx rfl (pc0 := 2) (pc' := 9) rfl (hb hby d17_2) rfl (tlt ((own_ltn (by omega) (by omega)).mpr (by omega))).2.2.1 (by decide) (by decide) (XS.iloadN W0.here hx rfl (hb hby d17_9) rfl k)))) ?_
  exact fin (v := some (.int (Int32.ofNat b))) (so := []) W0 (nle rfl) (nle rfl) (⟨rfl, rfl⟩) (fun _ q => nomatch q) (fun q => nomatch q) (own_retI W0 hx hret (by decide) rfl (hb hby d17_10))
theorem rm_corb (C : Cx Z a0) (h0 : Heap) (t : Addr) (kt : ClassId) (vs : List Value) (cap hi : Nat) (hz1 : 0 < hi) (hz2 : vs.length = hi) (hz3 : hi < cap) (hz4 : cap ≤ 32) (hz5 : hi ≤ 12) (Vt : Arv Z h0 t kt .byte (Int32.ofNat cap) vs vZ) :
    Ct l Z a0 own_EL (⟨"java/util/Arrays", "copyOfRangeByte", "([BII)[B"⟩ : MethodName) jdk_65_method_133_code 5 (Option.some (Jvm.ClassFile.FieldType.array Jvm.ClassFile.FieldType.byte)) [] (rmm 1 1 12 30) #[(.ref t), vZ, (.int (Int32.ofNat hi))] h0 [] (fun v h so => ∃ (x : Addr) (kx : ClassId), v = some (.ref x) ∧ Ext h0 h ∧ h0.size ≤ x ∧ Arv Z h x kx .byte (Int32.ofNat hi) vs vZ ∧ Z.vm.findClass "[B" = some kx) := by
  refine own_enter (plainFor_of_name pn_8) C.ew (F0 := fun m => mkF m 0 #[vR t, .val vZ, vI (Int32.ofNat hi), .unset, .unset] []) (fun m => by first | (simp [entryFrame, mkF, argsToLocals, Value.category]; done) | rfl) ?_
  intro p e s m below meth c s₁ G hx hby hml hret hnm W0 S0 go fin
  have z0 := W0.sz
  show G s₁ (mkF m 0 #[vR t, .val vZ, vI (Int32.ofNat hi), .unset, .unset] [])
  have lt : ltN t h0.size := Vt.lt
  refine go (g' := (mkF m 2 #[vR t, .val vZ, vI (Int32.ofNat hi), .unset, .unset] [(.int (Int32.ofNat hi)), vZ])) (fun _ k => XS.iloadN W0.here hx rfl (hb hby d18_0) rfl (XS.iloadN W0.here hx rfl (hb hby d18_1) rfl k)) ?_
  obtain ⟨v1, so1, vm1, T1, h1, W1, C1, q1, hso1, st1⟩ := own_static W0 hx (w244 C) (w245 C) (w239 C) (w246 C) (by decide) (rm_chk C h0 hi (by omega)) (fun _ q => nomatch q) (Wd := 0) (nle rfl) (nle rfl) (nle rfl) (nle rfl) (g := (mkF m 2 #[vR t, .val vZ, vI (Int32.ofNat hi), .unset, .unset] [(.int (Int32.ofNat hi)), vZ])) rfl (by rw [hml]; rfl) (argsL := [vZ, (.int (Int32.ofNat hi))]) (rest := []) (lenOf pd_8 rfl) rfl rfl (nle rfl) (hb hby d18_2)
  obtain ⟨rfl, rfl⟩ := q1
  refine go (g' := (mkF m 5 #[vR t, .val vZ, vI (Int32.ofNat hi), .unset, .unset] [])) (st1) ?_
  refine go (g' := (mkF m 8 #[vR t, .val vZ, vI (Int32.ofNat hi), .unset, .unset] [(.int ((Int32.ofNat hi) - (0 : Int32)))])) (fun _ k => XS.iloadN W1.here hx rfl (hb hby d18_5) rfl (XS.iloadN W1.here hx rfl (hb hby d18_6) rfl (XS.isub W1.here hx rfl (hb hby d18_7) rfl k))) ?_
  rw [show ((Int32.ofNat hi) - (0 : Int32)) = (Int32.ofNat hi) from own_sub0 _]
  refine go (g' := (mkF m 10 #[vR t, .val vZ, vI (Int32.ofNat hi), vI (Int32.ofNat hi), .unset] [(.int (Int32.ofNat hi))])) (fun _ k => XS.istoreN W1.here hx rfl (hb hby d18_8) rfl (l' := #[vR t, .val vZ, vI (Int32.ofNat hi), vI (Int32.ofNat hi), .unset]) rfl (XS.iloadN W1.here hx rfl (hb hby d18_9) rfl k)) ?_
  obtain ⟨x2, T2, h2, k2, g2, W2, E2, A2, hB2, st2⟩ := own_newPB W1 hx (w26 C) (g := (mkF m 10 #[vR t, .val vZ, vI (Int32.ofNat hi), vI (Int32.ofNat hi), .unset] [(.int (Int32.ofNat hi))])) rfl (hb hby d18_10) rfl (own_nn (by omega)) (cap := 12) (by rw [own_cl (by omega)]; omega) (nle rfl) (nle rfl) (nle rfl)
  have z3 : h0.size ≤ h2.size := E2.1
  have l2 : ltN x2 h2.size := A2.lt
  have V2 : Arv Z h2 x2 k2 .byte (Int32.ofNat hi) [] vZ := A2
  refine go (g' := (mkF m 12 #[vR t, .val vZ, vI (Int32.ofNat hi), vI (Int32.ofNat hi), .unset] [(.ref x2)])) (st2) ?_
  refine go (g' := (mkF m 20 #[vR t, .val vZ, vI (Int32.ofNat hi), vI (Int32.ofNat hi), vR x2] [(.ref t), vZ, (.ref x2), vZ, (.ref t)])) (fun _ k => XS.astore W2.here hx rfl (hb hby d18_12) rfl rfl (l' := #[vR t, .val vZ, vI (Int32.ofNat hi), vI (Int32.ofNat hi), vR x2]) rfl (XS.aloadN W2.here hx rfl (hb hby d18_14) rfl rfl (XS.iloadN W2.here hx rfl (hb hby d18_15) rfl (XS.aload W2.here hx rfl (hb hby d18_16) rfl rfl (XS.iconst W2.here hx rfl (hb hby d18_18) (XS.aloadN W2.here hx rfl (hb hby d18_19) rfl rfl k)))))) ?_
  have X4 : Ext h0 h2 := own_xt (own_xr h0) E2
  have f5 := Vt.ext X4
  refine go (g' := (mkF m 21 #[vR t, .val vZ, vI (Int32.ofNat hi), vI (Int32.ofNat hi), vR x2] [(.int (Int32.ofNat cap)), vZ, (.ref x2), vZ, (.ref t)])) (own_alen W2 hx f5 (g := (mkF m 20 #[vR t, .val vZ, vI (Int32.ofNat hi), vI (Int32.ofNat hi), vR x2] [(.ref t), vZ, (.ref x2), vZ, (.ref t)])) rfl rfl (hb hby d18_20)) ?_
  refine go (g' := (mkF m 23 #[vR t, .val vZ, vI (Int32.ofNat hi), vI (Int32.ofNat hi), vR x2] [(.int ((Int32.ofNat cap) - (0 : Int32))), vZ, (.ref x2), vZ, (.ref t)])) (fun _ k => XS.iloadN W2.here hx rfl (hb hby d18_21) rfl (XS.isub W2.here hx rfl (hb hby d18_22) rfl k)) ?_
  rw [show ((Int32.ofNat cap) - (0 : Int32)) = (Int32.ofNat cap) from own_sub0 _]
  refine go (g' := (mkF m 24 #[vR t, .val vZ, vI (Int32.ofNat hi), vI (Int32.ofNat hi), vR x2] [(.int (Int32.ofNat hi)), (.int (Int32.ofNat cap)), vZ, (.ref x2), vZ, (.ref t)])) (fun _ k => XS.iloadN W2.here hx rfl (hb hby d18_23) rfl k) ?_
  obtain ⟨v6, so6, vm6, T6, h6, W6, C6, q6, hso6, st6⟩ := own_static W2 hx (w247 C) (w248 C) (w249 C) (w250 C) (by decide) (rm_min C h2 cap hi (by omega) (by omega)) (fun _ q => nomatch q) (Wd := 4) (nle rfl) (nle rfl) (nle rfl) (nle rfl) (g := (mkF m 24 #[vR t, .val vZ, vI (Int32.ofNat hi), vI (Int32.ofNat hi), vR x2] [(.int (Int32.ofNat hi)), (.int (Int32.ofNat cap)), vZ, (.ref x2), vZ, (.ref t)])) rfl (by rw [hml]; rfl) (argsL := [(.int (Int32.ofNat cap)), (.int (Int32.ofNat hi))]) (rest := [vZ, (.ref x2), vZ, (.ref t)]) (lenOf pd_9 rfl) rfl rfl (nle rfl) (hb hby d18_24)
  obtain ⟨rfl, rfl⟩ := q6
  have S6_x2 : Safe Z own_EL vm6 h2 x2 := C6.safe (olt (by omega)) (own_safeB W1 X4 (by omega))
  refine go (g' := (mkF m 27 #[vR t, .val vZ, vI (Int32.ofNat hi), vI (Int32.ofNat hi), vR x2] [(.int (Int32.ofNat hi)), vZ, (.ref x2), vZ, (.ref t)])) (st6) ?_
  have P7 : Arv Z h2 x2 k2 .byte (Int32.ofNat hi) ([] ++ List.replicate hi vZ) vZ := V2.pad (pad_rep [] _ _)
  have e0 : (0 : Int32).toNatClampNeg = 0 := by decide
  have e2 : (Int32.ofNat hi).toNatClampNeg = hi := own_cl (by omega)
  have e3 : (Int32.ofNat cap).toNatClampNeg = cap := own_cl (by omega)
  obtain ⟨T7, h7, W7, K7, V7, st7⟩ := own_cp W6 hx (w251 C) (w205 C) (w203 C) (w204 C) f5 P7 rfl S6_x2 (sp := (0 : Int32)) (dp := (0 : Int32)) (nn := (Int32.ofNat hi)) (by decide) (by decide) (own_nn (by omega)) (by rw [e0, e2, e3]; omega) (by rw [e0, e2]; omega) (us := vs) (by rw [e0, e2]; exact (own_rgv vs hi _ hz2).symm) (by rw [e0, e2]; simp) (by omega) (g := (mkF m 27 #[vR t, .val vZ, vI (Int32.ofNat hi), vI (Int32.ofNat hi), vR x2] [(.int (Int32.ofNat hi)), vZ, (.ref x2), vZ, (.ref t)])) rfl (by rw [hml]; rfl) rfl (hb hby d18_27) (nle rfl) (Wd := 0) (nle rfl) (nle rfl)
  have z8 : h2.size ≤ h7.size := K7.1
  have U7 : Arv Z h7 x2 k2 .byte (Int32.ofNat hi) vs vZ := by have q := V7; rw [e0, e2, own_cpz] at q; exact q
  refine go (g' := (mkF m 30 #[vR t, .val vZ, vI (Int32.ofNat hi), vI (Int32.ofNat hi), vR x2] [])) (st7) ?_
  refine go (g' := (mkF m 32 #[vR t, .val vZ, vI (Int32.ofNat hi), vI (Int32.ofNat hi), vR x2] [(.ref x2)])) (fun _ k => XS.aload W7.here hx rfl (hb hby d18_30) rfl rfl k) ?_
  have X9 : Ext h0 h7 := own_xk X4 K7 (allS (by omega) all0)
  exact fin (v := some (.ref x2)) (so := []) W7 (nle rfl) (nle rfl) (⟨_, _, rfl, X9, by omega, U7, hB2⟩) (fun _ q => nomatch q) (fun q => nomatch q) (own_retA W7 hx hret rfl rfl rfl (hb hby d18_32))
theorem rm_cor (C : Cx Z a0) (h0 : Heap) (t : Addr) (kt : ClassId) (vs : List Value) (cap hi : Nat) (hz1 : 0 < hi) (hz2 : vs.length = hi) (hz3 : hi < cap) (hz4 : cap ≤ 32) (hz5 : hi ≤ 12) (Vt : Arv Z h0 t kt .byte (Int32.ofNat cap) vs vZ) :
    Ct l Z a0 own_EL (⟨"java/util/Arrays", "copyOfRange", "([BII)[B"⟩ : MethodName) jdk_65_method_132_code 3 (Option.some (Jvm.ClassFile.FieldType.array Jvm.ClassFile.FieldType.byte)) [] (rmm 2 1 12 46) #[(.ref t), vZ, (.int (Int32.ofNat hi))] h0 [] (fun v h so => ∃ (x : Addr) (kx : ClassId), v = some (.ref x) ∧ Ext h0 h ∧ h0.size ≤ x ∧ Arv Z h x kx .byte (Int32.ofNat hi) vs vZ ∧ Z.vm.findClass "[B" = some kx) := by
  refine own_enter (plainFor_of_name pn_8) C.ew (F0 := fun m => mkF m 0 #[vR t, .val vZ, vI (Int32.ofNat hi)] []) (fun m => by first | (simp [entryFrame, mkF, argsToLocals, Value.category]; done) | rfl) ?_
  intro p e s m below meth c s₁ G hx hby hml hret hnm W0 S0 go fin
  have z0 := W0.sz
  show G s₁ (mkF m 0 #[vR t, .val vZ, vI (Int32.ofNat hi)] [])
  have lt : ltN t h0.size := Vt.lt
  refine go (g' := (mkF m 6 #[vR t, .val vZ, vI (Int32.ofNat hi)] [(.ref t), (.int (Int32.ofNat hi))])) (fun _ k => XS.iloadN W0.here hx rfl (hb hby d19_0) rfl (XS.ifNo W0.here hx rfl (hb hby d19_1) rfl ((if0 _ _).trans (teq ((by decide) : (0 : Int32) = (0 : Int32))).2) (XS.iloadN W0.here hx rfl (hb hby d19_4) rfl (XS.aloadN W0.here hx rfl (hb hby d19_5) rfl rfl k)))) ?_
  refine go (g' := (mkF m 7 #[vR t, .val vZ, vI (Int32.ofNat hi)] [(.int (Int32.ofNat cap)), (.int (Int32.ofNat hi))])) (own_alen W0 hx Vt (g := (mkF m 6 #[vR t, .val vZ, vI (Int32.ofNat hi)] [(.ref t), (.int (Int32.ofNat hi))])) rfl rfl (hb hby d19_6)) ?_
  refine go (g' := (mkF m 13 #[vR t, .val vZ, vI (Int32.ofNat hi)] [(.int (Int32.ofNat hi)), vZ, (.ref t)])) (fun _ k => XS.icmpNo W0.here hx rfl (hb hby d19_7) rfl (feq (fun q => absurd ((own_eqn (by omega) (by omega)).mp q) (by omega))).1 (XS.aloadN W0.here hx rfl (hb hby d19_10) rfl rfl (XS.iloadN W0.here hx rfl (hb hby d19_11) rfl (XS.iloadN W0.here hx rfl (hb hby d19_12) rfl k)))) ?_
  obtain ⟨v1, so1, vm1, T1, h1, W1, C1, q1, hso1, st1⟩ := own_static W0 hx (w241 C) (w242 C) (w239 C) (w243 C) (by decide) (rm_corb C h0 t kt vs cap hi hz1 hz2 hz3 hz4 hz5 Vt) (fun _ q => nomatch q) (Wd := 0) (nle rfl) (nle rfl) (nle rfl) (nle rfl) (g := (mkF m 13 #[vR t, .val vZ, vI (Int32.ofNat hi)] [(.int (Int32.ofNat hi)), vZ, (.ref t)])) rfl (by rw [hml]; rfl) (argsL := [(.ref t), vZ, (.int (Int32.ofNat hi))]) (rest := []) (lenOf pd_10 rfl) rfl rfl (nle rfl) (hb hby d19_13)
  obtain ⟨x1, k1, rfl, E1, g1, V1, hB1⟩ := q1
  have z2 : h0.size ≤ h1.size := E1.1
  refine go (g' := (mkF m 16 #[vR t, .val vZ, vI (Int32.ofNat hi)] [(.ref x1)])) (st1) ?_
  have X3 : Ext h0 h1 := own_xt (own_xr h0) E1
  exact fin (v := some (.ref x1)) (so := []) W1 (nle rfl) (nle rfl) (⟨_, _, rfl, X3, by omega, V1, hB1⟩) (fun _ q => nomatch q) (fun q => nomatch q) (own_retA W1 hx hret rfl rfl rfl (hb hby d19_16))
theorem rm_asb_getValue (C : Cx Z a0) (h0 : Heap) (a : Addr) (u : Value) (ru : u.isRef = true) (Fa : Fld Z h0 a "java/lang/AbstractStringBuilder" "value" "[B" u) :
    Ct l Z a0 own_EL (⟨"java/lang/AbstractStringBuilder", "getValue", "()[B"⟩ : MethodName) jdk_68_method_64_code 1 (Option.some (Jvm.ClassFile.FieldType.array Jvm.ClassFile.FieldType.byte)) [] (rmm 0 0 0 0) #[(.ref a)] h0 [] (fun v h so => v = some u ∧ h0 = h) := by
  refine own_enter (plainFor_of_name pn_5) C.ew (F0 := fun m => mkF m 0 #[vR a] []) (fun m => by first | (simp [entryFrame, mkF, argsToLocals, Value.category]; done) | rfl) ?_
  intro p e s m below meth c s₁ G hx hby hml hret hnm W0 S0 go fin
  have z0 := W0.sz
  show G s₁ (mkF m 0 #[vR a] [])
  refine go (g' := (mkF m 1 #[vR a] [(.ref a)])) (fun _ k => XS.aloadN W0.here hx rfl (hb hby d20_0) rfl rfl k) ?_
  obtain ⟨T1, W1, st1⟩ := own_get W0 hx (host := "") (Or.inl (w155 C)) Via.refl Fa (g := (mkF m 1 #[vR a] [(.ref a)])) rfl rfl (hb hby d20_1)
  refine go (g' := (mkF m 4 #[vR a] [u])) (st1) ?_
  exact fin (v := some u) (so := []) W1 (nle rfl) (nle rfl) (⟨rfl, rfl⟩) (fun _ q => nomatch q) (fun q => nomatch q) (own_retA W1 hx hret rfl ru (own_nrR ru rfl) (hb hby d20_4))
theorem rm_asb_length (C : Cx Z a0) (h0 : Heap) (a : Addr) (u : Int32) (Fa : Fld Z h0 a "java/lang/AbstractStringBuilder" "count" "I" (.int u)) :
    Ct l Z a0 own_EL (⟨"java/lang/AbstractStringBuilder", "length", "()I"⟩ : MethodName) jdk_68_method_6_code 1 (Option.some Jvm.ClassFile.FieldType.int) [] (rmm 0 0 0 0) #[(.ref a)] h0 [] (fun v h so => v = some (.int u) ∧ h0 = h) := by
  refine own_enter (plainFor_of_name pn_5) C.ew (F0 := fun m => mkF m 0 #[vR a] []) (fun m => by first | (simp [entryFrame, mkF, argsToLocals, Value.category]; done) | rfl) ?_
  intro p e s m below meth c s₁ G hx hby hml hret hnm W0 S0 go fin
  have z0 := W0.sz
  show G s₁ (mkF m 0 #[vR a] [])
  refine go (g' := (mkF m 1 #[vR a] [(.ref a)])) (fun _ k => XS.aloadN W0.here hx rfl (hb hby d21_0) rfl rfl k) ?_
  obtain ⟨T1, W1, st1⟩ := own_get W0 hx (host := "") (Or.inl (w179 C)) Via.refl Fa (g := (mkF m 1 #[vR a] [(.ref a)])) rfl rfl (hb hby d21_1)
  refine go (g' := (mkF m 4 #[vR a] [(.int u)])) (st1) ?_
  exact fin (v := some (.int u)) (so := []) W1 (nle rfl) (nle rfl) (⟨rfl, rfl⟩) (fun _ q => nomatch q) (fun q => nomatch q) (own_retI W1 hx hret (by decide) rfl (hb hby d21_4))
theorem rm_sblen (C : Cx Z a0) (h0 : Heap) (b : Addr) (u : Int32) (Eb : Exa Z h0 b "java/lang/StringBuilder") (Fn : Fld Z h0 b "java/lang/AbstractStringBuilder" "count" "I" (.int u)) :
    Ct l Z a0 own_EL (⟨"java/lang/StringBuilder", "length", "()I"⟩ : MethodName) jdk_67_method_93_code 1 (Option.some Jvm.ClassFile.FieldType.int) [] (rmm 1 0 0 12) #[(.ref b)] h0 [] (fun v h so => v = some (.int u) ∧ h0 = h) := by
  refine own_enter (plainFor_of_name pn_6) C.ew (F0 := fun m => mkF m 0 #[vR b] []) (fun m => by first | (simp [entryFrame, mkF, argsToLocals, Value.category]; done) | rfl) ?_
  intro p e s m below meth c s₁ G hx hby hml hret hnm W0 S0 go fin
  have z0 := W0.sz
  show G s₁ (mkF m 0 #[vR b] [])
  refine go (g' := (mkF m 1 #[vR b] [(.ref b)])) (fun _ k => XS.aloadN W0.here hx rfl (hb hby d22_0) rfl rfl k) ?_
  obtain ⟨v1, so1, vm1, T1, h1, W1, C1, q1, hso1, st1⟩ := own_super W0 hx (y := (⟨"java/lang/AbstractStringBuilder", "length", "()I"⟩ : MethodName)) (w230 C) (own_sameM (y := (⟨"java/lang/AbstractStringBuilder", "length", "()I"⟩ : MethodName)) (w225 C) (w184 C) rfl (by decide)) (w226 C) (w166 C) (by decide) (w151 C) (w231 C) (Ins.self Eb) (rm_asb_length C h0 b u Fn) (fun _ q => nomatch q) (Wd := 0) (nle rfl) (nle rfl) (nle rfl) (nle rfl) (g := (mkF m 1 #[vR b] [(.ref b)])) rfl (by rw [hml]; rfl) (argsL := []) (rest := []) (lenOf pd_5 rfl) rfl rfl (nle rfl) (hb hby d22_1)
  obtain ⟨rfl, rfl⟩ := q1
  refine go (g' := (mkF m 4 #[vR b] [(.int u)])) (st1) ?_
  exact fin (v := some (.int u)) (so := []) W1 (nle rfl) (nle rfl) (⟨rfl, rfl⟩) (fun _ q => nomatch q) (fun q => nomatch q) (own_retI W1 hx hret (by decide) rfl (hb hby d22_4))
theorem rm_sial (C : Cx Z a0) (h0 : Heap) (x : Addr) (Ex : Exa Z h0 x "java/lang/String") (Xv : Fld Z h0 x "java/lang/String" "value" "[B" .null) (Xc : Fld Z h0 x "java/lang/String" "coder" "B" vZ) (nx : Z.heap.size ≤ x) (b t : Addr) (kt : ClassId) (ds : List Int32) (hz0 : 0 < ds.length) (hz1 : ds.length ≤ 6) (Bb : Bl Z h0 b t kt ds) :
    Ct l Z a0 own_EL (⟨"java/lang/String", "<init>", "(Ljava/lang/AbstractStringBuilder;Ljava/lang/Void;)V"⟩ : MethodName) jdk_42_method_150_code 5 (Option.none : Option Jvm.ClassFile.FieldType) [] (rmm 3 1 12 61) #[(.ref x), (.ref b), .null] h0 [x] (fun v h so => v = none ∧ Keep h0 h [x] ∧ Exa Z h x "java/lang/String" ∧ Fld Z h x "java/lang/String" "coder" "B" vZ ∧ ∃ (u : Addr) (ku : ClassId), Fld Z h x "java/lang/String" "value" "[B" (.ref u) ∧ Arv Z h u ku .byte (Int32.ofNat ds.length) (ds.map Value.int) vZ ∧ Z.vm.findClass "[B" = some ku) := by
  refine own_enter (plainFor_of_name pn_7) C.ew (F0 := fun m => mkF m 0 #[vR x, vR b, .val .null, .unset, .unset] []) (fun m => by first | (simp [entryFrame, mkF, argsToLocals, Value.category]; done) | rfl) ?_
  intro p e s m below meth c s₁ G hx hby hml hret hnm W0 S0 go fin
  have z0 := W0.sz
  show G s₁ (mkF m 0 #[vR x, vR b, .val .null, .unset, .unset] [])
  have lx : ltN x h0.size := Ex.lt
  obtain ⟨Eb, Fv, Fc, Fn, Vt⟩ := id Bb
  have lt : ltN t h0.size := Vt.lt
  have lb : ltN b h0.size := Eb.lt
  have nbt : b ≠ t := Exa.neArv Eb Vt (w142 C)
  have nbx : b ≠ x := Exa.ne Eb Ex (by decide)
  have ntx : t ≠ x := Ne.symm (Exa.neArv Ex Vt (w9 C))
  refine go (g' := (mkF m 1 #[vR x, vR b, .val .null, .unset, .unset] [(.ref x)])) (fun _ k => XS.aloadN W0.here hx rfl (hb hby d23_0) rfl rfl k) ?_
  obtain ⟨T1, W1, st1⟩ := own_initO W0 hx (w18 C) (w19 C) (w20 C) (g := (mkF m 1 #[vR x, vR b, .val .null, .unset, .unset] [(.ref x)])) rfl (by rw [hml]; rfl) rfl (hb hby d23_1) (nle rfl) (Wd := 0) (nle rfl) (nle rfl)
  refine go (g' := (mkF m 4 #[vR x, vR b, .val .null, .unset, .unset] [])) (st1) ?_
  refine go (g' := (mkF m 5 #[vR x, vR b, .val .null, .unset, .unset] [(.ref b)])) (fun _ k => XS.aloadN W1.here hx rfl (hb hby d23_4) rfl rfl k) ?_
  obtain ⟨v2, so2, vm2, T2, h2, W2, C2, q2, hso2, st2⟩ := own_virtual W1 hx (w219 C) (w220 C) (w222 C) (w221 C) (w151 C) (w223 C) (by decide) (own_nf W1 (w222 C)) Eb (rm_asb_getValue C h0 b (.ref t) rfl Fv) (fun _ q => nomatch q) (Wd := 0) (nle rfl) (nle rfl) (nle rfl) (nle rfl) (g := (mkF m 5 #[vR x, vR b, .val .null, .unset, .unset] [(.ref b)])) rfl (by rw [hml]; rfl) (argsL := []) (rest := []) (lenOf pd_11 rfl) rfl rfl (nle rfl) (hb hby d23_5)
  obtain ⟨rfl, rfl⟩ := q2
  have S2_x : Safe Z own_EL vm2 h0 x := C2.safe (olt (by omega)) (S0 _ (own_mi (i := 0) rfl))
  refine go (g' := (mkF m 8 #[vR x, vR b, .val .null, .unset, .unset] [(.ref t)])) (st2) ?_
  refine go (g' := (mkF m 10 #[vR x, vR b, .val .null, vR t, .unset] [(.ref b)])) (fun _ k => XS.astoreN W2.here hx rfl (hb hby d23_8) rfl rfl (l' := #[vR x, vR b, .val .null, vR t, .unset]) rfl (XS.aloadN W2.here hx rfl (hb hby d23_9) rfl rfl k)) ?_
  obtain ⟨v3, so3, vm3, T3, h3, W3, C3, q3, hso3, st3⟩ := own_virtual W2 hx (w224 C) (w225 C) (w227 C) (w228 C) (w143 C) (w229 C) (by decide) (own_nf2 W2 (y := (⟨"java/lang/AbstractStringBuilder", "length", "()I"⟩ : MethodName)) (w184 C) rfl) Eb (rm_sblen C h0 b (Int32.ofNat ds.length) Eb Fn) (fun _ q => nomatch q) (Wd := 0) (nle rfl) (nle rfl) (nle rfl) (nle rfl) (g := (mkF m 10 #[vR x, vR b, .val .null, vR t, .unset] [(.ref b)])) rfl (by rw [hml]; rfl) (argsL := []) (rest := []) (lenOf pd_5 rfl) rfl rfl (nle rfl) (hb hby d23_10)
  obtain ⟨rfl, rfl⟩ := q3
  have S3_x : Safe Z own_EL vm3 h0 x := C3.safe (olt (by omega)) S2_x
  refine go (g' := (mkF m 13 #[vR x, vR b, .val .null, vR t, .unset] [(.int (Int32.ofNat ds.length))])) (st3) ?_
  refine go (g' := (mkF m 16 #[vR x, vR b, .val .null, vR t, vI (Int32.ofNat ds.length)] [(.ref b)])) (fun _ k => XS.istore W3.here hx rfl (hb hby d23_13) rfl (l' := #[vR x, vR b, .val .null, vR t, vI (Int32.ofNat ds.length)]) rfl (XS.aloadN W3.here hx rfl (hb hby d23_15) rfl rfl k)) ?_
  obtain ⟨v4, so4, vm4, T4, h4, W4, C4, q4, hso4, st4⟩ := own_virtual W3 hx (w232 C) (w233 C) (w235 C) (w234 C) (w151 C) (w236 C) (by decide) (own_nf W3 (w235 C)) Eb (rm_bl10 C h0 b Fc) (fun _ q => nomatch q) (Wd := 0) (nle rfl) (nle rfl) (nle rfl) (nle rfl) (g := (mkF m 16 #[vR x, vR b, .val .null, vR t, vI (Int32.ofNat ds.length)] [(.ref b)])) rfl (by rw [hml]; rfl) (argsL := []) (rest := []) (lenOf pd_12 rfl) rfl rfl (nle rfl) (hb hby d23_16)
  obtain ⟨rfl, rfl⟩ := q4
  have S4_x : Safe Z own_EL vm4 h0 x := C4.safe (olt (by omega)) S3_x
  refine go (g' := (mkF m 19 #[vR x, vR b, .val .null, vR t, vI (Int32.ofNat ds.length)] [(.int (1 : Int32))])) (st4) ?_
  refine go (g' := (mkF m 24 #[vR x, vR b, .val .null, vR t, vI (Int32.ofNat ds.length)] [vZ, (.ref x)])) (fun _ k => XS.ifNo W4.here hx rfl (hb hby d23_19) rfl ((if0 _ _).trans (feq ((by decide) : ¬ ((1 : Int32) = (0 : Int32)))).1) (XS.aloadN W4.here hx rfl (hb hby d23_22) rfl rfl (XS.iconst W4.here hx rfl (hb hby d23_23) k))) ?_
  obtain ⟨T5, h5, W5, R5, F5, st5⟩ := own_put W4 hx (host := "") (Or.inl (w33 C)) Via.refl Xc Ex (Or.inr ⟨(w34 C), rfl, hnm⟩) (w9 C) (ty := .byte) (by decide) rfl (by decide) S4_x (by omega) (g := (mkF m 24 #[vR x, vR b, .val .null, vR t, vI (Int32.ofNat ds.length)] [vZ, (.ref x)])) rfl rfl (hb hby d23_24)
  have z6 : h5.size = h0.size := R5.size
  have f7 := Ex.wr R5
  have f8 := Xv.other R5 (Or.inr (slot_ne (Or.inr (w36 C)) (Or.inr (w34 C)) (by decide) (t := (.array .byte)) (t' := .byte) (by decide) (by decide)))
  have S5 : Safe Z own_EL vm4 h5 x := Safe.wr R5 S4_x W4.ch S4_x
  refine go (g' := (mkF m 27 #[vR x, vR b, .val .null, vR t, vI (Int32.ofNat ds.length)] [])) (st5) ?_
  refine go (g' := (mkF m 32 #[vR x, vR b, .val .null, vR t, vI (Int32.ofNat ds.length)] [(.int (Int32.ofNat ds.length)), vZ, (.ref t), (.ref x)])) (fun _ k => XS.aloadN W5.here hx rfl (hb hby d23_27) rfl rfl (XS.aloadN W5.here hx rfl (hb hby d23_28) rfl rfl (XS.iconst W5.here hx rfl (hb hby d23_29) (XS.iload W5.here hx rfl (hb hby d23_30) rfl k)))) ?_
  have f10 := Vt.other R5 ntx
  obtain ⟨v9, so9, vm9, T9, h9, W9, C9, q9, hso9, st9⟩ := own_static W5 hx (w237 C) (w238 C) (w239 C) (w240 C) (by decide) (rm_cor C h5 t kt (ds.map Value.int) 16 ds.length (by omega) (by simp) (by omega) (by omega) (by omega) f10) (fun _ q => nomatch q) (Wd := 1) (nle rfl) (nle rfl) (nle rfl) (nle rfl) (g := (mkF m 32 #[vR x, vR b, .val .null, vR t, vI (Int32.ofNat ds.length)] [(.int (Int32.ofNat ds.length)), vZ, (.ref t), (.ref x)])) rfl (by rw [hml]; rfl) (argsL := [(.ref t), vZ, (.int (Int32.ofNat ds.length))]) (rest := [(.ref x)]) (lenOf pd_10 rfl) rfl rfl (nle rfl) (hb hby d23_32)
  obtain ⟨x9, k9, rfl, E9, g9, V9, hB9⟩ := q9
  have z11 : h5.size ≤ h9.size := E9.1
  have S9_x : Safe Z own_EL vm9 h9 x := C9.safe (olt (by omega)) S5
  refine go (g' := (mkF m 35 #[vR x, vR b, .val .null, vR t, vI (Int32.ofNat ds.length)] [(.ref x9), (.ref x)])) (st9) ?_
  have X12 : Ext h5 h9 := own_xt (own_xr h5) E9
  have f13 := f8.ext X12
  have f14 := f7.ext X12
  obtain ⟨T15, h15, W15, R15, F15, st15⟩ := own_put W9 hx (host := "") (Or.inl (w35 C)) Via.refl f13 f14 (Or.inr ⟨(w36 C), rfl, hnm⟩) (w9 C) (ty := (.array .byte)) (by decide) rfl rfl S9_x (by omega) (g := (mkF m 35 #[vR x, vR b, .val .null, vR t, vI (Int32.ofNat ds.length)] [(.ref x9), (.ref x)])) rfl rfl (hb hby d23_35)
  have f16 := F5.ext X12
  have z17 : h15.size = h9.size := R15.size
  have f18 := f14.wr R15
  have f19 := f16.other R15 (Or.inr (slot_ne (Or.inr (w34 C)) (Or.inr (w36 C)) (by decide) (t := .byte) (t' := (.array .byte)) (by decide) (by decide)))
  have S15 : Safe Z own_EL vm9 h15 x := Safe.wr R15 S9_x W9.ch S9_x
  refine go (g' := (mkF m 38 #[vR x, vR b, .val .null, vR t, vI (Int32.ofNat ds.length)] [])) (st15) ?_
  refine go (g' := (mkF m 97 #[vR x, vR b, .val .null, vR t, vI (Int32.ofNat ds.length)] [])) (fun _ k => XS.goto W15.here hx rfl (pc0 := 38) (pc' := 97) rfl (hb hby d23_38) (by decide) (by decide) k) ?_
  have KK20 : Keep h0 h15 [x] := ((((Keep.refl h0 [x]).wr R5 (Or.inl (own_mi (i := 0) rfl))).ext E9).wr R15 (Or.inl (own_mi (i := 0) rfl)))
  have l22 : ltN x9 h9.size := V9.lt
  have f21 := V9.other R15 (one (by omega))
  exact fin (v := none) (so := []) W15 (nle rfl) (nle rfl) (⟨rfl, KK20, f18, f19, _, _, F15, f21, hB9⟩) (fun _ q => nomatch q) (fun _ => rfl) (own_retV W15 hx hret (hb hby d23_97))
theorem rm_sisl (C : Cx Z a0) (h0 : Heap) (x : Addr) (Ex : Exa Z h0 x "java/lang/String") (Xv : Fld Z h0 x "java/lang/String" "value" "[B" .null) (Xc : Fld Z h0 x "java/lang/String" "coder" "B" vZ) (nx : Z.heap.size ≤ x) (b t : Addr) (kt : ClassId) (ds : List Int32) (hz0 : 0 < ds.length) (hz1 : ds.length ≤ 6) (Bb : Bl Z h0 b t kt ds) :
    Ct l Z a0 own_EL (⟨"java/lang/String", "<init>", "(Ljava/lang/StringBuilder;)V"⟩ : MethodName) jdk_42_method_53_code 2 (Option.none : Option Jvm.ClassFile.FieldType) [] (rmm 4 1 12 77) #[(.ref x), (.ref b)] h0 [x] (fun v h so => v = none ∧ Keep h0 h [x] ∧ Exa Z h x "java/lang/String" ∧ Fld Z h x "java/lang/String" "coder" "B" vZ ∧ ∃ (u : Addr) (ku : ClassId), Fld Z h x "java/lang/String" "value" "[B" (.ref u) ∧ Arv Z h u ku .byte (Int32.ofNat ds.length) (ds.map Value.int) vZ ∧ Z.vm.findClass "[B" = some ku) := by
  refine own_enter (plainFor_of_name pn_7) C.ew (F0 := fun m => mkF m 0 #[vR x, vR b] []) (fun m => by first | (simp [entryFrame, mkF, argsToLocals, Value.category]; done) | rfl) ?_
  intro p e s m below meth c s₁ G hx hby hml hret hnm W0 S0 go fin
  have z0 := W0.sz
  show G s₁ (mkF m 0 #[vR x, vR b] [])
  have lx : ltN x h0.size := Ex.lt
  obtain ⟨Eb, Fv, Fc, Fn, Vt⟩ := id Bb
  have lt : ltN t h0.size := Vt.lt
  have lb : ltN b h0.size := Eb.lt
  have nbt : b ≠ t := Exa.neArv Eb Vt (w142 C)
  have nbx : b ≠ x := Exa.ne Eb Ex (by decide)
  have ntx : t ≠ x := Ne.symm (Exa.neArv Ex Vt (w9 C))
  refine go (g' := (mkF m 3 #[vR x, vR b] [.null, (.ref b), (.ref x)])) (fun _ k => XS.aloadN W0.here hx rfl (hb hby d24_0) rfl rfl (XS.aloadN W0.here hx rfl (hb hby d24_1) rfl rfl (XS.aconstNull W0.here hx rfl (hb hby d24_2) k))) ?_
  obtain ⟨v1, so1, vm1, T1, h1, W1, C1, q1, hso1, st1⟩ := own_special W0 hx (y := (⟨"java/lang/String", "<init>", "(Ljava/lang/AbstractStringBuilder;Ljava/lang/Void;)V"⟩ : MethodName)) rfl (w216 C) (w217 C) (w10 C) (w218 C) (by decide) (rm_sial C h0 x Ex Xv Xc (by omega) b t kt ds hz0 hz1 Bb) (allS (S0 _ (own_mi (i := 0) rfl)) all0) (Wd := 0) (nle rfl) (nle rfl) (nle rfl) (nle rfl) (g := (mkF m 3 #[vR x, vR b] [.null, (.ref b), (.ref x)])) rfl (by rw [hml]; rfl) (a := x) (argsL := [(.ref b), .null]) (rest := []) (lenOf pd_13 rfl) rfl rfl (nle rfl) (hb hby d24_3)
  obtain ⟨rfl, K1, E1, Fc1, u1, ku1, Fv1, V1, hB1⟩ := q1
  have z2 : h0.size ≤ h1.size := K1.1
  have S1_x : Safe Z own_EL vm1 h1 x := C1.safe (olt (by omega)) (S0 _ (own_mi (i := 0) rfl))
  refine go (g' := (mkF m 6 #[vR x, vR b] [])) (st1) ?_
  have KK3 : Keep h0 h1 [x] := ((Keep.refl h0 [x]).trans K1 (allS (Or.inl (own_mi (i := 0) rfl)) all0))
  exact fin (v := none) (so := []) W1 (nle rfl) (nle rfl) (⟨rfl, KK3, E1, Fc1, _, _, Fv1, V1, hB1⟩) (fun _ q => nomatch q) (fun _ => rfl) (own_retV W1 hx hret (hb hby d24_6))
theorem rm_sbtsl (C : Cx Z a0) (h0 : Heap) (b t : Addr) (kt : ClassId) (ds : List Int32) (hz0 : 0 < ds.length) (hz1 : ds.length ≤ 6) (Bb : Bl Z h0 b t kt ds) :
    Ct l Z a0 own_EL (⟨"java/lang/StringBuilder", "toString", "()Ljava/lang/String;"⟩ : MethodName) jdk_67_method_42_code 1 (Option.some (Jvm.ClassFile.FieldType.object "java/lang/String")) [] (rmm 5 2 16 91) #[(.ref b)] h0 [] (fun v h so => ∃ x : Addr, v = some (.ref x) ∧ Ext h0 h ∧ Exa Z h x "java/lang/String" ∧ Fld Z h x "java/lang/String" "coder" "B" vZ ∧ ∃ (u : Addr) (ku : ClassId), Fld Z h x "java/lang/String" "value" "[B" (.ref u) ∧ Arv Z h u ku .byte (Int32.ofNat ds.length) (ds.map Value.int) vZ ∧ Z.vm.findClass "[B" = some ku) := by
  refine own_enter (plainFor_of_name pn_6) C.ew (F0 := fun m => mkF m 0 #[vR b] []) (fun m => by first | (simp [entryFrame, mkF, argsToLocals, Value.category]; done) | rfl) ?_
  intro p e s m below meth c s₁ G hx hby hml hret hnm W0 S0 go fin
  have z0 := W0.sz
  show G s₁ (mkF m 0 #[vR b] [])
  obtain ⟨x1, T1, h1, g1, W1, E1, A1, D1, U1, st1⟩ := own_new W0 hx (w212 C) (w9 C) (w10 C) (g := (mkF m 0 #[vR b] [])) rfl (hb hby d25_0) (nle rfl) (nle rfl)
  have z2 : h0.size ≤ h1.size := E1.1
  have l1 : ltN x1 h1.size := A1.lt
  have F1_coder : Fld Z h1 x1 "java/lang/String" "coder" "B" vZ := D1 (Or.inr (w34 C)) (ty := .byte) (by decide)
  have F1_value : Fld Z h1 x1 "java/lang/String" "value" "[B" .null := D1 (Or.inr (w36 C)) (ty := (.array .byte)) (by decide)
  refine go (g' := (mkF m 3 #[vR b] [(.ref x1)])) (st1) ?_
  refine go (g' := (mkF m 5 #[vR b] [(.ref b), (.ref x1), (.ref x1)])) (fun _ k => XS.dup W1.here hx rfl (hb hby d25_3) rfl rfl (XS.aloadN W1.here hx rfl (hb hby d25_4) rfl rfl k)) ?_
  have X4 : Ext h0 h1 := own_xt (own_xr h0) E1
  have f5 := Bb.ext X4
  obtain ⟨v3, so3, vm3, T3, h3, W3, C3, q3, hso3, st3⟩ := own_special W1 hx (y := (⟨"java/lang/String", "<init>", "(Ljava/lang/StringBuilder;)V"⟩ : MethodName)) rfl (w213 C) (w214 C) (w10 C) (w215 C) (by decide) (rm_sisl C h1 x1 A1 F1_value F1_coder (by omega) b t kt ds hz0 hz1 f5) (allS (own_safeB W0 X4 (by omega)) all0) (Wd := 1) (nle rfl) (nle rfl) (nle rfl) (nle rfl) (g := (mkF m 5 #[vR b] [(.ref b), (.ref x1), (.ref x1)])) rfl (by rw [hml]; rfl) (a := x1) (argsL := [(.ref b)]) (rest := [(.ref x1)]) (lenOf pd_14 rfl) rfl rfl (nle rfl) (hb hby d25_5)
  obtain ⟨rfl, K3, E3, Fc3, u3, ku3, Fv3, V3, hB3⟩ := q3
  have z6 : h1.size ≤ h3.size := K3.1
  have S3_x1 : Safe Z own_EL vm3 h3 x1 := C3.safe (olt (by omega)) (own_safeB W0 X4 (by omega))
  refine go (g' := (mkF m 8 #[vR b] [(.ref x1)])) (st3) ?_
  have X7 : Ext h0 h3 := own_xk X4 K3 (allS (by omega) all0)
  exact fin (v := some (.ref x1)) (so := []) W3 (nle rfl) (nle rfl) (⟨_, rfl, X7, E3, Fc3, _, _, Fv3, V3, hB3⟩) (fun _ q => nomatch q) (fun q => nomatch q) (own_retA W3 hx hret rfl rfl rfl (hb hby d25_8))
theorem rm_nbl3 (C : Cx Z a0) (h0 : Heap) :
    Ct l Z a0 own_EL (⟨"java/lang/StringUTF16", "newBytesLength", "(I)I"⟩ : MethodName) jdk_52_method_3_code 1 (Option.some Jvm.ClassFile.FieldType.int) [] (rmm 0 0 0 0) #[(.int (3 : Int32))] h0 [] (fun v h so => v = some (.int (6 : Int32)) ∧ h0 = h) := by
  refine own_enter (plainFor_of_name pn_9) C.ew (F0 := fun m => mkF m 0 #[vI (3 : Int32)] []) (fun m => by first | (simp [entryFrame, mkF, argsToLocals, Value.category]; done) | rfl) ?_
  intro p e s m below meth c s₁ G hx hby hml hret hnm W0 S0 go fin
  have z0 := W0.sz
  show G s₁ (mkF m 0 #[vI (3 : Int32)] [])
  refine go (g' := (mkF m 13 #[vI (3 : Int32)] [(.int (3 : Int32))])) (fun _ k => XS.iloadN W0.here hx rfl (hb hby d26_0) rfl (XS.ifYes W0.here hx rfl (pc0 := 1) (pc' := 12) rfl (hb hby d26_1) rfl ((if0 _ _).trans (flt ((by decide) : ¬ ((3 : Int32) < (0 : Int32)))).2.1) (by decide) (by decide) (XS.iloadN W0.here hx rfl (hb hby d26_12) rfl k))) ?_
  refine go (g' := (mkF m 15 #[vI (3 : Int32)] [(.int (1073741823 : Int32)), (.int (3 : Int32))])) (own_ldcI W0 hx (w297 C) (g := (mkF m 13 #[vI (3 : Int32)] [(.int (3 : Int32))])) rfl (hb hby d26_13)) ?_
  refine go (g' := (mkF m 58 #[vI (3 : Int32)] [(.int ((3 : Int32) <<< ((1 : Int32) &&& 31)))])) (fun _ k => XS.icmpYes W0.here hx rfl (pc0 := 15) (pc' := 55) rfl (hb hby d26_15) rfl (tlt ((by decide) : (3 : Int32) < (1073741823 : Int32))).1 (by decide) (by decide) (XS.iloadN W0.here hx rfl (hb hby d26_55) rfl (XS.iconst W0.here hx rfl (hb hby d26_56) (XS.ishl W0.here hx rfl (hb hby d26_57) rfl k)))) ?_
  rw [show ((3 : Int32) <<< ((1 : Int32) &&& 31)) = (6 : Int32) from by decide]
  exact fin (v := some (.int (6 : Int32))) (so := []) W0 (nle rfl) (nle rfl) (⟨rfl, rfl⟩) (fun _ q => nomatch q) (fun q => nomatch q) (own_retI W0 hx hret (by decide) rfl (hb hby d26_58))
theorem rm_nbf3 (C : Cx Z a0) (h0 : Heap) :
    Ct l Z a0 own_EL (⟨"java/lang/StringUTF16", "newBytesFor", "(I)[B"⟩ : MethodName) jdk_52_method_2_code 1 (Option.some (Jvm.ClassFile.FieldType.array Jvm.ClassFile.FieldType.byte)) [] (rmm 1 1 6 12) #[(.int (3 : Int32))] h0 [] (fun v h so => ∃ (x : Addr) (kx : ClassId), so = [x] ∧ v = some (.ref x) ∧ Ext h0 h ∧ h0.size ≤ x ∧ Arv Z h x kx .byte (6 : Int32) [vZ, vZ, vZ, vZ, vZ, vZ] vZ) := by
  refine own_enter (plainFor_of_name pn_9) C.ew (F0 := fun m => mkF m 0 #[vI (3 : Int32)] []) (fun m => by first | (simp [entryFrame, mkF, argsToLocals, Value.category]; done) | rfl) ?_
  intro p e s m below meth c s₁ G hx hby hml hret hnm W0 S0 go fin
  have z0 := W0.sz
  show G s₁ (mkF m 0 #[vI (3 : Int32)] [])
  refine go (g' := (mkF m 1 #[vI (3 : Int32)] [(.int (3 : Int32))])) (fun _ k => XS.iloadN W0.here hx rfl (hb hby d27_0) rfl k) ?_
  obtain ⟨v1, so1, vm1, T1, h1, W1, C1, q1, hso1, st1⟩ := own_static W0 hx (w294 C) (w295 C) (w24 C) (w296 C) (by decide) (rm_nbl3 C h0) (fun _ q => nomatch q) (Wd := 0) (nle rfl) (nle rfl) (nle rfl) (nle rfl) (g := (mkF m 1 #[vI (3 : Int32)] [(.int (3 : Int32))])) rfl (by rw [hml]; rfl) (argsL := [(.int (3 : Int32))]) (rest := []) (lenOf pd_15 rfl) rfl rfl (nle rfl) (hb hby d27_1)
  obtain ⟨rfl, rfl⟩ := q1
  refine go (g' := (mkF m 4 #[vI (3 : Int32)] [(.int (6 : Int32))])) (st1) ?_
  obtain ⟨x2, T2, h2, k2, g2, W2, E2, A2, st2⟩ := own_newP W1 hx (aty := .byte) (w26 C) (g := (mkF m 4 #[vI (3 : Int32)] [(.int (6 : Int32))])) rfl (hb hby d27_4) rfl (by decide) (cap := 6) (by decide) (nle rfl) (nle rfl) (nle rfl)
  have z3 : h0.size ≤ h2.size := E2.1
  have l2 : ltN x2 h2.size := A2.lt
  have V2 : Arv Z h2 x2 k2 .byte (6 : Int32) [vZ, vZ, vZ, vZ, vZ, vZ] vZ := A2.pad (pad_rep [] vZ 6)
  refine go (g' := (mkF m 6 #[vI (3 : Int32)] [(.ref x2)])) (st2) ?_
  have X4 : Ext h0 h2 := own_xt (own_xr h0) E2
  exact fin (v := some (.ref x2)) (so := [x2]) W2 (nle rfl) (nle rfl) (⟨_, _, rfl, rfl, X4, by omega, V2⟩) (allS (own_safeB W1 X4 (by omega)) all0) (fun q => nomatch q) (own_retA W2 hx hret rfl rfl rfl (hb hby d27_6))
theorem rm_cpos (C : Cx Z a0) (h0 : Heap) (u : Addr) (ku : ClassId) (bb1 bb2 bb3 : Int32) (qb3 : ¬ bb3 < (0 : Int32)) (Vu : Arv Z h0 u ku .byte (3 : Int32) [(.int bb1), (.int bb2), (.int bb3)] vZ) :
    Ct l Z a0 own_EL (⟨"java/lang/StringCoding", "countPositives", "([BII)I"⟩ : MethodName) jdk_123_method_3_code 5 (Option.some Jvm.ClassFile.FieldType.int) [] (rmm 0 0 0 0) #[(.ref u), vZ, (.int (3 : Int32))] h0 [] (fun v h so => ∃ r : Int32, v = some (.int r) ∧ h0 = h) := by
  refine own_enter (plainFor_of_name pn_10) C.ew (F0 := fun m => mkF m 0 #[vR u, .val vZ, vI (3 : Int32), .unset, .unset] []) (fun m => by first | (simp [entryFrame, mkF, argsToLocals, Value.category]; done) | rfl) ?_
  intro p e s m below meth c s₁ G hx hby hml hret hnm W0 S0 go fin
  have z0 := W0.sz
  show G s₁ (mkF m 0 #[vR u, .val vZ, vI (3 : Int32), .unset, .unset] [])
  refine go (g' := (mkF m 3 #[vR u, .val vZ, vI (3 : Int32), .unset, .unset] [(.int ((0 : Int32) + (3 : Int32)))])) (fun _ k => XS.iloadN W0.here hx rfl (hb hby d28_0) rfl (XS.iloadN W0.here hx rfl (hb hby d28_1) rfl (XS.iadd W0.here hx rfl (hb hby d28_2) rfl k))) ?_
  rw [show ((0 : Int32) + (3 : Int32)) = (3 : Int32) from by decide]
  refine go (g' := (mkF m 16 #[vR u, .val vZ, vI (3 : Int32), vI (3 : Int32), .val vZ] [vZ, (.ref u)])) (fun _ k => XS.istoreN W0.here hx rfl (hb hby d28_3) rfl (l' := #[vR u, .val vZ, vI (3 : Int32), vI (3 : Int32), .unset]) rfl (XS.iloadN W0.here hx rfl (hb hby d28_4) rfl (XS.istore W0.here hx rfl (hb hby d28_5) rfl (l' := #[vR u, .val vZ, vI (3 : Int32), vI (3 : Int32), .val vZ]) rfl (XS.iload W0.here hx rfl (hb hby d28_7) rfl (XS.iloadN W0.here hx rfl (hb hby d28_9) rfl (XS.icmpNo W0.here hx rfl (hb hby d28_10) rfl (tlt ((by decide) : (0 : Int32) < (3 : Int32))).2.1 (XS.aloadN W0.here hx rfl (hb hby d28_13) rfl rfl (XS.iload W0.here hx rfl (hb hby d28_14) rfl k)))))))) ?_
  refine go (g' := (mkF m 17 #[vR u, .val vZ, vI (3 : Int32), vI (3 : Int32), .val vZ] [(.int bb1)])) (own_bal W0 hx Vu (j := (0 : Int32)) ⟨by decide, by decide⟩ rfl (g := (mkF m 16 #[vR u, .val vZ, vI (3 : Int32), vI (3 : Int32), .val vZ] [vZ, (.ref u)])) rfl rfl (hb hby d28_16)) ?_
  by_cases kb1 : bb1 < (0 : Int32)
  · refine go (g' := (mkF m 24 #[vR u, .val vZ, vI (3 : Int32), vI (3 : Int32), .val vZ] [(.int ((0 : Int32) - (0 : Int32)))])) (fun _ k => XS.ifNo W0.here hx rfl (hb hby d28_17) rfl ((if0 _ _).trans (tlt kb1).2.1) (XS.iload W0.here hx rfl (hb hby d28_20) rfl (XS.iloadN W0.here hx rfl (hb hby d28_22) rfl (XS.isub W0.here hx rfl (hb hby d28_23) rfl k)))) ?_
    rw [show ((0 : Int32) - (0 : Int32)) = (0 : Int32) from by decide]
    exact fin (v := some vZ) (so := []) W0 (nle rfl) (nle rfl) (⟨_, rfl, rfl⟩) (fun _ q => nomatch q) (fun q => nomatch q) (own_retI W0 hx hret (by decide) rfl (hb hby d28_24))
  · refine go (g' := (mkF m 28 #[vR u, .val vZ, vI (3 : Int32), vI (3 : Int32), vI ((0 : Int32) + (1 : Int32))] [])) (fun _ k => XS.ifYes W0.here hx rfl (pc0 := 17) (pc' := 25) rfl (hb hby d28_17) rfl ((if0 _ _).trans (flt kb1).2.1) (by decide) (by decide) (XS.iinc W0.here hx rfl (hb hby d28_25) rfl (l' := #[vR u, .val vZ, vI (3 : Int32), vI (3 : Int32), vI ((0 : Int32) + (1 : Int32))]) rfl k)) ?_
    rw [show ((0 : Int32) + (1 : Int32)) = (1 : Int32) from by decide]
    refine go (g' := (mkF m 16 #[vR u, .val vZ, vI (3 : Int32), vI (3 : Int32), vI (1 : Int32)] [(.int (1 : Int32)), (.ref u)])) (fun _ k => XS.goto W0.here hx rfl (pc0 := 28) (pc' := 7) rfl (hb hby d28_28) (by decide) (by decide) (XS.iload W0.here hx rfl (hb hby d28_7) rfl (XS.iloadN W0.here hx rfl (hb hby d28_9) rfl (XS.icmpNo W0.here hx rfl (hb hby d28_10) rfl (tlt ((by decide) : (1 : Int32) < (3 : Int32))).2.1 (XS.aloadN W0.here hx rfl (hb hby d28_13) rfl rfl (XS.iload W0.here hx rfl (hb hby d28_14) rfl k)))))) ?_
    refine go (g' := (mkF m 17 #[vR u, .val vZ, vI (3 : Int32), vI (3 : Int32), vI (1 : Int32)] [(.int bb2)])) (own_bal W0 hx Vu (j := (1 : Int32)) ⟨by decide, by decide⟩ rfl (g := (mkF m 16 #[vR u, .val vZ, vI (3 : Int32), vI (3 : Int32), vI (1 : Int32)] [(.int (1 : Int32)), (.ref u)])) rfl rfl (hb hby d28_16)) ?_
    by_cases kb2 : bb2 < (0 : Int32)
    · refine go (g' := (mkF m 24 #[vR u, .val vZ, vI (3 : Int32), vI (3 : Int32), vI (1 : Int32)] [(.int ((1 : Int32) - (0 : Int32)))])) (fun _ k => XS.ifNo W0.here hx rfl (hb hby d28_17) rfl ((if0 _ _).trans (tlt kb2).2.1) (XS.iload W0.here hx rfl (hb hby d28_20) rfl (XS.iloadN W0.here hx rfl (hb hby d28_22) rfl (XS.isub W0.here hx rfl (hb hby d28_23) rfl k)))) ?_
      rw [show ((1 : Int32) - (0 : Int32)) = (1 : Int32) from by decide]
      exact fin (v := some (.int (1 : Int32))) (so := []) W0 (nle rfl) (nle rfl) (⟨_, rfl, rfl⟩) (fun _ q => nomatch q) (fun q => nomatch q) (own_retI W0 hx hret (by decide) rfl (hb hby d28_24))
    · refine go (g' := (mkF m 28 #[vR u, .val vZ, vI (3 : Int32), vI (3 : Int32), vI ((1 : Int32) + (1 : Int32))] [])) (fun _ k => XS.ifYes W0.here hx rfl (pc0 := 17) (pc' := 25) rfl (hb hby d28_17) rfl ((if0 _ _).trans (flt kb2).2.1) (by decide) (by decide) (XS.iinc W0.here hx rfl (hb hby d28_25) rfl (l' := #[vR u, .val vZ, vI (3 : Int32), vI (3 : Int32), vI ((1 : Int32) + (1 : Int32))]) rfl k)) ?_
      rw [show ((1 : Int32) + (1 : Int32)) = (2 : Int32) from by decide]
      refine go (g' := (mkF m 16 #[vR u, .val vZ, vI (3 : Int32), vI (3 : Int32), vI (2 : Int32)] [(.int (2 : Int32)), (.ref u)])) (fun _ k => XS.goto W0.here hx rfl (pc0 := 28) (pc' := 7) rfl (hb hby d28_28) (by decide) (by decide) (XS.iload W0.here hx rfl (hb hby d28_7) rfl (XS.iloadN W0.here hx rfl (hb hby d28_9) rfl (XS.icmpNo W0.here hx rfl (hb hby d28_10) rfl (tlt ((by decide) : (2 : Int32) < (3 : Int32))).2.1 (XS.aloadN W0.here hx rfl (hb hby d28_13) rfl rfl (XS.iload W0.here hx rfl (hb hby d28_14) rfl k)))))) ?_
      refine go (g' := (mkF m 17 #[vR u, .val vZ, vI (3 : Int32), vI (3 : Int32), vI (2 : Int32)] [(.int bb3)])) (own_bal W0 hx Vu (j := (2 : Int32)) ⟨by decide, by decide⟩ rfl (g := (mkF m 16 #[vR u, .val vZ, vI (3 : Int32), vI (3 : Int32), vI (2 : Int32)] [(.int (2 : Int32)), (.ref u)])) rfl rfl (hb hby d28_16)) ?_
      refine go (g' := (mkF m 28 #[vR u, .val vZ, vI (3 : Int32), vI (3 : Int32), vI ((2 : Int32) + (1 : Int32))] [])) (fun _ k => XS.ifYes W0.here hx rfl (pc0 := 17) (pc' := 25) rfl (hb hby d28_17) rfl ((if0 _ _).trans (flt qb3).2.1) (by decide) (by decide) (XS.iinc W0.here hx rfl (hb hby d28_25) rfl (l' := #[vR u, .val vZ, vI (3 : Int32), vI (3 : Int32), vI ((2 : Int32) + (1 : Int32))]) rfl k)) ?_
      rw [show ((2 : Int32) + (1 : Int32)) = (3 : Int32) from by decide]
      refine go (g' := (mkF m 32 #[vR u, .val vZ, vI (3 : Int32), vI (3 : Int32), vI (3 : Int32)] [(.int (3 : Int32))])) (fun _ k => XS.goto W0.here hx rfl (pc0 := 28) (pc' := 7) rfl (hb hby d28_28) (by decide) (by decide) (XS.iload W0.here hx rfl (hb hby d28_7) rfl (XS.iloadN W0.here hx rfl (hb hby d28_9) rfl (XS.icmpYes W0.here hx rfl (pc0 := 10) (pc' := 31) rfl (hb hby d28_10) rfl (flt ((by decide) : ¬ ((3 : Int32) < (3 : Int32)))).2.1 (by decide) (by decide) (XS.iloadN W0.here hx rfl (hb hby d28_31) rfl k))))) ?_
      exact fin (v := some (.int (3 : Int32))) (so := []) W0 (nle rfl) (nle rfl) (⟨_, rfl, rfl⟩) (fun _ q => nomatch q) (fun q => nomatch q) (own_retI W0 hx hret (by decide) rfl (hb hby d28_32))
theorem rm_hneg (C : Cx Z a0) (h0 : Heap) (u : Addr) (ku : ClassId) (bb1 bb2 bb3 : Int32) (qb3 : ¬ bb3 < (0 : Int32)) (Vu : Arv Z h0 u ku .byte (3 : Int32) [(.int bb1), (.int bb2), (.int bb3)] vZ) :
    Ct l Z a0 own_EL (⟨"java/lang/StringCoding", "hasNegatives", "([BII)Z"⟩ : MethodName) jdk_123_method_2_code 3 (Option.some Jvm.ClassFile.FieldType.boolean) [] (rmm 1 0 0 16) #[(.ref u), vZ, (.int (3 : Int32))] h0 [] (fun v h so => ∃ r : Int32, v = some (.int r) ∧ h0 = h) := by
  refine own_enter (plainFor_of_name pn_10) C.ew (F0 := fun m => mkF m 0 #[vR u, .val vZ, vI (3 : Int32)] []) (fun m => by first | (simp [entryFrame, mkF, argsToLocals, Value.category]; done) | rfl) ?_
  intro p e s m below meth c s₁ G hx hby hml hret hnm W0 S0 go fin
  have z0 := W0.sz
  show G s₁ (mkF m 0 #[vR u, .val vZ, vI (3 : Int32)] [])
  refine go (g' := (mkF m 3 #[vR u, .val vZ, vI (3 : Int32)] [(.int (3 : Int32)), vZ, (.ref u)])) (fun _ k => XS.aloadN W0.here hx rfl (hb hby d29_0) rfl rfl (XS.iloadN W0.here hx rfl (hb hby d29_1) rfl (XS.iloadN W0.here hx rfl (hb hby d29_2) rfl k))) ?_
  obtain ⟨v1, so1, vm1, T1, h1, W1, C1, q1, hso1, st1⟩ := own_static W0 hx (w271 C) (w272 C) (w269 C) (w273 C) (by decide) (rm_cpos C h0 u ku bb1 bb2 bb3 qb3 Vu) (fun _ q => nomatch q) (Wd := 0) (nle rfl) (nle rfl) (nle rfl) (nle rfl) (g := (mkF m 3 #[vR u, .val vZ, vI (3 : Int32)] [(.int (3 : Int32)), vZ, (.ref u)])) rfl (by rw [hml]; rfl) (argsL := [(.ref u), vZ, (.int (3 : Int32))]) (rest := []) (lenOf pd_16 rfl) rfl rfl (nle rfl) (hb hby d29_3)
  obtain ⟨r1, rfl, rfl⟩ := q1
  refine go (g' := (mkF m 6 #[vR u, .val vZ, vI (3 : Int32)] [(.int r1)])) (st1) ?_
  refine go (g' := (mkF m 7 #[vR u, .val vZ, vI (3 : Int32)] [(.int (3 : Int32)), (.int r1)])) (fun _ k => XS.iloadN W1.here hx rfl (hb hby d29_6) rfl k) ?_
  have Jb2 : ∀ b2 : Int32, (b2 = 1 ∧ ¬ (r1 = (3 : Int32))) ∨ (b2 = 0 ∧ r1 = (3 : Int32)) → G T1 (mkF m 15 #[vR u, .val vZ, vI (3 : Int32)] [(.int b2)]) := by
    intro b2 hb2
    exact fin (v := some (.int b2)) (so := []) W1 (nle rfl) (nle rfl) (⟨_, rfl, rfl⟩) (fun _ q => nomatch q) (fun q => nomatch q) (own_retI W1 hx hret (by decide) (own_bz hb2).1 (hb hby d29_15))
  by_cases kb2 : r1 = (3 : Int32)
  · refine go (g' := (mkF m 15 #[vR u, .val vZ, vI (3 : Int32)] [vZ])) (fun _ k => XS.icmpYes W1.here hx rfl (pc0 := 7) (pc' := 14) rfl (hb hby d29_7) rfl (teq kb2).1 (by decide) (by decide) (XS.iconst W1.here hx rfl (hb hby d29_14) k)) ?_
    exact Jb2 _ (Or.inr ⟨rfl, kb2⟩)
  · refine go (g' := (mkF m 15 #[vR u, .val vZ, vI (3 : Int32)] [(.int (1 : Int32))])) (fun _ k => XS.icmpNo W1.here hx rfl (hb hby d29_7) rfl (feq kb2).1 (XS.iconst W1.here hx rfl (hb hby d29_10) (XS.goto W1.here hx rfl (pc0 := 11) (pc' := 15) rfl (hb hby d29_11) (by decide) (by decide) k))) ?_
    exact Jb2 _ (Or.inl ⟨rfl, kb2⟩)
theorem rm_cpo3 (C : Cx Z a0) (h0 : Heap) (t : Addr) (kt : ClassId) (o1 o2 o3 o4 o5 o6 : Int32) (Vt : Arv Z h0 t kt .byte (6 : Int32) [(.int o1), (.int o2), (.int o3), (.int o4), (.int o5), (.int o6)] vZ) :
    Ct l Z a0 own_EL (⟨"java/util/Arrays", "copyOf", "([BI)[B"⟩ : MethodName) jdk_65_method_121_code 3 (Option.some (Jvm.ClassFile.FieldType.array Jvm.ClassFile.FieldType.byte)) [] (rmm 1 1 3 30) #[(.ref t), (.int (3 : Int32))] h0 [] (fun v h so => ∃ x : Addr, v = some (.ref x) ∧ Ext h0 h) := by
  refine own_enter (plainFor_of_name pn_8) C.ew (F0 := fun m => mkF m 0 #[vR t, vI (3 : Int32), .unset] []) (fun m => by first | (simp [entryFrame, mkF, argsToLocals, Value.category]; done) | rfl) ?_
  intro p e s m below meth c s₁ G hx hby hml hret hnm W0 S0 go fin
  have z0 := W0.sz
  show G s₁ (mkF m 0 #[vR t, vI (3 : Int32), .unset] [])
  refine go (g' := (mkF m 2 #[vR t, vI (3 : Int32), .unset] [(.ref t), (.int (3 : Int32))])) (fun _ k => XS.iloadN W0.here hx rfl (hb hby d30_0) rfl (XS.aloadN W0.here hx rfl (hb hby d30_1) rfl rfl k)) ?_
  refine go (g' := (mkF m 3 #[vR t, vI (3 : Int32), .unset] [(.int (6 : Int32)), (.int (3 : Int32))])) (own_alen W0 hx Vt (g := (mkF m 2 #[vR t, vI (3 : Int32), .unset] [(.ref t), (.int (3 : Int32))])) rfl rfl (hb hby d30_2)) ?_
  refine go (g' := (mkF m 15 #[vR t, vI (3 : Int32), .unset] [(.int (3 : Int32))])) (fun _ k => XS.icmpYes W0.here hx rfl (pc0 := 3) (pc' := 14) rfl (hb hby d30_3) rfl (feq ((by decide) : ¬ ((3 : Int32) = (6 : Int32)))).2 (by decide) (by decide) (XS.iloadN W0.here hx rfl (hb hby d30_14) rfl k)) ?_
  obtain ⟨x1, T1, h1, k1, g1, W1, E1, A1, st1⟩ := own_newP W0 hx (aty := .byte) (w26 C) (g := (mkF m 15 #[vR t, vI (3 : Int32), .unset] [(.int (3 : Int32))])) rfl (hb hby d30_15) rfl (by decide) (cap := 3) (by decide) (nle rfl) (nle rfl) (nle rfl)
  have z2 : h0.size ≤ h1.size := E1.1
  have l1 : ltN x1 h1.size := A1.lt
  have V1 : Arv Z h1 x1 k1 .byte (3 : Int32) [vZ, vZ, vZ] vZ := A1.pad (pad_rep [] vZ 3)
  refine go (g' := (mkF m 17 #[vR t, vI (3 : Int32), .unset] [(.ref x1)])) (st1) ?_
  refine go (g' := (mkF m 23 #[vR t, vI (3 : Int32), vR x1] [(.ref t), vZ, (.ref x1), vZ, (.ref t)])) (fun _ k => XS.astoreN W1.here hx rfl (hb hby d30_17) rfl rfl (l' := #[vR t, vI (3 : Int32), vR x1]) rfl (XS.aloadN W1.here hx rfl (hb hby d30_18) rfl rfl (XS.iconst W1.here hx rfl (hb hby d30_19) (XS.aloadN W1.here hx rfl (hb hby d30_20) rfl rfl (XS.iconst W1.here hx rfl (hb hby d30_21) (XS.aloadN W1.here hx rfl (hb hby d30_22) rfl rfl k)))))) ?_
  have X3 : Ext h0 h1 := own_xt (own_xr h0) E1
  have f4 := Vt.ext X3
  refine go (g' := (mkF m 24 #[vR t, vI (3 : Int32), vR x1] [(.int (6 : Int32)), vZ, (.ref x1), vZ, (.ref t)])) (own_alen W1 hx f4 (g := (mkF m 23 #[vR t, vI (3 : Int32), vR x1] [(.ref t), vZ, (.ref x1), vZ, (.ref t)])) rfl rfl (hb hby d30_23)) ?_
  refine go (g' := (mkF m 25 #[vR t, vI (3 : Int32), vR x1] [(.int (3 : Int32)), (.int (6 : Int32)), vZ, (.ref x1), vZ, (.ref t)])) (fun _ k => XS.iloadN W1.here hx rfl (hb hby d30_24) rfl k) ?_
  obtain ⟨v5, so5, vm5, T5, h5, W5, C5, q5, hso5, st5⟩ := own_static W1 hx (w247 C) (w248 C) (w249 C) (w250 C) (by decide) (rm_min C h1 6 3 (by omega) (by omega)) (fun _ q => nomatch q) (Wd := 4) (nle rfl) (nle rfl) (nle rfl) (nle rfl) (g := (mkF m 25 #[vR t, vI (3 : Int32), vR x1] [(.int (3 : Int32)), (.int (6 : Int32)), vZ, (.ref x1), vZ, (.ref t)])) rfl (by rw [hml]; rfl) (argsL := [(.int (6 : Int32)), (.int (3 : Int32))]) (rest := [vZ, (.ref x1), vZ, (.ref t)]) (lenOf pd_9 rfl) rfl rfl (nle rfl) (hb hby d30_25)
  obtain ⟨rfl, rfl⟩ := q5
  have S5_x1 : Safe Z own_EL vm5 h1 x1 := C5.safe (olt (by omega)) (own_safeB W0 X3 (by omega))
  refine go (g' := (mkF m 28 #[vR t, vI (3 : Int32), vR x1] [(.int (3 : Int32)), vZ, (.ref x1), vZ, (.ref t)])) (st5) ?_
  obtain ⟨T6, h6, W6, K6, V6, st6⟩ := own_cp W5 hx (w251 C) (w205 C) (w203 C) (w204 C) f4 V1 rfl S5_x1 (sp := (0 : Int32)) (dp := (0 : Int32)) (nn := (3 : Int32)) (by decide) (by decide) (by decide) (by decide) (by decide) (us := [(.int o1), (.int o2), (.int o3)]) rfl (nle rfl) (by omega) (g := (mkF m 28 #[vR t, vI (3 : Int32), vR x1] [(.int (3 : Int32)), vZ, (.ref x1), vZ, (.ref t)])) rfl (by rw [hml]; rfl) rfl (hb hby d30_28) (nle rfl) (Wd := 0) (nle rfl) (nle rfl)
  have z7 : h1.size ≤ h6.size := K6.1
  have U6 : Arv Z h6 x1 k1 .byte (3 : Int32) [(.int o1), (.int o2), (.int o3)] vZ := V6
  have S6_x1 : Safe Z own_EL vm5 h6 x1 := Safe.keep K6 (allS S5_x1 all0) W5.ch S5_x1
  refine go (g' := (mkF m 31 #[vR t, vI (3 : Int32), vR x1] [])) (st6) ?_
  refine go (g' := (mkF m 32 #[vR t, vI (3 : Int32), vR x1] [(.ref x1)])) (fun _ k => XS.aloadN W6.here hx rfl (hb hby d30_31) rfl rfl k) ?_
  have X8 : Ext h0 h6 := own_xk X3 K6 (allS (by omega) all0)
  exact fin (v := some (.ref x1)) (so := []) W6 (nle rfl) (nle rfl) (⟨_, rfl, X8⟩) (fun _ q => nomatch q) (fun q => nomatch q) (own_retA W6 hx hret rfl rfl rfl (hb hby d30_32))
theorem rm_cpo4 (C : Cx Z a0) (h0 : Heap) (t : Addr) (kt : ClassId) (o1 o2 o3 o4 o5 o6 : Int32) (Vt : Arv Z h0 t kt .byte (6 : Int32) [(.int o1), (.int o2), (.int o3), (.int o4), (.int o5), (.int o6)] vZ) :
    Ct l Z a0 own_EL (⟨"java/util/Arrays", "copyOf", "([BI)[B"⟩ : MethodName) jdk_65_method_121_code 3 (Option.some (Jvm.ClassFile.FieldType.array Jvm.ClassFile.FieldType.byte)) [] (rmm 1 1 4 30) #[(.ref t), (.int (4 : Int32))] h0 [] (fun v h so => ∃ x : Addr, v = some (.ref x) ∧ Ext h0 h) := by
  refine own_enter (plainFor_of_name pn_8) C.ew (F0 := fun m => mkF m 0 #[vR t, vI (4 : Int32), .unset] []) (fun m => by first | (simp [entryFrame, mkF, argsToLocals, Value.category]; done) | rfl) ?_
  intro p e s m below meth c s₁ G hx hby hml hret hnm W0 S0 go fin
  have z0 := W0.sz
  show G s₁ (mkF m 0 #[vR t, vI (4 : Int32), .unset] [])
  refine go (g' := (mkF m 2 #[vR t, vI (4 : Int32), .unset] [(.ref t), (.int (4 : Int32))])) (fun _ k => XS.iloadN W0.here hx rfl (hb hby d30_0) rfl (XS.aloadN W0.here hx rfl (hb hby d30_1) rfl rfl k)) ?_
  refine go (g' := (mkF m 3 #[vR t, vI (4 : Int32), .unset] [(.int (6 : Int32)), (.int (4 : Int32))])) (own_alen W0 hx Vt (g := (mkF m 2 #[vR t, vI (4 : Int32), .unset] [(.ref t), (.int (4 : Int32))])) rfl rfl (hb hby d30_2)) ?_
  refine go (g' := (mkF m 15 #[vR t, vI (4 : Int32), .unset] [(.int (4 : Int32))])) (fun _ k => XS.icmpYes W0.here hx rfl (pc0 := 3) (pc' := 14) rfl (hb hby d30_3) rfl (feq ((by decide) : ¬ ((4 : Int32) = (6 : Int32)))).2 (by decide) (by decide) (XS.iloadN W0.here hx rfl (hb hby d30_14) rfl k)) ?_
  obtain ⟨x1, T1, h1, k1, g1, W1, E1, A1, st1⟩ := own_newP W0 hx (aty := .byte) (w26 C) (g := (mkF m 15 #[vR t, vI (4 : Int32), .unset] [(.int (4 : Int32))])) rfl (hb hby d30_15) rfl (by decide) (cap := 4) (by decide) (nle rfl) (nle rfl) (nle rfl)
  have z2 : h0.size ≤ h1.size := E1.1
  have l1 : ltN x1 h1.size := A1.lt
  have V1 : Arv Z h1 x1 k1 .byte (4 : Int32) [vZ, vZ, vZ, vZ] vZ := A1.pad (pad_rep [] vZ 4)
  refine go (g' := (mkF m 17 #[vR t, vI (4 : Int32), .unset] [(.ref x1)])) (st1) ?_
  refine go (g' := (mkF m 23 #[vR t, vI (4 : Int32), vR x1] [(.ref t), vZ, (.ref x1), vZ, (.ref t)])) (fun _ k => XS.astoreN W1.here hx rfl (hb hby d30_17) rfl rfl (l' := #[vR t, vI (4 : Int32), vR x1]) rfl (XS.aloadN W1.here hx rfl (hb hby d30_18) rfl rfl (XS.iconst W1.here hx rfl (hb hby d30_19) (XS.aloadN W1.here hx rfl (hb hby d30_20) rfl rfl (XS.iconst W1.here hx rfl (hb hby d30_21) (XS.aloadN W1.here hx rfl (hb hby d30_22) rfl rfl k)))))) ?_
  have X3 : Ext h0 h1 := own_xt (own_xr h0) E1
  have f4 := Vt.ext X3
  refine go (g' := (mkF m 24 #[vR t, vI (4 : Int32), vR x1] [(.int (6 : Int32)), vZ, (.ref x1), vZ, (.ref t)])) (own_alen W1 hx f4 (g := (mkF m 23 #[vR t, vI (4 : Int32), vR x1] [(.ref t), vZ, (.ref x1), vZ, (.ref t)])) rfl rfl (hb hby d30_23)) ?_
  refine go (g' := (mkF m 25 #[vR t, vI (4 : Int32), vR x1] [(.int (4 : Int32)), (.int (6 : Int32)), vZ, (.ref x1), vZ, (.ref t)])) (fun _ k => XS.iloadN W1.here hx rfl (hb hby d30_24) rfl k) ?_
  obtain ⟨v5, so5, vm5, T5, h5, W5, C5, q5, hso5, st5⟩ := own_static W1 hx (w247 C) (w248 C) (w249 C) (w250 C) (by decide) (rm_min C h1 6 4 (by omega) (by omega)) (fun _ q => nomatch q) (Wd := 4) (nle rfl) (nle rfl) (nle rfl) (nle rfl) (g := (mkF m 25 #[vR t, vI (4 : Int32), vR x1] [(.int (4 : Int32)), (.int (6 : Int32)), vZ, (.ref x1), vZ, (.ref t)])) rfl (by rw [hml]; rfl) (argsL := [(.int (6 : Int32)), (.int (4 : Int32))]) (rest := [vZ, (.ref x1), vZ, (.ref t)]) (lenOf pd_9 rfl) rfl rfl (nle rfl) (hb hby d30_25)
  obtain ⟨rfl, rfl⟩ := q5
  have S5_x1 : Safe Z own_EL vm5 h1 x1 := C5.safe (olt (by omega)) (own_safeB W0 X3 (by omega))
  refine go (g' := (mkF m 28 #[vR t, vI (4 : Int32), vR x1] [(.int (4 : Int32)), vZ, (.ref x1), vZ, (.ref t)])) (st5) ?_
  obtain ⟨T6, h6, W6, K6, V6, st6⟩ := own_cp W5 hx (w251 C) (w205 C) (w203 C) (w204 C) f4 V1 rfl S5_x1 (sp := (0 : Int32)) (dp := (0 : Int32)) (nn := (4 : Int32)) (by decide) (by decide) (by decide) (by decide) (by decide) (us := [(.int o1), (.int o2), (.int o3), (.int o4)]) rfl (nle rfl) (by omega) (g := (mkF m 28 #[vR t, vI (4 : Int32), vR x1] [(.int (4 : Int32)), vZ, (.ref x1), vZ, (.ref t)])) rfl (by rw [hml]; rfl) rfl (hb hby d30_28) (nle rfl) (Wd := 0) (nle rfl) (nle rfl)
  have z7 : h1.size ≤ h6.size := K6.1
  have U6 : Arv Z h6 x1 k1 .byte (4 : Int32) [(.int o1), (.int o2), (.int o3), (.int o4)] vZ := V6
  have S6_x1 : Safe Z own_EL vm5 h6 x1 := Safe.keep K6 (allS S5_x1 all0) W5.ch S5_x1
  refine go (g' := (mkF m 31 #[vR t, vI (4 : Int32), vR x1] [])) (st6) ?_
  refine go (g' := (mkF m 32 #[vR t, vI (4 : Int32), vR x1] [(.ref x1)])) (fun _ k => XS.aloadN W6.here hx rfl (hb hby d30_31) rfl rfl k) ?_
  have X8 : Ext h0 h6 := own_xk X3 K6 (allS (by omega) all0)
  exact fin (v := some (.ref x1)) (so := []) W6 (nle rfl) (nle rfl) (⟨_, rfl, X8⟩) (fun _ q => nomatch q) (fun q => nomatch q) (own_retA W6 hx hret rfl rfl rfl (hb hby d30_32))
theorem rm_cpo5 (C : Cx Z a0) (h0 : Heap) (t : Addr) (kt : ClassId) (o1 o2 o3 o4 o5 o6 : Int32) (Vt : Arv Z h0 t kt .byte (6 : Int32) [(.int o1), (.int o2), (.int o3), (.int o4), (.int o5), (.int o6)] vZ) :
    Ct l Z a0 own_EL (⟨"java/util/Arrays", "copyOf", "([BI)[B"⟩ : MethodName) jdk_65_method_121_code 3 (Option.some (Jvm.ClassFile.FieldType.array Jvm.ClassFile.FieldType.byte)) [] (rmm 1 1 5 30) #[(.ref t), (.int (5 : Int32))] h0 [] (fun v h so => ∃ x : Addr, v = some (.ref x) ∧ Ext h0 h) := by
  refine own_enter (plainFor_of_name pn_8) C.ew (F0 := fun m => mkF m 0 #[vR t, vI (5 : Int32), .unset] []) (fun m => by first | (simp [entryFrame, mkF, argsToLocals, Value.category]; done) | rfl) ?_
  intro p e s m below meth c s₁ G hx hby hml hret hnm W0 S0 go fin
  have z0 := W0.sz
  show G s₁ (mkF m 0 #[vR t, vI (5 : Int32), .unset] [])
  refine go (g' := (mkF m 2 #[vR t, vI (5 : Int32), .unset] [(.ref t), (.int (5 : Int32))])) (fun _ k => XS.iloadN W0.here hx rfl (hb hby d30_0) rfl (XS.aloadN W0.here hx rfl (hb hby d30_1) rfl rfl k)) ?_
  refine go (g' := (mkF m 3 #[vR t, vI (5 : Int32), .unset] [(.int (6 : Int32)), (.int (5 : Int32))])) (own_alen W0 hx Vt (g := (mkF m 2 #[vR t, vI (5 : Int32), .unset] [(.ref t), (.int (5 : Int32))])) rfl rfl (hb hby d30_2)) ?_
  refine go (g' := (mkF m 15 #[vR t, vI (5 : Int32), .unset] [(.int (5 : Int32))])) (fun _ k => XS.icmpYes W0.here hx rfl (pc0 := 3) (pc' := 14) rfl (hb hby d30_3) rfl (feq ((by decide) : ¬ ((5 : Int32) = (6 : Int32)))).2 (by decide) (by decide) (XS.iloadN W0.here hx rfl (hb hby d30_14) rfl k)) ?_
  obtain ⟨x1, T1, h1, k1, g1, W1, E1, A1, st1⟩ := own_newP W0 hx (aty := .byte) (w26 C) (g := (mkF m 15 #[vR t, vI (5 : Int32), .unset] [(.int (5 : Int32))])) rfl (hb hby d30_15) rfl (by decide) (cap := 5) (by decide) (nle rfl) (nle rfl) (nle rfl)
  have z2 : h0.size ≤ h1.size := E1.1
  have l1 : ltN x1 h1.size := A1.lt
  have V1 : Arv Z h1 x1 k1 .byte (5 : Int32) [vZ, vZ, vZ, vZ, vZ] vZ := A1.pad (pad_rep [] vZ 5)
  refine go (g' := (mkF m 17 #[vR t, vI (5 : Int32), .unset] [(.ref x1)])) (st1) ?_
  refine go (g' := (mkF m 23 #[vR t, vI (5 : Int32), vR x1] [(.ref t), vZ, (.ref x1), vZ, (.ref t)])) (fun _ k => XS.astoreN W1.here hx rfl (hb hby d30_17) rfl rfl (l' := #[vR t, vI (5 : Int32), vR x1]) rfl (XS.aloadN W1.here hx rfl (hb hby d30_18) rfl rfl (XS.iconst W1.here hx rfl (hb hby d30_19) (XS.aloadN W1.here hx rfl (hb hby d30_20) rfl rfl (XS.iconst W1.here hx rfl (hb hby d30_21) (XS.aloadN W1.here hx rfl (hb hby d30_22) rfl rfl k)))))) ?_
  have X3 : Ext h0 h1 := own_xt (own_xr h0) E1
  have f4 := Vt.ext X3
  refine go (g' := (mkF m 24 #[vR t, vI (5 : Int32), vR x1] [(.int (6 : Int32)), vZ, (.ref x1), vZ, (.ref t)])) (own_alen W1 hx f4 (g := (mkF m 23 #[vR t, vI (5 : Int32), vR x1] [(.ref t), vZ, (.ref x1), vZ, (.ref t)])) rfl rfl (hb hby d30_23)) ?_
  refine go (g' := (mkF m 25 #[vR t, vI (5 : Int32), vR x1] [(.int (5 : Int32)), (.int (6 : Int32)), vZ, (.ref x1), vZ, (.ref t)])) (fun _ k => XS.iloadN W1.here hx rfl (hb hby d30_24) rfl k) ?_
  obtain ⟨v5, so5, vm5, T5, h5, W5, C5, q5, hso5, st5⟩ := own_static W1 hx (w247 C) (w248 C) (w249 C) (w250 C) (by decide) (rm_min C h1 6 5 (by omega) (by omega)) (fun _ q => nomatch q) (Wd := 4) (nle rfl) (nle rfl) (nle rfl) (nle rfl) (g := (mkF m 25 #[vR t, vI (5 : Int32), vR x1] [(.int (5 : Int32)), (.int (6 : Int32)), vZ, (.ref x1), vZ, (.ref t)])) rfl (by rw [hml]; rfl) (argsL := [(.int (6 : Int32)), (.int (5 : Int32))]) (rest := [vZ, (.ref x1), vZ, (.ref t)]) (lenOf pd_9 rfl) rfl rfl (nle rfl) (hb hby d30_25)
  obtain ⟨rfl, rfl⟩ := q5
  have S5_x1 : Safe Z own_EL vm5 h1 x1 := C5.safe (olt (by omega)) (own_safeB W0 X3 (by omega))
  refine go (g' := (mkF m 28 #[vR t, vI (5 : Int32), vR x1] [(.int (5 : Int32)), vZ, (.ref x1), vZ, (.ref t)])) (st5) ?_
  obtain ⟨T6, h6, W6, K6, V6, st6⟩ := own_cp W5 hx (w251 C) (w205 C) (w203 C) (w204 C) f4 V1 rfl S5_x1 (sp := (0 : Int32)) (dp := (0 : Int32)) (nn := (5 : Int32)) (by decide) (by decide) (by decide) (by decide) (by decide) (us := [(.int o1), (.int o2), (.int o3), (.int o4), (.int o5)]) rfl (nle rfl) (by omega) (g := (mkF m 28 #[vR t, vI (5 : Int32), vR x1] [(.int (5 : Int32)), vZ, (.ref x1), vZ, (.ref t)])) rfl (by rw [hml]; rfl) rfl (hb hby d30_28) (nle rfl) (Wd := 0) (nle rfl) (nle rfl)
  have z7 : h1.size ≤ h6.size := K6.1
  have U6 : Arv Z h6 x1 k1 .byte (5 : Int32) [(.int o1), (.int o2), (.int o3), (.int o4), (.int o5)] vZ := V6
  have S6_x1 : Safe Z own_EL vm5 h6 x1 := Safe.keep K6 (allS S5_x1 all0) W5.ch S5_x1
  refine go (g' := (mkF m 31 #[vR t, vI (5 : Int32), vR x1] [])) (st6) ?_
  refine go (g' := (mkF m 32 #[vR t, vI (5 : Int32), vR x1] [(.ref x1)])) (fun _ k => XS.aloadN W6.here hx rfl (hb hby d30_31) rfl rfl k) ?_
  have X8 : Ext h0 h6 := own_xk X3 K6 (allS (by omega) all0)
  exact fin (v := some (.ref x1)) (so := []) W6 (nle rfl) (nle rfl) (⟨_, rfl, X8⟩) (fun _ q => nomatch q) (fun q => nomatch q) (own_retA W6 hx hret rfl rfl rfl (hb hby d30_32))
theorem rm_enc8 (C : Cx Z a0) (h0 : Heap) (u : Addr) (ku : ClassId) (bb1 bb2 bb3 : Int32) (qb3 : ¬ bb3 < (0 : Int32)) (Vu : Arv Z h0 u ku .byte (3 : Int32) [(.int bb1), (.int bb2), (.int bb3)] vZ) (hBu : Z.vm.findClass "[B" = some ku) :
    Ct l Z a0 own_EL (⟨"java/lang/String", "encodeUTF8", "(B[BZ)[B"⟩ : MethodName) jdk_42_method_46_code 9 (Option.some (Jvm.ClassFile.FieldType.array Jvm.ClassFile.FieldType.byte)) [] (rmm 2 2 11 44) #[vZ, (.ref u), (.int (1 : Int32))] h0 [] (fun v h so => ∃ x : Addr, v = some (.ref x) ∧ Ext h0 h) := by
  refine own_enter (plainFor_of_name pn_7) C.ew (F0 := fun m => mkF m 0 #[.val vZ, vR u, vI (1 : Int32), .unset, .unset, .unset, .unset, .unset, .unset] []) (fun m => by first | (simp [entryFrame, mkF, argsToLocals, Value.category]; done) | rfl) ?_
  intro p e s m below meth c s₁ G hx hby hml hret hnm W0 S0 go fin
  have z0 := W0.sz
  show G s₁ (mkF m 0 #[.val vZ, vR u, vI (1 : Int32), .unset, .unset, .unset, .unset, .unset, .unset] [])
  refine go (g' := (mkF m 14 #[.val vZ, vR u, vI (1 : Int32), .unset, .unset, .unset, .unset, .unset, .unset] [(.ref u), vZ, (.ref u)])) (fun _ k => XS.iloadN W0.here hx rfl (hb hby d31_0) rfl (XS.iconst W0.here hx rfl (hb hby d31_1) (XS.icmpYes W0.here hx rfl (pc0 := 2) (pc' := 11) rfl (hb hby d31_2) rfl (feq ((by decide) : ¬ ((0 : Int32) = (1 : Int32)))).2 (by decide) (by decide) (XS.aloadN W0.here hx rfl (hb hby d31_11) rfl rfl (XS.iconst W0.here hx rfl (hb hby d31_12) (XS.aloadN W0.here hx rfl (hb hby d31_13) rfl rfl k)))))) ?_
  refine go (g' := (mkF m 15 #[.val vZ, vR u, vI (1 : Int32), .unset, .unset, .unset, .unset, .unset, .unset] [(.int (3 : Int32)), vZ, (.ref u)])) (own_alen W0 hx Vu (g := (mkF m 14 #[.val vZ, vR u, vI (1 : Int32), .unset, .unset, .unset, .unset, .unset, .unset] [(.ref u), vZ, (.ref u)])) rfl rfl (hb hby d31_14)) ?_
  obtain ⟨v1, so1, vm1, T1, h1, W1, C1, q1, hso1, st1⟩ := own_static W0 hx (w267 C) (w268 C) (w269 C) (w270 C) (by decide) (rm_hneg C h0 u ku bb1 bb2 bb3 qb3 Vu) (fun _ q => nomatch q) (Wd := 0) (nle rfl) (nle rfl) (nle rfl) (nle rfl) (g := (mkF m 15 #[.val vZ, vR u, vI (1 : Int32), .unset, .unset, .unset, .unset, .unset, .unset] [(.int (3 : Int32)), vZ, (.ref u)])) rfl (by rw [hml]; rfl) (argsL := [(.ref u), vZ, (.int (3 : Int32))]) (rest := []) (lenOf pd_17 rfl) rfl rfl (nle rfl) (hb hby d31_15)
  obtain ⟨r1, rfl, rfl⟩ := q1
  refine go (g' := (mkF m 18 #[.val vZ, vR u, vI (1 : Int32), .unset, .unset, .unset, .unset, .unset, .unset] [(.int r1)])) (st1) ?_
  by_cases kb2 : r1 = (0 : Int32)
  · refine go (g' := (mkF m 22 #[.val vZ, vR u, vI (1 : Int32), .unset, .unset, .unset, .unset, .unset, .unset] [(.ref u)])) (fun _ k => XS.ifNo W1.here hx rfl (hb hby d31_18) rfl ((if0 _ _).trans (teq kb2).2) (XS.aloadN W1.here hx rfl (hb hby d31_21) rfl rfl k)) ?_
    obtain ⟨x3, T3, h3, g3, W3, E3, A3, st3⟩ := own_clone W1 hx (w274 C) (w275 C) (w279 C) (w277 C) (w278 C) (w280 C) Vu hBu (g := (mkF m 22 #[.val vZ, vR u, vI (1 : Int32), .unset, .unset, .unset, .unset, .unset, .unset] [(.ref u)])) rfl (by rw [hml]; rfl) rfl (hb hby d31_22) (nle rfl) (Wd := 0) (cap := 3) (nle rfl) (nle rfl) (by decide) (nle rfl) (nle rfl)
    have z4 : h0.size ≤ h3.size := E3.1
    refine go (g' := (mkF m 25 #[.val vZ, vR u, vI (1 : Int32), .unset, .unset, .unset, .unset, .unset, .unset] [(.ref x3)])) (st3) ?_
    obtain ⟨T5, W5, st5⟩ := own_cast W3 hx (w281 C) (Ins.self A3) (g := (mkF m 25 #[.val vZ, vR u, vI (1 : Int32), .unset, .unset, .unset, .unset, .unset, .unset] [(.ref x3)])) rfl rfl (hb hby d31_25)
    refine go (g' := (mkF m 28 #[.val vZ, vR u, vI (1 : Int32), .unset, .unset, .unset, .unset, .unset, .unset] [(.ref x3)])) (st5) ?_
    have X6 : Ext h0 h3 := own_xt (own_xr h0) E3
    exact fin (v := some (.ref x3)) (so := []) W5 (nle rfl) (nle rfl) (⟨_, rfl, X6⟩) (fun _ q => nomatch q) (fun q => nomatch q) (own_retA W5 hx hret rfl rfl rfl (hb hby d31_28))
  · refine go (g' := (mkF m 32 #[.val vZ, vR u, vI (1 : Int32), .val vZ, .unset, .unset, .unset, .unset, .unset] [(.ref u)])) (fun _ k => XS.ifYes W1.here hx rfl (pc0 := 18) (pc' := 29) rfl (hb hby d31_18) rfl ((if0 _ _).trans (feq kb2).2) (by decide) (by decide) (XS.iconst W1.here hx rfl (hb hby d31_29) (XS.istoreN W1.here hx rfl (hb hby d31_30) rfl (l' := #[.val vZ, vR u, vI (1 : Int32), .val vZ, .unset, .unset, .unset, .unset, .unset]) rfl (XS.aloadN W1.here hx rfl (hb hby d31_31) rfl rfl k)))) ?_
    refine go (g' := (mkF m 33 #[.val vZ, vR u, vI (1 : Int32), .val vZ, .unset, .unset, .unset, .unset, .unset] [(.int (3 : Int32))])) (own_alen W1 hx Vu (g := (mkF m 32 #[.val vZ, vR u, vI (1 : Int32), .val vZ, .unset, .unset, .unset, .unset, .unset] [(.ref u)])) rfl rfl (hb hby d31_32)) ?_
    obtain ⟨v7, so7, vm7, T7, h7, W7, C7, q7, hso7, st7⟩ := own_static W1 hx (w291 C) (w292 C) (w24 C) (w293 C) (by decide) (rm_nbf3 C h0) (fun _ q => nomatch q) (Wd := 0) (nle rfl) (nle rfl) (nle rfl) (nle rfl) (g := (mkF m 33 #[.val vZ, vR u, vI (1 : Int32), .val vZ, .unset, .unset, .unset, .unset, .unset] [(.int (3 : Int32))])) rfl (by rw [hml]; rfl) (argsL := [(.int (3 : Int32))]) (rest := []) (lenOf pd_18 rfl) rfl rfl (nle rfl) (hb hby d31_33)
    obtain ⟨x7, k7, rfl, rfl, E7, g7, V7⟩ := q7
    have z8 : h0.size ≤ h7.size := E7.1
    have l7 : ltN x7 h7.size := V7.lt
    refine go (g' := (mkF m 36 #[.val vZ, vR u, vI (1 : Int32), .val vZ, .unset, .unset, .unset, .unset, .unset] [(.ref x7)])) (st7) ?_
    refine go (g' := (mkF m 43 #[.val vZ, vR u, vI (1 : Int32), .val vZ, vR x7, vR u, .unset, .unset, .unset] [(.ref u)])) (fun _ k => XS.astore W7.here hx rfl (hb hby d31_36) rfl rfl (l' := #[.val vZ, vR u, vI (1 : Int32), .val vZ, vR x7, .unset, .unset, .unset, .unset]) rfl (XS.aloadN W7.here hx rfl (hb hby d31_38) rfl rfl (XS.astore W7.here hx rfl (hb hby d31_39) rfl rfl (l' := #[.val vZ, vR u, vI (1 : Int32), .val vZ, vR x7, vR u, .unset, .unset, .unset]) rfl (XS.aload W7.here hx rfl (hb hby d31_41) rfl rfl k)))) ?_
    have X9 : Ext h0 h7 := own_xt (own_xr h0) E7
    have f10 := Vu.ext X9
    refine go (g' := (mkF m 44 #[.val vZ, vR u, vI (1 : Int32), .val vZ, vR x7, vR u, .unset, .unset, .unset] [(.int (3 : Int32))])) (own_alen W7 hx f10 (g := (mkF m 43 #[.val vZ, vR u, vI (1 : Int32), .val vZ, vR x7, vR u, .unset, .unset, .unset] [(.ref u)])) rfl rfl (hb hby d31_43)) ?_
    refine go (g' := (mkF m 60 #[.val vZ, vR u, vI (1 : Int32), .val vZ, vR x7, vR u, vI (3 : Int32), .val vZ, .unset] [vZ, (.ref u)])) (fun _ k => XS.istore W7.here hx rfl (hb hby d31_44) rfl (l' := #[.val vZ, vR u, vI (1 : Int32), .val vZ, vR x7, vR u, vI (3 : Int32), .unset, .unset]) rfl (XS.iconst W7.here hx rfl (hb hby d31_46) (XS.istore W7.here hx rfl (hb hby d31_47) rfl (l' := #[.val vZ, vR u, vI (1 : Int32), .val vZ, vR x7, vR u, vI (3 : Int32), .val vZ, .unset]) rfl (XS.iload W7.here hx rfl (hb hby d31_49) rfl (XS.iload W7.here hx rfl (hb hby d31_51) rfl (XS.icmpNo W7.here hx rfl (hb hby d31_53) rfl (tlt ((by decide) : (0 : Int32) < (3 : Int32))).2.1 (XS.aload W7.here hx rfl (hb hby d31_56) rfl rfl (XS.iload W7.here hx rfl (hb hby d31_58) rfl k)))))))) ?_
    refine go (g' := (mkF m 61 #[.val vZ, vR u, vI (1 : Int32), .val vZ, vR x7, vR u, vI (3 : Int32), .val vZ, .unset] [(.int bb1)])) (own_bal W7 hx f10 (j := (0 : Int32)) ⟨by decide, by decide⟩ rfl (g := (mkF m 60 #[.val vZ, vR u, vI (1 : Int32), .val vZ, vR x7, vR u, vI (3 : Int32), .val vZ, .unset] [vZ, (.ref u)])) rfl rfl (hb hby d31_60)) ?_
    refine go (g' := (mkF m 65 #[.val vZ, vR u, vI (1 : Int32), .val vZ, vR x7, vR u, vI (3 : Int32), .val vZ, vI bb1] [(.int bb1)])) (fun _ k => XS.istore W7.here hx rfl (hb hby d31_61) rfl (l' := #[.val vZ, vR u, vI (1 : Int32), .val vZ, vR x7, vR u, vI (3 : Int32), .val vZ, vI bb1]) rfl (XS.iload W7.here hx rfl (hb hby d31_63) rfl k)) ?_
    by_cases kb11 : bb1 < (0 : Int32)
    · refine go (g' := (mkF m 74 #[.val vZ, vR u, vI (1 : Int32), vI ((0 : Int32) + (1 : Int32)), vR x7, vR u, vI (3 : Int32), .val vZ, vI bb1] [vZ, (.ref x7)])) (fun _ k => XS.ifNo W7.here hx rfl (hb hby d31_65) rfl ((if0 _ _).trans (tlt kb11).2.1) (XS.aload W7.here hx rfl (hb hby d31_68) rfl rfl (XS.iloadN W7.here hx rfl (hb hby d31_70) rfl (XS.iinc W7.here hx rfl (hb hby d31_71) rfl (l' := #[.val vZ, vR u, vI (1 : Int32), vI ((0 : Int32) + (1 : Int32)), vR x7, vR u, vI (3 : Int32), .val vZ, vI bb1]) rfl k)))) ?_
      rw [show ((0 : Int32) + (1 : Int32)) = (1 : Int32) from by decide]
      refine go (g' := (mkF m 88 #[.val vZ, vR u, vI (1 : Int32), vI (1 : Int32), vR x7, vR u, vI (3 : Int32), .val vZ, vI bb1] [(.int (((192 : Int32) ||| ((bb1 &&& (255 : Int32)) >>> ((6 : Int32) &&& 31))).toInt8.toInt32)), vZ, (.ref x7)])) (fun _ k => XS.sipush W7.here hx rfl (hb hby d31_74) (XS.iload W7.here hx rfl (hb hby d31_77) rfl (XS.sipush W7.here hx rfl (hb hby d31_79) (XS.iand W7.here hx rfl (hb hby d31_82) rfl (XS.bipush W7.here hx rfl (hb hby d31_83) (XS.ishr W7.here hx rfl (hb hby d31_85) rfl (XS.ior W7.here hx rfl (hb hby d31_86) rfl (XS.i2b W7.here hx rfl (hb hby d31_87) rfl k)))))))) ?_
      generalize ec12 : (((192 : Int32) ||| ((bb1 &&& (255 : Int32)) >>> ((6 : Int32) &&& 31))).toInt8.toInt32) = c12
      obtain ⟨T13, h13, W13, R13, V13, st13⟩ := own_stB W7 hx V7 (by omega) (hso7 _ (own_mi (i := 0) rfl)) (j := (0 : Int32)) (i := 0) ⟨by decide, by decide⟩ rfl (nle rfl) (g := (mkF m 88 #[.val vZ, vR u, vI (1 : Int32), vI (1 : Int32), vR x7, vR u, vI (3 : Int32), .val vZ, vI bb1] [(.int c12), vZ, (.ref x7)])) rfl rfl (hb hby d31_88)
      have z14 : h13.size = h7.size := R13.size
      have S13_x7 : Safe Z own_EL vm7 h13 x7 := Safe.wr R13 (hso7 _ (own_mi (i := 0) rfl)) W7.ch (hso7 _ (own_mi (i := 0) rfl))
      have U13 : Arv Z h13 x7 k7 .byte (6 : Int32) [(.int c12.toInt8.toInt32), vZ, vZ, vZ, vZ, vZ] vZ := V13
      refine go (g' := (mkF m 89 #[.val vZ, vR u, vI (1 : Int32), vI (1 : Int32), vR x7, vR u, vI (3 : Int32), .val vZ, vI bb1] [])) (st13) ?_
      refine go (g' := (mkF m 95 #[.val vZ, vR u, vI (1 : Int32), vI ((1 : Int32) + (1 : Int32)), vR x7, vR u, vI (3 : Int32), .val vZ, vI bb1] [(.int (1 : Int32)), (.ref x7)])) (fun _ k => XS.aload W13.here hx rfl (hb hby d31_89) rfl rfl (XS.iloadN W13.here hx rfl (hb hby d31_91) rfl (XS.iinc W13.here hx rfl (hb hby d31_92) rfl (l' := #[.val vZ, vR u, vI (1 : Int32), vI ((1 : Int32) + (1 : Int32)), vR x7, vR u, vI (3 : Int32), .val vZ, vI bb1]) rfl k))) ?_
      rw [show ((1 : Int32) + (1 : Int32)) = (2 : Int32) from by decide]
      refine go (g' := (mkF m 105 #[.val vZ, vR u, vI (1 : Int32), vI (2 : Int32), vR x7, vR u, vI (3 : Int32), .val vZ, vI bb1] [(.int (((128 : Int32) ||| (bb1 &&& (63 : Int32))).toInt8.toInt32)), (.int (1 : Int32)), (.ref x7)])) (fun _ k => XS.sipush W13.here hx rfl (hb hby d31_95) (XS.iload W13.here hx rfl (hb hby d31_98) rfl (XS.bipush W13.here hx rfl (hb hby d31_100) (XS.iand W13.here hx rfl (hb hby d31_102) rfl (XS.ior W13.here hx rfl (hb hby d31_103) rfl (XS.i2b W13.here hx rfl (hb hby d31_104) rfl k)))))) ?_
      generalize ec15 : (((128 : Int32) ||| (bb1 &&& (63 : Int32))).toInt8.toInt32) = c15
      obtain ⟨T16, h16, W16, R16, V16, st16⟩ := own_stB W13 hx U13 (by omega) S13_x7 (j := (1 : Int32)) (i := 1) ⟨by decide, by decide⟩ rfl (nle rfl) (g := (mkF m 105 #[.val vZ, vR u, vI (1 : Int32), vI (2 : Int32), vR x7, vR u, vI (3 : Int32), .val vZ, vI bb1] [(.int c15), (.int (1 : Int32)), (.ref x7)])) rfl rfl (hb hby d31_105)
      have z17 : h16.size = h13.size := R16.size
      have S16_x7 : Safe Z own_EL vm7 h16 x7 := Safe.wr R16 S13_x7 W13.ch S13_x7
      have U16 : Arv Z h16 x7 k7 .byte (6 : Int32) [(.int c12.toInt8.toInt32), (.int c15.toInt8.toInt32), vZ, vZ, vZ, vZ] vZ := V16
      refine go (g' := (mkF m 106 #[.val vZ, vR u, vI (1 : Int32), vI (2 : Int32), vR x7, vR u, vI (3 : Int32), .val vZ, vI bb1] [])) (st16) ?_
      refine go (g' := (mkF m 121 #[.val vZ, vR u, vI (1 : Int32), vI (2 : Int32), vR x7, vR u, vI (3 : Int32), vI ((0 : Int32) + (1 : Int32)), vI bb1] [])) (fun _ k => XS.goto W16.here hx rfl (pc0 := 106) (pc' := 118) rfl (hb hby d31_106) (by decide) (by decide) (XS.iinc W16.here hx rfl (hb hby d31_118) rfl (l' := #[.val vZ, vR u, vI (1 : Int32), vI (2 : Int32), vR x7, vR u, vI (3 : Int32), vI ((0 : Int32) + (1 : Int32)), vI bb1]) rfl k)) ?_
      rw [show ((0 : Int32) + (1 : Int32)) = (1 : Int32) from by decide]
      refine go (g' := (mkF m 60 #[.val vZ, vR u, vI (1 : Int32), vI (2 : Int32), vR x7, vR u, vI (3 : Int32), vI (1 : Int32), vI bb1] [(.int (1 : Int32)), (.ref u)])) (fun _ k => XS.goto W16.here hx rfl (pc0 := 121) (pc' := 49) rfl (hb hby d31_121) (by decide) (by decide) (XS.iload W16.here hx rfl (hb hby d31_49) rfl (XS.iload W16.here hx rfl (hb hby d31_51) rfl (XS.icmpNo W16.here hx rfl (hb hby d31_53) rfl (tlt ((by decide) : (1 : Int32) < (3 : Int32))).2.1 (XS.aload W16.here hx rfl (hb hby d31_56) rfl rfl (XS.iload W16.here hx rfl (hb hby d31_58) rfl k)))))) ?_
      have X18 : Ext h0 h13 := own_xw X9 R13 (by omega)
      have X19 : Ext h0 h16 := own_xw X18 R16 (by omega)
      have f20 := Vu.ext X19
      refine go (g' := (mkF m 61 #[.val vZ, vR u, vI (1 : Int32), vI (2 : Int32), vR x7, vR u, vI (3 : Int32), vI (1 : Int32), vI bb1] [(.int bb2)])) (own_bal W16 hx f20 (j := (1 : Int32)) ⟨by decide, by decide⟩ rfl (g := (mkF m 60 #[.val vZ, vR u, vI (1 : Int32), vI (2 : Int32), vR x7, vR u, vI (3 : Int32), vI (1 : Int32), vI bb1] [(.int (1 : Int32)), (.ref u)])) rfl rfl (hb hby d31_60)) ?_
      refine go (g' := (mkF m 65 #[.val vZ, vR u, vI (1 : Int32), vI (2 : Int32), vR x7, vR u, vI (3 : Int32), vI (1 : Int32), vI bb2] [(.int bb2)])) (fun _ k => XS.istore W16.here hx rfl (hb hby d31_61) rfl (l' := #[.val vZ, vR u, vI (1 : Int32), vI (2 : Int32), vR x7, vR u, vI (3 : Int32), vI (1 : Int32), vI bb2]) rfl (XS.iload W16.here hx rfl (hb hby d31_63) rfl k)) ?_
      by_cases kb21 : bb2 < (0 : Int32)
      · refine go (g' := (mkF m 74 #[.val vZ, vR u, vI (1 : Int32), vI ((2 : Int32) + (1 : Int32)), vR x7, vR u, vI (3 : Int32), vI (1 : Int32), vI bb2] [(.int (2 : Int32)), (.ref x7)])) (fun _ k => XS.ifNo W16.here hx rfl (hb hby d31_65) rfl ((if0 _ _).trans (tlt kb21).2.1) (XS.aload W16.here hx rfl (hb hby d31_68) rfl rfl (XS.iloadN W16.here hx rfl (hb hby d31_70) rfl (XS.iinc W16.here hx rfl (hb hby d31_71) rfl (l' := #[.val vZ, vR u, vI (1 : Int32), vI ((2 : Int32) + (1 : Int32)), vR x7, vR u, vI (3 : Int32), vI (1 : Int32), vI bb2]) rfl k)))) ?_
        rw [show ((2 : Int32) + (1 : Int32)) = (3 : Int32) from by decide]
        refine go (g' := (mkF m 88 #[.val vZ, vR u, vI (1 : Int32), vI (3 : Int32), vR x7, vR u, vI (3 : Int32), vI (1 : Int32), vI bb2] [(.int (((192 : Int32) ||| ((bb2 &&& (255 : Int32)) >>> ((6 : Int32) &&& 31))).toInt8.toInt32)), (.int (2 : Int32)), (.ref x7)])) (fun _ k => XS.sipush W16.here hx rfl (hb hby d31_74) (XS.iload W16.here hx rfl (hb hby d31_77) rfl (XS.sipush W16.here hx rfl (hb hby d31_79) (XS.iand W16.here hx rfl (hb hby d31_82) rfl (XS.bipush W16.here hx rfl (hb hby d31_83) (XS.ishr W16.here hx rfl (hb hby d31_85) rfl (XS.ior W16.here hx rfl (hb hby d31_86) rfl (XS.i2b W16.here hx rfl (hb hby d31_87) rfl k)))))))) ?_
        generalize ec22 : (((192 : Int32) ||| ((bb2 &&& (255 : Int32)) >>> ((6 : Int32) &&& 31))).toInt8.toInt32) = c22
        obtain ⟨T23, h23, W23, R23, V23, st23⟩ := own_stB W16 hx U16 (by omega) S16_x7 (j := (2 : Int32)) (i := 2) ⟨by decide, by decide⟩ rfl (nle rfl) (g := (mkF m 88 #[.val vZ, vR u, vI (1 : Int32), vI (3 : Int32), vR x7, vR u, vI (3 : Int32), vI (1 : Int32), vI bb2] [(.int c22), (.int (2 : Int32)), (.ref x7)])) rfl rfl (hb hby d31_88)
        have z24 : h23.size = h16.size := R23.size
        have S23_x7 : Safe Z own_EL vm7 h23 x7 := Safe.wr R23 S16_x7 W16.ch S16_x7
        have U23 : Arv Z h23 x7 k7 .byte (6 : Int32) [(.int c12.toInt8.toInt32), (.int c15.toInt8.toInt32), (.int c22.toInt8.toInt32), vZ, vZ, vZ] vZ := V23
        refine go (g' := (mkF m 89 #[.val vZ, vR u, vI (1 : Int32), vI (3 : Int32), vR x7, vR u, vI (3 : Int32), vI (1 : Int32), vI bb2] [])) (st23) ?_
        refine go (g' := (mkF m 95 #[.val vZ, vR u, vI (1 : Int32), vI ((3 : Int32) + (1 : Int32)), vR x7, vR u, vI (3 : Int32), vI (1 : Int32), vI bb2] [(.int (3 : Int32)), (.ref x7)])) (fun _ k => XS.aload W23.here hx rfl (hb hby d31_89) rfl rfl (XS.iloadN W23.here hx rfl (hb hby d31_91) rfl (XS.iinc W23.here hx rfl (hb hby d31_92) rfl (l' := #[.val vZ, vR u, vI (1 : Int32), vI ((3 : Int32) + (1 : Int32)), vR x7, vR u, vI (3 : Int32), vI (1 : Int32), vI bb2]) rfl k))) ?_
        rw [show ((3 : Int32) + (1 : Int32)) = (4 : Int32) from by decide]
        refine go (g' := (mkF m 105 #[.val vZ, vR u, vI (1 : Int32), vI (4 : Int32), vR x7, vR u, vI (3 : Int32), vI (1 : Int32), vI bb2] [(.int (((128 : Int32) ||| (bb2 &&& (63 : Int32))).toInt8.toInt32)), (.int (3 : Int32)), (.ref x7)])) (fun _ k => XS.sipush W23.here hx rfl (hb hby d31_95) (XS.iload W23.here hx rfl (hb hby d31_98) rfl (XS.bipush W23.here hx rfl (hb hby d31_100) (XS.iand W23.here hx rfl (hb hby d31_102) rfl (XS.ior W23.here hx rfl (hb hby d31_103) rfl (XS.i2b W23.here hx rfl (hb hby d31_104) rfl k)))))) ?_
        generalize ec25 : (((128 : Int32) ||| (bb2 &&& (63 : Int32))).toInt8.toInt32) = c25
        obtain ⟨T26, h26, W26, R26, V26, st26⟩ := own_stB W23 hx U23 (by omega) S23_x7 (j := (3 : Int32)) (i := 3) ⟨by decide, by decide⟩ rfl (nle rfl) (g := (mkF m 105 #[.val vZ, vR u, vI (1 : Int32), vI (4 : Int32), vR x7, vR u, vI (3 : Int32), vI (1 : Int32), vI bb2] [(.int c25), (.int (3 : Int32)), (.ref x7)])) rfl rfl (hb hby d31_105)
        have z27 : h26.size = h23.size := R26.size
        have S26_x7 : Safe Z own_EL vm7 h26 x7 := Safe.wr R26 S23_x7 W23.ch S23_x7
        have U26 : Arv Z h26 x7 k7 .byte (6 : Int32) [(.int c12.toInt8.toInt32), (.int c15.toInt8.toInt32), (.int c22.toInt8.toInt32), (.int c25.toInt8.toInt32), vZ, vZ] vZ := V26
        refine go (g' := (mkF m 106 #[.val vZ, vR u, vI (1 : Int32), vI (4 : Int32), vR x7, vR u, vI (3 : Int32), vI (1 : Int32), vI bb2] [])) (st26) ?_
        refine go (g' := (mkF m 121 #[.val vZ, vR u, vI (1 : Int32), vI (4 : Int32), vR x7, vR u, vI (3 : Int32), vI ((1 : Int32) + (1 : Int32)), vI bb2] [])) (fun _ k => XS.goto W26.here hx rfl (pc0 := 106) (pc' := 118) rfl (hb hby d31_106) (by decide) (by decide) (XS.iinc W26.here hx rfl (hb hby d31_118) rfl (l' := #[.val vZ, vR u, vI (1 : Int32), vI (4 : Int32), vR x7, vR u, vI (3 : Int32), vI ((1 : Int32) + (1 : Int32)), vI bb2]) rfl k)) ?_
        rw [show ((1 : Int32) + (1 : Int32)) = (2 : Int32) from by decide]
        refine go (g' := (mkF m 60 #[.val vZ, vR u, vI (1 : Int32), vI (4 : Int32), vR x7, vR u, vI (3 : Int32), vI (2 : Int32), vI bb2] [(.int (2 : Int32)), (.ref u)])) (fun _ k => XS.goto W26.here hx rfl (pc0 := 121) (pc' := 49) rfl (hb hby d31_121) (by decide) (by decide) (XS.iload W26.here hx rfl (hb hby d31_49) rfl (XS.iload W26.here hx rfl (hb hby d31_51) rfl (XS.icmpNo W26.here hx rfl (hb hby d31_53) rfl (tlt ((by decide) : (2 : Int32) < (3 : Int32))).2.1 (XS.aload W26.here hx rfl (hb hby d31_56) rfl rfl (XS.iload W26.here hx rfl (hb hby d31_58) rfl k)))))) ?_
        have X28 : Ext h0 h23 := own_xw X19 R23 (by omega)
        have X29 : Ext h0 h26 := own_xw X28 R26 (by omega)
        have f30 := Vu.ext X29
        refine go (g' := (mkF m 61 #[.val vZ, vR u, vI (1 : Int32), vI (4 : Int32), vR x7, vR u, vI (3 : Int32), vI (2 : Int32), vI bb2] [(.int bb3)])) (own_bal W26 hx f30 (j := (2 : Int32)) ⟨by decide, by decide⟩ rfl (g := (mkF m 60 #[.val vZ, vR u, vI (1 : Int32), vI (4 : Int32), vR x7, vR u, vI (3 : Int32), vI (2 : Int32), vI bb2] [(.int (2 : Int32)), (.ref u)])) rfl rfl (hb hby d31_60)) ?_
        refine go (g' := (mkF m 115 #[.val vZ, vR u, vI (1 : Int32), vI ((4 : Int32) + (1 : Int32)), vR x7, vR u, vI (3 : Int32), vI (2 : Int32), vI bb3] [(.int (4 : Int32)), (.ref x7)])) (fun _ k => XS.istore W26.here hx rfl (hb hby d31_61) rfl (l' := #[.val vZ, vR u, vI (1 : Int32), vI (4 : Int32), vR x7, vR u, vI (3 : Int32), vI (2 : Int32), vI bb3]) rfl (XS.iload W26.here hx rfl (hb hby d31_63) rfl (XS.ifYes W26.here hx rfl (pc0 := 65) (pc' := 109) rfl (hb hby d31_65) rfl ((if0 _ _).trans (flt qb3).2.1) (by decide) (by decide) (XS.aload W26.here hx rfl (hb hby d31_109) rfl rfl (XS.iloadN W26.here hx rfl (hb hby d31_111) rfl (XS.iinc W26.here hx rfl (hb hby d31_112) rfl (l' := #[.val vZ, vR u, vI (1 : Int32), vI ((4 : Int32) + (1 : Int32)), vR x7, vR u, vI (3 : Int32), vI (2 : Int32), vI bb3]) rfl k)))))) ?_
        rw [show ((4 : Int32) + (1 : Int32)) = (5 : Int32) from by decide]
        refine go (g' := (mkF m 117 #[.val vZ, vR u, vI (1 : Int32), vI (5 : Int32), vR x7, vR u, vI (3 : Int32), vI (2 : Int32), vI bb3] [(.int bb3), (.int (4 : Int32)), (.ref x7)])) (fun _ k => XS.iload W26.here hx rfl (hb hby d31_115) rfl k) ?_
        obtain ⟨T31, h31, W31, R31, V31, st31⟩ := own_stB W26 hx U26 (by omega) S26_x7 (j := (4 : Int32)) (i := 4) ⟨by decide, by decide⟩ rfl (nle rfl) (g := (mkF m 117 #[.val vZ, vR u, vI (1 : Int32), vI (5 : Int32), vR x7, vR u, vI (3 : Int32), vI (2 : Int32), vI bb3] [(.int bb3), (.int (4 : Int32)), (.ref x7)])) rfl rfl (hb hby d31_117)
        have z32 : h31.size = h26.size := R31.size
        have S31_x7 : Safe Z own_EL vm7 h31 x7 := Safe.wr R31 S26_x7 W26.ch S26_x7
        have U31 : Arv Z h31 x7 k7 .byte (6 : Int32) [(.int c12.toInt8.toInt32), (.int c15.toInt8.toInt32), (.int c22.toInt8.toInt32), (.int c25.toInt8.toInt32), (.int bb3.toInt8.toInt32), vZ] vZ := V31
        refine go (g' := (mkF m 118 #[.val vZ, vR u, vI (1 : Int32), vI (5 : Int32), vR x7, vR u, vI (3 : Int32), vI (2 : Int32), vI bb3] [])) (st31) ?_
        refine go (g' := (mkF m 121 #[.val vZ, vR u, vI (1 : Int32), vI (5 : Int32), vR x7, vR u, vI (3 : Int32), vI ((2 : Int32) + (1 : Int32)), vI bb3] [])) (fun _ k => XS.iinc W31.here hx rfl (hb hby d31_118) rfl (l' := #[.val vZ, vR u, vI (1 : Int32), vI (5 : Int32), vR x7, vR u, vI (3 : Int32), vI ((2 : Int32) + (1 : Int32)), vI bb3]) rfl k) ?_
        rw [show ((2 : Int32) + (1 : Int32)) = (3 : Int32) from by decide]
        refine go (g' := (mkF m 127 #[.val vZ, vR u, vI (1 : Int32), vI (5 : Int32), vR x7, vR u, vI (3 : Int32), vI (3 : Int32), vI bb3] [(.ref x7), (.int (5 : Int32))])) (fun _ k => XS.goto W31.here hx rfl (pc0 := 121) (pc' := 49) rfl (hb hby d31_121) (by decide) (by decide) (XS.iload W31.here hx rfl (hb hby d31_49) rfl (XS.iload W31.here hx rfl (hb hby d31_51) rfl (XS.icmpYes W31.here hx rfl (pc0 := 53) (pc' := 124) rfl (hb hby d31_53) rfl (flt ((by decide) : ¬ ((3 : Int32) < (3 : Int32)))).2.1 (by decide) (by decide) (XS.iloadN W31.here hx rfl (hb hby d31_124) rfl (XS.aload W31.here hx rfl (hb hby d31_125) rfl rfl k)))))) ?_
        refine go (g' := (mkF m 128 #[.val vZ, vR u, vI (1 : Int32), vI (5 : Int32), vR x7, vR u, vI (3 : Int32), vI (3 : Int32), vI bb3] [(.int (6 : Int32)), (.int (5 : Int32))])) (own_alen W31 hx U31 (g := (mkF m 127 #[.val vZ, vR u, vI (1 : Int32), vI (5 : Int32), vR x7, vR u, vI (3 : Int32), vI (3 : Int32), vI bb3] [(.ref x7), (.int (5 : Int32))])) rfl rfl (hb hby d31_127)) ?_
        refine go (g' := (mkF m 137 #[.val vZ, vR u, vI (1 : Int32), vI (5 : Int32), vR x7, vR u, vI (3 : Int32), vI (3 : Int32), vI bb3] [(.int (5 : Int32)), (.ref x7)])) (fun _ k => XS.icmpYes W31.here hx rfl (pc0 := 128) (pc' := 134) rfl (hb hby d31_128) rfl (feq ((by decide) : ¬ ((5 : Int32) = (6 : Int32)))).2 (by decide) (by decide) (XS.aload W31.here hx rfl (hb hby d31_134) rfl rfl (XS.iloadN W31.here hx rfl (hb hby d31_136) rfl k))) ?_
        obtain ⟨v33, so33, vm33, T33, h33, W33, C33, q33, hso33, st33⟩ := own_static W31 hx (w298 C) (w299 C) (w239 C) (w300 C) (by decide) (rm_cpo5 C h31 x7 k7 (c12.toInt8.toInt32) (c15.toInt8.toInt32) (c22.toInt8.toInt32) (c25.toInt8.toInt32) (bb3.toInt8.toInt32) (0 : Int32) U31) (fun _ q => nomatch q) (Wd := 0) (nle rfl) (nle rfl) (nle rfl) (nle rfl) (g := (mkF m 137 #[.val vZ, vR u, vI (1 : Int32), vI (5 : Int32), vR x7, vR u, vI (3 : Int32), vI (3 : Int32), vI bb3] [(.int (5 : Int32)), (.ref x7)])) rfl (by rw [hml]; rfl) (argsL := [(.ref x7), (.int (5 : Int32))]) (rest := []) (lenOf pd_19 rfl) rfl rfl (nle rfl) (hb hby d31_137)
        obtain ⟨x33, rfl, E33⟩ := q33
        have z34 : h31.size ≤ h33.size := E33.1
        have S33_x7 : Safe Z own_EL vm33 h33 x7 := C33.safe (olt (by omega)) S31_x7
        refine go (g' := (mkF m 140 #[.val vZ, vR u, vI (1 : Int32), vI (5 : Int32), vR x7, vR u, vI (3 : Int32), vI (3 : Int32), vI bb3] [(.ref x33)])) (st33) ?_
        have X35 : Ext h0 h31 := own_xw X29 R31 (by omega)
        have X36 : Ext h0 h33 := own_xt X35 E33
        exact fin (v := some (.ref x33)) (so := []) W33 (nle rfl) (nle rfl) (⟨_, rfl, X36⟩) (fun _ q => nomatch q) (fun q => nomatch q) (own_retA W33 hx hret rfl rfl rfl (hb hby d31_140))
      · refine go (g' := (mkF m 115 #[.val vZ, vR u, vI (1 : Int32), vI ((2 : Int32) + (1 : Int32)), vR x7, vR u, vI (3 : Int32), vI (1 : Int32), vI bb2] [(.int (2 : Int32)), (.ref x7)])) (fun _ k => XS.ifYes W16.here hx rfl (pc0 := 65) (pc' := 109) rfl (hb hby d31_65) rfl ((if0 _ _).trans (flt kb21).2.1) (by decide) (by decide) (XS.aload W16.here hx rfl (hb hby d31_109) rfl rfl (XS.iloadN W16.here hx rfl (hb hby d31_111) rfl (XS.iinc W16.here hx rfl (hb hby d31_112) rfl (l' := #[.val vZ, vR u, vI (1 : Int32), vI ((2 : Int32) + (1 : Int32)), vR x7, vR u, vI (3 : Int32), vI (1 : Int32), vI bb2]) rfl k)))) ?_
        rw [show ((2 : Int32) + (1 : Int32)) = (3 : Int32) from by decide]
        refine go (g' := (mkF m 117 #[.val vZ, vR u, vI (1 : Int32), vI (3 : Int32), vR x7, vR u, vI (3 : Int32), vI (1 : Int32), vI bb2] [(.int bb2), (.int (2 : Int32)), (.ref x7)])) (fun _ k => XS.iload W16.here hx rfl (hb hby d31_115) rfl k) ?_
        obtain ⟨T37, h37, W37, R37, V37, st37⟩ := own_stB W16 hx U16 (by omega) S16_x7 (j := (2 : Int32)) (i := 2) ⟨by decide, by decide⟩ rfl (nle rfl) (g := (mkF m 117 #[.val vZ, vR u, vI (1 : Int32), vI (3 : Int32), vR x7, vR u, vI (3 : Int32), vI (1 : Int32), vI bb2] [(.int bb2), (.int (2 : Int32)), (.ref x7)])) rfl rfl (hb hby d31_117)
        have z38 : h37.size = h16.size := R37.size
        have S37_x7 : Safe Z own_EL vm7 h37 x7 := Safe.wr R37 S16_x7 W16.ch S16_x7
        have U37 : Arv Z h37 x7 k7 .byte (6 : Int32) [(.int c12.toInt8.toInt32), (.int c15.toInt8.toInt32), (.int bb2.toInt8.toInt32), vZ, vZ, vZ] vZ := V37
        refine go (g' := (mkF m 118 #[.val vZ, vR u, vI (1 : Int32), vI (3 : Int32), vR x7, vR u, vI (3 : Int32), vI (1 : Int32), vI bb2] [])) (st37) ?_
        refine go (g' := (mkF m 121 #[.val vZ, vR u, vI (1 : Int32), vI (3 : Int32), vR x7, vR u, vI (3 : Int32), vI ((1 : Int32) + (1 : Int32)), vI bb2] [])) (fun _ k => XS.iinc W37.here hx rfl (hb hby d31_118) rfl (l' := #[.val vZ, vR u, vI (1 : Int32), vI (3 : Int32), vR x7, vR u, vI (3 : Int32), vI ((1 : Int32) + (1 : Int32)), vI bb2]) rfl k) ?_
        rw [show ((1 : Int32) + (1 : Int32)) = (2 : Int32) from by decide]
        refine go (g' := (mkF m 60 #[.val vZ, vR u, vI (1 : Int32), vI (3 : Int32), vR x7, vR u, vI (3 : Int32), vI (2 : Int32), vI bb2] [(.int (2 : Int32)), (.ref u)])) (fun _ k => XS.goto W37.here hx rfl (pc0 := 121) (pc' := 49) rfl (hb hby d31_121) (by decide) (by decide) (XS.iload W37.here hx rfl (hb hby d31_49) rfl (XS.iload W37.here hx rfl (hb hby d31_51) rfl (XS.icmpNo W37.here hx rfl (hb hby d31_53) rfl (tlt ((by decide) : (2 : Int32) < (3 : Int32))).2.1 (XS.aload W37.here hx rfl (hb hby d31_56) rfl rfl (XS.iload W37.here hx rfl (hb hby d31_58) rfl k)))))) ?_
        have X39 : Ext h0 h37 := own_xw X19 R37 (by omega)
        have f40 := Vu.ext X39
        refine go (g' := (mkF m 61 #[.val vZ, vR u, vI (1 : Int32), vI (3 : Int32), vR x7, vR u, vI (3 : Int32), vI (2 : Int32), vI bb2] [(.int bb3)])) (own_bal W37 hx f40 (j := (2 : Int32)) ⟨by decide, by decide⟩ rfl (g := (mkF m 60 #[.val vZ, vR u, vI (1 : Int32), vI (3 : Int32), vR x7, vR u, vI (3 : Int32), vI (2 : Int32), vI bb2] [(.int (2 : Int32)), (.ref u)])) rfl rfl (hb hby d31_60)) ?_
        refine go (g' := (mkF m 115 #[.val vZ, vR u, vI (1 : Int32), vI ((3 : Int32) + (1 : Int32)), vR x7, vR u, vI (3 : Int32), vI (2 : Int32), vI bb3] [(.int (3 : Int32)), (.ref x7)])) (fun _ k => XS.istore W37.here hx rfl (hb hby d31_61) rfl (l' := #[.val vZ, vR u, vI (1 : Int32), vI (3 : Int32), vR x7, vR u, vI (3 : Int32), vI (2 : Int32), vI bb3]) rfl (XS.iload W37.here hx rfl (hb hby d31_63) rfl (XS.ifYes W37.here hx rfl (pc0 := 65) (pc' := 109) rfl (hb hby d31_65) rfl ((if0 _ _).trans (flt qb3).2.1) (by decide) (by decide) (XS.aload W37.here hx rfl (hb hby d31_109) rfl rfl (XS.iloadN W37.here hx rfl (hb hby d31_111) rfl (XS.iinc W37.here hx rfl (hb hby d31_112) rfl (l' := #[.val vZ, vR u, vI (1 : Int32), vI ((3 : Int32) + (1 : Int32)), vR x7, vR u, vI (3 : Int32), vI (2 : Int32), vI bb3]) rfl k)))))) ?_
        rw [show ((3 : Int32) + (1 : Int32)) = (4 : Int32) from by decide]
        refine go (g' := (mkF m 117 #[.val vZ, vR u, vI (1 : Int32), vI (4 : Int32), vR x7, vR u, vI (3 : Int32), vI (2 : Int32), vI bb3] [(.int bb3), (.int (3 : Int32)), (.ref x7)])) (fun _ k => XS.iload W37.here hx rfl (hb hby d31_115) rfl k) ?_
        obtain ⟨T41, h41, W41, R41, V41, st41⟩ := own_stB W37 hx U37 (by omega) S37_x7 (j := (3 : Int32)) (i := 3) ⟨by decide, by decide⟩ rfl (nle rfl) (g := (mkF m 117 #[.val vZ, vR u, vI (1 : Int32), vI (4 : Int32), vR x7, vR u, vI (3 : Int32), vI (2 : Int32), vI bb3] [(.int bb3), (.int (3 : Int32)), (.ref x7)])) rfl rfl (hb hby d31_117)
        have z42 : h41.size = h37.size := R41.size
        have S41_x7 : Safe Z own_EL vm7 h41 x7 := Safe.wr R41 S37_x7 W37.ch S37_x7
        have U41 : Arv Z h41 x7 k7 .byte (6 : Int32) [(.int c12.toInt8.toInt32), (.int c15.toInt8.toInt32), (.int bb2.toInt8.toInt32), (.int bb3.toInt8.toInt32), vZ, vZ] vZ := V41
        refine go (g' := (mkF m 118 #[.val vZ, vR u, vI (1 : Int32), vI (4 : Int32), vR x7, vR u, vI (3 : Int32), vI (2 : Int32), vI bb3] [])) (st41) ?_
        refine go (g' := (mkF m 121 #[.val vZ, vR u, vI (1 : Int32), vI (4 : Int32), vR x7, vR u, vI (3 : Int32), vI ((2 : Int32) + (1 : Int32)), vI bb3] [])) (fun _ k => XS.iinc W41.here hx rfl (hb hby d31_118) rfl (l' := #[.val vZ, vR u, vI (1 : Int32), vI (4 : Int32), vR x7, vR u, vI (3 : Int32), vI ((2 : Int32) + (1 : Int32)), vI bb3]) rfl k) ?_
        rw [show ((2 : Int32) + (1 : Int32)) = (3 : Int32) from by decide]
        refine go (g' := (mkF m 127 #[.val vZ, vR u, vI (1 : Int32), vI (4 : Int32), vR x7, vR u, vI (3 : Int32), vI (3 : Int32), vI bb3] [(.ref x7), (.int (4 : Int32))])) (fun _ k => XS.goto W41.here hx rfl (pc0 := 121) (pc' := 49) rfl (hb hby d31_121) (by decide) (by decide) (XS.iload W41.here hx rfl (hb hby d31_49) rfl (XS.iload W41.here hx rfl (hb hby d31_51) rfl (XS.icmpYes W41.here hx rfl (pc0 := 53) (pc' := 124) rfl (hb hby d31_53) rfl (flt ((by decide) : ¬ ((3 : Int32) < (3 : Int32)))).2.1 (by decide) (by decide) (XS.iloadN W41.here hx rfl (hb hby d31_124) rfl (XS.aload W41.here hx rfl (hb hby d31_125) rfl rfl k)))))) ?_
        refine go (g' := (mkF m 128 #[.val vZ, vR u, vI (1 : Int32), vI (4 : Int32), vR x7, vR u, vI (3 : Int32), vI (3 : Int32), vI bb3] [(.int (6 : Int32)), (.int (4 : Int32))])) (own_alen W41 hx U41 (g := (mkF m 127 #[.val vZ, vR u, vI (1 : Int32), vI (4 : Int32), vR x7, vR u, vI (3 : Int32), vI (3 : Int32), vI bb3] [(.ref x7), (.int (4 : Int32))])) rfl rfl (hb hby d31_127)) ?_
        refine go (g' := (mkF m 137 #[.val vZ, vR u, vI (1 : Int32), vI (4 : Int32), vR x7, vR u, vI (3 : Int32), vI (3 : Int32), vI bb3] [(.int (4 : Int32)), (.ref x7)])) (fun _ k => XS.icmpYes W41.here hx rfl (pc0 := 128) (pc' := 134) rfl (hb hby d31_128) rfl (feq ((by decide) : ¬ ((4 : Int32) = (6 : Int32)))).2 (by decide) (by decide) (XS.aload W41.here hx rfl (hb hby d31_134) rfl rfl (XS.iloadN W41.here hx rfl (hb hby d31_136) rfl k))) ?_
        obtain ⟨v43, so43, vm43, T43, h43, W43, C43, q43, hso43, st43⟩ := own_static W41 hx (w298 C) (w299 C) (w239 C) (w300 C) (by decide) (rm_cpo4 C h41 x7 k7 (c12.toInt8.toInt32) (c15.toInt8.toInt32) (bb2.toInt8.toInt32) (bb3.toInt8.toInt32) (0 : Int32) (0 : Int32) U41) (fun _ q => nomatch q) (Wd := 0) (nle rfl) (nle rfl) (nle rfl) (nle rfl) (g := (mkF m 137 #[.val vZ, vR u, vI (1 : Int32), vI (4 : Int32), vR x7, vR u, vI (3 : Int32), vI (3 : Int32), vI bb3] [(.int (4 : Int32)), (.ref x7)])) rfl (by rw [hml]; rfl) (argsL := [(.ref x7), (.int (4 : Int32))]) (rest := []) (lenOf pd_19 rfl) rfl rfl (nle rfl) (hb hby d31_137)
        obtain ⟨x43, rfl, E43⟩ := q43
        have z44 : h41.size ≤ h43.size := E43.1
        have S43_x7 : Safe Z own_EL vm43 h43 x7 := C43.safe (olt (by omega)) S41_x7
        refine go (g' := (mkF m 140 #[.val vZ, vR u, vI (1 : Int32), vI (4 : Int32), vR x7, vR u, vI (3 : Int32), vI (3 : Int32), vI bb3] [(.ref x43)])) (st43) ?_
        have X45 : Ext h0 h41 := own_xw X39 R41 (by omega)
        have X46 : Ext h0 h43 := own_xt X45 E43
        exact fin (v := some (.ref x43)) (so := []) W43 (nle rfl) (nle rfl) (⟨_, rfl, X46⟩) (fun _ q => nomatch q) (fun q => nomatch q) (own_retA W43 hx hret rfl rfl rfl (hb hby d31_140))
    · refine go (g' := (mkF m 115 #[.val vZ, vR u, vI (1 : Int32), vI ((0 : Int32) + (1 : Int32)), vR x7, vR u, vI (3 : Int32), .val vZ, vI bb1] [vZ, (.ref x7)])) (fun _ k => XS.ifYes W7.here hx rfl (pc0 := 65) (pc' := 109) rfl (hb hby d31_65) rfl ((if0 _ _).trans (flt kb11).2.1) (by decide) (by decide) (XS.aload W7.here hx rfl (hb hby d31_109) rfl rfl (XS.iloadN W7.here hx rfl (hb hby d31_111) rfl (XS.iinc W7.here hx rfl (hb hby d31_112) rfl (l' := #[.val vZ, vR u, vI (1 : Int32), vI ((0 : Int32) + (1 : Int32)), vR x7, vR u, vI (3 : Int32), .val vZ, vI bb1]) rfl k)))) ?_
      rw [show ((0 : Int32) + (1 : Int32)) = (1 : Int32) from by decide]
      refine go (g' := (mkF m 117 #[.val vZ, vR u, vI (1 : Int32), vI (1 : Int32), vR x7, vR u, vI (3 : Int32), .val vZ, vI bb1] [(.int bb1), vZ, (.ref x7)])) (fun _ k => XS.iload W7.here hx rfl (hb hby d31_115) rfl k) ?_
      obtain ⟨T47, h47, W47, R47, V47, st47⟩ := own_stB W7 hx V7 (by omega) (hso7 _ (own_mi (i := 0) rfl)) (j := (0 : Int32)) (i := 0) ⟨by decide, by decide⟩ rfl (nle rfl) (g := (mkF m 117 #[.val vZ, vR u, vI (1 : Int32), vI (1 : Int32), vR x7, vR u, vI (3 : Int32), .val vZ, vI bb1] [(.int bb1), vZ, (.ref x7)])) rfl rfl (hb hby d31_117)
      have z48 : h47.size = h7.size := R47.size
      have S47_x7 : Safe Z own_EL vm7 h47 x7 := Safe.wr R47 (hso7 _ (own_mi (i := 0) rfl)) W7.ch (hso7 _ (own_mi (i := 0) rfl))
      have U47 : Arv Z h47 x7 k7 .byte (6 : Int32) [(.int bb1.toInt8.toInt32), vZ, vZ, vZ, vZ, vZ] vZ := V47
      refine go (g' := (mkF m 118 #[.val vZ, vR u, vI (1 : Int32), vI (1 : Int32), vR x7, vR u, vI (3 : Int32), .val vZ, vI bb1] [])) (st47) ?_
      refine go (g' := (mkF m 121 #[.val vZ, vR u, vI (1 : Int32), vI (1 : Int32), vR x7, vR u, vI (3 : Int32), vI ((0 : Int32) + (1 : Int32)), vI bb1] [])) (fun _ k => XS.iinc W47.here hx rfl (hb hby d31_118) rfl (l' := #[.val vZ, vR u, vI (1 : Int32), vI (1 : Int32), vR x7, vR u, vI (3 : Int32), vI ((0 : Int32) + (1 : Int32)), vI bb1]) rfl k) ?_
      rw [show ((0 : Int32) + (1 : Int32)) = (1 : Int32) from by decide]
      refine go (g' := (mkF m 60 #[.val vZ, vR u, vI (1 : Int32), vI (1 : Int32), vR x7, vR u, vI (3 : Int32), vI (1 : Int32), vI bb1] [(.int (1 : Int32)), (.ref u)])) (fun _ k => XS.goto W47.here hx rfl (pc0 := 121) (pc' := 49) rfl (hb hby d31_121) (by decide) (by decide) (XS.iload W47.here hx rfl (hb hby d31_49) rfl (XS.iload W47.here hx rfl (hb hby d31_51) rfl (XS.icmpNo W47.here hx rfl (hb hby d31_53) rfl (tlt ((by decide) : (1 : Int32) < (3 : Int32))).2.1 (XS.aload W47.here hx rfl (hb hby d31_56) rfl rfl (XS.iload W47.here hx rfl (hb hby d31_58) rfl k)))))) ?_
      have X49 : Ext h0 h47 := own_xw X9 R47 (by omega)
      have f50 := Vu.ext X49
      refine go (g' := (mkF m 61 #[.val vZ, vR u, vI (1 : Int32), vI (1 : Int32), vR x7, vR u, vI (3 : Int32), vI (1 : Int32), vI bb1] [(.int bb2)])) (own_bal W47 hx f50 (j := (1 : Int32)) ⟨by decide, by decide⟩ rfl (g := (mkF m 60 #[.val vZ, vR u, vI (1 : Int32), vI (1 : Int32), vR x7, vR u, vI (3 : Int32), vI (1 : Int32), vI bb1] [(.int (1 : Int32)), (.ref u)])) rfl rfl (hb hby d31_60)) ?_
      refine go (g' := (mkF m 65 #[.val vZ, vR u, vI (1 : Int32), vI (1 : Int32), vR x7, vR u, vI (3 : Int32), vI (1 : Int32), vI bb2] [(.int bb2)])) (fun _ k => XS.istore W47.here hx rfl (hb hby d31_61) rfl (l' := #[.val vZ, vR u, vI (1 : Int32), vI (1 : Int32), vR x7, vR u, vI (3 : Int32), vI (1 : Int32), vI bb2]) rfl (XS.iload W47.here hx rfl (hb hby d31_63) rfl k)) ?_
      by_cases kb51 : bb2 < (0 : Int32)
      · refine go (g' := (mkF m 74 #[.val vZ, vR u, vI (1 : Int32), vI ((1 : Int32) + (1 : Int32)), vR x7, vR u, vI (3 : Int32), vI (1 : Int32), vI bb2] [(.int (1 : Int32)), (.ref x7)])) (fun _ k => XS.ifNo W47.here hx rfl (hb hby d31_65) rfl ((if0 _ _).trans (tlt kb51).2.1) (XS.aload W47.here hx rfl (hb hby d31_68) rfl rfl (XS.iloadN W47.here hx rfl (hb hby d31_70) rfl (XS.iinc W47.here hx rfl (hb hby d31_71) rfl (l' := #[.val vZ, vR u, vI (1 : Int32), vI ((1 : Int32) + (1 : Int32)), vR x7, vR u, vI (3 : Int32), vI (1 : Int32), vI bb2]) rfl k)))) ?_
        rw [show ((1 : Int32) + (1 : Int32)) = (2 : Int32) from by decide]
        refine go (g' := (mkF m 88 #[.val vZ, vR u, vI (1 : Int32), vI (2 : Int32), vR x7, vR u, vI (3 : Int32), vI (1 : Int32), vI bb2] [(.int (((192 : Int32) ||| ((bb2 &&& (255 : Int32)) >>> ((6 : Int32) &&& 31))).toInt8.toInt32)), (.int (1 : Int32)), (.ref x7)])) (fun _ k => XS.sipush W47.here hx rfl (hb hby d31_74) (XS.iload W47.here hx rfl (hb hby d31_77) rfl (XS.sipush W47.here hx rfl (hb hby d31_79) (XS.iand W47.here hx rfl (hb hby d31_82) rfl (XS.bipush W47.here hx rfl (hb hby d31_83) (XS.ishr W47.here hx rfl (hb hby d31_85) rfl (XS.ior W47.here hx rfl (hb hby d31_86) rfl (XS.i2b W47.here hx rfl (hb hby d31_87) rfl k)))))))) ?_
        generalize ec52 : (((192 : Int32) ||| ((bb2 &&& (255 : Int32)) >>> ((6 : Int32) &&& 31))).toInt8.toInt32) = c52
        obtain ⟨T53, h53, W53, R53, V53, st53⟩ := own_stB W47 hx U47 (by omega) S47_x7 (j := (1 : Int32)) (i := 1) ⟨by decide, by decide⟩ rfl (nle rfl) (g := (mkF m 88 #[.val vZ, vR u, vI (1 : Int32), vI (2 : Int32), vR x7, vR u, vI (3 : Int32), vI (1 : Int32), vI bb2] [(.int c52), (.int (1 : Int32)), (.ref x7)])) rfl rfl (hb hby d31_88)
        have z54 : h53.size = h47.size := R53.size
        have S53_x7 : Safe Z own_EL vm7 h53 x7 := Safe.wr R53 S47_x7 W47.ch S47_x7
        have U53 : Arv Z h53 x7 k7 .byte (6 : Int32) [(.int bb1.toInt8.toInt32), (.int c52.toInt8.toInt32), vZ, vZ, vZ, vZ] vZ := V53
        refine go (g' := (mkF m 89 #[.val vZ, vR u, vI (1 : Int32), vI (2 : Int32), vR x7, vR u, vI (3 : Int32), vI (1 : Int32), vI bb2] [])) (st53) ?_
        refine go (g' := (mkF m 95 #[.val vZ, vR u, vI (1 : Int32), vI ((2 : Int32) + (1 : Int32)), vR x7, vR u, vI (3 : Int32), vI (1 : Int32), vI bb2] [(.int (2 : Int32)), (.ref x7)])) (fun _ k => XS.aload W53.here hx rfl (hb hby d31_89) rfl rfl (XS.iloadN W53.here hx rfl (hb hby d31_91) rfl (XS.iinc W53.here hx rfl (hb hby d31_92) rfl (l' := #[.val vZ, vR u, vI (1 : Int32), vI ((2 : Int32) + (1 : Int32)), vR x7, vR u, vI (3 : Int32), vI (1 : Int32), vI bb2]) rfl k))) ?_
        rw [show ((2 : Int32) + (1 : Int32)) = (3 : Int32) from by decide]
        refine go (g' := (mkF m 105 #[.val vZ, vR u, vI (1 : Int32), vI (3 : Int32), vR x7, vR u, vI (3 : Int32), vI (1 : Int32), vI bb2] [(.int (((128 : Int32) ||| (bb2 &&& (63 : Int32))).toInt8.toInt32)), (.int (2 : Int32)), (.ref x7)])) (fun _ k => XS.sipush W53.here hx rfl (hb hby d31_95) (XS.iload W53.here hx rfl (hb hby d31_98) rfl (XS.bipush W53.here hx rfl (hb hby d31_100) (XS.iand W53.here hx rfl (hb hby d31_102) rfl (XS.ior W53.here hx rfl (hb hby d31_103) rfl (XS.i2b W53.here hx rfl (hb hby d31_104) rfl k)))))) ?_
        generalize ec55 : (((128 : Int32) ||| (bb2 &&& (63 : Int32))).toInt8.toInt32) = c55
        obtain ⟨T56, h56, W56, R56, V56, st56⟩ := own_stB W53 hx U53 (by omega) S53_x7 (j := (2 : Int32)) (i := 2) ⟨by decide, by decide⟩ rfl (nle rfl) (g := (mkF m 105 #[.val vZ, vR u, vI (1 : Int32), vI (3 : Int32), vR x7, vR u, vI (3 : Int32), vI (1 : Int32), vI bb2] [(.int c55), (.int (2 : Int32)), (.ref x7)])) rfl rfl (hb hby d31_105)
        have z57 : h56.size = h53.size := R56.size
        have S56_x7 : Safe Z own_EL vm7 h56 x7 := Safe.wr R56 S53_x7 W53.ch S53_x7
        have U56 : Arv Z h56 x7 k7 .byte (6 : Int32) [(.int bb1.toInt8.toInt32), (.int c52.toInt8.toInt32), (.int c55.toInt8.toInt32), vZ, vZ, vZ] vZ := V56
        refine go (g' := (mkF m 106 #[.val vZ, vR u, vI (1 : Int32), vI (3 : Int32), vR x7, vR u, vI (3 : Int32), vI (1 : Int32), vI bb2] [])) (st56) ?_
        refine go (g' := (mkF m 121 #[.val vZ, vR u, vI (1 : Int32), vI (3 : Int32), vR x7, vR u, vI (3 : Int32), vI ((1 : Int32) + (1 : Int32)), vI bb2] [])) (fun _ k => XS.goto W56.here hx rfl (pc0 := 106) (pc' := 118) rfl (hb hby d31_106) (by decide) (by decide) (XS.iinc W56.here hx rfl (hb hby d31_118) rfl (l' := #[.val vZ, vR u, vI (1 : Int32), vI (3 : Int32), vR x7, vR u, vI (3 : Int32), vI ((1 : Int32) + (1 : Int32)), vI bb2]) rfl k)) ?_
        rw [show ((1 : Int32) + (1 : Int32)) = (2 : Int32) from by decide]
        refine go (g' := (mkF m 60 #[.val vZ, vR u, vI (1 : Int32), vI (3 : Int32), vR x7, vR u, vI (3 : Int32), vI (2 : Int32), vI bb2] [(.int (2 : Int32)), (.ref u)])) (fun _ k => XS.goto W56.here hx rfl (pc0 := 121) (pc' := 49) rfl (hb hby d31_121) (by decide) (by decide) (XS.iload W56.here hx rfl (hb hby d31_49) rfl (XS.iload W56.here hx rfl (hb hby d31_51) rfl (XS.icmpNo W56.here hx rfl (hb hby d31_53) rfl (tlt ((by decide) : (2 : Int32) < (3 : Int32))).2.1 (XS.aload W56.here hx rfl (hb hby d31_56) rfl rfl (XS.iload W56.here hx rfl (hb hby d31_58) rfl k)))))) ?_
        have X58 : Ext h0 h53 := own_xw X49 R53 (by omega)
        have X59 : Ext h0 h56 := own_xw X58 R56 (by omega)
        have f60 := Vu.ext X59
        refine go (g' := (mkF m 61 #[.val vZ, vR u, vI (1 : Int32), vI (3 : Int32), vR x7, vR u, vI (3 : Int32), vI (2 : Int32), vI bb2] [(.int bb3)])) (own_bal W56 hx f60 (j := (2 : Int32)) ⟨by decide, by decide⟩ rfl (g := (mkF m 60 #[.val vZ, vR u, vI (1 : Int32), vI (3 : Int32), vR x7, vR u, vI (3 : Int32), vI (2 : Int32), vI bb2] [(.int (2 : Int32)), (.ref u)])) rfl rfl (hb hby d31_60)) ?_
        refine go (g' := (mkF m 115 #[.val vZ, vR u, vI (1 : Int32), vI ((3 : Int32) + (1 : Int32)), vR x7, vR u, vI (3 : Int32), vI (2 : Int32), vI bb3] [(.int (3 : Int32)), (.ref x7)])) (fun _ k => XS.istore W56.here hx rfl (hb hby d31_61) rfl (l' := #[.val vZ, vR u, vI (1 : Int32), vI (3 : Int32), vR x7, vR u, vI (3 : Int32), vI (2 : Int32), vI bb3]) rfl (XS.iload W56.here hx rfl (hb hby d31_63) rfl (XS.ifYes W56.here hx rfl (pc0 := 65) (pc' := 109) rfl (hb hby d31_65) rfl ((if0 _ _).trans (flt qb3).2.1) (by decide) (by decide) (XS.aload W56.here hx rfl (hb hby d31_109) rfl rfl (XS.iloadN W56.here hx rfl (hb hby d31_111) rfl (XS.iinc W56.here hx rfl (hb hby d31_112) rfl (l' := #[.val vZ, vR u, vI (1 : Int32), vI ((3 : Int32) + (1 : Int32)), vR x7, vR u, vI (3 : Int32), vI (2 : Int32), vI bb3]) rfl k)))))) ?_
        rw [show ((3 : Int32) + (1 : Int32)) = (4 : Int32) from by decide]
        refine go (g' := (mkF m 117 #[.val vZ, vR u, vI (1 : Int32), vI (4 : Int32), vR x7, vR u, vI (3 : Int32), vI (2 : Int32), vI bb3] [(.int bb3), (.int (3 : Int32)), (.ref x7)])) (fun _ k => XS.iload W56.here hx rfl (hb hby d31_115) rfl k) ?_
        obtain ⟨T61, h61, W61, R61, V61, st61⟩ := own_stB W56 hx U56 (by omega) S56_x7 (j := (3 : Int32)) (i := 3) ⟨by decide, by decide⟩ rfl (nle rfl) (g := (mkF m 117 #[.val vZ, vR u, vI (1 : Int32), vI (4 : Int32), vR x7, vR u, vI (3 : Int32), vI (2 : Int32), vI bb3] [(.int bb3), (.int (3 : Int32)), (.ref x7)])) rfl rfl (hb hby d31_117)
        have z62 : h61.size = h56.size := R61.size
        have S61_x7 : Safe Z own_EL vm7 h61 x7 := Safe.wr R61 S56_x7 W56.ch S56_x7
        have U61 : Arv Z h61 x7 k7 .byte (6 : Int32) [(.int bb1.toInt8.toInt32), (.int c52.toInt8.toInt32), (.int c55.toInt8.toInt32), (.int bb3.toInt8.toInt32), vZ, vZ] vZ := V61
        refine go (g' := (mkF m 118 #[.val vZ, vR u, vI (1 : Int32), vI (4 : Int32), vR x7, vR u, vI (3 : Int32), vI (2 : Int32), vI bb3] [])) (st61) ?_
        refine go (g' := (mkF m 121 #[.val vZ, vR u, vI (1 : Int32), vI (4 : Int32), vR x7, vR u, vI (3 : Int32), vI ((2 : Int32) + (1 : Int32)), vI bb3] [])) (fun _ k => XS.iinc W61.here hx rfl (hb hby d31_118) rfl (l' := #[.val vZ, vR u, vI (1 : Int32), vI (4 : Int32), vR x7, vR u, vI (3 : Int32), vI ((2 : Int32) + (1 : Int32)), vI bb3]) rfl k) ?_
        rw [show ((2 : Int32) + (1 : Int32)) = (3 : Int32) from by decide]
        refine go (g' := (mkF m 127 #[.val vZ, vR u, vI (1 : Int32), vI (4 : Int32), vR x7, vR u, vI (3 : Int32), vI (3 : Int32), vI bb3] [(.ref x7), (.int (4 : Int32))])) (fun _ k => XS.goto W61.here hx rfl (pc0 := 121) (pc' := 49) rfl (hb hby d31_121) (by decide) (by decide) (XS.iload W61.here hx rfl (hb hby d31_49) rfl (XS.iload W61.here hx rfl (hb hby d31_51) rfl (XS.icmpYes W61.here hx rfl (pc0 := 53) (pc' := 124) rfl (hb hby d31_53) rfl (flt ((by decide) : ¬ ((3 : Int32) < (3 : Int32)))).2.1 (by decide) (by decide) (XS.iloadN W61.here hx rfl (hb hby d31_124) rfl (XS.aload W61.here hx rfl (hb hby d31_125) rfl rfl k)))))) ?_
        refine go (g' := (mkF m 128 #[.val vZ, vR u, vI (1 : Int32), vI (4 : Int32), vR x7, vR u, vI (3 : Int32), vI (3 : Int32), vI bb3] [(.int (6 : Int32)), (.int (4 : Int32))])) (own_alen W61 hx U61 (g := (mkF m 127 #[.val vZ, vR u, vI (1 : Int32), vI (4 : Int32), vR x7, vR u, vI (3 : Int32), vI (3 : Int32), vI bb3] [(.ref x7), (.int (4 : Int32))])) rfl rfl (hb hby d31_127)) ?_
        refine go (g' := (mkF m 137 #[.val vZ, vR u, vI (1 : Int32), vI (4 : Int32), vR x7, vR u, vI (3 : Int32), vI (3 : Int32), vI bb3] [(.int (4 : Int32)), (.ref x7)])) (fun _ k => XS.icmpYes W61.here hx rfl (pc0 := 128) (pc' := 134) rfl (hb hby d31_128) rfl (feq ((by decide) : ¬ ((4 : Int32) = (6 : Int32)))).2 (by decide) (by decide) (XS.aload W61.here hx rfl (hb hby d31_134) rfl rfl (XS.iloadN W61.here hx rfl (hb hby d31_136) rfl k))) ?_
        obtain ⟨v63, so63, vm63, T63, h63, W63, C63, q63, hso63, st63⟩ := own_static W61 hx (w298 C) (w299 C) (w239 C) (w300 C) (by decide) (rm_cpo4 C h61 x7 k7 (bb1.toInt8.toInt32) (c52.toInt8.toInt32) (c55.toInt8.toInt32) (bb3.toInt8.toInt32) (0 : Int32) (0 : Int32) U61) (fun _ q => nomatch q) (Wd := 0) (nle rfl) (nle rfl) (nle rfl) (nle rfl) (g := (mkF m 137 #[.val vZ, vR u, vI (1 : Int32), vI (4 : Int32), vR x7, vR u, vI (3 : Int32), vI (3 : Int32), vI bb3] [(.int (4 : Int32)), (.ref x7)])) rfl (by rw [hml]; rfl) (argsL := [(.ref x7), (.int (4 : Int32))]) (rest := []) (lenOf pd_19 rfl) rfl rfl (nle rfl) (hb hby d31_137)
        obtain ⟨x63, rfl, E63⟩ := q63
        have z64 : h61.size ≤ h63.size := E63.1
        have S63_x7 : Safe Z own_EL vm63 h63 x7 := C63.safe (olt (by omega)) S61_x7
        refine go (g' := (mkF m 140 #[.val vZ, vR u, vI (1 : Int32), vI (4 : Int32), vR x7, vR u, vI (3 : Int32), vI (3 : Int32), vI bb3] [(.ref x63)])) (st63) ?_
        have X65 : Ext h0 h61 := own_xw X59 R61 (by omega)
        have X66 : Ext h0 h63 := own_xt X65 E63
        exact fin (v := some (.ref x63)) (so := []) W63 (nle rfl) (nle rfl) (⟨_, rfl, X66⟩) (fun _ q => nomatch q) (fun q => nomatch q) (own_retA W63 hx hret rfl rfl rfl (hb hby d31_140))
      · refine go (g' := (mkF m 115 #[.val vZ, vR u, vI (1 : Int32), vI ((1 : Int32) + (1 : Int32)), vR x7, vR u, vI (3 : Int32), vI (1 : Int32), vI bb2] [(.int (1 : Int32)), (.ref x7)])) (fun _ k => XS.ifYes W47.here hx rfl (pc0 := 65) (pc' := 109) rfl (hb hby d31_65) rfl ((if0 _ _).trans (flt kb51).2.1) (by decide) (by decide) (XS.aload W47.here hx rfl (hb hby d31_109) rfl rfl (XS.iloadN W47.here hx rfl (hb hby d31_111) rfl (XS.iinc W47.here hx rfl (hb hby d31_112) rfl (l' := #[.val vZ, vR u, vI (1 : Int32), vI ((1 : Int32) + (1 : Int32)), vR x7, vR u, vI (3 : Int32), vI (1 : Int32), vI bb2]) rfl k)))) ?_
        rw [show ((1 : Int32) + (1 : Int32)) = (2 : Int32) from by decide]
        refine go (g' := (mkF m 117 #[.val vZ, vR u, vI (1 : Int32), vI (2 : Int32), vR x7, vR u, vI (3 : Int32), vI (1 : Int32), vI bb2] [(.int bb2), (.int (1 : Int32)), (.ref x7)])) (fun _ k => XS.iload W47.here hx rfl (hb hby d31_115) rfl k) ?_
        obtain ⟨T67, h67, W67, R67, V67, st67⟩ := own_stB W47 hx U47 (by omega) S47_x7 (j := (1 : Int32)) (i := 1) ⟨by decide, by decide⟩ rfl (nle rfl) (g := (mkF m 117 #[.val vZ, vR u, vI (1 : Int32), vI (2 : Int32), vR x7, vR u, vI (3 : Int32), vI (1 : Int32), vI bb2] [(.int bb2), (.int (1 : Int32)), (.ref x7)])) rfl rfl (hb hby d31_117)
        have z68 : h67.size = h47.size := R67.size
        have S67_x7 : Safe Z own_EL vm7 h67 x7 := Safe.wr R67 S47_x7 W47.ch S47_x7
        have U67 : Arv Z h67 x7 k7 .byte (6 : Int32) [(.int bb1.toInt8.toInt32), (.int bb2.toInt8.toInt32), vZ, vZ, vZ, vZ] vZ := V67
        refine go (g' := (mkF m 118 #[.val vZ, vR u, vI (1 : Int32), vI (2 : Int32), vR x7, vR u, vI (3 : Int32), vI (1 : Int32), vI bb2] [])) (st67) ?_
        refine go (g' := (mkF m 121 #[.val vZ, vR u, vI (1 : Int32), vI (2 : Int32), vR x7, vR u, vI (3 : Int32), vI ((1 : Int32) + (1 : Int32)), vI bb2] [])) (fun _ k => XS.iinc W67.here hx rfl (hb hby d31_118) rfl (l' := #[.val vZ, vR u, vI (1 : Int32), vI (2 : Int32), vR x7, vR u, vI (3 : Int32), vI ((1 : Int32) + (1 : Int32)), vI bb2]) rfl k) ?_
        rw [show ((1 : Int32) + (1 : Int32)) = (2 : Int32) from by decide]
        refine go (g' := (mkF m 60 #[.val vZ, vR u, vI (1 : Int32), vI (2 : Int32), vR x7, vR u, vI (3 : Int32), vI (2 : Int32), vI bb2] [(.int (2 : Int32)), (.ref u)])) (fun _ k => XS.goto W67.here hx rfl (pc0 := 121) (pc' := 49) rfl (hb hby d31_121) (by decide) (by decide) (XS.iload W67.here hx rfl (hb hby d31_49) rfl (XS.iload W67.here hx rfl (hb hby d31_51) rfl (XS.icmpNo W67.here hx rfl (hb hby d31_53) rfl (tlt ((by decide) : (2 : Int32) < (3 : Int32))).2.1 (XS.aload W67.here hx rfl (hb hby d31_56) rfl rfl (XS.iload W67.here hx rfl (hb hby d31_58) rfl k)))))) ?_
        have X69 : Ext h0 h67 := own_xw X49 R67 (by omega)
        have f70 := Vu.ext X69
        refine go (g' := (mkF m 61 #[.val vZ, vR u, vI (1 : Int32), vI (2 : Int32), vR x7, vR u, vI (3 : Int32), vI (2 : Int32), vI bb2] [(.int bb3)])) (own_bal W67 hx f70 (j := (2 : Int32)) ⟨by decide, by decide⟩ rfl (g := (mkF m 60 #[.val vZ, vR u, vI (1 : Int32), vI (2 : Int32), vR x7, vR u, vI (3 : Int32), vI (2 : Int32), vI bb2] [(.int (2 : Int32)), (.ref u)])) rfl rfl (hb hby d31_60)) ?_
        refine go (g' := (mkF m 115 #[.val vZ, vR u, vI (1 : Int32), vI ((2 : Int32) + (1 : Int32)), vR x7, vR u, vI (3 : Int32), vI (2 : Int32), vI bb3] [(.int (2 : Int32)), (.ref x7)])) (fun _ k => XS.istore W67.here hx rfl (hb hby d31_61) rfl (l' := #[.val vZ, vR u, vI (1 : Int32), vI (2 : Int32), vR x7, vR u, vI (3 : Int32), vI (2 : Int32), vI bb3]) rfl (XS.iload W67.here hx rfl (hb hby d31_63) rfl (XS.ifYes W67.here hx rfl (pc0 := 65) (pc' := 109) rfl (hb hby d31_65) rfl ((if0 _ _).trans (flt qb3).2.1) (by decide) (by decide) (XS.aload W67.here hx rfl (hb hby d31_109) rfl rfl (XS.iloadN W67.here hx rfl (hb hby d31_111) rfl (XS.iinc W67.here hx rfl (hb hby d31_112) rfl (l' := #[.val vZ, vR u, vI (1 : Int32), vI ((2 : Int32) + (1 : Int32)), vR x7, vR u, vI (3 : Int32), vI (2 : Int32), vI bb3]) rfl k)))))) ?_
        rw [show ((2 : Int32) + (1 : Int32)) = (3 : Int32) from by decide]
        refine go (g' := (mkF m 117 #[.val vZ, vR u, vI (1 : Int32), vI (3 : Int32), vR x7, vR u, vI (3 : Int32), vI (2 : Int32), vI bb3] [(.int bb3), (.int (2 : Int32)), (.ref x7)])) (fun _ k => XS.iload W67.here hx rfl (hb hby d31_115) rfl k) ?_
        obtain ⟨T71, h71, W71, R71, V71, st71⟩ := own_stB W67 hx U67 (by omega) S67_x7 (j := (2 : Int32)) (i := 2) ⟨by decide, by decide⟩ rfl (nle rfl) (g := (mkF m 117 #[.val vZ, vR u, vI (1 : Int32), vI (3 : Int32), vR x7, vR u, vI (3 : Int32), vI (2 : Int32), vI bb3] [(.int bb3), (.int (2 : Int32)), (.ref x7)])) rfl rfl (hb hby d31_117)
        have z72 : h71.size = h67.size := R71.size
        have S71_x7 : Safe Z own_EL vm7 h71 x7 := Safe.wr R71 S67_x7 W67.ch S67_x7
        have U71 : Arv Z h71 x7 k7 .byte (6 : Int32) [(.int bb1.toInt8.toInt32), (.int bb2.toInt8.toInt32), (.int bb3.toInt8.toInt32), vZ, vZ, vZ] vZ := V71
        refine go (g' := (mkF m 118 #[.val vZ, vR u, vI (1 : Int32), vI (3 : Int32), vR x7, vR u, vI (3 : Int32), vI (2 : Int32), vI bb3] [])) (st71) ?_
        refine go (g' := (mkF m 121 #[.val vZ, vR u, vI (1 : Int32), vI (3 : Int32), vR x7, vR u, vI (3 : Int32), vI ((2 : Int32) + (1 : Int32)), vI bb3] [])) (fun _ k => XS.iinc W71.here hx rfl (hb hby d31_118) rfl (l' := #[.val vZ, vR u, vI (1 : Int32), vI (3 : Int32), vR x7, vR u, vI (3 : Int32), vI ((2 : Int32) + (1 : Int32)), vI bb3]) rfl k) ?_
        rw [show ((2 : Int32) + (1 : Int32)) = (3 : Int32) from by decide]
        refine go (g' := (mkF m 127 #[.val vZ, vR u, vI (1 : Int32), vI (3 : Int32), vR x7, vR u, vI (3 : Int32), vI (3 : Int32), vI bb3] [(.ref x7), (.int (3 : Int32))])) (fun _ k => XS.goto W71.here hx rfl (pc0 := 121) (pc' := 49) rfl (hb hby d31_121) (by decide) (by decide) (XS.iload W71.here hx rfl (hb hby d31_49) rfl (XS.iload W71.here hx rfl (hb hby d31_51) rfl (XS.icmpYes W71.here hx rfl (pc0 := 53) (pc' := 124) rfl (hb hby d31_53) rfl (flt ((by decide) : ¬ ((3 : Int32) < (3 : Int32)))).2.1 (by decide) (by decide) (XS.iloadN W71.here hx rfl (hb hby d31_124) rfl (XS.aload W71.here hx rfl (hb hby d31_125) rfl rfl k)))))) ?_
        refine go (g' := (mkF m 128 #[.val vZ, vR u, vI (1 : Int32), vI (3 : Int32), vR x7, vR u, vI (3 : Int32), vI (3 : Int32), vI bb3] [(.int (6 : Int32)), (.int (3 : Int32))])) (own_alen W71 hx U71 (g := (mkF m 127 #[.val vZ, vR u, vI (1 : Int32), vI (3 : Int32), vR x7, vR u, vI (3 : Int32), vI (3 : Int32), vI bb3] [(.ref x7), (.int (3 : Int32))])) rfl rfl (hb hby d31_127)) ?_
        refine go (g' := (mkF m 137 #[.val vZ, vR u, vI (1 : Int32), vI (3 : Int32), vR x7, vR u, vI (3 : Int32), vI (3 : Int32), vI bb3] [(.int (3 : Int32)), (.ref x7)])) (fun _ k => XS.icmpYes W71.here hx rfl (pc0 := 128) (pc' := 134) rfl (hb hby d31_128) rfl (feq ((by decide) : ¬ ((3 : Int32) = (6 : Int32)))).2 (by decide) (by decide) (XS.aload W71.here hx rfl (hb hby d31_134) rfl rfl (XS.iloadN W71.here hx rfl (hb hby d31_136) rfl k))) ?_
        obtain ⟨v73, so73, vm73, T73, h73, W73, C73, q73, hso73, st73⟩ := own_static W71 hx (w298 C) (w299 C) (w239 C) (w300 C) (by decide) (rm_cpo3 C h71 x7 k7 (bb1.toInt8.toInt32) (bb2.toInt8.toInt32) (bb3.toInt8.toInt32) (0 : Int32) (0 : Int32) (0 : Int32) U71) (fun _ q => nomatch q) (Wd := 0) (nle rfl) (nle rfl) (nle rfl) (nle rfl) (g := (mkF m 137 #[.val vZ, vR u, vI (1 : Int32), vI (3 : Int32), vR x7, vR u, vI (3 : Int32), vI (3 : Int32), vI bb3] [(.int (3 : Int32)), (.ref x7)])) rfl (by rw [hml]; rfl) (argsL := [(.ref x7), (.int (3 : Int32))]) (rest := []) (lenOf pd_19 rfl) rfl rfl (nle rfl) (hb hby d31_137)
        obtain ⟨x73, rfl, E73⟩ := q73
        have z74 : h71.size ≤ h73.size := E73.1
        have S73_x7 : Safe Z own_EL vm73 h73 x7 := C73.safe (olt (by omega)) S71_x7
        refine go (g' := (mkF m 140 #[.val vZ, vR u, vI (1 : Int32), vI (3 : Int32), vR x7, vR u, vI (3 : Int32), vI (3 : Int32), vI bb3] [(.ref x73)])) (st73) ?_
        have X75 : Ext h0 h71 := own_xw X69 R71 (by omega)
        have X76 : Ext h0 h73 := own_xt X75 E73
        exact fin (v := some (.ref x73)) (so := []) W73 (nle rfl) (nle rfl) (⟨_, rfl, X76⟩) (fun _ q => nomatch q) (fun q => nomatch q) (own_retA W73 hx hret rfl rfl rfl (hb hby d31_140))
theorem rm_enc (C : Cx Z a0) (h0 : Heap) (u : Addr) (ku : ClassId) (bb1 bb2 bb3 : Int32) (qb3 : ¬ bb3 < (0 : Int32)) (Vu : Arv Z h0 u ku .byte (3 : Int32) [(.int bb1), (.int bb2), (.int bb3)] vZ) (hBu : Z.vm.findClass "[B" = some ku) (gz : Addr) (Si : Sta Z Z.heap "sun/nio/cs/UTF_8" "INSTANCE" "Lsun/nio/cs/UTF_8;" (.ref gz)) :
    Ct l Z a0 own_EL (⟨"java/lang/String", "encode", "(Ljava/nio/charset/Charset;B[B)[B"⟩ : MethodName) jdk_42_method_18_code 3 (Option.some (Jvm.ClassFile.FieldType.array Jvm.ClassFile.FieldType.byte)) [] (rmm 3 2 11 64) #[(.ref gz), vZ, (.ref u)] h0 [] (fun v h so => ∃ x : Addr, v = some (.ref x) ∧ Ext h0 h) := by
  refine own_enter (plainFor_of_name pn_7) C.ew (F0 := fun m => mkF m 0 #[vR gz, .val vZ, vR u] []) (fun m => by first | (simp [entryFrame, mkF, argsToLocals, Value.category]; done) | rfl) ?_
  intro p e s m below meth c s₁ G hx hby hml hret hnm W0 S0 go fin
  have z0 := W0.sz
  show G s₁ (mkF m 0 #[vR gz, .val vZ, vR u] [])
  refine go (g' := (mkF m 1 #[vR gz, .val vZ, vR u] [(.ref gz)])) (fun _ k => XS.aloadN W0.here hx rfl (hb hby d32_0) rfl rfl k) ?_
  obtain ⟨T1, W1, st1⟩ := own_getS W0 hx (host := "") (Or.inl (w262 C)) Via.refl Si (g := (mkF m 1 #[vR gz, .val vZ, vR u] [(.ref gz)])) rfl (hb hby d32_1)
  refine go (g' := (mkF m 4 #[vR gz, .val vZ, vR u] [(.ref gz), (.ref gz)])) (st1) ?_
  refine go (g' := (mkF m 7 #[vR gz, .val vZ, vR u] [])) (own_acmp W1 hx (g := (mkF m 4 #[vR gz, .val vZ, vR u] [(.ref gz), (.ref gz)])) rfl rfl rfl (pc0 := 4) (pc' := 7) (same := true) rfl (hb hby d32_4) rfl (decide_eq_true rfl) (by decide) (by decide)) ?_
  refine go (g' := (mkF m 10 #[vR gz, .val vZ, vR u] [(.int (1 : Int32)), (.ref u), vZ])) (fun _ k => XS.iloadN W1.here hx rfl (hb hby d32_7) rfl (XS.aloadN W1.here hx rfl (hb hby d32_8) rfl rfl (XS.iconst W1.here hx rfl (hb hby d32_9) k))) ?_
  obtain ⟨v2, so2, vm2, T2, h2, W2, C2, q2, hso2, st2⟩ := own_static W1 hx (w264 C) (w265 C) (w10 C) (w266 C) (by decide) (rm_enc8 C h0 u ku bb1 bb2 bb3 qb3 Vu hBu) (fun _ q => nomatch q) (Wd := 0) (nle rfl) (nle rfl) (nle rfl) (nle rfl) (g := (mkF m 10 #[vR gz, .val vZ, vR u] [(.int (1 : Int32)), (.ref u), vZ])) rfl (by rw [hml]; rfl) (argsL := [vZ, (.ref u), (.int (1 : Int32))]) (rest := []) (lenOf pd_20 rfl) rfl rfl (nle rfl) (hb hby d32_10)
  obtain ⟨x2, rfl, E2⟩ := q2
  have z3 : h0.size ≤ h2.size := E2.1
  refine go (g' := (mkF m 13 #[vR gz, .val vZ, vR u] [(.ref x2)])) (st2) ?_
  have X4 : Ext h0 h2 := own_xt (own_xr h0) E2
  exact fin (v := some (.ref x2)) (so := []) W2 (nle rfl) (nle rfl) (⟨_, rfl, X4⟩) (fun _ q => nomatch q) (fun q => nomatch q) (own_retA W2 hx hret rfl rfl rfl (hb hby d32_13))
theorem rm_gbc (C : Cx Z a0) (h0 : Heap) (a : Addr) (u : Addr) (ku : ClassId) (bb1 bb2 bb3 : Int32) (qb3 : ¬ bb3 < (0 : Int32)) (Vu : Arv Z h0 u ku .byte (3 : Int32) [(.int bb1), (.int bb2), (.int bb3)] vZ) (hBu : Z.vm.findClass "[B" = some ku) (gz : Addr) (Si : Sta Z Z.heap "sun/nio/cs/UTF_8" "INSTANCE" "Lsun/nio/cs/UTF_8;" (.ref gz)) (Ea : Exa Z h0 a "java/lang/String") (Ca : Fld Z h0 a "java/lang/String" "coder" "B" vZ) (Fa : Fld Z h0 a "java/lang/String" "value" "[B" (.ref u)) :
    Ct l Z a0 own_EL (⟨"java/lang/String", "getBytes", "(Ljava/nio/charset/Charset;)[B"⟩ : MethodName) jdk_42_method_64_code 2 (Option.some (Jvm.ClassFile.FieldType.array Jvm.ClassFile.FieldType.byte)) [] (rmm 4 2 11 78) #[(.ref a), (.ref gz)] h0 [] (fun v h so => ∃ x : Addr, v = some (.ref x) ∧ Ext h0 h) := by
  refine own_enter (plainFor_of_name pn_7) C.ew (F0 := fun m => mkF m 0 #[vR a, vR gz] []) (fun m => by first | (simp [entryFrame, mkF, argsToLocals, Value.category]; done) | rfl) ?_
  intro p e s m below meth c s₁ G hx hby hml hret hnm W0 S0 go fin
  have z0 := W0.sz
  show G s₁ (mkF m 0 #[vR a, vR gz] [])
  refine go (g' := (mkF m 14 #[vR a, vR gz] [(.ref a), (.ref gz)])) (fun _ k => XS.aloadN W0.here hx rfl (hb hby d33_0) rfl rfl (XS.ifnonnullYes W0.here hx rfl (pc0 := 1) (pc' := 12) rfl (hb hby d33_1) rfl (by decide) (by decide) (XS.aloadN W0.here hx rfl (hb hby d33_12) rfl rfl (XS.aloadN W0.here hx rfl (hb hby d33_13) rfl rfl k)))) ?_
  obtain ⟨v1, so1, vm1, T1, h1, W1, C1, q1, hso1, st1⟩ := own_virtual W0 hx (w174 C) (w175 C) (w177 C) (w176 C) (w10 C) (w178 C) (by decide) (own_nf W0 (w177 C)) Ea (rm_coder0 C h0 a Ca) (fun _ q => nomatch q) (Wd := 1) (nle rfl) (nle rfl) (nle rfl) (nle rfl) (g := (mkF m 14 #[vR a, vR gz] [(.ref a), (.ref gz)])) rfl (by rw [hml]; rfl) (argsL := []) (rest := [(.ref gz)]) (lenOf pd_3 rfl) rfl rfl (nle rfl) (hb hby d33_14)
  obtain ⟨rfl, rfl⟩ := q1
  refine go (g' := (mkF m 17 #[vR a, vR gz] [vZ, (.ref gz)])) (st1) ?_
  refine go (g' := (mkF m 18 #[vR a, vR gz] [(.ref a), vZ, (.ref gz)])) (fun _ k => XS.aloadN W1.here hx rfl (hb hby d33_17) rfl rfl k) ?_
  obtain ⟨T2, W2, st2⟩ := own_get W1 hx (host := "") (Or.inl (w35 C)) Via.refl Fa (g := (mkF m 18 #[vR a, vR gz] [(.ref a), vZ, (.ref gz)])) rfl rfl (hb hby d33_18)
  refine go (g' := (mkF m 21 #[vR a, vR gz] [(.ref u), vZ, (.ref gz)])) (st2) ?_
  obtain ⟨v3, so3, vm3, T3, h3, W3, C3, q3, hso3, st3⟩ := own_static W2 hx (w259 C) (w260 C) (w10 C) (w261 C) (by decide) (rm_enc C h0 u ku bb1 bb2 bb3 qb3 Vu hBu gz Si) (fun _ q => nomatch q) (Wd := 0) (nle rfl) (nle rfl) (nle rfl) (nle rfl) (g := (mkF m 21 #[vR a, vR gz] [(.ref u), vZ, (.ref gz)])) rfl (by rw [hml]; rfl) (argsL := [(.ref gz), vZ, (.ref u)]) (rest := []) (lenOf pd_21 rfl) rfl rfl (nle rfl) (hb hby d33_21)
  obtain ⟨x3, rfl, E3⟩ := q3
  have z4 : h0.size ≤ h3.size := E3.1
  refine go (g' := (mkF m 24 #[vR a, vR gz] [(.ref x3)])) (st3) ?_
  have X5 : Ext h0 h3 := own_xt (own_xr h0) E3
  exact fin (v := some (.ref x3)) (so := []) W3 (nle rfl) (nle rfl) (⟨_, rfl, X5⟩) (fun _ q => nomatch q) (fun q => nomatch q) (own_retA W3 hx hret rfl rfl rfl (hb hby d33_24))
theorem rm_text (C : Cx Z a0) (h0 : Heap) (a : Addr) (c1 c2 : Int32) (Sa : Str Z h0 a [c1, c2]) :
    Ct l Z a0 own_EL (⟨"com/example/onegate/onegate/core/http/HttpResponse$Content", "text", "(Ljava/lang/String;)Lcom/example/onegate/onegate/core/http/HttpResponse$Content;"⟩ : MethodName) prog_44_method_2_code 1 (Option.some (Jvm.ClassFile.FieldType.object "com/example/onegate/onegate/core/http/HttpResponse$Content")) [] (rmm 6 11 161 106) #[(.ref a)] h0 [] (fun v h so => ∃ x : Addr, v = some (.ref x) ∧ Ext h0 h) := by
  refine own_enter (plainFor_of_name pn_4) C.ew (F0 := fun m => mkF m 0 #[vR a] []) (fun m => by first | (simp [entryFrame, mkF, argsToLocals, Value.category]; done) | rfl) ?_
  intro p e s m below meth c s₁ G hx hby hml hret hnm W0 S0 go fin
  have z0 := W0.sz
  show G s₁ (mkF m 0 #[vR a] [])
  obtain ⟨x1, T1, h1, g1, W1, E1, A1, D1, U1, st1⟩ := own_new W0 hx (w137 C) (w38 C) (w39 C) (g := (mkF m 0 #[vR a] [])) rfl (hb hby d34_0) (nle rfl) (nle rfl)
  have z2 : h0.size ≤ h1.size := E1.1
  have l1 : ltN x1 h1.size := A1.lt
  have F1_type : Fld Z h1 x1 "com/example/onegate/onegate/core/http/HttpResponse$Content" "type" "Ljava/lang/String;" .null := D1 (Or.inr (w50 C)) (ty := (.object "java/lang/String")) (by decide)
  have F1_bytes : Fld Z h1 x1 "com/example/onegate/onegate/core/http/HttpResponse$Content" "bytes" "[B" .null := D1 (Or.inr (w52 C)) (ty := (.array .byte)) (by decide)
  refine go (g' := (mkF m 3 #[vR a] [(.ref x1)])) (st1) ?_
  refine go (g' := (mkF m 4 #[vR a] [(.ref x1), (.ref x1)])) (fun _ k => XS.dup W1.here hx rfl (hb hby d34_3) rfl rfl k) ?_
  obtain ⟨x3, vm3, T3, h3, W3, E3, C3, st3⟩ := own_ldcO W1 hx (w138 C) (own_wS C) (g := (mkF m 4 #[vR a] [(.ref x1), (.ref x1)])) rfl (hb hby d34_4) (n := 100) (by decide) (nle rfl) (nle rfl) (nle rfl)
  have z4 : h1.size ≤ h3.size := E3.1
  have S3_x1 : Safe Z own_EL vm3 h3 x1 := C3.safe (olt (by omega)) (own_safeE W1 A1 (by decide) (by decide))
  refine go (g' := (mkF m 6 #[vR a] [(.ref x3), (.ref x1), (.ref x1)])) (st3) ?_
  obtain ⟨x5, T5, h5, g5, W5, E5, A5, D5, U5, st5⟩ := own_new W3 hx (w141 C) (w142 C) (w143 C) (g := (mkF m 6 #[vR a] [(.ref x3), (.ref x1), (.ref x1)])) rfl (hb hby d34_6) (nle rfl) (nle rfl)
  have z6 : h3.size ≤ h5.size := E5.1
  have l5 : ltN x5 h5.size := A5.lt
  have F5_value : Fld Z h5 x5 "java/lang/AbstractStringBuilder" "value" "[B" .null := D5 (Or.inl (w156 C)) (ty := (.array .byte)) (by decide)
  have F5_coder : Fld Z h5 x5 "java/lang/AbstractStringBuilder" "coder" "B" vZ := D5 (Or.inl (w158 C)) (ty := .byte) (by decide)
  have F5_count : Fld Z h5 x5 "java/lang/AbstractStringBuilder" "count" "I" vZ := D5 (Or.inl (w180 C)) (ty := .int) (by decide)
  refine go (g' := (mkF m 9 #[vR a] [(.ref x5), (.ref x3), (.ref x1), (.ref x1)])) (st5) ?_
  refine go (g' := (mkF m 10 #[vR a] [(.ref x5), (.ref x5), (.ref x3), (.ref x1), (.ref x1)])) (fun _ k => XS.dup W5.here hx rfl (hb hby d34_9) rfl rfl k) ?_
  obtain ⟨v7, so7, vm7, T7, h7, W7, C7, q7, hso7, st7⟩ := own_special W5 hx (y := (⟨"java/lang/StringBuilder", "<init>", "()V"⟩ : MethodName)) rfl (w144 C) (w145 C) (w143 C) (w146 C) (by decide) (rm_sbinit C h5 x5 A5 F5_value F5_coder F5_count (by omega)) (fun _ q => nomatch q) (Wd := 4) (nle rfl) (nle rfl) (nle rfl) (nle rfl) (g := (mkF m 10 #[vR a] [(.ref x5), (.ref x5), (.ref x3), (.ref x1), (.ref x1)])) rfl (by rw [hml]; rfl) (a := x5) (argsL := []) (rest := [(.ref x5), (.ref x3), (.ref x1), (.ref x1)]) (lenOf pd_1 rfl) rfl rfl (nle rfl) (hb hby d34_10)
  obtain ⟨rfl, K7, t7, k7, rfl, g7, B7⟩ := q7
  have z8 : h5.size ≤ h7.size := K7.1
  have lt7 : ltN t7 h7.size := B7.2.2.2.2.lt
  refine go (g' := (mkF m 13 #[vR a] [(.ref x5), (.ref x3), (.ref x1), (.ref x1)])) (st7) ?_
  refine go (g' := (mkF m 14 #[vR a] [(.ref a), (.ref x5), (.ref x3), (.ref x1), (.ref x1)])) (fun _ k => XS.aloadN W7.here hx rfl (hb hby d34_13) rfl rfl k) ?_
  have X10 : Ext h0 h1 := own_xt (own_xr h0) E1
  have X11 : Ext h0 h3 := own_xt X10 E3
  have X12 : Ext h0 h5 := own_xt X11 E5
  have X13 : Ext h0 h7 := own_xk X12 K7 (allS (by omega) all0)
  have f14 := Sa.ext X13
  obtain ⟨v9, so9, vm9, T9, h9, W9, C9, q9, hso9, st9⟩ := own_virtual W7 hx (w159 C) (w160 C) (w162 C) (w161 C) (w143 C) (w163 C) (by decide) (own_nf W7 (w162 C)) B7.1 (rm_sap00 C h7 x5 t7 k7 ([] : List Int32) a [c1, c2] f14 (nle rfl) B7 (by omega) (by omega)) (allS (hso7 _ (own_mi (i := 0) rfl)) all0) (Wd := 3) (nle rfl) (nle rfl) (nle rfl) (nle rfl) (g := (mkF m 14 #[vR a] [(.ref a), (.ref x5), (.ref x3), (.ref x1), (.ref x1)])) rfl (by rw [hml]; rfl) (argsL := [(.ref a)]) (rest := [(.ref x3), (.ref x1), (.ref x1)]) (lenOf pd_22 rfl) rfl rfl (nle rfl) (hb hby d34_14)
  obtain ⟨rfl, K9, B9⟩ := q9
  have z15 : h7.size ≤ h9.size := K9.1
  have S9_t7 : Safe Z own_EL vm9 h9 t7 := C9.safe (olt (by omega)) (hso7 _ (own_mi (i := 0) rfl))
  refine go (g' := (mkF m 17 #[vR a] [(.ref x5), (.ref x3), (.ref x1), (.ref x1)])) (st9) ?_
  have X16 : Ext h1 h3 := own_xt (own_xr h1) E3
  have X17 : Ext h1 h5 := own_xt X16 E5
  have X18 : Ext h1 h7 := own_xk X17 K7 (allS (by omega) all0)
  have X19 : Ext h1 h9 := own_xk X18 K9 (allS (by omega) (allS (by omega) all0))
  have f20 := A1.ext X19
  obtain ⟨x21, y21, k21, vm21, T21, h21, W21, E21, C21, A21, B21, D21, V21, N21, st21⟩ := own_ldcR W9 hx (w206 C) (own_wS C) (by decide) (vs := [(.int (10 : Int32))]) (z := (1 : Int32)) (by decide +kernel) (by decide) rfl (g := (mkF m 17 #[vR a] [(.ref x5), (.ref x3), (.ref x1), (.ref x1)])) rfl (hb hby d34_17) (n := 4) (by decide) (nle rfl) (nle rfl) (nle rfl)
  have z22 : h9.size ≤ h21.size := E21.1
  have S21_t7 : Safe Z own_EL vm21 h21 t7 := C21.safe (olt (by omega)) S9_t7
  have S21_x1 : Safe Z own_EL vm21 h21 x1 := C21.safe (olt (by omega)) (own_safeE W9 f20 (by decide) (by decide))
  have S21_x5 : Safe Z own_EL vm21 h21 x5 := C21.safe (olt (by omega)) (own_safeE W9 B9.1 (by decide) (by decide))
  refine go (g' := (mkF m 19 #[vR a] [(.ref x21), (.ref x5), (.ref x3), (.ref x1), (.ref x1)])) (st21) ?_
  have SL23 : Str Z h21 x21 [(10 : Int32)] := own_litS (cs := [(10 : Int32)]) A21 B21 D21 V21 rfl (own_alS ⟨by decide, by decide⟩ own_al0) (by decide)
  have X25 : Ext h9 h21 := own_xt (own_xr h9) E21
  have f26 := B9.ext X25
  have f27 := B9.1.ext X25
  obtain ⟨v24, so24, vm24, T24, h24, W24, C24, q24, hso24, st24⟩ := own_virtual W21 hx (w159 C) (w160 C) (w162 C) (w161 C) (w143 C) (w163 C) (by decide) (own_nf W21 (w162 C)) f27 (rm_sap00 C h21 x5 t7 k7 (([] : List Int32) ++ ([c1, c2].map fun c => c.toInt8.toInt32)) x21 [(10 : Int32)] SL23 (nle rfl) f26 (by omega) (by omega)) (allS S21_t7 all0) (Wd := 3) (nle rfl) (nle rfl) (nle rfl) (nle rfl) (g := (mkF m 19 #[vR a] [(.ref x21), (.ref x5), (.ref x3), (.ref x1), (.ref x1)])) rfl (by rw [hml]; rfl) (argsL := [(.ref x21)]) (rest := [(.ref x3), (.ref x1), (.ref x1)]) (lenOf pd_22 rfl) rfl rfl (nle rfl) (hb hby d34_19)
  obtain ⟨rfl, K24, B24⟩ := q24
  have z28 : h21.size ≤ h24.size := K24.1
  have S24_t7 : Safe Z own_EL vm24 h24 t7 := C24.safe (olt (by omega)) S21_t7
  refine go (g' := (mkF m 22 #[vR a] [(.ref x5), (.ref x3), (.ref x1), (.ref x1)])) (st24) ?_
  obtain ⟨v29, so29, vm29, T29, h29, W29, C29, q29, hso29, st29⟩ := own_virtual W24 hx (w207 C) (w208 C) (w210 C) (w209 C) (w143 C) (w211 C) (by decide) (own_nf W24 (w210 C)) B24.1 (rm_sbtsl C h24 x5 t7 k7 ((([] : List Int32) ++ ([c1, c2].map fun c => c.toInt8.toInt32)) ++ ([(10 : Int32)].map fun c => c.toInt8.toInt32)) (nle rfl) (nle rfl) B24) (fun _ q => nomatch q) (Wd := 3) (nle rfl) (nle rfl) (nle rfl) (nle rfl) (g := (mkF m 22 #[vR a] [(.ref x5), (.ref x3), (.ref x1), (.ref x1)])) rfl (by rw [hml]; rfl) (argsL := []) (rest := [(.ref x3), (.ref x1), (.ref x1)]) (lenOf pd_23 rfl) rfl rfl (nle rfl) (hb hby d34_22)
  obtain ⟨x29, rfl, E29, A29, Fc29, u29, ku29, Fv29, V29, hB29⟩ := q29
  have z30 : h24.size ≤ h29.size := E29.1
  have S29_t7 : Safe Z own_EL vm29 h29 t7 := C29.safe (olt (by omega)) S24_t7
  refine go (g' := (mkF m 25 #[vR a] [(.ref x29), (.ref x3), (.ref x1), (.ref x1)])) (st29) ?_
  have VX29 : Arv Z h29 u29 ku29 .byte (3 : Int32) [(.int c1.toInt8.toInt32), (.int c2.toInt8.toInt32), (.int (10 : Int32).toInt8.toInt32)] vZ := V29
  obtain ⟨gu31, ou31, oi31⟩ := C.u8
  obtain ⟨T32, W32, st32⟩ := own_getS W29 hx (host := "") (Or.inl (w252 C)) Via.refl ou31 (g := (mkF m 25 #[vR a] [(.ref x29), (.ref x3), (.ref x1), (.ref x1)])) rfl (hb hby d34_25)
  refine go (g' := (mkF m 28 #[vR a] [(.ref gu31), (.ref x29), (.ref x3), (.ref x1), (.ref x1)])) (st32) ?_
  obtain ⟨v33, so33, vm33, T33, h33, W33, C33, q33, hso33, st33⟩ := own_virtual W32 hx (w254 C) (w255 C) (w257 C) (w256 C) (w10 C) (w258 C) (by decide) (own_nf W32 (w257 C)) A29 (rm_gbc C h29 x29 u29 ku29 c1.toInt8.toInt32 c2.toInt8.toInt32 (10 : Int32).toInt8.toInt32 (by decide) VX29 hB29 gu31 oi31 A29 Fc29 Fv29) (fun _ q => nomatch q) (Wd := 3) (nle rfl) (nle rfl) (nle rfl) (nle rfl) (g := (mkF m 28 #[vR a] [(.ref gu31), (.ref x29), (.ref x3), (.ref x1), (.ref x1)])) rfl (by rw [hml]; rfl) (argsL := [(.ref gu31)]) (rest := [(.ref x3), (.ref x1), (.ref x1)]) (lenOf pd_24 rfl) rfl rfl (nle rfl) (hb hby d34_28)
  obtain ⟨x33, rfl, E33⟩ := q33
  have z34 : h29.size ≤ h33.size := E33.1
  have S33_t7 : Safe Z own_EL vm33 h33 t7 := C33.safe (olt (by omega)) S29_t7
  refine go (g' := (mkF m 31 #[vR a] [(.ref x33), (.ref x3), (.ref x1), (.ref x1)])) (st33) ?_
  have X36 : Ext h1 h21 := own_xt X19 E21
  have X37 : Ext h1 h24 := own_xk X36 K24 (allS (by omega) (allS (by omega) all0))
  have X38 : Ext h1 h29 := own_xt X37 E29
  have X39 : Ext h1 h33 := own_xt X38 E33
  have f40 := F1_type.ext X39
  have f41 := F1_bytes.ext X39
  have f42 := A1.ext X39
  obtain ⟨v35, so35, vm35, T35, h35, W35, C35, q35, hso35, st35⟩ := own_special W33 hx (y := (⟨"com/example/onegate/onegate/core/http/HttpResponse$Content", "<init>", "(Ljava/lang/String;[B)V"⟩ : MethodName)) rfl (w283 C) (w41 C) (w39 C) (w42 C) (by decide) (rm_cont C h33 x1 (.ref x3) rfl (.ref x33) rfl f40 f41 f42 (by omega)) (fun _ q => nomatch q) (Wd := 1) (nle rfl) (nle rfl) (nle rfl) (nle rfl) (g := (mkF m 31 #[vR a] [(.ref x33), (.ref x3), (.ref x1), (.ref x1)])) rfl (by rw [hml]; rfl) (a := x1) (argsL := [(.ref x3), (.ref x33)]) (rest := [(.ref x1)]) (lenOf pd_25 rfl) rfl rfl (nle rfl) (hb hby d34_31)
  obtain ⟨rfl, K35, E35, F35_type, F35_bytes⟩ := q35
  have z43 : h33.size ≤ h35.size := K35.1
  have S35_t7 : Safe Z own_EL vm35 h35 t7 := C35.safe (olt (by omega)) S33_t7
  refine go (g' := (mkF m 34 #[vR a] [(.ref x1)])) (st35) ?_
  have X44 : Ext h0 h9 := own_xk X13 K9 (allS (by omega) (allS (by omega) all0))
  have X45 : Ext h0 h21 := own_xt X44 E21
  have X46 : Ext h0 h24 := own_xk X45 K24 (allS (by omega) (allS (by omega) all0))
  have X47 : Ext h0 h29 := own_xt X46 E29
  have X48 : Ext h0 h33 := own_xt X47 E33
  have X49 : Ext h0 h35 := own_xk X48 K35 (allS (by omega) all0)
  exact fin (v := some (.ref x1)) (so := []) W35 (nle rfl) (nle rfl) (⟨_, rfl, X49⟩) (fun _ q => nomatch q) (fun q => nomatch q) (own_retA W35 hx hret rfl rfl rfl (hb hby d34_34))
theorem rm_ans3c (C : Cx Z a0) (h0 : Heap) (lg lr lb : Addr) (Sg : Sta Z Z.heap "com/example/onegate/onegate/gate/Answer$Line" "GIVEN" "Lcom/example/onegate/onegate/gate/Answer$Line;" (.ref lg)) (Sr : Sta Z Z.heap "com/example/onegate/onegate/gate/Answer$Line" "REFUSED" "Lcom/example/onegate/onegate/gate/Answer$Line;" (.ref lr)) (Sb : Sta Z Z.heap "com/example/onegate/onegate/gate/Answer$Line" "BROKEN_OFF" "Lcom/example/onegate/onegate/gate/Answer$Line;" (.ref lb)) (x : Addr) (Ex : Exa Z h0 x "com/example/onegate/onegate/gate/Answer") (Ux : Unt h0 x) (Bx : Fld Z h0 x "java/lang/Throwable" "backtrace" "Ljava/lang/Object;" .null) (T_cause : Fld Z h0 x "java/lang/Throwable" "cause" "Ljava/lang/Throwable;" .null) (T_stackTrace : Fld Z h0 x "java/lang/Throwable" "stackTrace" "[Ljava/lang/StackTraceElement;" .null) (T_suppressedExceptions : Fld Z h0 x "java/lang/Throwable" "suppressedExceptions" "Ljava/util/List;" .null) (Mx : Fld Z h0 x "java/lang/Throwable" "detailMessage" "Ljava/lang/String;" .null) (F_status : Fld Z h0 x "com/example/onegate/onegate/gate/Answer" "status" "Lcom/example/onegate/onegate/core/http/HttpResponse$Status;" .null) (F_content : Fld Z h0 x "com/example/onegate/onegate/gate/Answer" "content" "Lcom/example/onegate/onegate/core/http/HttpResponse$Content;" .null) (F_report : Fld Z h0 x "com/example/onegate/onegate/gate/Answer" "report" "Ljava/lang/String;" .null) (F_line : Fld Z h0 x "com/example/onegate/onegate/gate/Answer" "line" "Lcom/example/onegate/onegate/gate/Answer$Line;" .null) (nx : Z.heap.size ≤ x) (u1 : Value) (u2 : Value) (u6 : Value) (r1 : u1.isRef = true) (r2 : u2.isRef = true) (r6 : u6.isRef = true) :
    Ct l Z a0 own_EL (⟨"com/example/onegate/onegate/gate/Answer", "<init>", "(Lcom/example/onegate/onegate/core/http/HttpResponse$Status;Ljava/lang/String;Lcom/example/onegate/onegate/core/http/HttpResponse$Content;)V"⟩ : MethodName) prog_48_method_3_code 4 (Option.none : Option Jvm.ClassFile.FieldType) [] (rmm 6 1 2752 85) #[(.ref x), u1, u2, u6] h0 [] (fun v h so => v = none ∧ Keep h0 h [x] ∧ ∃ u3 : Value, u3.isRef = true ∧ Exa Z h x "com/example/onegate/onegate/gate/Answer" ∧ Fld Z h x "java/lang/Throwable" "detailMessage" "Ljava/lang/String;" u2 ∧ Fld Z h x "com/example/onegate/onegate/gate/Answer" "status" "Lcom/example/onegate/onegate/core/http/HttpResponse$Status;" u1 ∧ Fld Z h x "com/example/onegate/onegate/gate/Answer" "content" "Lcom/example/onegate/onegate/core/http/HttpResponse$Content;" u3 ∧ Fld Z h x "com/example/onegate/onegate/gate/Answer" "line" "Lcom/example/onegate/onegate/gate/Answer$Line;" (.ref lg)) := by
  refine own_enter (plainFor_of_name pn_2) C.ew (F0 := fun m => mkF m 0 #[vR x, .val u1, .val u2, .val u6] []) (fun m => by rcases ref_cases r1 with rfl | ⟨_, rfl⟩ <;> rcases ref_cases r2 with rfl | ⟨_, rfl⟩ <;> rcases ref_cases r6 with rfl | ⟨_, rfl⟩ <;> rfl) ?_
  intro p e s m below meth c s₁ G hx hby hml hret hnm W0 S0 go fin
  have z0 := W0.sz
  show G s₁ (mkF m 0 #[vR x, .val u1, .val u2, .val u6] [])
  have lx : ltN x h0.size := Ex.lt
  refine go (g' := (mkF m 5 #[vR x, .val u1, .val u2, .val u6] [.null, u6, u2, u1, (.ref x)])) (fun _ k => XS.aloadN W0.here hx rfl (hb hby d35_0) rfl rfl (XS.aloadN W0.here hx rfl (hb hby d35_1) rfl r1 (XS.aloadN W0.here hx rfl (hb hby d35_2) rfl r2 (XS.aloadN W0.here hx rfl (hb hby d35_3) rfl r6 (XS.aconstNull W0.here hx rfl (hb hby d35_4) k))))) ?_
  obtain ⟨T1, W1, st1⟩ := own_getS W0 hx (host := "") (Or.inl (w60 C)) Via.refl Sg (g := (mkF m 5 #[vR x, .val u1, .val u2, .val u6] [.null, u6, u2, u1, (.ref x)])) rfl (hb hby d35_5)
  refine go (g' := (mkF m 8 #[vR x, .val u1, .val u2, .val u6] [(.ref lg), .null, u6, u2, u1, (.ref x)])) (st1) ?_
  obtain ⟨v2, so2, vm2, T2, h2, W2, C2, q2, hso2, st2⟩ := own_special W1 hx (y := (⟨"com/example/onegate/onegate/gate/Answer", "<init>", "(Lcom/example/onegate/onegate/core/http/HttpResponse$Status;Ljava/lang/String;Lcom/example/onegate/onegate/core/http/HttpResponse$Content;Ljava/lang/String;Lcom/example/onegate/onegate/gate/Answer$Line;)V"⟩ : MethodName)) rfl (w63 C) (w64 C) (w56 C) (w65 C) (by decide) (rm_ans5 C h0 x Ex Ux Bx T_cause T_stackTrace T_suppressedExceptions Mx F_status F_content F_report F_line (by omega) u1 u2 u6 .null (.ref lg) r1 r2 r6 rfl rfl) (fun _ q => nomatch q) (Wd := 0) (nle rfl) (nle rfl) (nle rfl) (nle rfl) (g := (mkF m 8 #[vR x, .val u1, .val u2, .val u6] [(.ref lg), .null, u6, u2, u1, (.ref x)])) rfl (by rw [hml]; rfl) (a := x) (argsL := [u1, u2, u6, .null, (.ref lg)]) (rest := []) (lenOf pd_26 rfl) rfl rfl (nle rfl) (hb hby d35_8)
  obtain ⟨rfl, K2, E2, F2_detailMessage, F2_status, F2_content, F2_line⟩ := q2
  have z3 : h0.size ≤ h2.size := K2.1
  refine go (g' := (mkF m 11 #[vR x, .val u1, .val u2, .val u6] [])) (st2) ?_
  have KK4 : Keep h0 h2 [x] := ((Keep.refl h0 [x]).trans K2 (allS (Or.inl (own_mi (i := 0) rfl)) all0))
  exact fin (v := none) (so := []) W2 (nle rfl) (nle rfl) (⟨rfl, KK4, u6, r6, E2, F2_detailMessage, F2_status, F2_content, F2_line⟩) (fun _ q => nomatch q) (fun _ => rfl) (own_retV W2 hx hret (hb hby d35_11))
theorem rm_ans2 (C : Cx Z a0) (h0 : Heap) (lg lr lb : Addr) (Sg : Sta Z Z.heap "com/example/onegate/onegate/gate/Answer$Line" "GIVEN" "Lcom/example/onegate/onegate/gate/Answer$Line;" (.ref lg)) (Sr : Sta Z Z.heap "com/example/onegate/onegate/gate/Answer$Line" "REFUSED" "Lcom/example/onegate/onegate/gate/Answer$Line;" (.ref lr)) (Sb : Sta Z Z.heap "com/example/onegate/onegate/gate/Answer$Line" "BROKEN_OFF" "Lcom/example/onegate/onegate/gate/Answer$Line;" (.ref lb)) (x : Addr) (Ex : Exa Z h0 x "com/example/onegate/onegate/gate/Answer") (Ux : Unt h0 x) (Bx : Fld Z h0 x "java/lang/Throwable" "backtrace" "Ljava/lang/Object;" .null) (T_cause : Fld Z h0 x "java/lang/Throwable" "cause" "Ljava/lang/Throwable;" .null) (T_stackTrace : Fld Z h0 x "java/lang/Throwable" "stackTrace" "[Ljava/lang/StackTraceElement;" .null) (T_suppressedExceptions : Fld Z h0 x "java/lang/Throwable" "suppressedExceptions" "Ljava/util/List;" .null) (Mx : Fld Z h0 x "java/lang/Throwable" "detailMessage" "Ljava/lang/String;" .null) (F_status : Fld Z h0 x "com/example/onegate/onegate/gate/Answer" "status" "Lcom/example/onegate/onegate/core/http/HttpResponse$Status;" .null) (F_content : Fld Z h0 x "com/example/onegate/onegate/gate/Answer" "content" "Lcom/example/onegate/onegate/core/http/HttpResponse$Content;" .null) (F_report : Fld Z h0 x "com/example/onegate/onegate/gate/Answer" "report" "Ljava/lang/String;" .null) (F_line : Fld Z h0 x "com/example/onegate/onegate/gate/Answer" "line" "Lcom/example/onegate/onegate/gate/Answer$Line;" .null) (nx : Z.heap.size ≤ x) (u1 : Value) (r1 : u1.isRef = true) (a : Addr) (c1 c2 : Int32) (Sa : Str Z h0 a [c1, c2]) :
    Ct l Z a0 own_EL (⟨"com/example/onegate/onegate/gate/Answer", "<init>", "(Lcom/example/onegate/onegate/core/http/HttpResponse$Status;Ljava/lang/String;)V"⟩ : MethodName) prog_48_method_1_code 3 (Option.none : Option Jvm.ClassFile.FieldType) [] (rmm 7 12 2913 121) #[(.ref x), u1, (.ref a)] h0 [] (fun v h so => v = none ∧ Keep h0 h [x] ∧ ∃ u3 : Value, u3.isRef = true ∧ Exa Z h x "com/example/onegate/onegate/gate/Answer" ∧ Fld Z h x "java/lang/Throwable" "detailMessage" "Ljava/lang/String;" (.ref a) ∧ Fld Z h x "com/example/onegate/onegate/gate/Answer" "status" "Lcom/example/onegate/onegate/core/http/HttpResponse$Status;" u1 ∧ Fld Z h x "com/example/onegate/onegate/gate/Answer" "content" "Lcom/example/onegate/onegate/core/http/HttpResponse$Content;" u3 ∧ Fld Z h x "com/example/onegate/onegate/gate/Answer" "line" "Lcom/example/onegate/onegate/gate/Answer$Line;" (.ref lr)) := by
  refine own_enter (plainFor_of_name pn_2) C.ew (F0 := fun m => mkF m 0 #[vR x, .val u1, vR a] []) (fun m => by rcases ref_cases r1 with rfl | ⟨_, rfl⟩ <;> rfl) ?_
  intro p e s m below meth c s₁ G hx hby hml hret hnm W0 S0 go fin
  have z0 := W0.sz
  show G s₁ (mkF m 0 #[vR x, .val u1, vR a] [])
  have lx : ltN x h0.size := Ex.lt
  refine go (g' := (mkF m 4 #[vR x, .val u1, vR a] [(.ref a), (.ref a), u1, (.ref x)])) (fun _ k => XS.aloadN W0.here hx rfl (hb hby d36_0) rfl rfl (XS.aloadN W0.here hx rfl (hb hby d36_1) rfl r1 (XS.aloadN W0.here hx rfl (hb hby d36_2) rfl rfl (XS.aloadN W0.here hx rfl (hb hby d36_3) rfl rfl k)))) ?_
  obtain ⟨v1, so1, vm1, T1, h1, W1, C1, q1, hso1, st1⟩ := own_static W0 hx (w134 C) (w135 C) (w39 C) (w136 C) (by decide) (rm_text C h0 a c1 c2 Sa) (fun _ q => nomatch q) (Wd := 3) (nle rfl) (nle rfl) (nle rfl) (nle rfl) (g := (mkF m 4 #[vR x, .val u1, vR a] [(.ref a), (.ref a), u1, (.ref x)])) rfl (by rw [hml]; rfl) (argsL := [(.ref a)]) (rest := [(.ref a), u1, (.ref x)]) (lenOf pd_27 rfl) rfl rfl (by simp only [List.map_cons, List.map_nil, List.sum_cons, List.sum_nil, own_cat r1]; exact nle rfl) (hb hby d36_4)
  obtain ⟨x1, rfl, E1⟩ := q1
  have z2 : h0.size ≤ h1.size := E1.1
  refine go (g' := (mkF m 7 #[vR x, .val u1, vR a] [(.ref x1), (.ref a), u1, (.ref x)])) (st1) ?_
  refine go (g' := (mkF m 8 #[vR x, .val u1, vR a] [.null, (.ref x1), (.ref a), u1, (.ref x)])) (fun _ k => XS.aconstNull W1.here hx rfl (hb hby d36_7) k) ?_
  obtain ⟨T3, W3, st3⟩ := own_getS W1 hx (host := "") (Or.inl (w284 C)) Via.refl Sr (g := (mkF m 8 #[vR x, .val u1, vR a] [.null, (.ref x1), (.ref a), u1, (.ref x)])) rfl (hb hby d36_8)
  refine go (g' := (mkF m 11 #[vR x, .val u1, vR a] [(.ref lr), .null, (.ref x1), (.ref a), u1, (.ref x)])) (st3) ?_
  have X5 : Ext h0 h1 := own_xt (own_xr h0) E1
  have f6 := Ex.ext X5
  have f7 := Ux.ext X5
  have f8 := Bx.ext X5
  have f9 := T_cause.ext X5
  have f10 := T_stackTrace.ext X5
  have f11 := T_suppressedExceptions.ext X5
  have f12 := Mx.ext X5
  have f13 := F_status.ext X5
  have f14 := F_content.ext X5
  have f15 := F_report.ext X5
  have f16 := F_line.ext X5
  obtain ⟨v4, so4, vm4, T4, h4, W4, C4, q4, hso4, st4⟩ := own_special W3 hx (y := (⟨"com/example/onegate/onegate/gate/Answer", "<init>", "(Lcom/example/onegate/onegate/core/http/HttpResponse$Status;Ljava/lang/String;Lcom/example/onegate/onegate/core/http/HttpResponse$Content;Ljava/lang/String;Lcom/example/onegate/onegate/gate/Answer$Line;)V"⟩ : MethodName)) rfl (w63 C) (w64 C) (w56 C) (w65 C) (by decide) (rm_ans5 C h1 x f6 f7 f8 f9 f10 f11 f12 f13 f14 f15 f16 (by omega) u1 (.ref a) (.ref x1) .null (.ref lr) r1 rfl rfl rfl rfl) (fun _ q => nomatch q) (Wd := 0) (nle rfl) (nle rfl) (nle rfl) (nle rfl) (g := (mkF m 11 #[vR x, .val u1, vR a] [(.ref lr), .null, (.ref x1), (.ref a), u1, (.ref x)])) rfl (by rw [hml]; rfl) (a := x) (argsL := [u1, (.ref a), (.ref x1), .null, (.ref lr)]) (rest := []) (lenOf pd_26 rfl) rfl rfl (nle rfl) (hb hby d36_11)
  obtain ⟨rfl, K4, E4, F4_detailMessage, F4_status, F4_content, F4_line⟩ := q4
  have z17 : h1.size ≤ h4.size := K4.1
  refine go (g' := (mkF m 14 #[vR x, .val u1, vR a] [])) (st4) ?_
  have KK18 : Keep h0 h4 [x] := (((Keep.refl h0 [x]).ext E1).trans K4 (allS (Or.inl (own_mi (i := 0) rfl)) all0))
  exact fin (v := none) (so := []) W4 (nle rfl) (nle rfl) (⟨rfl, KK18, (.ref x1), rfl, E4, F4_detailMessage, F4_status, F4_content, F4_line⟩) (fun _ q => nomatch q) (fun _ => rfl) (own_retV W4 hx hret (hb hby d36_14))
theorem rm_ans3s (C : Cx Z a0) (h0 : Heap) (lg lr lb : Addr) (Sg : Sta Z Z.heap "com/example/onegate/onegate/gate/Answer$Line" "GIVEN" "Lcom/example/onegate/onegate/gate/Answer$Line;" (.ref lg)) (Sr : Sta Z Z.heap "com/example/onegate/onegate/gate/Answer$Line" "REFUSED" "Lcom/example/onegate/onegate/gate/Answer$Line;" (.ref lr)) (Sb : Sta Z Z.heap "com/example/onegate/onegate/gate/Answer$Line" "BROKEN_OFF" "Lcom/example/onegate/onegate/gate/Answer$Line;" (.ref lb)) (x : Addr) (Ex : Exa Z h0 x "com/example/onegate/onegate/gate/Answer") (Ux : Unt h0 x) (Bx : Fld Z h0 x "java/lang/Throwable" "backtrace" "Ljava/lang/Object;" .null) (T_cause : Fld Z h0 x "java/lang/Throwable" "cause" "Ljava/lang/Throwable;" .null) (T_stackTrace : Fld Z h0 x "java/lang/Throwable" "stackTrace" "[Ljava/lang/StackTraceElement;" .null) (T_suppressedExceptions : Fld Z h0 x "java/lang/Throwable" "suppressedExceptions" "Ljava/util/List;" .null) (Mx : Fld Z h0 x "java/lang/Throwable" "detailMessage" "Ljava/lang/String;" .null) (F_status : Fld Z h0 x "com/example/onegate/onegate/gate/Answer" "status" "Lcom/example/onegate/onegate/core/http/HttpResponse$Status;" .null) (F_content : Fld Z h0 x "com/example/onegate/onegate/gate/Answer" "content" "Lcom/example/onegate/onegate/core/http/HttpResponse$Content;" .null) (F_report : Fld Z h0 x "com/example/onegate/onegate/gate/Answer" "report" "Ljava/lang/String;" .null) (F_line : Fld Z h0 x "com/example/onegate/onegate/gate/Answer" "line" "Lcom/example/onegate/onegate/gate/Answer$Line;" .null) (nx : Z.heap.size ≤ x) (u1 : Value) (u4 : Value) (r1 : u1.isRef = true) (r4 : u4.isRef = true) (a : Addr) (c1 c2 : Int32) (Sa : Str Z h0 a [c1, c2]) :
    Ct l Z a0 own_EL (⟨"com/example/onegate/onegate/gate/Answer", "<init>", "(Lcom/example/onegate/onegate/core/http/HttpResponse$Status;Ljava/lang/String;Ljava/lang/String;)V"⟩ : MethodName) prog_48_method_2_code 4 (Option.none : Option Jvm.ClassFile.FieldType) [] (rmm 7 12 2913 121) #[(.ref x), u1, (.ref a), u4] h0 [] (fun v h so => v = none ∧ Keep h0 h [x] ∧ ∃ u3 : Value, u3.isRef = true ∧ Exa Z h x "com/example/onegate/onegate/gate/Answer" ∧ Fld Z h x "java/lang/Throwable" "detailMessage" "Ljava/lang/String;" (.ref a) ∧ Fld Z h x "com/example/onegate/onegate/gate/Answer" "status" "Lcom/example/onegate/onegate/core/http/HttpResponse$Status;" u1 ∧ Fld Z h x "com/example/onegate/onegate/gate/Answer" "content" "Lcom/example/onegate/onegate/core/http/HttpResponse$Content;" u3 ∧ Fld Z h x "com/example/onegate/onegate/gate/Answer" "line" "Lcom/example/onegate/onegate/gate/Answer$Line;" (.ref lg)) := by
  refine own_enter (plainFor_of_name pn_2) C.ew (F0 := fun m => mkF m 0 #[vR x, .val u1, vR a, .val u4] []) (fun m => by rcases ref_cases r1 with rfl | ⟨_, rfl⟩ <;> rcases ref_cases r4 with rfl | ⟨_, rfl⟩ <;> rfl) ?_
  intro p e s m below meth c s₁ G hx hby hml hret hnm W0 S0 go fin
  have z0 := W0.sz
  show G s₁ (mkF m 0 #[vR x, .val u1, vR a, .val u4] [])
  have lx : ltN x h0.size := Ex.lt
  refine go (g' := (mkF m 4 #[vR x, .val u1, vR a, .val u4] [(.ref a), (.ref a), u1, (.ref x)])) (fun _ k => XS.aloadN W0.here hx rfl (hb hby d37_0) rfl rfl (XS.aloadN W0.here hx rfl (hb hby d37_1) rfl r1 (XS.aloadN W0.here hx rfl (hb hby d37_2) rfl rfl (XS.aloadN W0.here hx rfl (hb hby d37_3) rfl rfl k)))) ?_
  obtain ⟨v1, so1, vm1, T1, h1, W1, C1, q1, hso1, st1⟩ := own_static W0 hx (w134 C) (w135 C) (w39 C) (w136 C) (by decide) (rm_text C h0 a c1 c2 Sa) (fun _ q => nomatch q) (Wd := 3) (nle rfl) (nle rfl) (nle rfl) (nle rfl) (g := (mkF m 4 #[vR x, .val u1, vR a, .val u4] [(.ref a), (.ref a), u1, (.ref x)])) rfl (by rw [hml]; rfl) (argsL := [(.ref a)]) (rest := [(.ref a), u1, (.ref x)]) (lenOf pd_27 rfl) rfl rfl (by simp only [List.map_cons, List.map_nil, List.sum_cons, List.sum_nil, own_cat r1]; exact nle rfl) (hb hby d37_4)
  obtain ⟨x1, rfl, E1⟩ := q1
  have z2 : h0.size ≤ h1.size := E1.1
  refine go (g' := (mkF m 7 #[vR x, .val u1, vR a, .val u4] [(.ref x1), (.ref a), u1, (.ref x)])) (st1) ?_
  refine go (g' := (mkF m 8 #[vR x, .val u1, vR a, .val u4] [u4, (.ref x1), (.ref a), u1, (.ref x)])) (fun _ k => XS.aloadN W1.here hx rfl (hb hby d37_7) rfl r4 k) ?_
  obtain ⟨T3, W3, st3⟩ := own_getS W1 hx (host := "") (Or.inl (w60 C)) Via.refl Sg (g := (mkF m 8 #[vR x, .val u1, vR a, .val u4] [u4, (.ref x1), (.ref a), u1, (.ref x)])) rfl (hb hby d37_8)
  refine go (g' := (mkF m 11 #[vR x, .val u1, vR a, .val u4] [(.ref lg), u4, (.ref x1), (.ref a), u1, (.ref x)])) (st3) ?_
  have X5 : Ext h0 h1 := own_xt (own_xr h0) E1
  have f6 := Ex.ext X5
  have f7 := Ux.ext X5
  have f8 := Bx.ext X5
  have f9 := T_cause.ext X5
  have f10 := T_stackTrace.ext X5
  have f11 := T_suppressedExceptions.ext X5
  have f12 := Mx.ext X5
  have f13 := F_status.ext X5
  have f14 := F_content.ext X5
  have f15 := F_report.ext X5
  have f16 := F_line.ext X5
  obtain ⟨v4, so4, vm4, T4, h4, W4, C4, q4, hso4, st4⟩ := own_special W3 hx (y := (⟨"com/example/onegate/onegate/gate/Answer", "<init>", "(Lcom/example/onegate/onegate/core/http/HttpResponse$Status;Ljava/lang/String;Lcom/example/onegate/onegate/core/http/HttpResponse$Content;Ljava/lang/String;Lcom/example/onegate/onegate/gate/Answer$Line;)V"⟩ : MethodName)) rfl (w63 C) (w64 C) (w56 C) (w65 C) (by decide) (rm_ans5 C h1 x f6 f7 f8 f9 f10 f11 f12 f13 f14 f15 f16 (by omega) u1 (.ref a) (.ref x1) u4 (.ref lg) r1 rfl rfl r4 rfl) (fun _ q => nomatch q) (Wd := 0) (nle rfl) (nle rfl) (nle rfl) (nle rfl) (g := (mkF m 11 #[vR x, .val u1, vR a, .val u4] [(.ref lg), u4, (.ref x1), (.ref a), u1, (.ref x)])) rfl (by rw [hml]; rfl) (a := x) (argsL := [u1, (.ref a), (.ref x1), u4, (.ref lg)]) (rest := []) (lenOf pd_26 rfl) rfl rfl (nle rfl) (hb hby d37_11)
  obtain ⟨rfl, K4, E4, F4_detailMessage, F4_status, F4_content, F4_line⟩ := q4
  have z17 : h1.size ≤ h4.size := K4.1
  refine go (g' := (mkF m 14 #[vR x, .val u1, vR a, .val u4] [])) (st4) ?_
  have KK18 : Keep h0 h4 [x] := (((Keep.refl h0 [x]).ext E1).trans K4 (allS (Or.inl (own_mi (i := 0) rfl)) all0))
  exact fin (v := none) (so := []) W4 (nle rfl) (nle rfl) (⟨rfl, KK18, (.ref x1), rfl, E4, F4_detailMessage, F4_status, F4_content, F4_line⟩) (fun _ q => nomatch q) (fun _ => rfl) (own_retV W4 hx hret (hb hby d37_14))
theorem rm_broken (C : Cx Z a0) (h0 : Heap) (lg lr lb : Addr) (Sg : Sta Z Z.heap "com/example/onegate/onegate/gate/Answer$Line" "GIVEN" "Lcom/example/onegate/onegate/gate/Answer$Line;" (.ref lg)) (Sr : Sta Z Z.heap "com/example/onegate/onegate/gate/Answer$Line" "REFUSED" "Lcom/example/onegate/onegate/gate/Answer$Line;" (.ref lr)) (Sb : Sta Z Z.heap "com/example/onegate/onegate/gate/Answer$Line" "BROKEN_OFF" "Lcom/example/onegate/onegate/gate/Answer$Line;" (.ref lb)) (u1 : Value) (r1 : u1.isRef = true) (a : Addr) (c1 c2 : Int32) (Sa : Str Z h0 a [c1, c2]) :
    Ct l Z a0 own_EL (⟨"com/example/onegate/onegate/gate/Answer", "brokenOff", "(Lcom/example/onegate/onegate/core/http/HttpResponse$Status;Ljava/lang/String;)Lcom/example/onegate/onegate/gate/Answer;"⟩ : MethodName) prog_48_method_5_code 2 (Option.some (Jvm.ClassFile.FieldType.object "com/example/onegate/onegate/gate/Answer")) [] (rmm 7 13 2923 122) #[u1, (.ref a)] h0 [] (fun v h so => ∃ (x : Addr) (u3 : Value), v = some (.ref x) ∧ Ext h0 h ∧ u3.isRef = true ∧ Exa Z h x "com/example/onegate/onegate/gate/Answer" ∧ Fld Z h x "java/lang/Throwable" "detailMessage" "Ljava/lang/String;" (.ref a) ∧ Fld Z h x "com/example/onegate/onegate/gate/Answer" "status" "Lcom/example/onegate/onegate/core/http/HttpResponse$Status;" u1 ∧ Fld Z h x "com/example/onegate/onegate/gate/Answer" "content" "Lcom/example/onegate/onegate/core/http/HttpResponse$Content;" u3 ∧ Fld Z h x "com/example/onegate/onegate/gate/Answer" "line" "Lcom/example/onegate/onegate/gate/Answer$Line;" (.ref lb)) := by
  refine own_enter (plainFor_of_name pn_2) C.ew (F0 := fun m => mkF m 0 #[.val u1, vR a] []) (fun m => by rcases ref_cases r1 with rfl | ⟨_, rfl⟩ <;> rfl) ?_
  intro p e s m below meth c s₁ G hx hby hml hret hnm W0 S0 go fin
  have z0 := W0.sz
  show G s₁ (mkF m 0 #[.val u1, vR a] [])
  obtain ⟨x1, T1, h1, g1, W1, E1, A1, D1, U1, st1⟩ := own_new W0 hx (w306 C) (w55 C) (w56 C) (g := (mkF m 0 #[.val u1, vR a] [])) rfl (hb hby d38_0) (nle rfl) (nle rfl)
  have z2 : h0.size ≤ h1.size := E1.1
  have l1 : ltN x1 h1.size := A1.lt
  have F1_cause : Fld Z h1 x1 "java/lang/Throwable" "cause" "Ljava/lang/Throwable;" .null := D1 (Or.inl (w79 C)) (ty := (.object "java/lang/Throwable")) (by decide)
  have F1_stackTrace : Fld Z h1 x1 "java/lang/Throwable" "stackTrace" "[Ljava/lang/StackTraceElement;" .null := D1 (Or.inl (w82 C)) (ty := (.array (.object "java/lang/StackTraceElement"))) (by decide)
  have F1_suppressedExceptions : Fld Z h1 x1 "java/lang/Throwable" "suppressedExceptions" "Ljava/util/List;" .null := D1 (Or.inl (w85 C)) (ty := (.object "java/util/List")) (by decide)
  have F1_detailMessage : Fld Z h1 x1 "java/lang/Throwable" "detailMessage" "Ljava/lang/String;" .null := D1 (Or.inl (w109 C)) (ty := (.object "java/lang/String")) (by decide)
  have F1_backtrace : Fld Z h1 x1 "java/lang/Throwable" "backtrace" "Ljava/lang/Object;" .null := D1 (Or.inl (w110 C)) (ty := (.object "java/lang/Object")) (by decide)
  have F1_depth : Fld Z h1 x1 "java/lang/Throwable" "depth" "I" vZ := D1 (Or.inl (w111 C)) (ty := .int) (by decide)
  have F1_status : Fld Z h1 x1 "com/example/onegate/onegate/gate/Answer" "status" "Lcom/example/onegate/onegate/core/http/HttpResponse$Status;" .null := D1 (Or.inr (w115 C)) (ty := (.object "com/example/onegate/onegate/core/http/HttpResponse$Status")) (by decide)
  have F1_content : Fld Z h1 x1 "com/example/onegate/onegate/gate/Answer" "content" "Lcom/example/onegate/onegate/core/http/HttpResponse$Content;" .null := D1 (Or.inr (w117 C)) (ty := (.object "com/example/onegate/onegate/core/http/HttpResponse$Content")) (by decide)
  have F1_report : Fld Z h1 x1 "com/example/onegate/onegate/gate/Answer" "report" "Ljava/lang/String;" .null := D1 (Or.inr (w119 C)) (ty := (.object "java/lang/String")) (by decide)
  have F1_line : Fld Z h1 x1 "com/example/onegate/onegate/gate/Answer" "line" "Lcom/example/onegate/onegate/gate/Answer$Line;" .null := D1 (Or.inr (w121 C)) (ty := (.object "com/example/onegate/onegate/gate/Answer$Line")) (by decide)
  refine go (g' := (mkF m 3 #[.val u1, vR a] [(.ref x1)])) (st1) ?_
  refine go (g' := (mkF m 7 #[.val u1, vR a] [(.ref a), (.ref a), u1, (.ref x1), (.ref x1)])) (fun _ k => XS.dup W1.here hx rfl (hb hby d38_3) rfl rfl (XS.aloadN W1.here hx rfl (hb hby d38_4) rfl r1 (XS.aloadN W1.here hx rfl (hb hby d38_5) rfl rfl (XS.aloadN W1.here hx rfl (hb hby d38_6) rfl rfl k)))) ?_
  have X4 : Ext h0 h1 := own_xt (own_xr h0) E1
  have f5 := Sa.ext X4
  obtain ⟨v3, so3, vm3, T3, h3, W3, C3, q3, hso3, st3⟩ := own_static W1 hx (w134 C) (w135 C) (w39 C) (w136 C) (by decide) (rm_text C h1 a c1 c2 f5) (fun _ q => nomatch q) (Wd := 4) (nle rfl) (nle rfl) (nle rfl) (nle rfl) (g := (mkF m 7 #[.val u1, vR a] [(.ref a), (.ref a), u1, (.ref x1), (.ref x1)])) rfl (by rw [hml]; rfl) (argsL := [(.ref a)]) (rest := [(.ref a), u1, (.ref x1), (.ref x1)]) (lenOf pd_27 rfl) rfl rfl (by simp only [List.map_cons, List.map_nil, List.sum_cons, List.sum_nil, own_cat r1]; exact nle rfl) (hb hby d38_7)
  obtain ⟨x3, rfl, E3⟩ := q3
  have z6 : h1.size ≤ h3.size := E3.1
  refine go (g' := (mkF m 10 #[.val u1, vR a] [(.ref x3), (.ref a), u1, (.ref x1), (.ref x1)])) (st3) ?_
  refine go (g' := (mkF m 11 #[.val u1, vR a] [.null, (.ref x3), (.ref a), u1, (.ref x1), (.ref x1)])) (fun _ k => XS.aconstNull W3.here hx rfl (hb hby d38_10) k) ?_
  obtain ⟨T7, W7, st7⟩ := own_getS W3 hx (host := "") (Or.inl (w127 C)) Via.refl Sb (g := (mkF m 11 #[.val u1, vR a] [.null, (.ref x3), (.ref a), u1, (.ref x1), (.ref x1)])) rfl (hb hby d38_11)
  refine go (g' := (mkF m 14 #[.val u1, vR a] [(.ref lb), .null, (.ref x3), (.ref a), u1, (.ref x1), (.ref x1)])) (st7) ?_
  have X9 : Ext h1 h3 := own_xt (own_xr h1) E3
  have f10 := A1.ext X9
  have f11 := U1.ext X9
  have f12 := F1_backtrace.ext X9
  have f13 := F1_cause.ext X9
  have f14 := F1_stackTrace.ext X9
  have f15 := F1_suppressedExceptions.ext X9
  have f16 := F1_detailMessage.ext X9
  have f17 := F1_status.ext X9
  have f18 := F1_content.ext X9
  have f19 := F1_report.ext X9
  have f20 := F1_line.ext X9
  obtain ⟨v8, so8, vm8, T8, h8, W8, C8, q8, hso8, st8⟩ := own_special W7 hx (y := (⟨"com/example/onegate/onegate/gate/Answer", "<init>", "(Lcom/example/onegate/onegate/core/http/HttpResponse$Status;Ljava/lang/String;Lcom/example/onegate/onegate/core/http/HttpResponse$Content;Ljava/lang/String;Lcom/example/onegate/onegate/gate/Answer$Line;)V"⟩ : MethodName)) rfl (w63 C) (w64 C) (w56 C) (w65 C) (by decide) (rm_ans5 C h3 x1 f10 f11 f12 f13 f14 f15 f16 f17 f18 f19 f20 (by omega) u1 (.ref a) (.ref x3) .null (.ref lb) r1 rfl rfl rfl rfl) (fun _ q => nomatch q) (Wd := 1) (nle rfl) (nle rfl) (nle rfl) (nle rfl) (g := (mkF m 14 #[.val u1, vR a] [(.ref lb), .null, (.ref x3), (.ref a), u1, (.ref x1), (.ref x1)])) rfl (by rw [hml]; rfl) (a := x1) (argsL := [u1, (.ref a), (.ref x3), .null, (.ref lb)]) (rest := [(.ref x1)]) (lenOf pd_26 rfl) rfl rfl (nle rfl) (hb hby d38_14)
  obtain ⟨rfl, K8, E8, F8_detailMessage, F8_status, F8_content, F8_line⟩ := q8
  have z21 : h3.size ≤ h8.size := K8.1
  refine go (g' := (mkF m 17 #[.val u1, vR a] [(.ref x1)])) (st8) ?_
  have X22 : Ext h0 h3 := own_xt X4 E3
  have X23 : Ext h0 h8 := own_xk X22 K8 (allS (by omega) all0)
  exact fin (v := some (.ref x1)) (so := []) W8 (nle rfl) (nle rfl) (⟨_, (.ref x3), rfl, X23, rfl, E8, F8_detailMessage, F8_status, F8_content, F8_line⟩) (fun _ q => nomatch q) (fun q => nomatch q) (own_retA W8 hx hret rfl rfl rfl (hb hby d38_17))
theorem rm_get39 (C : Cx Z a0) (h0 : Heap) (a : Addr) (u : Value) (ru : u.isRef = true) (Fa : Fld Z h0 a "java/lang/Throwable" "detailMessage" "Ljava/lang/String;" u) :
    Ct l Z a0 own_EL (⟨"java/lang/Throwable", "getMessage", "()Ljava/lang/String;"⟩ : MethodName) jdk_78_method_6_code 1 (Option.some (Jvm.ClassFile.FieldType.object "java/lang/String")) [] (rmm 0 0 0 0) #[(.ref a)] h0 [] (fun v h so => v = some u ∧ h0 = h) := by
  refine own_enter (plainFor_of_name pn_0) C.ew (F0 := fun m => mkF m 0 #[vR a] []) (fun m => by first | (simp [entryFrame, mkF, argsToLocals, Value.category]; done) | rfl) ?_
  intro p e s m below meth c s₁ G hx hby hml hret hnm W0 S0 go fin
  have z0 := W0.sz
  show G s₁ (mkF m 0 #[vR a] [])
  refine go (g' := (mkF m 1 #[vR a] [(.ref a)])) (fun _ k => XS.aloadN W0.here hx rfl (hb hby d39_0) rfl rfl k) ?_
  obtain ⟨T1, W1, st1⟩ := own_get W0 hx (host := "") (Or.inl (w113 C)) Via.refl Fa (g := (mkF m 1 #[vR a] [(.ref a)])) rfl rfl (hb hby d39_1)
  refine go (g' := (mkF m 4 #[vR a] [u])) (st1) ?_
  exact fin (v := some u) (so := []) W1 (nle rfl) (nle rfl) (⟨rfl, rfl⟩) (fun _ q => nomatch q) (fun q => nomatch q) (own_retA W1 hx hret rfl ru (own_nrR ru rfl) (hb hby d39_4))
theorem rm_again (C : Cx Z a0) (h0 : Heap) (lg lr lb : Addr) (Sg : Sta Z Z.heap "com/example/onegate/onegate/gate/Answer$Line" "GIVEN" "Lcom/example/onegate/onegate/gate/Answer$Line;" (.ref lg)) (Sr : Sta Z Z.heap "com/example/onegate/onegate/gate/Answer$Line" "REFUSED" "Lcom/example/onegate/onegate/gate/Answer$Line;" (.ref lr)) (Sb : Sta Z Z.heap "com/example/onegate/onegate/gate/Answer$Line" "BROKEN_OFF" "Lcom/example/onegate/onegate/gate/Answer$Line;" (.ref lb)) (x : Addr) (u1 : Value) (u2 : Value) (u3 : Value) (r1 : u1.isRef = true) (r2 : u2.isRef = true) (r3 : u3.isRef = true) (Ex : Exa Z h0 x "com/example/onegate/onegate/gate/Answer") (F_detailMessage : Fld Z h0 x "java/lang/Throwable" "detailMessage" "Ljava/lang/String;" u2) (F_status : Fld Z h0 x "com/example/onegate/onegate/gate/Answer" "status" "Lcom/example/onegate/onegate/core/http/HttpResponse$Status;" u1) (F_content : Fld Z h0 x "com/example/onegate/onegate/gate/Answer" "content" "Lcom/example/onegate/onegate/core/http/HttpResponse$Content;" u3) :
    Ct l Z a0 own_EL (⟨"com/example/onegate/onegate/gate/Answer", "again", "()Lcom/example/onegate/onegate/gate/Answer;"⟩ : MethodName) prog_48_method_6_code 1 (Option.some (Jvm.ClassFile.FieldType.object "com/example/onegate/onegate/gate/Answer")) [] (rmm 6 2 2762 86) #[(.ref x)] h0 [] (fun v h so => ∃ y : Addr, v = some (.ref y) ∧ Ext h0 h ∧ Exa Z h y "com/example/onegate/onegate/gate/Answer" ∧ Fld Z h y "com/example/onegate/onegate/gate/Answer" "line" "Lcom/example/onegate/onegate/gate/Answer$Line;" (.ref lg)) := by
  refine own_enter (plainFor_of_name pn_2) C.ew (F0 := fun m => mkF m 0 #[vR x] []) (fun m => by first | (simp [entryFrame, mkF, argsToLocals, Value.category]; done) | rfl) ?_
  intro p e s m below meth c s₁ G hx hby hml hret hnm W0 S0 go fin
  have z0 := W0.sz
  show G s₁ (mkF m 0 #[vR x] [])
  obtain ⟨x1, T1, h1, g1, W1, E1, A1, D1, U1, st1⟩ := own_new W0 hx (w306 C) (w55 C) (w56 C) (g := (mkF m 0 #[vR x] [])) rfl (hb hby d40_0) (nle rfl) (nle rfl)
  have z2 : h0.size ≤ h1.size := E1.1
  have l1 : ltN x1 h1.size := A1.lt
  have F1_cause : Fld Z h1 x1 "java/lang/Throwable" "cause" "Ljava/lang/Throwable;" .null := D1 (Or.inl (w79 C)) (ty := (.object "java/lang/Throwable")) (by decide)
  have F1_stackTrace : Fld Z h1 x1 "java/lang/Throwable" "stackTrace" "[Ljava/lang/StackTraceElement;" .null := D1 (Or.inl (w82 C)) (ty := (.array (.object "java/lang/StackTraceElement"))) (by decide)
  have F1_suppressedExceptions : Fld Z h1 x1 "java/lang/Throwable" "suppressedExceptions" "Ljava/util/List;" .null := D1 (Or.inl (w85 C)) (ty := (.object "java/util/List")) (by decide)
  have F1_detailMessage : Fld Z h1 x1 "java/lang/Throwable" "detailMessage" "Ljava/lang/String;" .null := D1 (Or.inl (w109 C)) (ty := (.object "java/lang/String")) (by decide)
  have F1_backtrace : Fld Z h1 x1 "java/lang/Throwable" "backtrace" "Ljava/lang/Object;" .null := D1 (Or.inl (w110 C)) (ty := (.object "java/lang/Object")) (by decide)
  have F1_depth : Fld Z h1 x1 "java/lang/Throwable" "depth" "I" vZ := D1 (Or.inl (w111 C)) (ty := .int) (by decide)
  have F1_status : Fld Z h1 x1 "com/example/onegate/onegate/gate/Answer" "status" "Lcom/example/onegate/onegate/core/http/HttpResponse$Status;" .null := D1 (Or.inr (w115 C)) (ty := (.object "com/example/onegate/onegate/core/http/HttpResponse$Status")) (by decide)
  have F1_content : Fld Z h1 x1 "com/example/onegate/onegate/gate/Answer" "content" "Lcom/example/onegate/onegate/core/http/HttpResponse$Content;" .null := D1 (Or.inr (w117 C)) (ty := (.object "com/example/onegate/onegate/core/http/HttpResponse$Content")) (by decide)
  have F1_report : Fld Z h1 x1 "com/example/onegate/onegate/gate/Answer" "report" "Ljava/lang/String;" .null := D1 (Or.inr (w119 C)) (ty := (.object "java/lang/String")) (by decide)
  have F1_line : Fld Z h1 x1 "com/example/onegate/onegate/gate/Answer" "line" "Lcom/example/onegate/onegate/gate/Answer$Line;" .null := D1 (Or.inr (w121 C)) (ty := (.object "com/example/onegate/onegate/gate/Answer$Line")) (by decide)
  refine go (g' := (mkF m 3 #[vR x] [(.ref x1)])) (st1) ?_
  refine go (g' := (mkF m 5 #[vR x] [(.ref x), (.ref x1), (.ref x1)])) (fun _ k => XS.dup W1.here hx rfl (hb hby d40_3) rfl rfl (XS.aloadN W1.here hx rfl (hb hby d40_4) rfl rfl k)) ?_
  have X3 : Ext h0 h1 := own_xt (own_xr h0) E1
  have f4 := F_status.ext X3
  obtain ⟨T5, W5, st5⟩ := own_get W1 hx (host := "") (Or.inl (w114 C)) Via.refl f4 (g := (mkF m 5 #[vR x] [(.ref x), (.ref x1), (.ref x1)])) rfl rfl (hb hby d40_5)
  refine go (g' := (mkF m 8 #[vR x] [u1, (.ref x1), (.ref x1)])) (st5) ?_
  refine go (g' := (mkF m 9 #[vR x] [(.ref x), u1, (.ref x1), (.ref x1)])) (fun _ k => XS.aloadN W5.here hx rfl (hb hby d40_8) rfl rfl k) ?_
  have f7 := F_detailMessage.ext X3
  have f8 := Ex.ext X3
  obtain ⟨v6, so6, vm6, T6, h6, W6, C6, q6, hso6, st6⟩ := own_virtUp W5 hx (y := (⟨"com/example/onegate/onegate/gate/Answer", "getMessage", "()Ljava/lang/String;"⟩ : MethodName)) (z := (⟨"java/lang/Throwable", "getMessage", "()Ljava/lang/String;"⟩ : MethodName)) (w307 C) (w308 C) (w309 C) (by decide) (w311 C) (w310 C) (w75 C) (w312 C) f8 (rm_get39 C h1 x u2 r2 f7) (fun _ q => nomatch q) (Wd := 3) (nle rfl) (nle rfl) (nle rfl) (nle rfl) (g := (mkF m 9 #[vR x] [(.ref x), u1, (.ref x1), (.ref x1)])) rfl (by rw [hml]; rfl) (argsL := []) (rest := [u1, (.ref x1), (.ref x1)]) (lenOf pd_23 rfl) rfl rfl (by simp only [List.map_cons, List.map_nil, List.sum_cons, List.sum_nil, own_cat r1]; exact nle rfl) (hb hby d40_9)
  obtain ⟨rfl, rfl⟩ := q6
  refine go (g' := (mkF m 12 #[vR x] [u2, u1, (.ref x1), (.ref x1)])) (st6) ?_
  refine go (g' := (mkF m 13 #[vR x] [(.ref x), u2, u1, (.ref x1), (.ref x1)])) (fun _ k => XS.aloadN W6.here hx rfl (hb hby d40_12) rfl rfl k) ?_
  have f9 := F_content.ext X3
  obtain ⟨T10, W10, st10⟩ := own_get W6 hx (host := "") (Or.inl (w116 C)) Via.refl f9 (g := (mkF m 13 #[vR x] [(.ref x), u2, u1, (.ref x1), (.ref x1)])) rfl rfl (hb hby d40_13)
  refine go (g' := (mkF m 16 #[vR x] [u3, u2, u1, (.ref x1), (.ref x1)])) (st10) ?_
  refine go (g' := (mkF m 17 #[vR x] [.null, u3, u2, u1, (.ref x1), (.ref x1)])) (fun _ k => XS.aconstNull W10.here hx rfl (hb hby d40_16) k) ?_
  obtain ⟨T11, W11, st11⟩ := own_getS W10 hx (host := "") (Or.inl (w60 C)) Via.refl Sg (g := (mkF m 17 #[vR x] [.null, u3, u2, u1, (.ref x1), (.ref x1)])) rfl (hb hby d40_17)
  refine go (g' := (mkF m 20 #[vR x] [(.ref lg), .null, u3, u2, u1, (.ref x1), (.ref x1)])) (st11) ?_
  obtain ⟨v12, so12, vm12, T12, h12, W12, C12, q12, hso12, st12⟩ := own_special W11 hx (y := (⟨"com/example/onegate/onegate/gate/Answer", "<init>", "(Lcom/example/onegate/onegate/core/http/HttpResponse$Status;Ljava/lang/String;Lcom/example/onegate/onegate/core/http/HttpResponse$Content;Ljava/lang/String;Lcom/example/onegate/onegate/gate/Answer$Line;)V"⟩ : MethodName)) rfl (w63 C) (w64 C) (w56 C) (w65 C) (by decide) (rm_ans5 C h1 x1 A1 U1 F1_backtrace F1_cause F1_stackTrace F1_suppressedExceptions F1_detailMessage F1_status F1_content F1_report F1_line (by omega) u1 u2 u3 .null (.ref lg) r1 r2 r3 rfl rfl) (fun _ q => nomatch q) (Wd := 1) (nle rfl) (nle rfl) (nle rfl) (nle rfl) (g := (mkF m 20 #[vR x] [(.ref lg), .null, u3, u2, u1, (.ref x1), (.ref x1)])) rfl (by rw [hml]; rfl) (a := x1) (argsL := [u1, u2, u3, .null, (.ref lg)]) (rest := [(.ref x1)]) (lenOf pd_26 rfl) rfl rfl (nle rfl) (hb hby d40_20)
  obtain ⟨rfl, K12, E12, F12_detailMessage, F12_status, F12_content, F12_line⟩ := q12
  have z13 : h1.size ≤ h12.size := K12.1
  refine go (g' := (mkF m 23 #[vR x] [(.ref x1)])) (st12) ?_
  have X14 : Ext h0 h12 := own_xk X3 K12 (allS (by omega) all0)
  exact fin (v := some (.ref x1)) (so := []) W12 (nle rfl) (nle rfl) (⟨_, rfl, X14, E12, F12_line⟩) (fun _ q => nomatch q) (fun q => nomatch q) (own_retA W12 hx hret rfl rfl rfl (hb hby d40_23))
theorem rm_bo0 (C : Cx Z a0) (h0 : Heap) (lb : Addr) (Sb : Sta Z Z.heap "com/example/onegate/onegate/gate/Answer$Line" "BROKEN_OFF" "Lcom/example/onegate/onegate/gate/Answer$Line;" (.ref lb)) (lq : Addr) (hq : lq ≠ lb) (x : Addr) (Fl : Fld Z h0 x "com/example/onegate/onegate/gate/Answer" "line" "Lcom/example/onegate/onegate/gate/Answer$Line;" (.ref lq)) :
    Ct l Z a0 own_EL (⟨"com/example/onegate/onegate/gate/Answer", "brokeOff", "()Z"⟩ : MethodName) prog_48_method_9_code 1 (Option.some Jvm.ClassFile.FieldType.boolean) [] (rmm 0 0 0 0) #[(.ref x)] h0 [] (fun v h so => v = some vZ ∧ h0 = h) := by
  refine own_enter (plainFor_of_name pn_2) C.ew (F0 := fun m => mkF m 0 #[vR x] []) (fun m => by first | (simp [entryFrame, mkF, argsToLocals, Value.category]; done) | rfl) ?_
  intro p e s m below meth c s₁ G hx hby hml hret hnm W0 S0 go fin
  have z0 := W0.sz
  show G s₁ (mkF m 0 #[vR x] [])
  refine go (g' := (mkF m 1 #[vR x] [(.ref x)])) (fun _ k => XS.aloadN W0.here hx rfl (hb hby d41_0) rfl rfl k) ?_
  obtain ⟨T1, W1, st1⟩ := own_get W0 hx (host := "") (Or.inl (w120 C)) Via.refl Fl (g := (mkF m 1 #[vR x] [(.ref x)])) rfl rfl (hb hby d41_1)
  refine go (g' := (mkF m 4 #[vR x] [(.ref lq)])) (st1) ?_
  obtain ⟨T2, W2, st2⟩ := own_getS W1 hx (host := "") (Or.inl (w127 C)) Via.refl Sb (g := (mkF m 4 #[vR x] [(.ref lq)])) rfl (hb hby d41_4)
  refine go (g' := (mkF m 7 #[vR x] [(.ref lb), (.ref lq)])) (st2) ?_
  refine go (g' := (mkF m 14 #[vR x] [])) (own_acmp W2 hx (g := (mkF m 7 #[vR x] [(.ref lb), (.ref lq)])) rfl rfl rfl (pc0 := 7) (pc' := 14) (same := false) rfl (hb hby d41_7) rfl (decide_eq_false (fun z => hq (Value.ref.inj z))) (by decide) (by decide)) ?_
  refine go (g' := (mkF m 15 #[vR x] [vZ])) (fun _ k => XS.iconst W2.here hx rfl (hb hby d41_14) k) ?_
  exact fin (v := some vZ) (so := []) W2 (nle rfl) (nle rfl) (⟨rfl, rfl⟩) (fun _ q => nomatch q) (fun q => nomatch q) (own_retI W2 hx hret (by decide) rfl (hb hby d41_15))
theorem rm_bo1 (C : Cx Z a0) (h0 : Heap) (lb : Addr) (Sb : Sta Z Z.heap "com/example/onegate/onegate/gate/Answer$Line" "BROKEN_OFF" "Lcom/example/onegate/onegate/gate/Answer$Line;" (.ref lb)) (x : Addr) (Fl : Fld Z h0 x "com/example/onegate/onegate/gate/Answer" "line" "Lcom/example/onegate/onegate/gate/Answer$Line;" (.ref lb)) :
    Ct l Z a0 own_EL (⟨"com/example/onegate/onegate/gate/Answer", "brokeOff", "()Z"⟩ : MethodName) prog_48_method_9_code 1 (Option.some Jvm.ClassFile.FieldType.boolean) [] (rmm 0 0 0 0) #[(.ref x)] h0 [] (fun v h so => v = some (.int (1 : Int32)) ∧ h0 = h) := by
  refine own_enter (plainFor_of_name pn_2) C.ew (F0 := fun m => mkF m 0 #[vR x] []) (fun m => by first | (simp [entryFrame, mkF, argsToLocals, Value.category]; done) | rfl) ?_
  intro p e s m below meth c s₁ G hx hby hml hret hnm W0 S0 go fin
  have z0 := W0.sz
  show G s₁ (mkF m 0 #[vR x] [])
  refine go (g' := (mkF m 1 #[vR x] [(.ref x)])) (fun _ k => XS.aloadN W0.here hx rfl (hb hby d41_0) rfl rfl k) ?_
  obtain ⟨T1, W1, st1⟩ := own_get W0 hx (host := "") (Or.inl (w120 C)) Via.refl Fl (g := (mkF m 1 #[vR x] [(.ref x)])) rfl rfl (hb hby d41_1)
  refine go (g' := (mkF m 4 #[vR x] [(.ref lb)])) (st1) ?_
  obtain ⟨T2, W2, st2⟩ := own_getS W1 hx (host := "") (Or.inl (w127 C)) Via.refl Sb (g := (mkF m 4 #[vR x] [(.ref lb)])) rfl (hb hby d41_4)
  refine go (g' := (mkF m 7 #[vR x] [(.ref lb), (.ref lb)])) (st2) ?_
  refine go (g' := (mkF m 10 #[vR x] [])) (own_acmp W2 hx (g := (mkF m 7 #[vR x] [(.ref lb), (.ref lb)])) rfl rfl rfl (pc0 := 7) (pc' := 10) (same := true) rfl (hb hby d41_7) rfl (decide_eq_true rfl) (by decide) (by decide)) ?_
  refine go (g' := (mkF m 15 #[vR x] [(.int (1 : Int32))])) (fun _ k => XS.iconst W2.here hx rfl (hb hby d41_10) (XS.goto W2.here hx rfl (pc0 := 11) (pc' := 15) rfl (hb hby d41_11) (by decide) (by decide) k)) ?_
  exact fin (v := some (.int (1 : Int32))) (so := []) W2 (nle rfl) (nle rfl) (⟨rfl, rfl⟩) (fun _ q => nomatch q) (fun q => nomatch q) (own_retI W2 hx hret (by decide) rfl (hb hby d41_15))
theorem rm_status (C : Cx Z a0) (h0 : Heap) (p1 : Int32) :
    Ct l Z a0 own_EL (⟨"com/example/onegate/onegate/gate/AnswerBrokeOffPinLaw", "status", "(I)Lcom/example/onegate/onegate/core/http/HttpResponse$Status;"⟩ : MethodName) method_2_code 2 (Option.some (Jvm.ClassFile.FieldType.object "com/example/onegate/onegate/core/http/HttpResponse$Status")) [] (rmm 0 0 0 0) #[(.int p1)] h0 [] (fun v h so => ∃ x : Addr, v = some (.ref x) ∧ h0 = h) := by
  refine own_enter (plainFor_of_name pn_11) C.ew (F0 := fun m => mkF m 0 #[vI p1, .unset] []) (fun m => by first | (simp [entryFrame, mkF, argsToLocals, Value.category]; done) | rfl) ?_
  intro p e s m below meth c s₁ G hx hby hml hret hnm W0 S0 go fin
  have z0 := W0.sz
  show G s₁ (mkF m 0 #[vI p1, .unset] [])
  refine go (g' := (mkF m 5 #[vI p1, vI (p1 &&& (3 : Int32))] [(.int (p1 &&& (3 : Int32)))])) (fun _ k => XS.iloadN W0.here hx rfl (hb hby d42_0) rfl (XS.iconst W0.here hx rfl (hb hby d42_1) (XS.iand W0.here hx rfl (hb hby d42_2) rfl (XS.istoreN W0.here hx rfl (hb hby d42_3) rfl (l' := #[vI p1, vI (p1 &&& (3 : Int32))]) rfl (XS.iloadN W0.here hx rfl (hb hby d42_4) rfl k))))) ?_
  by_cases kb1 : (p1 &&& (3 : Int32)) = (0 : Int32)
  · refine go (g' := (mkF m 8 #[vI p1, vI (p1 &&& (3 : Int32))] [])) (fun _ k => XS.ifNo W0.here hx rfl (hb hby d42_5) rfl ((if0 _ _).trans (teq kb1).2) k) ?_
    obtain ⟨gs2, os2⟩ := C.s0
    obtain ⟨T3, W3, st3⟩ := own_getS W0 hx (host := "") (Or.inl (w129 C)) Via.refl os2 (g := (mkF m 8 #[vI p1, vI (p1 &&& (3 : Int32))] [])) rfl (hb hby d42_8)
    refine go (g' := (mkF m 11 #[vI p1, vI (p1 &&& (3 : Int32))] [(.ref gs2)])) (st3) ?_
    exact fin (v := some (.ref gs2)) (so := []) W3 (nle rfl) (nle rfl) (⟨_, rfl, rfl⟩) (fun _ q => nomatch q) (fun q => nomatch q) (own_retA W3 hx hret rfl rfl rfl (hb hby d42_11))
  · refine go (g' := (mkF m 14 #[vI p1, vI (p1 &&& (3 : Int32))] [(.int (1 : Int32)), (.int (p1 &&& (3 : Int32)))])) (fun _ k => XS.ifYes W0.here hx rfl (pc0 := 5) (pc' := 12) rfl (hb hby d42_5) rfl ((if0 _ _).trans (feq kb1).2) (by decide) (by decide) (XS.iloadN W0.here hx rfl (hb hby d42_12) rfl (XS.iconst W0.here hx rfl (hb hby d42_13) k))) ?_
    by_cases kb4 : (p1 &&& (3 : Int32)) = (1 : Int32)
    · refine go (g' := (mkF m 17 #[vI p1, vI (p1 &&& (3 : Int32))] [])) (fun _ k => XS.icmpNo W0.here hx rfl (hb hby d42_14) rfl (teq kb4).2 k) ?_
      obtain ⟨gs5, os5⟩ := C.s1
      obtain ⟨T6, W6, st6⟩ := own_getS W0 hx (host := "") (Or.inl (w313 C)) Via.refl os5 (g := (mkF m 17 #[vI p1, vI (p1 &&& (3 : Int32))] [])) rfl (hb hby d42_17)
      refine go (g' := (mkF m 20 #[vI p1, vI (p1 &&& (3 : Int32))] [(.ref gs5)])) (st6) ?_
      exact fin (v := some (.ref gs5)) (so := []) W6 (nle rfl) (nle rfl) (⟨_, rfl, rfl⟩) (fun _ q => nomatch q) (fun q => nomatch q) (own_retA W6 hx hret rfl rfl rfl (hb hby d42_20))
    · refine go (g' := (mkF m 23 #[vI p1, vI (p1 &&& (3 : Int32))] [(.int (2 : Int32)), (.int (p1 &&& (3 : Int32)))])) (fun _ k => XS.icmpYes W0.here hx rfl (pc0 := 14) (pc' := 21) rfl (hb hby d42_14) rfl (feq kb4).2 (by decide) (by decide) (XS.iloadN W0.here hx rfl (hb hby d42_21) rfl (XS.iconst W0.here hx rfl (hb hby d42_22) k))) ?_
      by_cases kb7 : (p1 &&& (3 : Int32)) = (2 : Int32)
      · refine go (g' := (mkF m 26 #[vI p1, vI (p1 &&& (3 : Int32))] [])) (fun _ k => XS.icmpNo W0.here hx rfl (hb hby d42_23) rfl (teq kb7).2 k) ?_
        obtain ⟨gs8, os8⟩ := C.s2
        obtain ⟨T9, W9, st9⟩ := own_getS W0 hx (host := "") (Or.inl (w286 C)) Via.refl os8 (g := (mkF m 26 #[vI p1, vI (p1 &&& (3 : Int32))] [])) rfl (hb hby d42_26)
        refine go (g' := (mkF m 29 #[vI p1, vI (p1 &&& (3 : Int32))] [(.ref gs8)])) (st9) ?_
        exact fin (v := some (.ref gs8)) (so := []) W9 (nle rfl) (nle rfl) (⟨_, rfl, rfl⟩) (fun _ q => nomatch q) (fun q => nomatch q) (own_retA W9 hx hret rfl rfl rfl (hb hby d42_29))
      · refine go (g' := (mkF m 30 #[vI p1, vI (p1 &&& (3 : Int32))] [])) (fun _ k => XS.icmpYes W0.here hx rfl (pc0 := 23) (pc' := 30) rfl (hb hby d42_23) rfl (feq kb7).2 (by decide) (by decide) k) ?_
        obtain ⟨gs10, os10⟩ := C.s3
        obtain ⟨T11, W11, st11⟩ := own_getS W0 hx (host := "") (Or.inl (w4 C)) Via.refl os10 (g := (mkF m 30 #[vI p1, vI (p1 &&& (3 : Int32))] [])) rfl (hb hby d42_30)
        refine go (g' := (mkF m 33 #[vI p1, vI (p1 &&& (3 : Int32))] [(.ref gs10)])) (st11) ?_
        exact fin (v := some (.ref gs10)) (so := []) W11 (nle rfl) (nle rfl) (⟨_, rfl, rfl⟩) (fun _ q => nomatch q) (fun q => nomatch q) (own_retA W11 hx hret rfl rfl rfl (hb hby d42_33))
theorem rm0 (C : Cx Z a0) (h0 : Heap) (p1 p2 p3 : Int32) :
    Ct l Z a0 own_EL x code maxLocals ret tables_1 room_1 #[(.int p1), (.int p2), (.int p3)] h0 [] (fun v h so => v = some (.int 1)) := by
  refine own_enter (plainFor_of_name pn_11) C.ew (F0 := fun m => mkF m 0 #[vI p1, vI p2, vI p3, .unset, .unset, .unset, .unset, .unset, .unset, .unset, .unset, .unset, .unset] []) (fun m => by first | (simp [entryFrame, mkF, argsToLocals, Value.category, maxLocals]; done) | rfl) ?_
  intro p e s m below meth c s₁ G hx hby hml hret hnm W0 S0 go fin
  have z0 := W0.sz
  show G s₁ (mkF m 0 #[vI p1, vI p2, vI p3, .unset, .unset, .unset, .unset, .unset, .unset, .unset, .unset, .unset, .unset] [])
  obtain ⟨lg, lr, lb, Sg, Sr, Sb, ngb, nrb⟩ := C.ln
  refine go (g' := (mkF m 1 #[vI p1, vI p2, vI p3, .unset, .unset, .unset, .unset, .unset, .unset, .unset, .unset, .unset, .unset] [(.int p2)])) (fun _ k => XS.iloadN W0.here hx rfl (hb hby at_0) rfl k) ?_
  obtain ⟨v1, so1, vm1, T1, h1, W1, C1, q1, hso1, st1⟩ := own_static W0 hx (w0 C) (w1 C) (w2 C) (w3 C) (by decide) (rm_status C h0 p2) (fun _ q => nomatch q) (Wd := 0) (nle rfl) (nle rfl) (nle rfl) (nle rfl) (g := (mkF m 1 #[vI p1, vI p2, vI p3, .unset, .unset, .unset, .unset, .unset, .unset, .unset, .unset, .unset, .unset] [(.int p2)])) rfl (by rw [hml]; rfl) (argsL := [(.int p2)]) (rest := []) (lenOf pd_28 rfl) rfl rfl (nle rfl) (hb hby at_1)
  obtain ⟨x1, rfl, rfl⟩ := q1
  refine go (g' := (mkF m 4 #[vI p1, vI p2, vI p3, .unset, .unset, .unset, .unset, .unset, .unset, .unset, .unset, .unset, .unset] [(.ref x1)])) (st1) ?_
  refine go (g' := (mkF m 6 #[vI p1, vI p2, vI p3, vR x1, .unset, .unset, .unset, .unset, .unset, .unset, .unset, .unset, .unset] [(.int (2 : Int32))])) (fun _ k => XS.astoreN W1.here hx rfl (hb hby at_4) rfl rfl (l' := #[vI p1, vI p2, vI p3, vR x1, .unset, .unset, .unset, .unset, .unset, .unset, .unset, .unset, .unset]) rfl (XS.iconst W1.here hx rfl (hb hby at_5) k)) ?_
  obtain ⟨x2, T2, h2, k2, g2, W2, E2, A2, st2⟩ := own_newP W1 hx (aty := .char) (w7 C) (g := (mkF m 6 #[vI p1, vI p2, vI p3, vR x1, .unset, .unset, .unset, .unset, .unset, .unset, .unset, .unset, .unset] [(.int (2 : Int32))])) rfl (hb hby at_6) rfl (by decide) (cap := 2) (by decide) (nle rfl) (nle rfl) (nle rfl)
  have z3 : h0.size ≤ h2.size := E2.1
  have l2 : ltN x2 h2.size := A2.lt
  have V2 : Arv Z h2 x2 k2 .char (2 : Int32) [vZ, vZ] vZ := A2.pad (pad_rep [] vZ 2)
  refine go (g' := (mkF m 8 #[vI p1, vI p2, vI p3, vR x1, .unset, .unset, .unset, .unset, .unset, .unset, .unset, .unset, .unset] [(.ref x2)])) (st2) ?_
  refine go (g' := (mkF m 16 #[vI p1, vI p2, vI p3, vR x1, .unset, .unset, .unset, .unset, .unset, .unset, .unset, .unset, .unset] [(.int ((p3 &&& (255 : Int32)).toUInt32.toUInt16.toUInt32.toInt32)), vZ, (.ref x2), (.ref x2)])) (fun _ k => XS.dup W2.here hx rfl (hb hby at_8) rfl rfl (XS.iconst W2.here hx rfl (hb hby at_9) (XS.iloadN W2.here hx rfl (hb hby at_10) rfl (XS.sipush W2.here hx rfl (hb hby at_11) (XS.iand W2.here hx rfl (hb hby at_14) rfl (XS.i2c W2.here hx rfl (hb hby at_15) rfl k)))))) ?_
  obtain ⟨T4, h4, W4, R4, V4, st4⟩ := own_stC W2 hx V2 (by omega) (j := (0 : Int32)) (i := 0) ⟨by decide, by decide⟩ rfl (nle rfl) (own_up (own_c255 _)) (g := (mkF m 16 #[vI p1, vI p2, vI p3, vR x1, .unset, .unset, .unset, .unset, .unset, .unset, .unset, .unset, .unset] [(.int ((p3 &&& (255 : Int32)).toUInt32.toUInt16.toUInt32.toInt32)), vZ, (.ref x2), (.ref x2)])) rfl rfl (hb hby at_16)
  have z5 : h4.size = h2.size := R4.size
  have U4 : Arv Z h4 x2 k2 .char (2 : Int32) [(.int ((p3 &&& (255 : Int32)).toUInt32.toUInt16.toUInt32.toInt32)), vZ] vZ := V4
  refine go (g' := (mkF m 17 #[vI p1, vI p2, vI p3, vR x1, .unset, .unset, .unset, .unset, .unset, .unset, .unset, .unset, .unset] [(.ref x2)])) (st4) ?_
  refine go (g' := (mkF m 28 #[vI p1, vI p2, vI p3, vR x1, .unset, .unset, .unset, .unset, .unset, .unset, .unset, .unset, .unset] [(.int ((((p3.toUInt32 >>> ((8 : Int32) &&& 31).toUInt32).toInt32) &&& (255 : Int32)).toUInt32.toUInt16.toUInt32.toInt32)), (.int (1 : Int32)), (.ref x2), (.ref x2)])) (fun _ k => XS.dup W4.here hx rfl (hb hby at_17) rfl rfl (XS.iconst W4.here hx rfl (hb hby at_18) (XS.iloadN W4.here hx rfl (hb hby at_19) rfl (XS.bipush W4.here hx rfl (hb hby at_20) (XS.iushr W4.here hx rfl (hb hby at_22) rfl (XS.sipush W4.here hx rfl (hb hby at_23) (XS.iand W4.here hx rfl (hb hby at_26) rfl (XS.i2c W4.here hx rfl (hb hby at_27) rfl k)))))))) ?_
  obtain ⟨T6, h6, W6, R6, V6, st6⟩ := own_stC W4 hx U4 (by omega) (j := (1 : Int32)) (i := 1) ⟨by decide, by decide⟩ rfl (nle rfl) (own_up (own_c255 _)) (g := (mkF m 28 #[vI p1, vI p2, vI p3, vR x1, .unset, .unset, .unset, .unset, .unset, .unset, .unset, .unset, .unset] [(.int ((((p3.toUInt32 >>> ((8 : Int32) &&& 31).toUInt32).toInt32) &&& (255 : Int32)).toUInt32.toUInt16.toUInt32.toInt32)), (.int (1 : Int32)), (.ref x2), (.ref x2)])) rfl rfl (hb hby at_28)
  have z7 : h6.size = h4.size := R6.size
  have U6 : Arv Z h6 x2 k2 .char (2 : Int32) [(.int ((p3 &&& (255 : Int32)).toUInt32.toUInt16.toUInt32.toInt32)), (.int ((((p3.toUInt32 >>> ((8 : Int32) &&& 31).toUInt32).toInt32) &&& (255 : Int32)).toUInt32.toUInt16.toUInt32.toInt32))] vZ := V6
  refine go (g' := (mkF m 29 #[vI p1, vI p2, vI p3, vR x1, .unset, .unset, .unset, .unset, .unset, .unset, .unset, .unset, .unset] [(.ref x2)])) (st6) ?_
  refine go (g' := (mkF m 31 #[vI p1, vI p2, vI p3, vR x1, vR x2, .unset, .unset, .unset, .unset, .unset, .unset, .unset, .unset] [])) (fun _ k => XS.astore W6.here hx rfl (hb hby at_29) rfl rfl (l' := #[vI p1, vI p2, vI p3, vR x1, vR x2, .unset, .unset, .unset, .unset, .unset, .unset, .unset, .unset]) rfl k) ?_
  obtain ⟨x8, T8, h8, g8, W8, E8, A8, D8, U8, st8⟩ := own_new W6 hx (w8 C) (w9 C) (w10 C) (g := (mkF m 31 #[vI p1, vI p2, vI p3, vR x1, vR x2, .unset, .unset, .unset, .unset, .unset, .unset, .unset, .unset] [])) rfl (hb hby at_31) (nle rfl) (nle rfl)
  have z9 : h6.size ≤ h8.size := E8.1
  have l8 : ltN x8 h8.size := A8.lt
  have F8_coder : Fld Z h8 x8 "java/lang/String" "coder" "B" vZ := D8 (Or.inr (w34 C)) (ty := .byte) (by decide)
  have F8_value : Fld Z h8 x8 "java/lang/String" "value" "[B" .null := D8 (Or.inr (w36 C)) (ty := (.array .byte)) (by decide)
  refine go (g' := (mkF m 34 #[vI p1, vI p2, vI p3, vR x1, vR x2, .unset, .unset, .unset, .unset, .unset, .unset, .unset, .unset] [(.ref x8)])) (st8) ?_
  refine go (g' := (mkF m 37 #[vI p1, vI p2, vI p3, vR x1, vR x2, .unset, .unset, .unset, .unset, .unset, .unset, .unset, .unset] [(.ref x2), (.ref x8), (.ref x8)])) (fun _ k => XS.dup W8.here hx rfl (hb hby at_34) rfl rfl (XS.aload W8.here hx rfl (hb hby at_35) rfl rfl k)) ?_
  have X11 : Ext h6 h8 := own_xt (own_xr h6) E8
  have f12 := U6.ext X11
  obtain ⟨T10, h10, W10, K10, S10, st10⟩ := own_strNew W8 hx (own_ws C) (w11 C) (w12 C) (w13 C) (w9 C) A8 F8_value F8_coder (cs := [((p3 &&& (255 : Int32)).toUInt32.toUInt16.toUInt32.toInt32), ((((p3.toUInt32 >>> ((8 : Int32) &&& 31).toUInt32).toInt32) &&& (255 : Int32)).toUInt32.toUInt16.toUInt32.toInt32)]) f12 rfl C.cs (nle rfl) (nle rfl) (own_alS (own_c255 _) (own_alS (own_c255 _) own_al0)) (own_safeB W6 X11 (by omega)) (by omega) (Wd := 1) (nle rfl) (nle rfl) (nle rfl) (nle rfl) (g := (mkF m 37 #[vI p1, vI p2, vI p3, vR x1, vR x2, .unset, .unset, .unset, .unset, .unset, .unset, .unset, .unset] [(.ref x2), (.ref x8), (.ref x8)])) rfl (by rw [hml]; rfl) rfl (nle rfl) (hb hby at_37)
  have z13 : h8.size ≤ h10.size := K10.1
  refine go (g' := (mkF m 40 #[vI p1, vI p2, vI p3, vR x1, vR x2, .unset, .unset, .unset, .unset, .unset, .unset, .unset, .unset] [(.ref x8)])) (st10) ?_
  refine go (g' := (mkF m 43 #[vI p1, vI p2, vI p3, vR x1, vR x2, vR x8, .unset, .unset, .unset, .unset, .unset, .unset, .unset] [(.int (1 : Int32))])) (fun _ k => XS.astore W10.here hx rfl (hb hby at_40) rfl rfl (l' := #[vI p1, vI p2, vI p3, vR x1, vR x2, vR x8, .unset, .unset, .unset, .unset, .unset, .unset, .unset]) rfl (XS.iconst W10.here hx rfl (hb hby at_42) k)) ?_
  obtain ⟨x14, T14, h14, k14, g14, W14, E14, A14, st14⟩ := own_newP W10 hx (aty := .char) (w7 C) (g := (mkF m 43 #[vI p1, vI p2, vI p3, vR x1, vR x2, vR x8, .unset, .unset, .unset, .unset, .unset, .unset, .unset] [(.int (1 : Int32))])) rfl (hb hby at_43) rfl (by decide) (cap := 1) (by decide) (nle rfl) (nle rfl) (nle rfl)
  have z15 : h10.size ≤ h14.size := E14.1
  have l14 : ltN x14 h14.size := A14.lt
  have V14 : Arv Z h14 x14 k14 .char (1 : Int32) [vZ] vZ := A14.pad (pad_rep [] vZ 1)
  refine go (g' := (mkF m 45 #[vI p1, vI p2, vI p3, vR x1, vR x2, vR x8, .unset, .unset, .unset, .unset, .unset, .unset, .unset] [(.ref x14)])) (st14) ?_
  refine go (g' := (mkF m 56 #[vI p1, vI p2, vI p3, vR x1, vR x2, vR x8, .unset, .unset, .unset, .unset, .unset, .unset, .unset] [(.int ((((p3.toUInt32 >>> ((16 : Int32) &&& 31).toUInt32).toInt32) &&& (255 : Int32)).toUInt32.toUInt16.toUInt32.toInt32)), vZ, (.ref x14), (.ref x14)])) (fun _ k => XS.dup W14.here hx rfl (hb hby at_45) rfl rfl (XS.iconst W14.here hx rfl (hb hby at_46) (XS.iloadN W14.here hx rfl (hb hby at_47) rfl (XS.bipush W14.here hx rfl (hb hby at_48) (XS.iushr W14.here hx rfl (hb hby at_50) rfl (XS.sipush W14.here hx rfl (hb hby at_51) (XS.iand W14.here hx rfl (hb hby at_54) rfl (XS.i2c W14.here hx rfl (hb hby at_55) rfl k)))))))) ?_
  obtain ⟨T16, h16, W16, R16, V16, st16⟩ := own_stC W14 hx V14 (by omega) (j := (0 : Int32)) (i := 0) ⟨by decide, by decide⟩ rfl (nle rfl) (own_up (own_c255 _)) (g := (mkF m 56 #[vI p1, vI p2, vI p3, vR x1, vR x2, vR x8, .unset, .unset, .unset, .unset, .unset, .unset, .unset] [(.int ((((p3.toUInt32 >>> ((16 : Int32) &&& 31).toUInt32).toInt32) &&& (255 : Int32)).toUInt32.toUInt16.toUInt32.toInt32)), vZ, (.ref x14), (.ref x14)])) rfl rfl (hb hby at_56)
  have z17 : h16.size = h14.size := R16.size
  have U16 : Arv Z h16 x14 k14 .char (1 : Int32) [(.int ((((p3.toUInt32 >>> ((16 : Int32) &&& 31).toUInt32).toInt32) &&& (255 : Int32)).toUInt32.toUInt16.toUInt32.toInt32))] vZ := V16
  refine go (g' := (mkF m 57 #[vI p1, vI p2, vI p3, vR x1, vR x2, vR x8, .unset, .unset, .unset, .unset, .unset, .unset, .unset] [(.ref x14)])) (st16) ?_
  refine go (g' := (mkF m 59 #[vI p1, vI p2, vI p3, vR x1, vR x2, vR x8, vR x14, .unset, .unset, .unset, .unset, .unset, .unset] [])) (fun _ k => XS.astore W16.here hx rfl (hb hby at_57) rfl rfl (l' := #[vI p1, vI p2, vI p3, vR x1, vR x2, vR x8, vR x14, .unset, .unset, .unset, .unset, .unset, .unset]) rfl k) ?_
  obtain ⟨x18, T18, h18, g18, W18, E18, A18, D18, U18, st18⟩ := own_new W16 hx (w8 C) (w9 C) (w10 C) (g := (mkF m 59 #[vI p1, vI p2, vI p3, vR x1, vR x2, vR x8, vR x14, .unset, .unset, .unset, .unset, .unset, .unset] [])) rfl (hb hby at_59) (nle rfl) (nle rfl)
  have z19 : h16.size ≤ h18.size := E18.1
  have l18 : ltN x18 h18.size := A18.lt
  have F18_coder : Fld Z h18 x18 "java/lang/String" "coder" "B" vZ := D18 (Or.inr (w34 C)) (ty := .byte) (by decide)
  have F18_value : Fld Z h18 x18 "java/lang/String" "value" "[B" .null := D18 (Or.inr (w36 C)) (ty := (.array .byte)) (by decide)
  refine go (g' := (mkF m 62 #[vI p1, vI p2, vI p3, vR x1, vR x2, vR x8, vR x14, .unset, .unset, .unset, .unset, .unset, .unset] [(.ref x18)])) (st18) ?_
  refine go (g' := (mkF m 65 #[vI p1, vI p2, vI p3, vR x1, vR x2, vR x8, vR x14, .unset, .unset, .unset, .unset, .unset, .unset] [(.ref x14), (.ref x18), (.ref x18)])) (fun _ k => XS.dup W18.here hx rfl (hb hby at_62) rfl rfl (XS.aload W18.here hx rfl (hb hby at_63) rfl rfl k)) ?_
  have X21 : Ext h16 h18 := own_xt (own_xr h16) E18
  have f22 := U16.ext X21
  obtain ⟨T20, h20, W20, K20, S20, st20⟩ := own_strNew W18 hx (own_ws C) (w11 C) (w12 C) (w13 C) (w9 C) A18 F18_value F18_coder (cs := [((((p3.toUInt32 >>> ((16 : Int32) &&& 31).toUInt32).toInt32) &&& (255 : Int32)).toUInt32.toUInt16.toUInt32.toInt32)]) f22 rfl C.cs (nle rfl) (nle rfl) (own_alS (own_c255 _) own_al0) (own_safeB W16 X21 (by omega)) (by omega) (Wd := 1) (nle rfl) (nle rfl) (nle rfl) (nle rfl) (g := (mkF m 65 #[vI p1, vI p2, vI p3, vR x1, vR x2, vR x8, vR x14, .unset, .unset, .unset, .unset, .unset, .unset] [(.ref x14), (.ref x18), (.ref x18)])) rfl (by rw [hml]; rfl) rfl (nle rfl) (hb hby at_65)
  have z23 : h18.size ≤ h20.size := K20.1
  refine go (g' := (mkF m 68 #[vI p1, vI p2, vI p3, vR x1, vR x2, vR x8, vR x14, .unset, .unset, .unset, .unset, .unset, .unset] [(.ref x18)])) (st20) ?_
  refine go (g' := (mkF m 71 #[vI p1, vI p2, vI p3, vR x1, vR x2, vR x8, vR x14, vR x18, .unset, .unset, .unset, .unset, .unset] [(.int (1 : Int32))])) (fun _ k => XS.astore W20.here hx rfl (hb hby at_68) rfl rfl (l' := #[vI p1, vI p2, vI p3, vR x1, vR x2, vR x8, vR x14, vR x18, .unset, .unset, .unset, .unset, .unset]) rfl (XS.iconst W20.here hx rfl (hb hby at_70) k)) ?_
  obtain ⟨x24, T24, h24, k24, g24, W24, E24, A24, st24⟩ := own_newP W20 hx (aty := .byte) (w26 C) (g := (mkF m 71 #[vI p1, vI p2, vI p3, vR x1, vR x2, vR x8, vR x14, vR x18, .unset, .unset, .unset, .unset, .unset] [(.int (1 : Int32))])) rfl (hb hby at_71) rfl (by decide) (cap := 1) (by decide) (nle rfl) (nle rfl) (nle rfl)
  have z25 : h20.size ≤ h24.size := E24.1
  have l24 : ltN x24 h24.size := A24.lt
  have V24 : Arv Z h24 x24 k24 .byte (1 : Int32) [vZ] vZ := A24.pad (pad_rep [] vZ 1)
  refine go (g' := (mkF m 73 #[vI p1, vI p2, vI p3, vR x1, vR x2, vR x8, vR x14, vR x18, .unset, .unset, .unset, .unset, .unset] [(.ref x24)])) (st24) ?_
  refine go (g' := (mkF m 80 #[vI p1, vI p2, vI p3, vR x1, vR x2, vR x8, vR x14, vR x18, .unset, .unset, .unset, .unset, .unset] [(.int (((p3.toUInt32 >>> ((24 : Int32) &&& 31).toUInt32).toInt32).toInt8.toInt32)), vZ, (.ref x24), (.ref x24)])) (fun _ k => XS.dup W24.here hx rfl (hb hby at_73) rfl rfl (XS.iconst W24.here hx rfl (hb hby at_74) (XS.iloadN W24.here hx rfl (hb hby at_75) rfl (XS.bipush W24.here hx rfl (hb hby at_76) (XS.iushr W24.here hx rfl (hb hby at_78) rfl (XS.i2b W24.here hx rfl (hb hby at_79) rfl k)))))) ?_
  have X27 : Ext h20 h24 := own_xt (own_xr h20) E24
  obtain ⟨T26, h26, W26, R26, V26, st26⟩ := own_stB W24 hx V24 (by omega) (own_safeB W20 X27 (by omega)) (j := (0 : Int32)) (i := 0) ⟨by decide, by decide⟩ rfl (nle rfl) (g := (mkF m 80 #[vI p1, vI p2, vI p3, vR x1, vR x2, vR x8, vR x14, vR x18, .unset, .unset, .unset, .unset, .unset] [(.int (((p3.toUInt32 >>> ((24 : Int32) &&& 31).toUInt32).toInt32).toInt8.toInt32)), vZ, (.ref x24), (.ref x24)])) rfl rfl (hb hby at_80)
  have z28 : h26.size = h24.size := R26.size
  have U26 : Arv Z h26 x24 k24 .byte (1 : Int32) [(.int (((p3.toUInt32 >>> ((24 : Int32) &&& 31).toUInt32).toInt32).toInt8.toInt32).toInt8.toInt32)] vZ := V26
  refine go (g' := (mkF m 81 #[vI p1, vI p2, vI p3, vR x1, vR x2, vR x8, vR x14, vR x18, .unset, .unset, .unset, .unset, .unset] [(.ref x24)])) (st26) ?_
  refine go (g' := (mkF m 83 #[vI p1, vI p2, vI p3, vR x1, vR x2, vR x8, vR x14, vR x18, vR x24, .unset, .unset, .unset, .unset] [])) (fun _ k => XS.astore W26.here hx rfl (hb hby at_81) rfl rfl (l' := #[vI p1, vI p2, vI p3, vR x1, vR x2, vR x8, vR x14, vR x18, vR x24, .unset, .unset, .unset, .unset]) rfl k) ?_
  obtain ⟨x29, T29, h29, g29, W29, E29, A29, D29, U29, st29⟩ := own_new W26 hx (w37 C) (w38 C) (w39 C) (g := (mkF m 83 #[vI p1, vI p2, vI p3, vR x1, vR x2, vR x8, vR x14, vR x18, vR x24, .unset, .unset, .unset, .unset] [])) rfl (hb hby at_83) (nle rfl) (nle rfl)
  have z30 : h26.size ≤ h29.size := E29.1
  have l29 : ltN x29 h29.size := A29.lt
  have F29_type : Fld Z h29 x29 "com/example/onegate/onegate/core/http/HttpResponse$Content" "type" "Ljava/lang/String;" .null := D29 (Or.inr (w50 C)) (ty := (.object "java/lang/String")) (by decide)
  have F29_bytes : Fld Z h29 x29 "com/example/onegate/onegate/core/http/HttpResponse$Content" "bytes" "[B" .null := D29 (Or.inr (w52 C)) (ty := (.array .byte)) (by decide)
  refine go (g' := (mkF m 86 #[vI p1, vI p2, vI p3, vR x1, vR x2, vR x8, vR x14, vR x18, vR x24, .unset, .unset, .unset, .unset] [(.ref x29)])) (st29) ?_
  refine go (g' := (mkF m 91 #[vI p1, vI p2, vI p3, vR x1, vR x2, vR x8, vR x14, vR x18, vR x24, .unset, .unset, .unset, .unset] [(.ref x24), (.ref x8), (.ref x29), (.ref x29)])) (fun _ k => XS.dup W29.here hx rfl (hb hby at_86) rfl rfl (XS.aload W29.here hx rfl (hb hby at_87) rfl rfl (XS.aload W29.here hx rfl (hb hby at_89) rfl rfl k))) ?_
  have X32 : Ext h20 h26 := own_xw X27 R26 (by omega)
  have X33 : Ext h20 h29 := own_xt X32 E29
  obtain ⟨v31, so31, vm31, T31, h31, W31, C31, q31, hso31, st31⟩ := own_special W29 hx (y := (⟨"com/example/onegate/onegate/core/http/HttpResponse$Content", "<init>", "(Ljava/lang/String;[B)V"⟩ : MethodName)) rfl (w40 C) (w41 C) (w39 C) (w42 C) (by decide) (rm_cont C h29 x29 (.ref x8) rfl (.ref x24) rfl F29_type F29_bytes A29 (by omega)) (fun _ q => nomatch q) (Wd := 1) (nle rfl) (nle rfl) (nle rfl) (nle rfl) (g := (mkF m 91 #[vI p1, vI p2, vI p3, vR x1, vR x2, vR x8, vR x14, vR x18, vR x24, .unset, .unset, .unset, .unset] [(.ref x24), (.ref x8), (.ref x29), (.ref x29)])) rfl (by rw [hml]; rfl) (a := x29) (argsL := [(.ref x8), (.ref x24)]) (rest := [(.ref x29)]) (lenOf pd_25 rfl) rfl rfl (nle rfl) (hb hby at_91)
  obtain ⟨rfl, K31, E31, F31_type, F31_bytes⟩ := q31
  have z34 : h29.size ≤ h31.size := K31.1
  have S31_x24 : Safe Z own_EL vm31 h31 x24 := C31.safe (olt (by omega)) (own_safeB W20 X33 (by omega))
  refine go (g' := (mkF m 94 #[vI p1, vI p2, vI p3, vR x1, vR x2, vR x8, vR x14, vR x18, vR x24, .unset, .unset, .unset, .unset] [(.ref x29)])) (st31) ?_
  refine go (g' := (mkF m 97 #[vI p1, vI p2, vI p3, vR x1, vR x2, vR x8, vR x14, vR x18, vR x24, vR x29, .unset, .unset, .unset] [(.int p1)])) (fun _ k => XS.astore W31.here hx rfl (hb hby at_94) rfl rfl (l' := #[vI p1, vI p2, vI p3, vR x1, vR x2, vR x8, vR x14, vR x18, vR x24, vR x29, .unset, .unset, .unset]) rfl (XS.iloadN W31.here hx rfl (hb hby at_96) rfl k)) ?_
  refine go (g' := (mkF m 99 #[vI p1, vI p2, vI p3, vR x1, vR x2, vR x8, vR x14, vR x18, vR x24, vR x29, .unset, .unset, .unset] [(.int (2147483647 : Int32)), (.int p1)])) (own_ldcI W31 hx (w53 C) (g := (mkF m 97 #[vI p1, vI p2, vI p3, vR x1, vR x2, vR x8, vR x14, vR x18, vR x24, vR x29, .unset, .unset, .unset] [(.int p1)])) rfl (hb hby at_97)) ?_
  refine go (g' := (mkF m 102 #[vI p1, vI p2, vI p3, vR x1, vR x2, vR x8, vR x14, vR x18, vR x24, vR x29, .unset, .unset, .unset] [(.int (6 : Int32)), (.int (p1 &&& (2147483647 : Int32)))])) (fun _ k => XS.iand W31.here hx rfl (hb hby at_99) rfl (XS.bipush W31.here hx rfl (hb hby at_100) k)) ?_
  refine go (g' := (mkF m 103 #[vI p1, vI p2, vI p3, vR x1, vR x2, vR x8, vR x14, vR x18, vR x24, vR x29, .unset, .unset, .unset] [(.int ((p1 &&& (2147483647 : Int32)) % (6 : Int32)))])) (own_irem W31 hx (g := (mkF m 102 #[vI p1, vI p2, vI p3, vR x1, vR x2, vR x8, vR x14, vR x18, vR x24, vR x29, .unset, .unset, .unset] [(.int (6 : Int32)), (.int (p1 &&& (2147483647 : Int32)))])) rfl (hb hby at_102) rfl (by decide)) ?_
  generalize ec35 : ((p1 &&& (2147483647 : Int32)) % (6 : Int32)) = c35
  refine go (g' := (mkF m 107 #[vI p1, vI p2, vI p3, vR x1, vR x2, vR x8, vR x14, vR x18, vR x24, vR x29, vI c35, .unset, .unset] [(.int c35)])) (fun _ k => XS.istore W31.here hx rfl (hb hby at_103) rfl (l' := #[vI p1, vI p2, vI p3, vR x1, vR x2, vR x8, vR x14, vR x18, vR x24, vR x29, vI c35, .unset, .unset]) rfl (XS.iload W31.here hx rfl (hb hby at_105) rfl k)) ?_
  by_cases kb36 : c35 = (0 : Int32)
  · refine go (g' := (mkF m 110 #[vI p1, vI p2, vI p3, vR x1, vR x2, vR x8, vR x14, vR x18, vR x24, vR x29, vI c35, .unset, .unset] [])) (fun _ k => XS.ifNo W31.here hx rfl (hb hby at_107) rfl ((if0 _ _).trans (teq kb36).2) k) ?_
    obtain ⟨x37, T37, h37, g37, W37, E37, A37, D37, U37, st37⟩ := own_new W31 hx (w54 C) (w55 C) (w56 C) (g := (mkF m 110 #[vI p1, vI p2, vI p3, vR x1, vR x2, vR x8, vR x14, vR x18, vR x24, vR x29, vI c35, .unset, .unset] [])) rfl (hb hby at_110) (nle rfl) (nle rfl)
    have z38 : h31.size ≤ h37.size := E37.1
    have l37 : ltN x37 h37.size := A37.lt
    have F37_cause : Fld Z h37 x37 "java/lang/Throwable" "cause" "Ljava/lang/Throwable;" .null := D37 (Or.inl (w79 C)) (ty := (.object "java/lang/Throwable")) (by decide)
    have F37_stackTrace : Fld Z h37 x37 "java/lang/Throwable" "stackTrace" "[Ljava/lang/StackTraceElement;" .null := D37 (Or.inl (w82 C)) (ty := (.array (.object "java/lang/StackTraceElement"))) (by decide)
    have F37_suppressedExceptions : Fld Z h37 x37 "java/lang/Throwable" "suppressedExceptions" "Ljava/util/List;" .null := D37 (Or.inl (w85 C)) (ty := (.object "java/util/List")) (by decide)
    have F37_detailMessage : Fld Z h37 x37 "java/lang/Throwable" "detailMessage" "Ljava/lang/String;" .null := D37 (Or.inl (w109 C)) (ty := (.object "java/lang/String")) (by decide)
    have F37_backtrace : Fld Z h37 x37 "java/lang/Throwable" "backtrace" "Ljava/lang/Object;" .null := D37 (Or.inl (w110 C)) (ty := (.object "java/lang/Object")) (by decide)
    have F37_depth : Fld Z h37 x37 "java/lang/Throwable" "depth" "I" vZ := D37 (Or.inl (w111 C)) (ty := .int) (by decide)
    have F37_status : Fld Z h37 x37 "com/example/onegate/onegate/gate/Answer" "status" "Lcom/example/onegate/onegate/core/http/HttpResponse$Status;" .null := D37 (Or.inr (w115 C)) (ty := (.object "com/example/onegate/onegate/core/http/HttpResponse$Status")) (by decide)
    have F37_content : Fld Z h37 x37 "com/example/onegate/onegate/gate/Answer" "content" "Lcom/example/onegate/onegate/core/http/HttpResponse$Content;" .null := D37 (Or.inr (w117 C)) (ty := (.object "com/example/onegate/onegate/core/http/HttpResponse$Content")) (by decide)
    have F37_report : Fld Z h37 x37 "com/example/onegate/onegate/gate/Answer" "report" "Ljava/lang/String;" .null := D37 (Or.inr (w119 C)) (ty := (.object "java/lang/String")) (by decide)
    have F37_line : Fld Z h37 x37 "com/example/onegate/onegate/gate/Answer" "line" "Lcom/example/onegate/onegate/gate/Answer$Line;" .null := D37 (Or.inr (w121 C)) (ty := (.object "com/example/onegate/onegate/gate/Answer$Line")) (by decide)
    refine go (g' := (mkF m 113 #[vI p1, vI p2, vI p3, vR x1, vR x2, vR x8, vR x14, vR x18, vR x24, vR x29, vI c35, .unset, .unset] [(.ref x37)])) (st37) ?_
    refine go (g' := (mkF m 119 #[vI p1, vI p2, vI p3, vR x1, vR x2, vR x8, vR x14, vR x18, vR x24, vR x29, vI c35, .unset, .unset] [(.ref x29), (.ref x8), (.ref x1), (.ref x37), (.ref x37)])) (fun _ k => XS.dup W37.here hx rfl (hb hby at_113) rfl rfl (XS.aloadN W37.here hx rfl (hb hby at_114) rfl rfl (XS.aload W37.here hx rfl (hb hby at_115) rfl rfl (XS.aload W37.here hx rfl (hb hby at_117) rfl rfl k)))) ?_
    have X40 : Ext h31 h37 := own_xt (own_xr h31) E37
    obtain ⟨v39, so39, vm39, T39, h39, W39, C39, q39, hso39, st39⟩ := own_special W37 hx (y := (⟨"com/example/onegate/onegate/gate/Answer", "<init>", "(Lcom/example/onegate/onegate/core/http/HttpResponse$Status;Ljava/lang/String;Lcom/example/onegate/onegate/core/http/HttpResponse$Content;)V"⟩ : MethodName)) rfl (w57 C) (w58 C) (w56 C) (w59 C) (by decide) (rm_ans3c C h37 lg lr lb Sg Sr Sb x37 A37 U37 F37_backtrace F37_cause F37_stackTrace F37_suppressedExceptions F37_detailMessage F37_status F37_content F37_report F37_line (by omega) (.ref x1) (.ref x8) (.ref x29) rfl rfl rfl) (fun _ q => nomatch q) (Wd := 1) (nle rfl) (nle rfl) (nle rfl) (nle rfl) (g := (mkF m 119 #[vI p1, vI p2, vI p3, vR x1, vR x2, vR x8, vR x14, vR x18, vR x24, vR x29, vI c35, .unset, .unset] [(.ref x29), (.ref x8), (.ref x1), (.ref x37), (.ref x37)])) rfl (by rw [hml]; rfl) (a := x37) (argsL := [(.ref x1), (.ref x8), (.ref x29)]) (rest := [(.ref x37)]) (lenOf pd_29 rfl) rfl rfl (nle rfl) (hb hby at_119)
    obtain ⟨rfl, K39, uc39, rc39, E39, F39_detailMessage, F39_status, F39_content, F39_line⟩ := q39
    have z41 : h37.size ≤ h39.size := K39.1
    have S39_x24 : Safe Z own_EL vm39 h39 x24 := C39.safe (olt (by omega)) (Safe.ext X40 W31.ch S31_x24)
    refine go (g' := (mkF m 122 #[vI p1, vI p2, vI p3, vR x1, vR x2, vR x8, vR x14, vR x18, vR x24, vR x29, vI c35, .unset, .unset] [(.ref x37)])) (st39) ?_
    refine go (g' := (mkF m 243 #[vI p1, vI p2, vI p3, vR x1, vR x2, vR x8, vR x14, vR x18, vR x24, vR x29, vI c35, vR x37, .val vZ] [(.ref x37)])) (fun _ k => XS.astore W39.here hx rfl (hb hby at_122) rfl rfl (l' := #[vI p1, vI p2, vI p3, vR x1, vR x2, vR x8, vR x14, vR x18, vR x24, vR x29, vI c35, vR x37, .unset]) rfl (XS.iconst W39.here hx rfl (hb hby at_124) (XS.istore W39.here hx rfl (hb hby at_125) rfl (l' := #[vI p1, vI p2, vI p3, vR x1, vR x2, vR x8, vR x14, vR x18, vR x24, vR x29, vI c35, vR x37, .val vZ]) rfl (XS.goto W39.here hx rfl (pc0 := 127) (pc' := 241) rfl (hb hby at_127) (by decide) (by decide) (XS.aload W39.here hx rfl (hb hby at_241) rfl rfl k))))) ?_
    obtain ⟨v42, so42, vm42, T42, h42, W42, C42, q42, hso42, st42⟩ := own_virtual W39 hx (w122 C) (w123 C) (w125 C) (w124 C) (w56 C) (w126 C) (by decide) (own_nf W39 (w125 C)) E39 (rm_bo0 C h39 lb Sb lg ngb x37 F39_line) (fun _ q => nomatch q) (Wd := 0) (nle rfl) (nle rfl) (nle rfl) (nle rfl) (g := (mkF m 243 #[vI p1, vI p2, vI p3, vR x1, vR x2, vR x8, vR x14, vR x18, vR x24, vR x29, vI c35, vR x37, .val vZ] [(.ref x37)])) rfl (by rw [hml]; rfl) (argsL := []) (rest := []) (lenOf pd_12 rfl) rfl rfl (nle rfl) (hb hby at_243)
    obtain ⟨rfl, rfl⟩ := q42
    have S42_x24 : Safe Z own_EL vm42 h39 x24 := C42.safe (olt (by omega)) S39_x24
    refine go (g' := (mkF m 246 #[vI p1, vI p2, vI p3, vR x1, vR x2, vR x8, vR x14, vR x18, vR x24, vR x29, vI c35, vR x37, .val vZ] [vZ])) (st42) ?_
    refine go (g' := (mkF m 256 #[vI p1, vI p2, vI p3, vR x1, vR x2, vR x8, vR x14, vR x18, vR x24, vR x29, vI c35, vR x37, .val vZ] [(.int (1 : Int32))])) (fun _ k => XS.iload W42.here hx rfl (hb hby at_246) rfl (XS.icmpNo W42.here hx rfl (hb hby at_248) rfl (teq ((by decide) : (0 : Int32) = (0 : Int32))).2 (XS.iconst W42.here hx rfl (hb hby at_251) (XS.goto W42.here hx rfl (pc0 := 252) (pc' := 256) rfl (hb hby at_252) (by decide) (by decide) k)))) ?_
    exact fin (v := some (.int (1 : Int32))) (so := []) W42 (nle rfl) (nle rfl) (rfl) (fun _ q => nomatch q) (fun q => nomatch q) (own_retI W42 hx hret (by decide) rfl (hb hby at_256))
  · refine go (g' := (mkF m 133 #[vI p1, vI p2, vI p3, vR x1, vR x2, vR x8, vR x14, vR x18, vR x24, vR x29, vI c35, .unset, .unset] [(.int (1 : Int32)), (.int c35)])) (fun _ k => XS.ifYes W31.here hx rfl (pc0 := 107) (pc' := 130) rfl (hb hby at_107) rfl ((if0 _ _).trans (feq kb36).2) (by decide) (by decide) (XS.iload W31.here hx rfl (hb hby at_130) rfl (XS.iconst W31.here hx rfl (hb hby at_132) k))) ?_
    by_cases kb43 : c35 = (1 : Int32)
    · refine go (g' := (mkF m 136 #[vI p1, vI p2, vI p3, vR x1, vR x2, vR x8, vR x14, vR x18, vR x24, vR x29, vI c35, .unset, .unset] [])) (fun _ k => XS.icmpNo W31.here hx rfl (hb hby at_133) rfl (teq kb43).2 k) ?_
      obtain ⟨x44, T44, h44, g44, W44, E44, A44, D44, U44, st44⟩ := own_new W31 hx (w54 C) (w55 C) (w56 C) (g := (mkF m 136 #[vI p1, vI p2, vI p3, vR x1, vR x2, vR x8, vR x14, vR x18, vR x24, vR x29, vI c35, .unset, .unset] [])) rfl (hb hby at_136) (nle rfl) (nle rfl)
      have z45 : h31.size ≤ h44.size := E44.1
      have l44 : ltN x44 h44.size := A44.lt
      have F44_cause : Fld Z h44 x44 "java/lang/Throwable" "cause" "Ljava/lang/Throwable;" .null := D44 (Or.inl (w79 C)) (ty := (.object "java/lang/Throwable")) (by decide)
      have F44_stackTrace : Fld Z h44 x44 "java/lang/Throwable" "stackTrace" "[Ljava/lang/StackTraceElement;" .null := D44 (Or.inl (w82 C)) (ty := (.array (.object "java/lang/StackTraceElement"))) (by decide)
      have F44_suppressedExceptions : Fld Z h44 x44 "java/lang/Throwable" "suppressedExceptions" "Ljava/util/List;" .null := D44 (Or.inl (w85 C)) (ty := (.object "java/util/List")) (by decide)
      have F44_detailMessage : Fld Z h44 x44 "java/lang/Throwable" "detailMessage" "Ljava/lang/String;" .null := D44 (Or.inl (w109 C)) (ty := (.object "java/lang/String")) (by decide)
      have F44_backtrace : Fld Z h44 x44 "java/lang/Throwable" "backtrace" "Ljava/lang/Object;" .null := D44 (Or.inl (w110 C)) (ty := (.object "java/lang/Object")) (by decide)
      have F44_depth : Fld Z h44 x44 "java/lang/Throwable" "depth" "I" vZ := D44 (Or.inl (w111 C)) (ty := .int) (by decide)
      have F44_status : Fld Z h44 x44 "com/example/onegate/onegate/gate/Answer" "status" "Lcom/example/onegate/onegate/core/http/HttpResponse$Status;" .null := D44 (Or.inr (w115 C)) (ty := (.object "com/example/onegate/onegate/core/http/HttpResponse$Status")) (by decide)
      have F44_content : Fld Z h44 x44 "com/example/onegate/onegate/gate/Answer" "content" "Lcom/example/onegate/onegate/core/http/HttpResponse$Content;" .null := D44 (Or.inr (w117 C)) (ty := (.object "com/example/onegate/onegate/core/http/HttpResponse$Content")) (by decide)
      have F44_report : Fld Z h44 x44 "com/example/onegate/onegate/gate/Answer" "report" "Ljava/lang/String;" .null := D44 (Or.inr (w119 C)) (ty := (.object "java/lang/String")) (by decide)
      have F44_line : Fld Z h44 x44 "com/example/onegate/onegate/gate/Answer" "line" "Lcom/example/onegate/onegate/gate/Answer$Line;" .null := D44 (Or.inr (w121 C)) (ty := (.object "com/example/onegate/onegate/gate/Answer$Line")) (by decide)
      refine go (g' := (mkF m 139 #[vI p1, vI p2, vI p3, vR x1, vR x2, vR x8, vR x14, vR x18, vR x24, vR x29, vI c35, .unset, .unset] [(.ref x44)])) (st44) ?_
      refine go (g' := (mkF m 143 #[vI p1, vI p2, vI p3, vR x1, vR x2, vR x8, vR x14, vR x18, vR x24, vR x29, vI c35, .unset, .unset] [(.ref x8), (.ref x1), (.ref x44), (.ref x44)])) (fun _ k => XS.dup W44.here hx rfl (hb hby at_139) rfl rfl (XS.aloadN W44.here hx rfl (hb hby at_140) rfl rfl (XS.aload W44.here hx rfl (hb hby at_141) rfl rfl k))) ?_
      have X47 : Ext h10 h14 := own_xt (own_xr h10) E14
      have X48 : Ext h10 h16 := own_xw X47 R16 (by omega)
      have X49 : Ext h10 h18 := own_xt X48 E18
      have X50 : Ext h10 h20 := own_xk X49 K20 (allS (by omega) all0)
      have X51 : Ext h10 h24 := own_xt X50 E24
      have X52 : Ext h10 h26 := own_xw X51 R26 (by omega)
      have X53 : Ext h10 h29 := own_xt X52 E29
      have X54 : Ext h10 h31 := own_xk X53 K31 (allS (by omega) all0)
      have X55 : Ext h10 h44 := own_xt X54 E44
      have f56 := S10.ext X55
      have X57 : Ext h31 h44 := own_xt (own_xr h31) E44
      obtain ⟨v46, so46, vm46, T46, h46, W46, C46, q46, hso46, st46⟩ := own_special W44 hx (y := (⟨"com/example/onegate/onegate/gate/Answer", "<init>", "(Lcom/example/onegate/onegate/core/http/HttpResponse$Status;Ljava/lang/String;)V"⟩ : MethodName)) rfl (w131 C) (w132 C) (w56 C) (w133 C) (by decide) (rm_ans2 C h44 lg lr lb Sg Sr Sb x44 A44 U44 F44_backtrace F44_cause F44_stackTrace F44_suppressedExceptions F44_detailMessage F44_status F44_content F44_report F44_line (by omega) (.ref x1) rfl x8 ((p3 &&& (255 : Int32)).toUInt32.toUInt16.toUInt32.toInt32) ((((p3.toUInt32 >>> ((8 : Int32) &&& 31).toUInt32).toInt32) &&& (255 : Int32)).toUInt32.toUInt16.toUInt32.toInt32) f56) (fun _ q => nomatch q) (Wd := 1) (nle rfl) (nle rfl) (nle rfl) (nle rfl) (g := (mkF m 143 #[vI p1, vI p2, vI p3, vR x1, vR x2, vR x8, vR x14, vR x18, vR x24, vR x29, vI c35, .unset, .unset] [(.ref x8), (.ref x1), (.ref x44), (.ref x44)])) rfl (by rw [hml]; rfl) (a := x44) (argsL := [(.ref x1), (.ref x8)]) (rest := [(.ref x44)]) (lenOf pd_30 rfl) rfl rfl (nle rfl) (hb hby at_143)
      obtain ⟨rfl, K46, uc46, rc46, E46, F46_detailMessage, F46_status, F46_content, F46_line⟩ := q46
      have z58 : h44.size ≤ h46.size := K46.1
      have S46_x24 : Safe Z own_EL vm46 h46 x24 := C46.safe (olt (by omega)) (Safe.ext X57 W31.ch S31_x24)
      refine go (g' := (mkF m 146 #[vI p1, vI p2, vI p3, vR x1, vR x2, vR x8, vR x14, vR x18, vR x24, vR x29, vI c35, .unset, .unset] [(.ref x44)])) (st46) ?_
      refine go (g' := (mkF m 243 #[vI p1, vI p2, vI p3, vR x1, vR x2, vR x8, vR x14, vR x18, vR x24, vR x29, vI c35, vR x44, .val vZ] [(.ref x44)])) (fun _ k => XS.astore W46.here hx rfl (hb hby at_146) rfl rfl (l' := #[vI p1, vI p2, vI p3, vR x1, vR x2, vR x8, vR x14, vR x18, vR x24, vR x29, vI c35, vR x44, .unset]) rfl (XS.iconst W46.here hx rfl (hb hby at_148) (XS.istore W46.here hx rfl (hb hby at_149) rfl (l' := #[vI p1, vI p2, vI p3, vR x1, vR x2, vR x8, vR x14, vR x18, vR x24, vR x29, vI c35, vR x44, .val vZ]) rfl (XS.goto W46.here hx rfl (pc0 := 151) (pc' := 241) rfl (hb hby at_151) (by decide) (by decide) (XS.aload W46.here hx rfl (hb hby at_241) rfl rfl k))))) ?_
      obtain ⟨v59, so59, vm59, T59, h59, W59, C59, q59, hso59, st59⟩ := own_virtual W46 hx (w122 C) (w123 C) (w125 C) (w124 C) (w56 C) (w126 C) (by decide) (own_nf W46 (w125 C)) E46 (rm_bo0 C h46 lb Sb lr nrb x44 F46_line) (fun _ q => nomatch q) (Wd := 0) (nle rfl) (nle rfl) (nle rfl) (nle rfl) (g := (mkF m 243 #[vI p1, vI p2, vI p3, vR x1, vR x2, vR x8, vR x14, vR x18, vR x24, vR x29, vI c35, vR x44, .val vZ] [(.ref x44)])) rfl (by rw [hml]; rfl) (argsL := []) (rest := []) (lenOf pd_12 rfl) rfl rfl (nle rfl) (hb hby at_243)
      obtain ⟨rfl, rfl⟩ := q59
      have S59_x24 : Safe Z own_EL vm59 h46 x24 := C59.safe (olt (by omega)) S46_x24
      refine go (g' := (mkF m 246 #[vI p1, vI p2, vI p3, vR x1, vR x2, vR x8, vR x14, vR x18, vR x24, vR x29, vI c35, vR x44, .val vZ] [vZ])) (st59) ?_
      refine go (g' := (mkF m 256 #[vI p1, vI p2, vI p3, vR x1, vR x2, vR x8, vR x14, vR x18, vR x24, vR x29, vI c35, vR x44, .val vZ] [(.int (1 : Int32))])) (fun _ k => XS.iload W59.here hx rfl (hb hby at_246) rfl (XS.icmpNo W59.here hx rfl (hb hby at_248) rfl (teq ((by decide) : (0 : Int32) = (0 : Int32))).2 (XS.iconst W59.here hx rfl (hb hby at_251) (XS.goto W59.here hx rfl (pc0 := 252) (pc' := 256) rfl (hb hby at_252) (by decide) (by decide) k)))) ?_
      exact fin (v := some (.int (1 : Int32))) (so := []) W59 (nle rfl) (nle rfl) (rfl) (fun _ q => nomatch q) (fun q => nomatch q) (own_retI W59 hx hret (by decide) rfl (hb hby at_256))
    · refine go (g' := (mkF m 157 #[vI p1, vI p2, vI p3, vR x1, vR x2, vR x8, vR x14, vR x18, vR x24, vR x29, vI c35, .unset, .unset] [(.int (2 : Int32)), (.int c35)])) (fun _ k => XS.icmpYes W31.here hx rfl (pc0 := 133) (pc' := 154) rfl (hb hby at_133) rfl (feq kb43).2 (by decide) (by decide) (XS.iload W31.here hx rfl (hb hby at_154) rfl (XS.iconst W31.here hx rfl (hb hby at_156) k))) ?_
      by_cases kb60 : c35 = (2 : Int32)
      · refine go (g' := (mkF m 160 #[vI p1, vI p2, vI p3, vR x1, vR x2, vR x8, vR x14, vR x18, vR x24, vR x29, vI c35, .unset, .unset] [])) (fun _ k => XS.icmpNo W31.here hx rfl (hb hby at_157) rfl (teq kb60).2 k) ?_
        obtain ⟨x61, T61, h61, g61, W61, E61, A61, D61, U61, st61⟩ := own_new W31 hx (w54 C) (w55 C) (w56 C) (g := (mkF m 160 #[vI p1, vI p2, vI p3, vR x1, vR x2, vR x8, vR x14, vR x18, vR x24, vR x29, vI c35, .unset, .unset] [])) rfl (hb hby at_160) (nle rfl) (nle rfl)
        have z62 : h31.size ≤ h61.size := E61.1
        have l61 : ltN x61 h61.size := A61.lt
        have F61_cause : Fld Z h61 x61 "java/lang/Throwable" "cause" "Ljava/lang/Throwable;" .null := D61 (Or.inl (w79 C)) (ty := (.object "java/lang/Throwable")) (by decide)
        have F61_stackTrace : Fld Z h61 x61 "java/lang/Throwable" "stackTrace" "[Ljava/lang/StackTraceElement;" .null := D61 (Or.inl (w82 C)) (ty := (.array (.object "java/lang/StackTraceElement"))) (by decide)
        have F61_suppressedExceptions : Fld Z h61 x61 "java/lang/Throwable" "suppressedExceptions" "Ljava/util/List;" .null := D61 (Or.inl (w85 C)) (ty := (.object "java/util/List")) (by decide)
        have F61_detailMessage : Fld Z h61 x61 "java/lang/Throwable" "detailMessage" "Ljava/lang/String;" .null := D61 (Or.inl (w109 C)) (ty := (.object "java/lang/String")) (by decide)
        have F61_backtrace : Fld Z h61 x61 "java/lang/Throwable" "backtrace" "Ljava/lang/Object;" .null := D61 (Or.inl (w110 C)) (ty := (.object "java/lang/Object")) (by decide)
        have F61_depth : Fld Z h61 x61 "java/lang/Throwable" "depth" "I" vZ := D61 (Or.inl (w111 C)) (ty := .int) (by decide)
        have F61_status : Fld Z h61 x61 "com/example/onegate/onegate/gate/Answer" "status" "Lcom/example/onegate/onegate/core/http/HttpResponse$Status;" .null := D61 (Or.inr (w115 C)) (ty := (.object "com/example/onegate/onegate/core/http/HttpResponse$Status")) (by decide)
        have F61_content : Fld Z h61 x61 "com/example/onegate/onegate/gate/Answer" "content" "Lcom/example/onegate/onegate/core/http/HttpResponse$Content;" .null := D61 (Or.inr (w117 C)) (ty := (.object "com/example/onegate/onegate/core/http/HttpResponse$Content")) (by decide)
        have F61_report : Fld Z h61 x61 "com/example/onegate/onegate/gate/Answer" "report" "Ljava/lang/String;" .null := D61 (Or.inr (w119 C)) (ty := (.object "java/lang/String")) (by decide)
        have F61_line : Fld Z h61 x61 "com/example/onegate/onegate/gate/Answer" "line" "Lcom/example/onegate/onegate/gate/Answer$Line;" .null := D61 (Or.inr (w121 C)) (ty := (.object "com/example/onegate/onegate/gate/Answer$Line")) (by decide)
        refine go (g' := (mkF m 163 #[vI p1, vI p2, vI p3, vR x1, vR x2, vR x8, vR x14, vR x18, vR x24, vR x29, vI c35, .unset, .unset] [(.ref x61)])) (st61) ?_
        refine go (g' := (mkF m 169 #[vI p1, vI p2, vI p3, vR x1, vR x2, vR x8, vR x14, vR x18, vR x24, vR x29, vI c35, .unset, .unset] [(.ref x18), (.ref x8), (.ref x1), (.ref x61), (.ref x61)])) (fun _ k => XS.dup W61.here hx rfl (hb hby at_163) rfl rfl (XS.aloadN W61.here hx rfl (hb hby at_164) rfl rfl (XS.aload W61.here hx rfl (hb hby at_165) rfl rfl (XS.aload W61.here hx rfl (hb hby at_167) rfl rfl k)))) ?_
        have X64 : Ext h10 h14 := own_xt (own_xr h10) E14
        have X65 : Ext h10 h16 := own_xw X64 R16 (by omega)
        have X66 : Ext h10 h18 := own_xt X65 E18
        have X67 : Ext h10 h20 := own_xk X66 K20 (allS (by omega) all0)
        have X68 : Ext h10 h24 := own_xt X67 E24
        have X69 : Ext h10 h26 := own_xw X68 R26 (by omega)
        have X70 : Ext h10 h29 := own_xt X69 E29
        have X71 : Ext h10 h31 := own_xk X70 K31 (allS (by omega) all0)
        have X72 : Ext h10 h61 := own_xt X71 E61
        have f73 := S10.ext X72
        have X74 : Ext h31 h61 := own_xt (own_xr h31) E61
        obtain ⟨v63, so63, vm63, T63, h63, W63, C63, q63, hso63, st63⟩ := own_special W61 hx (y := (⟨"com/example/onegate/onegate/gate/Answer", "<init>", "(Lcom/example/onegate/onegate/core/http/HttpResponse$Status;Ljava/lang/String;Ljava/lang/String;)V"⟩ : MethodName)) rfl (w288 C) (w289 C) (w56 C) (w290 C) (by decide) (rm_ans3s C h61 lg lr lb Sg Sr Sb x61 A61 U61 F61_backtrace F61_cause F61_stackTrace F61_suppressedExceptions F61_detailMessage F61_status F61_content F61_report F61_line (by omega) (.ref x1) (.ref x18) rfl rfl x8 ((p3 &&& (255 : Int32)).toUInt32.toUInt16.toUInt32.toInt32) ((((p3.toUInt32 >>> ((8 : Int32) &&& 31).toUInt32).toInt32) &&& (255 : Int32)).toUInt32.toUInt16.toUInt32.toInt32) f73) (fun _ q => nomatch q) (Wd := 1) (nle rfl) (nle rfl) (nle rfl) (nle rfl) (g := (mkF m 169 #[vI p1, vI p2, vI p3, vR x1, vR x2, vR x8, vR x14, vR x18, vR x24, vR x29, vI c35, .unset, .unset] [(.ref x18), (.ref x8), (.ref x1), (.ref x61), (.ref x61)])) rfl (by rw [hml]; rfl) (a := x61) (argsL := [(.ref x1), (.ref x8), (.ref x18)]) (rest := [(.ref x61)]) (lenOf pd_31 rfl) rfl rfl (nle rfl) (hb hby at_169)
        obtain ⟨rfl, K63, uc63, rc63, E63, F63_detailMessage, F63_status, F63_content, F63_line⟩ := q63
        have z75 : h61.size ≤ h63.size := K63.1
        have S63_x24 : Safe Z own_EL vm63 h63 x24 := C63.safe (olt (by omega)) (Safe.ext X74 W31.ch S31_x24)
        refine go (g' := (mkF m 172 #[vI p1, vI p2, vI p3, vR x1, vR x2, vR x8, vR x14, vR x18, vR x24, vR x29, vI c35, .unset, .unset] [(.ref x61)])) (st63) ?_
        refine go (g' := (mkF m 243 #[vI p1, vI p2, vI p3, vR x1, vR x2, vR x8, vR x14, vR x18, vR x24, vR x29, vI c35, vR x61, .val vZ] [(.ref x61)])) (fun _ k => XS.astore W63.here hx rfl (hb hby at_172) rfl rfl (l' := #[vI p1, vI p2, vI p3, vR x1, vR x2, vR x8, vR x14, vR x18, vR x24, vR x29, vI c35, vR x61, .unset]) rfl (XS.iconst W63.here hx rfl (hb hby at_174) (XS.istore W63.here hx rfl (hb hby at_175) rfl (l' := #[vI p1, vI p2, vI p3, vR x1, vR x2, vR x8, vR x14, vR x18, vR x24, vR x29, vI c35, vR x61, .val vZ]) rfl (XS.goto W63.here hx rfl (pc0 := 177) (pc' := 241) rfl (hb hby at_177) (by decide) (by decide) (XS.aload W63.here hx rfl (hb hby at_241) rfl rfl k))))) ?_
        obtain ⟨v76, so76, vm76, T76, h76, W76, C76, q76, hso76, st76⟩ := own_virtual W63 hx (w122 C) (w123 C) (w125 C) (w124 C) (w56 C) (w126 C) (by decide) (own_nf W63 (w125 C)) E63 (rm_bo0 C h63 lb Sb lg ngb x61 F63_line) (fun _ q => nomatch q) (Wd := 0) (nle rfl) (nle rfl) (nle rfl) (nle rfl) (g := (mkF m 243 #[vI p1, vI p2, vI p3, vR x1, vR x2, vR x8, vR x14, vR x18, vR x24, vR x29, vI c35, vR x61, .val vZ] [(.ref x61)])) rfl (by rw [hml]; rfl) (argsL := []) (rest := []) (lenOf pd_12 rfl) rfl rfl (nle rfl) (hb hby at_243)
        obtain ⟨rfl, rfl⟩ := q76
        have S76_x24 : Safe Z own_EL vm76 h63 x24 := C76.safe (olt (by omega)) S63_x24
        refine go (g' := (mkF m 246 #[vI p1, vI p2, vI p3, vR x1, vR x2, vR x8, vR x14, vR x18, vR x24, vR x29, vI c35, vR x61, .val vZ] [vZ])) (st76) ?_
        refine go (g' := (mkF m 256 #[vI p1, vI p2, vI p3, vR x1, vR x2, vR x8, vR x14, vR x18, vR x24, vR x29, vI c35, vR x61, .val vZ] [(.int (1 : Int32))])) (fun _ k => XS.iload W76.here hx rfl (hb hby at_246) rfl (XS.icmpNo W76.here hx rfl (hb hby at_248) rfl (teq ((by decide) : (0 : Int32) = (0 : Int32))).2 (XS.iconst W76.here hx rfl (hb hby at_251) (XS.goto W76.here hx rfl (pc0 := 252) (pc' := 256) rfl (hb hby at_252) (by decide) (by decide) k)))) ?_
        exact fin (v := some (.int (1 : Int32))) (so := []) W76 (nle rfl) (nle rfl) (rfl) (fun _ q => nomatch q) (fun q => nomatch q) (own_retI W76 hx hret (by decide) rfl (hb hby at_256))
      · refine go (g' := (mkF m 183 #[vI p1, vI p2, vI p3, vR x1, vR x2, vR x8, vR x14, vR x18, vR x24, vR x29, vI c35, .unset, .unset] [(.int (3 : Int32)), (.int c35)])) (fun _ k => XS.icmpYes W31.here hx rfl (pc0 := 157) (pc' := 180) rfl (hb hby at_157) rfl (feq kb60).2 (by decide) (by decide) (XS.iload W31.here hx rfl (hb hby at_180) rfl (XS.iconst W31.here hx rfl (hb hby at_182) k))) ?_
        by_cases kb77 : c35 = (3 : Int32)
        · refine go (g' := (mkF m 189 #[vI p1, vI p2, vI p3, vR x1, vR x2, vR x8, vR x14, vR x18, vR x24, vR x29, vI c35, .unset, .unset] [(.ref x8), (.ref x1)])) (fun _ k => XS.icmpNo W31.here hx rfl (hb hby at_183) rfl (teq kb77).2 (XS.aloadN W31.here hx rfl (hb hby at_186) rfl rfl (XS.aload W31.here hx rfl (hb hby at_187) rfl rfl k))) ?_
          have X79 : Ext h10 h14 := own_xt (own_xr h10) E14
          have X80 : Ext h10 h16 := own_xw X79 R16 (by omega)
          have X81 : Ext h10 h18 := own_xt X80 E18
          have X82 : Ext h10 h20 := own_xk X81 K20 (allS (by omega) all0)
          have X83 : Ext h10 h24 := own_xt X82 E24
          have X84 : Ext h10 h26 := own_xw X83 R26 (by omega)
          have X85 : Ext h10 h29 := own_xt X84 E29
          have X86 : Ext h10 h31 := own_xk X85 K31 (allS (by omega) all0)
          have f87 := S10.ext X86
          obtain ⟨v78, so78, vm78, T78, h78, W78, C78, q78, hso78, st78⟩ := own_static W31 hx (w315 C) (w316 C) (w56 C) (w317 C) (by decide) (rm_broken C h31 lg lr lb Sg Sr Sb (.ref x1) rfl x8 ((p3 &&& (255 : Int32)).toUInt32.toUInt16.toUInt32.toInt32) ((((p3.toUInt32 >>> ((8 : Int32) &&& 31).toUInt32).toInt32) &&& (255 : Int32)).toUInt32.toUInt16.toUInt32.toInt32) f87) (fun _ q => nomatch q) (Wd := 0) (nle rfl) (nle rfl) (nle rfl) (nle rfl) (g := (mkF m 189 #[vI p1, vI p2, vI p3, vR x1, vR x2, vR x8, vR x14, vR x18, vR x24, vR x29, vI c35, .unset, .unset] [(.ref x8), (.ref x1)])) rfl (by rw [hml]; rfl) (argsL := [(.ref x1), (.ref x8)]) (rest := []) (lenOf pd_32 rfl) rfl rfl (nle rfl) (hb hby at_189)
          obtain ⟨x78, uc78, rfl, X78, rc78, E78, F78_detailMessage, F78_status, F78_content, F78_line⟩ := q78
          have z88 : h31.size ≤ h78.size := X78.1
          have S78_x24 : Safe Z own_EL vm78 h78 x24 := C78.safe (olt (by omega)) S31_x24
          refine go (g' := (mkF m 192 #[vI p1, vI p2, vI p3, vR x1, vR x2, vR x8, vR x14, vR x18, vR x24, vR x29, vI c35, .unset, .unset] [(.ref x78)])) (st78) ?_
          refine go (g' := (mkF m 243 #[vI p1, vI p2, vI p3, vR x1, vR x2, vR x8, vR x14, vR x18, vR x24, vR x29, vI c35, vR x78, vI (1 : Int32)] [(.ref x78)])) (fun _ k => XS.astore W78.here hx rfl (hb hby at_192) rfl rfl (l' := #[vI p1, vI p2, vI p3, vR x1, vR x2, vR x8, vR x14, vR x18, vR x24, vR x29, vI c35, vR x78, .unset]) rfl (XS.iconst W78.here hx rfl (hb hby at_194) (XS.istore W78.here hx rfl (hb hby at_195) rfl (l' := #[vI p1, vI p2, vI p3, vR x1, vR x2, vR x8, vR x14, vR x18, vR x24, vR x29, vI c35, vR x78, vI (1 : Int32)]) rfl (XS.goto W78.here hx rfl (pc0 := 197) (pc' := 241) rfl (hb hby at_197) (by decide) (by decide) (XS.aload W78.here hx rfl (hb hby at_241) rfl rfl k))))) ?_
          obtain ⟨v89, so89, vm89, T89, h89, W89, C89, q89, hso89, st89⟩ := own_virtual W78 hx (w122 C) (w123 C) (w125 C) (w124 C) (w56 C) (w126 C) (by decide) (own_nf W78 (w125 C)) E78 (rm_bo1 C h78 lb Sb x78 F78_line) (fun _ q => nomatch q) (Wd := 0) (nle rfl) (nle rfl) (nle rfl) (nle rfl) (g := (mkF m 243 #[vI p1, vI p2, vI p3, vR x1, vR x2, vR x8, vR x14, vR x18, vR x24, vR x29, vI c35, vR x78, vI (1 : Int32)] [(.ref x78)])) rfl (by rw [hml]; rfl) (argsL := []) (rest := []) (lenOf pd_12 rfl) rfl rfl (nle rfl) (hb hby at_243)
          obtain ⟨rfl, rfl⟩ := q89
          have S89_x24 : Safe Z own_EL vm89 h78 x24 := C89.safe (olt (by omega)) S78_x24
          refine go (g' := (mkF m 246 #[vI p1, vI p2, vI p3, vR x1, vR x2, vR x8, vR x14, vR x18, vR x24, vR x29, vI c35, vR x78, vI (1 : Int32)] [(.int (1 : Int32))])) (st89) ?_
          refine go (g' := (mkF m 256 #[vI p1, vI p2, vI p3, vR x1, vR x2, vR x8, vR x14, vR x18, vR x24, vR x29, vI c35, vR x78, vI (1 : Int32)] [(.int (1 : Int32))])) (fun _ k => XS.iload W89.here hx rfl (hb hby at_246) rfl (XS.icmpNo W89.here hx rfl (hb hby at_248) rfl (teq ((by decide) : (1 : Int32) = (1 : Int32))).2 (XS.iconst W89.here hx rfl (hb hby at_251) (XS.goto W89.here hx rfl (pc0 := 252) (pc' := 256) rfl (hb hby at_252) (by decide) (by decide) k)))) ?_
          exact fin (v := some (.int (1 : Int32))) (so := []) W89 (nle rfl) (nle rfl) (rfl) (fun _ q => nomatch q) (fun q => nomatch q) (own_retI W89 hx hret (by decide) rfl (hb hby at_256))
        · refine go (g' := (mkF m 203 #[vI p1, vI p2, vI p3, vR x1, vR x2, vR x8, vR x14, vR x18, vR x24, vR x29, vI c35, .unset, .unset] [(.int (4 : Int32)), (.int c35)])) (fun _ k => XS.icmpYes W31.here hx rfl (pc0 := 183) (pc' := 200) rfl (hb hby at_183) rfl (feq kb77).2 (by decide) (by decide) (XS.iload W31.here hx rfl (hb hby at_200) rfl (XS.iconst W31.here hx rfl (hb hby at_202) k))) ?_
          by_cases kb90 : c35 = (4 : Int32)
          · refine go (g' := (mkF m 209 #[vI p1, vI p2, vI p3, vR x1, vR x2, vR x8, vR x14, vR x18, vR x24, vR x29, vI c35, .unset, .unset] [(.ref x8), (.ref x1)])) (fun _ k => XS.icmpNo W31.here hx rfl (hb hby at_203) rfl (teq kb90).2 (XS.aloadN W31.here hx rfl (hb hby at_206) rfl rfl (XS.aload W31.here hx rfl (hb hby at_207) rfl rfl k))) ?_
            have X92 : Ext h10 h14 := own_xt (own_xr h10) E14
            have X93 : Ext h10 h16 := own_xw X92 R16 (by omega)
            have X94 : Ext h10 h18 := own_xt X93 E18
            have X95 : Ext h10 h20 := own_xk X94 K20 (allS (by omega) all0)
            have X96 : Ext h10 h24 := own_xt X95 E24
            have X97 : Ext h10 h26 := own_xw X96 R26 (by omega)
            have X98 : Ext h10 h29 := own_xt X97 E29
            have X99 : Ext h10 h31 := own_xk X98 K31 (allS (by omega) all0)
            have f100 := S10.ext X99
            obtain ⟨v91, so91, vm91, T91, h91, W91, C91, q91, hso91, st91⟩ := own_static W31 hx (w315 C) (w316 C) (w56 C) (w317 C) (by decide) (rm_broken C h31 lg lr lb Sg Sr Sb (.ref x1) rfl x8 ((p3 &&& (255 : Int32)).toUInt32.toUInt16.toUInt32.toInt32) ((((p3.toUInt32 >>> ((8 : Int32) &&& 31).toUInt32).toInt32) &&& (255 : Int32)).toUInt32.toUInt16.toUInt32.toInt32) f100) (fun _ q => nomatch q) (Wd := 0) (nle rfl) (nle rfl) (nle rfl) (nle rfl) (g := (mkF m 209 #[vI p1, vI p2, vI p3, vR x1, vR x2, vR x8, vR x14, vR x18, vR x24, vR x29, vI c35, .unset, .unset] [(.ref x8), (.ref x1)])) rfl (by rw [hml]; rfl) (argsL := [(.ref x1), (.ref x8)]) (rest := []) (lenOf pd_32 rfl) rfl rfl (nle rfl) (hb hby at_209)
            obtain ⟨x91, uc91, rfl, X91, rc91, E91, F91_detailMessage, F91_status, F91_content, F91_line⟩ := q91
            have z101 : h31.size ≤ h91.size := X91.1
            have S91_x24 : Safe Z own_EL vm91 h91 x24 := C91.safe (olt (by omega)) S31_x24
            refine go (g' := (mkF m 212 #[vI p1, vI p2, vI p3, vR x1, vR x2, vR x8, vR x14, vR x18, vR x24, vR x29, vI c35, .unset, .unset] [(.ref x91)])) (st91) ?_
            obtain ⟨v102, so102, vm102, T102, h102, W102, C102, q102, hso102, st102⟩ := own_virtual W91 hx (w301 C) (w302 C) (w304 C) (w303 C) (w56 C) (w305 C) (by decide) (own_nf W91 (w304 C)) E91 (rm_again C h91 lg lr lb Sg Sr Sb x91 (.ref x1) (.ref x8) uc91 rfl rfl rc91 E91 F91_detailMessage F91_status F91_content) (fun _ q => nomatch q) (Wd := 0) (nle rfl) (nle rfl) (nle rfl) (nle rfl) (g := (mkF m 212 #[vI p1, vI p2, vI p3, vR x1, vR x2, vR x8, vR x14, vR x18, vR x24, vR x29, vI c35, .unset, .unset] [(.ref x91)])) rfl (by rw [hml]; rfl) (argsL := []) (rest := []) (lenOf pd_33 rfl) rfl rfl (nle rfl) (hb hby at_212)
            obtain ⟨y102, rfl, X102, A102, L102⟩ := q102
            have z103 : h91.size ≤ h102.size := X102.1
            have S102_x24 : Safe Z own_EL vm102 h102 x24 := C102.safe (olt (by omega)) S91_x24
            refine go (g' := (mkF m 215 #[vI p1, vI p2, vI p3, vR x1, vR x2, vR x8, vR x14, vR x18, vR x24, vR x29, vI c35, .unset, .unset] [(.ref y102)])) (st102) ?_
            refine go (g' := (mkF m 243 #[vI p1, vI p2, vI p3, vR x1, vR x2, vR x8, vR x14, vR x18, vR x24, vR x29, vI c35, vR y102, .val vZ] [(.ref y102)])) (fun _ k => XS.astore W102.here hx rfl (hb hby at_215) rfl rfl (l' := #[vI p1, vI p2, vI p3, vR x1, vR x2, vR x8, vR x14, vR x18, vR x24, vR x29, vI c35, vR y102, .unset]) rfl (XS.iconst W102.here hx rfl (hb hby at_217) (XS.istore W102.here hx rfl (hb hby at_218) rfl (l' := #[vI p1, vI p2, vI p3, vR x1, vR x2, vR x8, vR x14, vR x18, vR x24, vR x29, vI c35, vR y102, .val vZ]) rfl (XS.goto W102.here hx rfl (pc0 := 220) (pc' := 241) rfl (hb hby at_220) (by decide) (by decide) (XS.aload W102.here hx rfl (hb hby at_241) rfl rfl k))))) ?_
            obtain ⟨v104, so104, vm104, T104, h104, W104, C104, q104, hso104, st104⟩ := own_virtual W102 hx (w122 C) (w123 C) (w125 C) (w124 C) (w56 C) (w126 C) (by decide) (own_nf W102 (w125 C)) A102 (rm_bo0 C h102 lb Sb lg ngb y102 L102) (fun _ q => nomatch q) (Wd := 0) (nle rfl) (nle rfl) (nle rfl) (nle rfl) (g := (mkF m 243 #[vI p1, vI p2, vI p3, vR x1, vR x2, vR x8, vR x14, vR x18, vR x24, vR x29, vI c35, vR y102, .val vZ] [(.ref y102)])) rfl (by rw [hml]; rfl) (argsL := []) (rest := []) (lenOf pd_12 rfl) rfl rfl (nle rfl) (hb hby at_243)
            obtain ⟨rfl, rfl⟩ := q104
            have S104_x24 : Safe Z own_EL vm104 h102 x24 := C104.safe (olt (by omega)) S102_x24
            refine go (g' := (mkF m 246 #[vI p1, vI p2, vI p3, vR x1, vR x2, vR x8, vR x14, vR x18, vR x24, vR x29, vI c35, vR y102, .val vZ] [vZ])) (st104) ?_
            refine go (g' := (mkF m 256 #[vI p1, vI p2, vI p3, vR x1, vR x2, vR x8, vR x14, vR x18, vR x24, vR x29, vI c35, vR y102, .val vZ] [(.int (1 : Int32))])) (fun _ k => XS.iload W104.here hx rfl (hb hby at_246) rfl (XS.icmpNo W104.here hx rfl (hb hby at_248) rfl (teq ((by decide) : (0 : Int32) = (0 : Int32))).2 (XS.iconst W104.here hx rfl (hb hby at_251) (XS.goto W104.here hx rfl (pc0 := 252) (pc' := 256) rfl (hb hby at_252) (by decide) (by decide) k)))) ?_
            exact fin (v := some (.int (1 : Int32))) (so := []) W104 (nle rfl) (nle rfl) (rfl) (fun _ q => nomatch q) (fun q => nomatch q) (own_retI W104 hx hret (by decide) rfl (hb hby at_256))
          · refine go (g' := (mkF m 223 #[vI p1, vI p2, vI p3, vR x1, vR x2, vR x8, vR x14, vR x18, vR x24, vR x29, vI c35, .unset, .unset] [])) (fun _ k => XS.icmpYes W31.here hx rfl (pc0 := 203) (pc' := 223) rfl (hb hby at_203) rfl (feq kb90).2 (by decide) (by decide) k) ?_
            obtain ⟨x105, T105, h105, g105, W105, E105, A105, D105, U105, st105⟩ := own_new W31 hx (w54 C) (w55 C) (w56 C) (g := (mkF m 223 #[vI p1, vI p2, vI p3, vR x1, vR x2, vR x8, vR x14, vR x18, vR x24, vR x29, vI c35, .unset, .unset] [])) rfl (hb hby at_223) (nle rfl) (nle rfl)
            have z106 : h31.size ≤ h105.size := E105.1
            have l105 : ltN x105 h105.size := A105.lt
            have F105_cause : Fld Z h105 x105 "java/lang/Throwable" "cause" "Ljava/lang/Throwable;" .null := D105 (Or.inl (w79 C)) (ty := (.object "java/lang/Throwable")) (by decide)
            have F105_stackTrace : Fld Z h105 x105 "java/lang/Throwable" "stackTrace" "[Ljava/lang/StackTraceElement;" .null := D105 (Or.inl (w82 C)) (ty := (.array (.object "java/lang/StackTraceElement"))) (by decide)
            have F105_suppressedExceptions : Fld Z h105 x105 "java/lang/Throwable" "suppressedExceptions" "Ljava/util/List;" .null := D105 (Or.inl (w85 C)) (ty := (.object "java/util/List")) (by decide)
            have F105_detailMessage : Fld Z h105 x105 "java/lang/Throwable" "detailMessage" "Ljava/lang/String;" .null := D105 (Or.inl (w109 C)) (ty := (.object "java/lang/String")) (by decide)
            have F105_backtrace : Fld Z h105 x105 "java/lang/Throwable" "backtrace" "Ljava/lang/Object;" .null := D105 (Or.inl (w110 C)) (ty := (.object "java/lang/Object")) (by decide)
            have F105_depth : Fld Z h105 x105 "java/lang/Throwable" "depth" "I" vZ := D105 (Or.inl (w111 C)) (ty := .int) (by decide)
            have F105_status : Fld Z h105 x105 "com/example/onegate/onegate/gate/Answer" "status" "Lcom/example/onegate/onegate/core/http/HttpResponse$Status;" .null := D105 (Or.inr (w115 C)) (ty := (.object "com/example/onegate/onegate/core/http/HttpResponse$Status")) (by decide)
            have F105_content : Fld Z h105 x105 "com/example/onegate/onegate/gate/Answer" "content" "Lcom/example/onegate/onegate/core/http/HttpResponse$Content;" .null := D105 (Or.inr (w117 C)) (ty := (.object "com/example/onegate/onegate/core/http/HttpResponse$Content")) (by decide)
            have F105_report : Fld Z h105 x105 "com/example/onegate/onegate/gate/Answer" "report" "Ljava/lang/String;" .null := D105 (Or.inr (w119 C)) (ty := (.object "java/lang/String")) (by decide)
            have F105_line : Fld Z h105 x105 "com/example/onegate/onegate/gate/Answer" "line" "Lcom/example/onegate/onegate/gate/Answer$Line;" .null := D105 (Or.inr (w121 C)) (ty := (.object "com/example/onegate/onegate/gate/Answer$Line")) (by decide)
            refine go (g' := (mkF m 226 #[vI p1, vI p2, vI p3, vR x1, vR x2, vR x8, vR x14, vR x18, vR x24, vR x29, vI c35, .unset, .unset] [(.ref x105)])) (st105) ?_
            refine go (g' := (mkF m 230 #[vI p1, vI p2, vI p3, vR x1, vR x2, vR x8, vR x14, vR x18, vR x24, vR x29, vI c35, .unset, .unset] [(.ref x8), (.ref x1), (.ref x105), (.ref x105)])) (fun _ k => XS.dup W105.here hx rfl (hb hby at_226) rfl rfl (XS.aloadN W105.here hx rfl (hb hby at_227) rfl rfl (XS.aload W105.here hx rfl (hb hby at_228) rfl rfl k))) ?_
            have X108 : Ext h10 h14 := own_xt (own_xr h10) E14
            have X109 : Ext h10 h16 := own_xw X108 R16 (by omega)
            have X110 : Ext h10 h18 := own_xt X109 E18
            have X111 : Ext h10 h20 := own_xk X110 K20 (allS (by omega) all0)
            have X112 : Ext h10 h24 := own_xt X111 E24
            have X113 : Ext h10 h26 := own_xw X112 R26 (by omega)
            have X114 : Ext h10 h29 := own_xt X113 E29
            have X115 : Ext h10 h31 := own_xk X114 K31 (allS (by omega) all0)
            have X116 : Ext h10 h105 := own_xt X115 E105
            have f117 := S10.ext X116
            have X118 : Ext h31 h105 := own_xt (own_xr h31) E105
            obtain ⟨v107, so107, vm107, T107, h107, W107, C107, q107, hso107, st107⟩ := own_special W105 hx (y := (⟨"com/example/onegate/onegate/gate/Answer", "<init>", "(Lcom/example/onegate/onegate/core/http/HttpResponse$Status;Ljava/lang/String;)V"⟩ : MethodName)) rfl (w131 C) (w132 C) (w56 C) (w133 C) (by decide) (rm_ans2 C h105 lg lr lb Sg Sr Sb x105 A105 U105 F105_backtrace F105_cause F105_stackTrace F105_suppressedExceptions F105_detailMessage F105_status F105_content F105_report F105_line (by omega) (.ref x1) rfl x8 ((p3 &&& (255 : Int32)).toUInt32.toUInt16.toUInt32.toInt32) ((((p3.toUInt32 >>> ((8 : Int32) &&& 31).toUInt32).toInt32) &&& (255 : Int32)).toUInt32.toUInt16.toUInt32.toInt32) f117) (fun _ q => nomatch q) (Wd := 1) (nle rfl) (nle rfl) (nle rfl) (nle rfl) (g := (mkF m 230 #[vI p1, vI p2, vI p3, vR x1, vR x2, vR x8, vR x14, vR x18, vR x24, vR x29, vI c35, .unset, .unset] [(.ref x8), (.ref x1), (.ref x105), (.ref x105)])) rfl (by rw [hml]; rfl) (a := x105) (argsL := [(.ref x1), (.ref x8)]) (rest := [(.ref x105)]) (lenOf pd_30 rfl) rfl rfl (nle rfl) (hb hby at_230)
            obtain ⟨rfl, K107, uc107, rc107, E107, F107_detailMessage, F107_status, F107_content, F107_line⟩ := q107
            have z119 : h105.size ≤ h107.size := K107.1
            have S107_x24 : Safe Z own_EL vm107 h107 x24 := C107.safe (olt (by omega)) (Safe.ext X118 W31.ch S31_x24)
            refine go (g' := (mkF m 233 #[vI p1, vI p2, vI p3, vR x1, vR x2, vR x8, vR x14, vR x18, vR x24, vR x29, vI c35, .unset, .unset] [(.ref x105)])) (st107) ?_
            obtain ⟨v120, so120, vm120, T120, h120, W120, C120, q120, hso120, st120⟩ := own_virtual W107 hx (w301 C) (w302 C) (w304 C) (w303 C) (w56 C) (w305 C) (by decide) (own_nf W107 (w304 C)) E107 (rm_again C h107 lg lr lb Sg Sr Sb x105 (.ref x1) (.ref x8) uc107 rfl rfl rc107 E107 F107_detailMessage F107_status F107_content) (fun _ q => nomatch q) (Wd := 0) (nle rfl) (nle rfl) (nle rfl) (nle rfl) (g := (mkF m 233 #[vI p1, vI p2, vI p3, vR x1, vR x2, vR x8, vR x14, vR x18, vR x24, vR x29, vI c35, .unset, .unset] [(.ref x105)])) rfl (by rw [hml]; rfl) (argsL := []) (rest := []) (lenOf pd_33 rfl) rfl rfl (nle rfl) (hb hby at_233)
            obtain ⟨y120, rfl, X120, A120, L120⟩ := q120
            have z121 : h107.size ≤ h120.size := X120.1
            have S120_x24 : Safe Z own_EL vm120 h120 x24 := C120.safe (olt (by omega)) S107_x24
            refine go (g' := (mkF m 236 #[vI p1, vI p2, vI p3, vR x1, vR x2, vR x8, vR x14, vR x18, vR x24, vR x29, vI c35, .unset, .unset] [(.ref y120)])) (st120) ?_
            refine go (g' := (mkF m 243 #[vI p1, vI p2, vI p3, vR x1, vR x2, vR x8, vR x14, vR x18, vR x24, vR x29, vI c35, vR y120, .val vZ] [(.ref y120)])) (fun _ k => XS.astore W120.here hx rfl (hb hby at_236) rfl rfl (l' := #[vI p1, vI p2, vI p3, vR x1, vR x2, vR x8, vR x14, vR x18, vR x24, vR x29, vI c35, vR y120, .unset]) rfl (XS.iconst W120.here hx rfl (hb hby at_238) (XS.istore W120.here hx rfl (hb hby at_239) rfl (l' := #[vI p1, vI p2, vI p3, vR x1, vR x2, vR x8, vR x14, vR x18, vR x24, vR x29, vI c35, vR y120, .val vZ]) rfl (XS.aload W120.here hx rfl (hb hby at_241) rfl rfl k)))) ?_
            obtain ⟨v122, so122, vm122, T122, h122, W122, C122, q122, hso122, st122⟩ := own_virtual W120 hx (w122 C) (w123 C) (w125 C) (w124 C) (w56 C) (w126 C) (by decide) (own_nf W120 (w125 C)) A120 (rm_bo0 C h120 lb Sb lg ngb y120 L120) (fun _ q => nomatch q) (Wd := 0) (nle rfl) (nle rfl) (nle rfl) (nle rfl) (g := (mkF m 243 #[vI p1, vI p2, vI p3, vR x1, vR x2, vR x8, vR x14, vR x18, vR x24, vR x29, vI c35, vR y120, .val vZ] [(.ref y120)])) rfl (by rw [hml]; rfl) (argsL := []) (rest := []) (lenOf pd_12 rfl) rfl rfl (nle rfl) (hb hby at_243)
            obtain ⟨rfl, rfl⟩ := q122
            have S122_x24 : Safe Z own_EL vm122 h120 x24 := C122.safe (olt (by omega)) S120_x24
            refine go (g' := (mkF m 246 #[vI p1, vI p2, vI p3, vR x1, vR x2, vR x8, vR x14, vR x18, vR x24, vR x29, vI c35, vR y120, .val vZ] [vZ])) (st122) ?_
            refine go (g' := (mkF m 256 #[vI p1, vI p2, vI p3, vR x1, vR x2, vR x8, vR x14, vR x18, vR x24, vR x29, vI c35, vR y120, .val vZ] [(.int (1 : Int32))])) (fun _ k => XS.iload W122.here hx rfl (hb hby at_246) rfl (XS.icmpNo W122.here hx rfl (hb hby at_248) rfl (teq ((by decide) : (0 : Int32) = (0 : Int32))).2 (XS.iconst W122.here hx rfl (hb hby at_251) (XS.goto W122.here hx rfl (pc0 := 252) (pc' := 256) rfl (hb hby at_252) (by decide) (by decide) k)))) ?_
            exact fin (v := some (.int (1 : Int32))) (so := []) W122 (nle rfl) (nle rfl) (rfl) (fun _ q => nomatch q) (fun q => nomatch q) (own_retI W122 hx hret (by decide) rfl (hb hby at_256))
end OwnWalks
set_option maxRecDepth 65536 in
set_option maxHeartbeats 40000000 in
theorem comes_1 {Post : Tables → Env → Array Value → State → Outcome → State → Prop} (hpost : ∀ tb e args s v u, (limb_1_1.after args s (.returned v) u = true ∧ limb_1_2.after args s (.returned v) u = true ∧ True) → ReturnedEndW s (.returned v) u (Jvm.fieldLocs frame_1_writes args s ++ Jvm.arrayLocs frame_1_arrays args s ++ Jvm.staticLocs frame_1_statics s) 56 13312 → Post tb e args s (.returned v) u) :
    ArmFor flags0 classFile x code maxLocals ret World_1 tables_1 room_1 Calls_1 rest_1 Pre_1 Post := by
  intro l hfl _ _ p e ha hc hk s m args below hf hA hF happ hP
  obtain ⟨hcalls, hrest, hpre⟩ := hP
  obtain ⟨-, -, -, hnamed, -, -, -, hat⟩ := (Spec.applies_iff hf).mp happ
  obtain ⟨hg, hn⟩ := and_e (Cond.before_iff.mp (show (Jvm.Cond.and given_1 narrow_1).before args s = true from hpre))
  obtain ⟨gg1, gg2⟩ := and_e hg
  obtain ⟨gg3, gg4⟩ := and_e gg2
  obtain ⟨gg5, gg6⟩ := and_e gg4
  obtain ⟨gg7, gg8⟩ := and_e hn
  obtain ⟨gg9, gg10⟩ := and_e gg8
  obtain ⟨gg11, gg12⟩ := and_e gg10
  obtain ⟨gg13, gg14⟩ := and_e gg12
  obtain ⟨gg15, gg16⟩ := and_e gg14
  obtain ⟨gg17, gg18⟩ := and_e gg16
  obtain ⟨gg19, gg20⟩ := and_e gg18
  obtain ⟨gg21, gg22⟩ := and_e gg20
  obtain ⟨gg23, gg24⟩ := and_e gg22
  obtain ⟨w0, w1, w2, rfl⟩ : ∃ w0 w1 w2 : Value, args = #[w0, w1, w2] := by
    have hs : args.size = 3 := by simpa [Cond.value, given_1] using gg1
    obtain ⟨L⟩ := args
    match L, hs with
    | [w0, w1, w2], _ => exact ⟨w0, w1, w2, rfl⟩
  have hw := fun d (hd : d ∈ tables_1) => atoms_spec (ws := Jvm.Cond.code x code maxLocals ret :: tables_1) hat d (List.mem_cons_of_mem _ hd)
  obtain ⟨hsets, hown0⟩ := atoms_of _ (rest_1_c_eq ▸ (show rest_1_c.before _ s = true from hrest))
  have n3 := not_v (Cond.before_iff.mp (hsets _ (List.mem_of_getElem? (i := 2) rfl)))
  obtain ⟨i0, ei0⟩ := is_v gg3
  obtain rfl : w0 = (.int i0) := Option.some.inj ei0
  obtain ⟨i1, ei1⟩ := is_v gg5
  obtain rfl : w1 = (.int i1) := Option.some.inj ei1
  obtain ⟨i2, ei2⟩ := is_v gg6
  obtain rfl : w2 = (.int i2) := Option.some.inj ei2
  obtain ⟨gz, egz⟩ := is_v (Cond.before_iff.mp (hsets _ (List.mem_of_getElem? (i := 1) rfl)))
  have S8 : Sta s s.heap "java/lang/String" "COMPACT_STRINGS" "Z" (.int gz) := Sta.start egz (Or.inl (hsets _ (List.mem_of_getElem? (i := 0) rfl)))
  obtain ⟨gf, egf, rgf⟩ := isR_v (Cond.before_iff.mp (hsets _ (List.mem_of_getElem? (i := 8) rfl)))
  have S12 : Sta s s.heap "jdk/internal/util/Preconditions" "SIOOBE_FORMATTER" "Ljava/util/function/BiFunction;" gf := Sta.start egf (Or.inl (hsets _ (List.mem_of_getElem? (i := 7) rfl)))
  have c13 : ¬ (gz = (0 : Int32)) := gotF (Cond.eq_ints egz (Term.int_eval (0))) n3
  have hEW : EW s #[(.int i0), (.int i1), (.int i2)] own_EL := (EW.cons (hw _ (List.mem_of_getElem? (i := 138) rfl)) (by decide +kernel) (EW.cons (hw _ (List.mem_of_getElem? (i := 206) rfl)) (by decide +kernel) EW.nil))
  obtain ⟨sx0, se0⟩ := exa_v gg17
  have ss0 : Sta s s.heap "com/example/onegate/onegate/core/http/HttpResponse$Status" "OK" "Lcom/example/onegate/onegate/core/http/HttpResponse$Status;" (.ref sx0) := Sta.start se0 (Or.inr ⟨hw _ (List.mem_of_getElem? (i := 5) rfl), hw _ (List.mem_of_getElem? (i := 130) rfl)⟩)
  obtain ⟨sx1, se1⟩ := exa_v gg24
  have ss1 : Sta s s.heap "com/example/onegate/onegate/core/http/HttpResponse$Status" "BAD_REQUEST" "Lcom/example/onegate/onegate/core/http/HttpResponse$Status;" (.ref sx1) := Sta.start se1 (Or.inr ⟨hw _ (List.mem_of_getElem? (i := 5) rfl), hw _ (List.mem_of_getElem? (i := 314) rfl)⟩)
  obtain ⟨sx2, se2⟩ := exa_v gg23
  have ss2 : Sta s s.heap "com/example/onegate/onegate/core/http/HttpResponse$Status" "FORBIDDEN" "Lcom/example/onegate/onegate/core/http/HttpResponse$Status;" (.ref sx2) := Sta.start se2 (Or.inr ⟨hw _ (List.mem_of_getElem? (i := 5) rfl), hw _ (List.mem_of_getElem? (i := 287) rfl)⟩)
  obtain ⟨sx3, se3⟩ := exa_v gg7
  have ss3 : Sta s s.heap "com/example/onegate/onegate/core/http/HttpResponse$Status" "BAD_GATEWAY" "Lcom/example/onegate/onegate/core/http/HttpResponse$Status;" (.ref sx3) := Sta.start se3 (Or.inr ⟨hw _ (List.mem_of_getElem? (i := 5) rfl), hw _ (List.mem_of_getElem? (i := 6) rfl)⟩)
  obtain ⟨sxl0, sel0⟩ := exa_v gg9
  have ssl0 : Sta s s.heap "com/example/onegate/onegate/gate/Answer$Line" "GIVEN" "Lcom/example/onegate/onegate/gate/Answer$Line;" (.ref sxl0) := Sta.start sel0 (Or.inr ⟨hw _ (List.mem_of_getElem? (i := 61) rfl), hw _ (List.mem_of_getElem? (i := 62) rfl)⟩)
  have el0 := (fld_at sel0).symm.trans (eqv_i (Term.int_eval (0)) gg13)
  obtain ⟨sxl1, sel1⟩ := exa_v gg19
  have ssl1 : Sta s s.heap "com/example/onegate/onegate/gate/Answer$Line" "REFUSED" "Lcom/example/onegate/onegate/gate/Answer$Line;" (.ref sxl1) := Sta.start sel1 (Or.inr ⟨hw _ (List.mem_of_getElem? (i := 61) rfl), hw _ (List.mem_of_getElem? (i := 285) rfl)⟩)
  have el1 := (fld_at sel1).symm.trans (eqv_i (Term.int_eval (1)) gg21)
  obtain ⟨sxl2, sel2⟩ := exa_v gg11
  have ssl2 : Sta s s.heap "com/example/onegate/onegate/gate/Answer$Line" "BROKEN_OFF" "Lcom/example/onegate/onegate/gate/Answer$Line;" (.ref sxl2) := Sta.start sel2 (Or.inr ⟨hw _ (List.mem_of_getElem? (i := 61) rfl), hw _ (List.mem_of_getElem? (i := 128) rfl)⟩)
  have el2 := (fld_at sel2).symm.trans (eqv_i (Term.int_eval (2)) gg15)
  have nl0 : sxl0 ≠ sxl2 := fun q => by rw [q] at el0; have z := Option.some.inj (el0.symm.trans el2); injection z with z; exact absurd z (by decide)
  have nl1 : sxl1 ≠ sxl2 := fun q => by rw [q] at el1; have z := Option.some.inj (el1.symm.trans el2); injection z with z; exact absurd z (by decide)
  obtain ⟨su, seu⟩ := exa_v (Cond.before_iff.mp (hsets _ (List.mem_of_getElem? (i := 34) rfl)))
  obtain ⟨si, sei⟩ := exa_v (Cond.before_iff.mp (hsets _ (List.mem_of_getElem? (i := 37) rfl)))
  have eui : su = si := own_eqr seu sei (Cond.before_iff.mp (hsets _ (List.mem_of_getElem? (i := 33) rfl)))
  subst eui
  have Su8 : Sta s s.heap "java/nio/charset/StandardCharsets" "UTF_8" "Ljava/nio/charset/Charset;" (.ref su) := Sta.start seu (Or.inl (hsets _ (List.mem_of_getElem? (i := 30) rfl)))
  have Si8 : Sta s s.heap "sun/nio/cs/UTF_8" "INSTANCE" "Lsun/nio/cs/UTF_8;" (.ref su) := Sta.start sei (Or.inl (hsets _ (List.mem_of_getElem? (i := 32) rfl)))
  obtain ⟨sxu, seus⟩ := arr_v (Cond.before_iff.mp (hsets _ (List.mem_of_getElem? (i := 17) rfl)))
  have ssu : Sta s s.heap "java/lang/Throwable" "UNASSIGNED_STACK" "[Ljava/lang/StackTraceElement;" (.ref sxu) := Sta.start seus (Or.inl (hsets _ (List.mem_of_getElem? (i := 15) rfl)))
  obtain ⟨sxs, sess⟩ := exa_v (Cond.before_iff.mp (hsets _ (List.mem_of_getElem? (i := 22) rfl)))
  have sss : Sta s s.heap "java/lang/Throwable" "SUPPRESSED_SENTINEL" "Ljava/util/List;" (.ref sxs) := Sta.start sess (Or.inl (hsets _ (List.mem_of_getElem? (i := 20) rfl)))
  have CX : Cx s _ := ⟨hw, hEW, ⟨gz, S8, c13⟩, ⟨gf, S12, rgf⟩, ⟨sx0, ss0⟩, ⟨sx1, ss1⟩, ⟨sx2, ss2⟩, ⟨sx3, ss3⟩, ⟨sxl0, sxl1, sxl2, ssl0, ssl1, ssl2, nl0, nl1⟩, ⟨su, Su8, Si8⟩, ⟨sxu, ssu⟩, ⟨sxs, sss⟩⟩
  have hCH : CHv s own_EL s.vm s.heap := CHv.start hEW (fun p hp => hcalls.2.2.1 p hp) (hsets _ (List.mem_of_getElem? (i := 2) rfl)) (hw _ (List.mem_of_getElem? (i := 26) rfl)) (hw _ (List.mem_of_getElem? (i := 9) rfl))
  obtain ⟨n, o, h1, h2, h3, v, L, so, rfl, hQ, N, -, -, -, hq⟩ := rm0 (l := l) CX s.heap i0 i1 i2 (own_xr _) (by unfold Launch.stackTraces; rw [hfl]; decide) p e ha hc hk s m _ below hf ((Spec.applies_iff_loose hf).mp happ).1 ⟨rfl, State.Warmed39.refl s, rfl, hCH, fun _ q => nomatch q⟩ ⟨Jvm.MethodsKnown_of_tablesKnown hcalls.2.1, Jvm.FramesKnown_of_framesKnown hcalls.1 hf⟩
  subst hQ
  refine ⟨n, _, h1, h2, h3, hpost _ _ _ _ _ _ ⟨Cond.after_iff.mpr rfl, Cond.after_iff.mpr (eq_i res_at (Term.int_eval (1)) rfl), trivial⟩ ⟨hq.1, hq.2.1, hq.2.2.1, (hq.2.2.2.sift fun y hy => Or.inr (N y hy)).mono (by decide) (by decide)⟩⟩
theorem main_1_1 : Claimed_1_1 := comes_1 fun _ _ _ _ _ _ h hF => ⟨h.1, hF⟩
theorem main_1_2 : Claimed_1_2 := comes_1 fun _ _ _ _ _ _ h hF => ⟨h.2.1, hF⟩
end Jvm.Pilot.@@N@@
namespace Jvm.Pilot.@@N@@
open Jvm Jvm.ClassFile Sem Op Lib Jvm.Free Jvm.Stand Jvm.Pilot.@@N@@.Jvm.D
/-! MADE BY PROGRAM (witnessworld.py) out of the Statement's table words and the real class files: 52 classes; the members and pool entries that the words name. The judged class is class 1, her method 2. -/
namespace start1
open Jvm.ClassFile
def u (s : String) : CpInfo := .utf8 (stringToUtf16 s)
/-- a pool by its gaps: so many unusable entries, then the entry; so many at the end -/
def gap : Nat → List CpInfo → List CpInfo
  | 0, r => r
  | n + 1, r => .unusable :: gap n r
def poolList (es : List (Nat × CpInfo)) (last : Nat) : List CpInfo := es.foldr (fun e r => gap e.1 (e.2 :: r)) (gap last [])
def pool (es : List (Nat × CpInfo)) (last : Nat) : Array CpInfo := ⟨poolList es last⟩
def fileOf (pool : Array CpInfo) (this : Nat) (attrs : Array Attribute := #[]) (ms : Array MethodInfo := #[]) (fl : Nat := 33) (sup : Nat := 0) (ifs : Array Nat := #[]) (fds : Array FieldInfo := #[]) : ClassFile where
  minorVersion := 0
  majorVersion := 65
  constantPool := pool
  accessFlags := fl
  thisClass := this
  superClass := sup
  interfaces := ifs
  fields := fds
  methods := ms
  attributes := attrs
def plain (name : String) (sup : Option ClassId) : Class where
  name := name
  kind := .ordinary
  loader := none
  accessFlags := 33
  super := sup
  interfaces := #[]
  cf := none
  fields := #[]
  methods := #[]
  instanceTypes := #[]
  staticTypes := #[]
  resolved := #[]
  callSites := []
  init := .initialized
  statics := none
  mirror := none

def pool0 : Array CpInfo := pool [(5, u "<init>"), (0, u "()V"), (1, .class_ 10), (1, u "java/lang/Object"), (85, u "clone"), (0, u "()Ljava/lang/Object;")] 26

def k0c0 : Code := { maxStack := 0, maxLocals := 1, code := object_method_1_code, exceptionTable := #[], attributes := #[] }
def k0m0 : Method := { name := "<init>", desc := "()V", sig := { parameters := [], returnType := none }, accessFlags := 1, code := some k0c0 }
def k0m1 : Method := { name := "clone", desc := "()Ljava/lang/Object;", sig := { parameters := [], returnType := some (.object "java/lang/Object") }, accessFlags := 260, code := none }
/-- java/lang/Object -/
def k0 : Class := { plain "java/lang/Object" none with
  accessFlags := 33
  interfaces := #[]
  cf := some (fileOf pool0 8 #[] #[{ accessFlags := 1, nameIndex := 5, descriptorIndex := 6, attributes := #[] }, { accessFlags := 260, nameIndex := 96, descriptorIndex := 97, attributes := #[] }] 33 0 #[] #[])
  fields := #[]
  methods := #[k0m0, k0m1]
  instanceTypes := #[]
  staticTypes := #[]
  resolved := Array.replicate 124 none
  statics := none }

def pool1 : Array CpInfo := pool [(2, .class_ 4), (1, u "java/lang/Object"), (0, u "<init>"), (0, u "()V"), (0, .fieldref 8 9), (0, .class_ 10), (0, .nameAndType 11 12), (0, u "com/example/onegate/onegate/core/http/HttpResponse$Status"), (0, u "OK"), (0, u "Lcom/example/onegate/onegate/core/http/HttpResponse$Status;"), (0, .fieldref 8 14), (0, .nameAndType 15 12), (0, u "BAD_REQUEST"), (0, .fieldref 8 17), (0, .nameAndType 18 12), (0, u "FORBIDDEN"), (0, .fieldref 8 20), (0, .nameAndType 21 12), (0, u "BAD_GATEWAY"), (0, .methodref 23 24), (0, .class_ 25), (0, .nameAndType 26 27), (0, u "com/example/onegate/onegate/gate/AnswerBrokeOffPinLaw"), (0, u "status"), (0, u "(I)Lcom/example/onegate/onegate/core/http/HttpResponse$Status;"), (0, .class_ 29), (0, u "java/lang/String"), (0, .methodref 28 31), (0, .nameAndType 5 32), (0, u "([C)V"), (0, .class_ 34), (0, u "com/example/onegate/onegate/core/http/HttpResponse$Content"), (0, .methodref 33 36), (0, .nameAndType 5 37), (0, u "(Ljava/lang/String;[B)V"), (0, .integer 2147483647), (0, .class_ 40), (0, u "com/example/onegate/onegate/gate/Answer"), (0, .methodref 39 42), (0, .nameAndType 5 43), (0, u "(Lcom/example/onegate/onegate/core/http/HttpResponse$Status;Ljava/lang/String;Lcom/example/onegate/onegate/core/http/HttpResponse$Content;)V"), (0, .methodref 39 45), (0, .nameAndType 5 46), (0, u "(Lcom/example/onegate/onegate/core/http/HttpResponse$Status;Ljava/lang/String;)V"), (0, .methodref 39 48), (0, .nameAndType 5 49), (0, u "(Lcom/example/onegate/onegate/core/http/HttpResponse$Status;Ljava/lang/String;Ljava/lang/String;)V"), (0, .methodref 39 51), (0, .nameAndType 52 53), (0, u "brokenOff"), (0, u "(Lcom/example/onegate/onegate/core/http/HttpResponse$Status;Ljava/lang/String;)Lcom/example/onegate/onegate/gate/Answer;"), (0, .methodref 39 55), (0, .nameAndType 56 57), (0, u "again"), (0, u "()Lcom/example/onegate/onegate/gate/Answer;"), (0, .methodref 39 59), (0, .nameAndType 60 61), (0, u "brokeOff"), (0, u "()Z"), (3, u "law"), (0, u "(III)Z")] 11

def k1m0 : Method := { name := "<init>", desc := "()V", sig := { parameters := [], returnType := none }, accessFlags := 1, code := none }
def k1c1 : Code := { maxStack := 2, maxLocals := 2, code := method_2_code, exceptionTable := #[], attributes := #[] }
def k1m1 : Method := { name := "status", desc := "(I)Lcom/example/onegate/onegate/core/http/HttpResponse$Status;", sig := { parameters := [.int], returnType := some (.object "com/example/onegate/onegate/core/http/HttpResponse$Status") }, accessFlags := 10, code := some k1c1 }
def k1c2 : Code := { maxStack := 5, maxLocals := 13, code := code, exceptionTable := #[], attributes := #[] }
def k1m2 : Method := { name := "law", desc := "(III)Z", sig := { parameters := [.int, .int, .int], returnType := some .boolean }, accessFlags := 9, code := some k1c2 }
/-- com/example/onegate/onegate/gate/AnswerBrokeOffPinLaw -/
def k1 : Class := { plain "com/example/onegate/onegate/gate/AnswerBrokeOffPinLaw" (some 0) with
  accessFlags := 49
  interfaces := #[]
  cf := some (fileOf pool1 23 #[] #[{ accessFlags := 1, nameIndex := 5, descriptorIndex := 6, attributes := #[] }, { accessFlags := 10, nameIndex := 26, descriptorIndex := 27, attributes := #[] }, { accessFlags := 9, nameIndex := 65, descriptorIndex := 66, attributes := #[] }] 49 2 #[] #[])
  fields := #[]
  methods := #[k1m0, k1m1, k1m2]
  instanceTypes := #[]
  staticTypes := #[]
  resolved := Array.replicate 78 none
  statics := none }

def pool2 : Array CpInfo := pool [(1, .class_ 2), (0, u "java/lang/constant/Constable"), (0, .class_ 4), (0, u "java/lang/Object")] 6

/-- java/lang/constant/Constable -/
def k2 : Class := { plain "java/lang/constant/Constable" (some 0) with
  accessFlags := 1537
  interfaces := #[]
  cf := some (fileOf pool2 1 #[] #[] 1537 3 #[] #[])
  fields := #[]
  methods := #[]
  instanceTypes := #[]
  staticTypes := #[]
  resolved := Array.replicate 11 none
  statics := none }

def pool3 : Array CpInfo := pool [(1, .class_ 2), (0, u "java/lang/Comparable"), (0, .class_ 4), (0, u "java/lang/Object")] 7

/-- java/lang/Comparable -/
def k3 : Class := { plain "java/lang/Comparable" (some 0) with
  accessFlags := 1537
  interfaces := #[]
  cf := some (fileOf pool3 1 #[] #[] 1537 3 #[] #[])
  fields := #[]
  methods := #[]
  instanceTypes := #[]
  staticTypes := #[]
  resolved := Array.replicate 12 none
  statics := none }

def pool4 : Array CpInfo := pool [(1, .class_ 2), (0, u "java/io/Serializable"), (0, .class_ 4), (0, u "java/lang/Object")] 2

/-- java/io/Serializable -/
def k4 : Class := { plain "java/io/Serializable" (some 0) with
  accessFlags := 1537
  interfaces := #[]
  cf := some (fileOf pool4 1 #[] #[] 1537 3 #[] #[])
  fields := #[]
  methods := #[]
  instanceTypes := #[]
  staticTypes := #[]
  resolved := Array.replicate 7 none
  statics := none }

def pool5 : Array CpInfo := pool [(2, .class_ 4), (1, u "java/lang/Enum"), (0, u "name"), (0, u "Ljava/lang/String;"), (2, u "ordinal"), (0, u "I"), (1, .class_ 14), (1, u "java/lang/Object"), (4, u "hash"), (86, .class_ 108), (1, u "java/lang/Enum$EnumDesc"), (2, .class_ 112), (0, u "java/lang/constant/Constable"), (0, .class_ 114), (0, u "java/lang/Comparable"), (0, .class_ 116), (0, u "java/io/Serializable")] 87

/-- java/lang/Enum -/
def k5 : Class := { plain "java/lang/Enum" (some 0) with
  accessFlags := 1057
  interfaces := #[2, 3, 4]
  cf := some (fileOf pool5 2 #[.nestMembers #[106]] #[] 1057 12 #[111, 113, 115] #[{ accessFlags := 18, nameIndex := 5, descriptorIndex := 6, attributes := #[] }, { accessFlags := 18, nameIndex := 9, descriptorIndex := 10, attributes := #[] }, { accessFlags := 2, nameIndex := 19, descriptorIndex := 10, attributes := #[] }])
  fields := #[{ name := "name", type := (.object "java/lang/String"), accessFlags := 18, slot := 0, constantValue := 0 }, { name := "ordinal", type := .int, accessFlags := 18, slot := 1, constantValue := 0 }, { name := "hash", type := .int, accessFlags := 2, slot := 2, constantValue := 0 }]
  methods := #[]
  instanceTypes := #[(.object "java/lang/String"), .int, .int]
  staticTypes := #[]
  resolved := Array.replicate 204 none
  statics := none }

def pool6 : Array CpInfo := pool [(1, .class_ 2), (0, u "com/example/onegate/onegate/core/http/HttpResponse$Status"), (2, u "OK"), (0, u "Lcom/example/onegate/onegate/core/http/HttpResponse$Status;"), (2, u "BAD_REQUEST"), (2, u "FORBIDDEN"), (2, u "BAD_GATEWAY"), (2, u "$VALUES"), (0, u "[Lcom/example/onegate/onegate/core/http/HttpResponse$Status;"), (6, .class_ 28), (1, u "java/lang/Enum"), (8, u "code"), (0, u "I"), (2, u "reason"), (0, u "Ljava/lang/String;"), (31, .class_ 75), (0, u "com/example/onegate/onegate/core/http/HttpResponse")] 2

/-- com/example/onegate/onegate/core/http/HttpResponse$Status -/
def k6 : Class := { plain "com/example/onegate/onegate/core/http/HttpResponse$Status" (some 5) with
  accessFlags := 16433
  interfaces := #[]
  cf := some (fileOf pool6 1 #[.nestHost 74] #[] 16433 26 #[] #[{ accessFlags := 16409, nameIndex := 5, descriptorIndex := 6, attributes := #[] }, { accessFlags := 16409, nameIndex := 9, descriptorIndex := 6, attributes := #[] }, { accessFlags := 16409, nameIndex := 12, descriptorIndex := 6, attributes := #[] }, { accessFlags := 16409, nameIndex := 15, descriptorIndex := 6, attributes := #[] }, { accessFlags := 18, nameIndex := 37, descriptorIndex := 38, attributes := #[] }, { accessFlags := 18, nameIndex := 41, descriptorIndex := 42, attributes := #[] }, { accessFlags := 4122, nameIndex := 18, descriptorIndex := 19, attributes := #[] }])
  fields := #[{ name := "OK", type := (.object "com/example/onegate/onegate/core/http/HttpResponse$Status"), accessFlags := 16409, slot := 0, constantValue := 0 }, { name := "BAD_REQUEST", type := (.object "com/example/onegate/onegate/core/http/HttpResponse$Status"), accessFlags := 16409, slot := 1, constantValue := 0 }, { name := "FORBIDDEN", type := (.object "com/example/onegate/onegate/core/http/HttpResponse$Status"), accessFlags := 16409, slot := 2, constantValue := 0 }, { name := "BAD_GATEWAY", type := (.object "com/example/onegate/onegate/core/http/HttpResponse$Status"), accessFlags := 16409, slot := 3, constantValue := 0 }, { name := "code", type := .int, accessFlags := 18, slot := 3, constantValue := 0 }, { name := "reason", type := (.object "java/lang/String"), accessFlags := 18, slot := 4, constantValue := 0 }, { name := "$VALUES", type := (.array (.object "com/example/onegate/onegate/core/http/HttpResponse$Status")), accessFlags := 4122, slot := 4, constantValue := 0 }]
  methods := #[]
  instanceTypes := #[(.object "java/lang/String"), .int, .int, .int, (.object "java/lang/String")]
  staticTypes := #[(.object "com/example/onegate/onegate/core/http/HttpResponse$Status"), (.object "com/example/onegate/onegate/core/http/HttpResponse$Status"), (.object "com/example/onegate/onegate/core/http/HttpResponse$Status"), (.object "com/example/onegate/onegate/core/http/HttpResponse$Status"), (.array (.object "com/example/onegate/onegate/core/http/HttpResponse$Status"))]
  resolved := Array.replicate 78 none
  statics := some 0 }

def pool7 : Array CpInfo := pool [(2, .class_ 4), (1, u "java/lang/CharSequence"), (42, .class_ 48), (0, u "java/lang/CharSequence$1CodePointIterator"), (10, .class_ 60), (0, u "java/lang/CharSequence$1CharIterator"), (5, .class_ 67), (0, u "java/lang/Object")] 63

/-- java/lang/CharSequence -/
def k7 : Class := { plain "java/lang/CharSequence" (some 0) with
  accessFlags := 1537
  interfaces := #[]
  cf := some (fileOf pool7 2 #[.nestMembers #[47, 59]] #[] 1537 66 #[] #[])
  fields := #[]
  methods := #[]
  instanceTypes := #[]
  staticTypes := #[]
  resolved := Array.replicate 131 none
  statics := none }

def pool8 : Array CpInfo := pool [(1, .class_ 2), (0, u "java/lang/constant/ConstantDesc"), (0, .class_ 4), (0, u "java/lang/Object")] 32

/-- java/lang/constant/ConstantDesc -/
def k8 : Class := { plain "java/lang/constant/ConstantDesc" (some 0) with
  accessFlags := 1537
  interfaces := #[]
  cf := some (fileOf pool8 1 #[] #[] 1537 3 #[] #[])
  fields := #[]
  methods := #[]
  instanceTypes := #[]
  staticTypes := #[]
  resolved := Array.replicate 37 none
  statics := none }

def pool9 : Array CpInfo := pool [(1, .methodref 2 3), (0, .class_ 4), (0, .nameAndType 5 6), (0, u "java/lang/Object"), (0, u "<init>"), (0, u "()V"), (2, .fieldref 10 11), (0, .class_ 12), (0, .nameAndType 13 14), (0, u "java/lang/String"), (0, u "value"), (0, u "[B"), (0, .fieldref 10 16), (0, .nameAndType 17 18), (0, u "coder"), (0, u "B"), (2, u "hash"), (0, u "I"), (2, u "hashIsZero"), (0, u "Z"), (0, .methodref 10 28), (0, .nameAndType 5 29), (0, u "([CIILjava/lang/Void;)V"), (8, .fieldref 10 39), (0, .nameAndType 40 26), (0, u "COMPACT_STRINGS"), (1, .class_ 44), (1, u "java/lang/StringUTF16"), (0, u "compress"), (1, .methodref 42 48), (0, .nameAndType 49 50), (0, u "coderFromArrayLen"), (0, u "([BI)B"), (3, .methodref 55 56), (0, .class_ 57), (0, .nameAndType 58 59), (0, u "java/util/Arrays"), (0, u "copyOfRange"), (0, u "([BII)[B"), (0, .methodref 42 61), (0, .nameAndType 62 63), (0, u "newBytesFor"), (0, u "(I)[B"), (22, .fieldref 87 88), (0, .class_ 89), (0, .nameAndType 90 91), (0, u "sun/nio/cs/UTF_8"), (0, u "INSTANCE"), (0, u "Lsun/nio/cs/UTF_8;"), (1, .class_ 95), (1, u "java/lang/StringCoding"), (6, .methodref 55 103), (0, .nameAndType 104 105), (0, u "copyOf"), (0, u "([BI)[B"), (22, .methodref 93 129), (0, .nameAndType 130 131), (0, u "hasNegatives"), (0, u "([BII)Z"), (10, u "()Z"), (34, .methodref 42 178), (0, .nameAndType 45 179), (0, u "([CII)[B"), (13, .class_ 195), (1, u "java/lang/System"), (16, .methodref 193 213), (0, .nameAndType 214 215), (0, u "arraycopy"), (0, u "(Ljava/lang/Object;ILjava/lang/Object;II)V"), (36, .methodref 10 253), (0, .nameAndType 254 255), (0, u "encodeUTF8"), (0, u "(B[BZ)[B"), (23, .methodref 280 281), (0, .class_ 14), (0, .nameAndType 282 283), (0, u "clone"), (0, u "()Ljava/lang/Object;"), (33, u "encode"), (16, u "()I"), (0, .methodref 10 336), (0, .nameAndType 17 337), (0, u "()B"), (2, u "()[B"), (148, .methodref 10 490), (0, .nameAndType 5 491), (0, u "(Ljava/lang/AbstractStringBuilder;Ljava/lang/Void;)V"), (1, .nameAndType 494 142), (0, u "isLatin1"), (11, .nameAndType 507 334), (0, u "length"), (24, u "getBytes"), (2, .methodref 10 536), (0, .nameAndType 317 537), (0, u "(Ljava/nio/charset/Charset;B[B)[B"), (11, .methodref 550 506), (0, .class_ 551), (0, u "java/lang/AbstractStringBuilder"), (0, .methodref 550 553), (0, .nameAndType 554 340), (0, u "getValue"), (20, .class_ 576), (0, u "java/lang/CharSequence"), (22, u "CASE_INSENSITIVE_ORDER"), (0, u "Ljava/util/Comparator;"), (220, u "([BIB)V"), (188, u "([C)V"), (36, .methodref 550 493), (53, u "serialPersistentFields"), (0, u "[Ljava/io/ObjectStreamField;"), (0, .class_ 1104), (0, u "java/lang/String$CaseInsensitiveComparator"), (1, .class_ 1107), (0, u "java/io/Serializable"), (0, .class_ 1109), (0, u "java/lang/Comparable"), (0, .class_ 1111), (0, u "java/lang/constant/Constable"), (0, .class_ 1113), (0, u "java/lang/constant/ConstantDesc"), (2, u "serialVersionUID"), (0, u "J"), (3, u "REPL"), (0, u "C"), (2, u "LATIN1"), (1, u "UTF16"), (105, u "(Ljava/lang/StringBuilder;)V"), (11, u "(Ljava/nio/charset/Charset;)[B")] 205

def k9m0 : Method := { name := "<init>", desc := "()V", sig := { parameters := [], returnType := none }, accessFlags := 1, code := none }
def k9c1 : Code := { maxStack := 5, maxLocals := 2, code := jdk_42_method_3_code, exceptionTable := #[], attributes := #[] }
def k9m1 : Method := { name := "<init>", desc := "([C)V", sig := { parameters := [(.array .char)], returnType := none }, accessFlags := 1, code := some k9c1 }
def k9c2 : Code := { maxStack := 4, maxLocals := 3, code := jdk_42_method_18_code, exceptionTable := #[], attributes := #[] }
def k9m2 : Method := { name := "encode", desc := "(Ljava/nio/charset/Charset;B[B)[B", sig := { parameters := [(.object "java/nio/charset/Charset"), .byte, (.array .byte)], returnType := some (.array .byte) }, accessFlags := 10, code := some k9c2 }
def k9c3 : Code := { maxStack := 5, maxLocals := 9, code := jdk_42_method_46_code, exceptionTable := #[], attributes := #[] }
def k9m3 : Method := { name := "encodeUTF8", desc := "(B[BZ)[B", sig := { parameters := [.byte, (.array .byte), .boolean], returnType := some (.array .byte) }, accessFlags := 10, code := some k9c3 }
def k9c4 : Code := { maxStack := 3, maxLocals := 2, code := jdk_42_method_53_code, exceptionTable := #[], attributes := #[] }
def k9m4 : Method := { name := "<init>", desc := "(Ljava/lang/StringBuilder;)V", sig := { parameters := [(.object "java/lang/StringBuilder")], returnType := none }, accessFlags := 1, code := some k9c4 }
def k9c5 : Code := { maxStack := 2, maxLocals := 1, code := jdk_42_method_54_code, exceptionTable := #[], attributes := #[] }
def k9m5 : Method := { name := "length", desc := "()I", sig := { parameters := [], returnType := some .int }, accessFlags := 1, code := some k9c5 }
def k9c6 : Code := { maxStack := 3, maxLocals := 2, code := jdk_42_method_64_code, exceptionTable := #[], attributes := #[] }
def k9m6 : Method := { name := "getBytes", desc := "(Ljava/nio/charset/Charset;)[B", sig := { parameters := [(.object "java/nio/charset/Charset")], returnType := some (.array .byte) }, accessFlags := 1, code := some k9c6 }
def k9c7 : Code := { maxStack := 5, maxLocals := 4, code := jdk_42_method_147_code, exceptionTable := #[], attributes := #[] }
def k9m7 : Method := { name := "getBytes", desc := "([BIB)V", sig := { parameters := [(.array .byte), .int, .byte], returnType := none }, accessFlags := 0, code := some k9c7 }
def k9c8 : Code := { maxStack := 4, maxLocals := 6, code := jdk_42_method_149_code, exceptionTable := #[], attributes := #[] }
def k9m8 : Method := { name := "<init>", desc := "([CIILjava/lang/Void;)V", sig := { parameters := [(.array .char), .int, .int, (.object "java/lang/Void")], returnType := none }, accessFlags := 2, code := some k9c8 }
def k9c9 : Code := { maxStack := 5, maxLocals := 5, code := jdk_42_method_150_code, exceptionTable := #[], attributes := #[] }
def k9m9 : Method := { name := "<init>", desc := "(Ljava/lang/AbstractStringBuilder;Ljava/lang/Void;)V", sig := { parameters := [(.object "java/lang/AbstractStringBuilder"), (.object "java/lang/Void")], returnType := none }, accessFlags := 0, code := some k9c9 }
def k9c10 : Code := { maxStack := 1, maxLocals := 1, code := jdk_42_method_152_code, exceptionTable := #[], attributes := #[] }
def k9m10 : Method := { name := "coder", desc := "()B", sig := { parameters := [], returnType := some .byte }, accessFlags := 0, code := some k9c10 }
/-- java/lang/String -/
def k9 : Class := { plain "java/lang/String" (some 0) with
  accessFlags := 49
  interfaces := #[4, 3, 7, 2, 8]
  cf := some (fileOf pool9 10 #[.nestMembers #[1103]] #[{ accessFlags := 1, nameIndex := 5, descriptorIndex := 6, attributes := #[] }, { accessFlags := 1, nameIndex := 5, descriptorIndex := 1010, attributes := #[] }, { accessFlags := 10, nameIndex := 317, descriptorIndex := 537, attributes := #[] }, { accessFlags := 10, nameIndex := 254, descriptorIndex := 255, attributes := #[] }, { accessFlags := 1, nameIndex := 5, descriptorIndex := 1233, attributes := #[] }, { accessFlags := 1, nameIndex := 507, descriptorIndex := 334, attributes := #[] }, { accessFlags := 1, nameIndex := 532, descriptorIndex := 1245, attributes := #[] }, { accessFlags := 0, nameIndex := 532, descriptorIndex := 821, attributes := #[] }, { accessFlags := 2, nameIndex := 5, descriptorIndex := 29, attributes := #[] }, { accessFlags := 0, nameIndex := 5, descriptorIndex := 491, attributes := #[] }, { accessFlags := 0, nameIndex := 17, descriptorIndex := 337, attributes := #[] }] 49 2 #[1106, 1108, 575, 1110, 1112] #[{ accessFlags := 18, nameIndex := 13, descriptorIndex := 14, attributes := #[] }, { accessFlags := 18, nameIndex := 17, descriptorIndex := 18, attributes := #[] }, { accessFlags := 2, nameIndex := 21, descriptorIndex := 22, attributes := #[] }, { accessFlags := 2, nameIndex := 25, descriptorIndex := 26, attributes := #[] }, { accessFlags := 26, nameIndex := 1116, descriptorIndex := 1117, attributes := #[] }, { accessFlags := 24, nameIndex := 40, descriptorIndex := 26, attributes := #[] }, { accessFlags := 26, nameIndex := 1101, descriptorIndex := 1102, attributes := #[] }, { accessFlags := 26, nameIndex := 1121, descriptorIndex := 1122, attributes := #[] }, { accessFlags := 25, nameIndex := 599, descriptorIndex := 600, attributes := #[] }, { accessFlags := 24, nameIndex := 1125, descriptorIndex := 18, attributes := #[] }, { accessFlags := 24, nameIndex := 1127, descriptorIndex := 18, attributes := #[] }])
  fields := #[{ name := "value", type := (.array .byte), accessFlags := 18, slot := 0, constantValue := 0 }, { name := "coder", type := .byte, accessFlags := 18, slot := 1, constantValue := 0 }, { name := "hash", type := .int, accessFlags := 2, slot := 2, constantValue := 0 }, { name := "hashIsZero", type := .boolean, accessFlags := 2, slot := 3, constantValue := 0 }, { name := "serialVersionUID", type := .long, accessFlags := 26, slot := 0, constantValue := 0 }, { name := "COMPACT_STRINGS", type := .boolean, accessFlags := 24, slot := 1, constantValue := 0 }, { name := "serialPersistentFields", type := (.array (.object "java/io/ObjectStreamField")), accessFlags := 26, slot := 2, constantValue := 0 }, { name := "REPL", type := .char, accessFlags := 26, slot := 3, constantValue := 0 }, { name := "CASE_INSENSITIVE_ORDER", type := (.object "java/util/Comparator"), accessFlags := 25, slot := 4, constantValue := 0 }, { name := "LATIN1", type := .byte, accessFlags := 24, slot := 5, constantValue := 0 }, { name := "UTF16", type := .byte, accessFlags := 24, slot := 6, constantValue := 0 }]
  methods := #[k9m0, k9m1, k9m2, k9m3, k9m4, k9m5, k9m6, k9m7, k9m8, k9m9, k9m10]
  instanceTypes := #[(.array .byte), .byte, .int, .boolean]
  staticTypes := #[.long, .boolean, (.array (.object "java/io/ObjectStreamField")), .char, (.object "java/util/Comparator"), .byte, .byte]
  resolved := Array.replicate 1451 none
  statics := some 1 }

def pool10 : Array CpInfo := pool [(6, .class_ 8), (1, u "java/lang/Object"), (0, u "<init>"), (0, u "()V"), (0, .methodref 12 13), (0, .class_ 14), (0, .nameAndType 15 16), (0, u "java/lang/StringUTF16"), (0, u "newBytesLength"), (0, u "(I)I"), (3, .integer 1073741823), (25, u "$assertionsDisabled"), (0, u "Z"), (13, u "HI_BYTE_SHIFT"), (0, u "I"), (2, u "LO_BYTE_SHIFT"), (43, u "newBytesFor"), (0, u "(I)[B"), (4, .methodref 12 116), (0, .nameAndType 117 118), (0, u "compress"), (0, u "([CI[BII)I"), (3, u "([CII)[B"), (138, u "coderFromArrayLen"), (0, u "([BI)B"), (106, .class_ 371), (1, u "java/lang/StringUTF16$LinesSpliterator"), (58, u "MAX_LENGTH"), (196, .class_ 628), (0, u "java/lang/StringUTF16$CodePointsSpliterator"), (0, .class_ 630), (0, u "java/lang/StringUTF16$CharsSpliterator")] 4

def k10m0 : Method := { name := "<init>", desc := "()V", sig := { parameters := [], returnType := none }, accessFlags := 0, code := none }
def k10c1 : Code := { maxStack := 1, maxLocals := 1, code := jdk_52_method_2_code, exceptionTable := #[], attributes := #[] }
def k10m1 : Method := { name := "newBytesFor", desc := "(I)[B", sig := { parameters := [.int], returnType := some (.array .byte) }, accessFlags := 9, code := some k10c1 }
def k10c2 : Code := { maxStack := 4, maxLocals := 1, code := jdk_52_method_3_code, exceptionTable := #[], attributes := #[] }
def k10m2 : Method := { name := "newBytesLength", desc := "(I)I", sig := { parameters := [.int], returnType := some .int }, accessFlags := 9, code := some k10c2 }
def k10c3 : Code := { maxStack := 2, maxLocals := 2, code := jdk_52_method_15_code, exceptionTable := #[], attributes := #[] }
def k10m3 : Method := { name := "coderFromArrayLen", desc := "([BI)B", sig := { parameters := [(.array .byte), .int], returnType := some .byte }, accessFlags := 8, code := some k10c3 }
def k10c4 : Code := { maxStack := 5, maxLocals := 6, code := jdk_52_method_16_code, exceptionTable := #[], attributes := #[] }
def k10m4 : Method := { name := "compress", desc := "([CII)[B", sig := { parameters := [(.array .char), .int, .int], returnType := some (.array .byte) }, accessFlags := 9, code := some k10c4 }
def k10c5 : Code := { maxStack := 3, maxLocals := 7, code := jdk_52_method_21_code, exceptionTable := #[], attributes := #[] }
def k10m5 : Method := { name := "compress", desc := "([CI[BII)I", sig := { parameters := [(.array .char), .int, (.array .byte), .int, .int], returnType := some .int }, accessFlags := 9, code := some k10c5 }
/-- java/lang/StringUTF16 -/
def k10 : Class := { plain "java/lang/StringUTF16" (some 0) with
  accessFlags := 48
  interfaces := #[]
  cf := some (fileOf pool10 12 #[.nestMembers #[627, 629, 369]] #[{ accessFlags := 0, nameIndex := 9, descriptorIndex := 10, attributes := #[] }, { accessFlags := 9, nameIndex := 109, descriptorIndex := 110, attributes := #[] }, { accessFlags := 9, nameIndex := 15, descriptorIndex := 16, attributes := #[] }, { accessFlags := 8, nameIndex := 261, descriptorIndex := 262, attributes := #[] }, { accessFlags := 9, nameIndex := 117, descriptorIndex := 122, attributes := #[] }, { accessFlags := 9, nameIndex := 117, descriptorIndex := 118, attributes := #[] }] 48 6 #[] #[{ accessFlags := 26, nameIndex := 61, descriptorIndex := 62, attributes := #[] }, { accessFlags := 26, nameIndex := 65, descriptorIndex := 62, attributes := #[] }, { accessFlags := 24, nameIndex := 430, descriptorIndex := 62, attributes := #[] }, { accessFlags := 4120, nameIndex := 46, descriptorIndex := 47, attributes := #[] }])
  fields := #[{ name := "HI_BYTE_SHIFT", type := .int, accessFlags := 26, slot := 0, constantValue := 0 }, { name := "LO_BYTE_SHIFT", type := .int, accessFlags := 26, slot := 1, constantValue := 0 }, { name := "MAX_LENGTH", type := .int, accessFlags := 24, slot := 2, constantValue := 0 }, { name := "$assertionsDisabled", type := .boolean, accessFlags := 4120, slot := 3, constantValue := 0 }]
  methods := #[k10m0, k10m1, k10m2, k10m3, k10m4, k10m5]
  instanceTypes := #[]
  staticTypes := #[.int, .int, .int, .boolean]
  resolved := Array.replicate 635 none
  statics := none }

def pool11 : Array CpInfo := pool [(1, .methodref 2 3), (0, .class_ 4), (0, .nameAndType 5 6), (0, u "java/lang/Object"), (0, u "<init>"), (0, u "()V"), (0, .class_ 8), (0, u "java/lang/Record")] 13

def k11c0 : Code := { maxStack := 1, maxLocals := 1, code := jdk_30_method_1_code, exceptionTable := #[], attributes := #[] }
def k11m0 : Method := { name := "<init>", desc := "()V", sig := { parameters := [], returnType := none }, accessFlags := 4, code := some k11c0 }
/-- java/lang/Record -/
def k11 : Class := { plain "java/lang/Record" (some 0) with
  accessFlags := 1057
  interfaces := #[]
  cf := some (fileOf pool11 7 #[] #[{ accessFlags := 4, nameIndex := 5, descriptorIndex := 6, attributes := #[] }] 1057 2 #[] #[])
  fields := #[]
  methods := #[k11m0]
  instanceTypes := #[]
  staticTypes := #[]
  resolved := Array.replicate 22 none
  statics := none }

def pool12 : Array CpInfo := pool [(1, .methodref 2 3), (0, .class_ 4), (0, .nameAndType 5 6), (0, u "java/lang/Record"), (0, u "<init>"), (0, u "()V"), (0, .fieldref 8 9), (0, .class_ 10), (0, .nameAndType 11 12), (0, u "com/example/onegate/onegate/core/http/HttpResponse$Content"), (0, u "type"), (0, u "Ljava/lang/String;"), (0, .fieldref 8 14), (0, .nameAndType 15 16), (0, u "bytes"), (0, u "[B"), (0, .string 18), (0, u "text/plain; charset=utf-8"), (0, .class_ 20), (0, u "java/lang/StringBuilder"), (0, .methodref 19 3), (0, .methodref 19 23), (0, .nameAndType 24 25), (0, u "append"), (0, u "(Ljava/lang/String;)Ljava/lang/StringBuilder;"), (0, .string 27), (0, u "\n"), (0, .methodref 19 29), (0, .nameAndType 30 31), (0, u "toString"), (0, u "()Ljava/lang/String;"), (0, .fieldref 33 34), (0, .class_ 35), (0, .nameAndType 36 37), (0, u "java/nio/charset/StandardCharsets"), (0, u "UTF_8"), (0, u "Ljava/nio/charset/Charset;"), (0, .methodref 39 40), (0, .class_ 41), (0, .nameAndType 42 43), (0, u "java/lang/String"), (0, u "getBytes"), (0, u "(Ljava/nio/charset/Charset;)[B"), (0, .methodref 8 45), (0, .nameAndType 5 46), (0, u "(Ljava/lang/String;[B)V"), (14, u "text"), (0, u "(Ljava/lang/String;)Lcom/example/onegate/onegate/core/http/HttpResponse$Content;"), (6, .class_ 70), (0, u "com/example/onegate/onegate/core/http/HttpResponse")] 20

def k12c0 : Code := { maxStack := 2, maxLocals := 3, code := prog_44_method_1_code, exceptionTable := #[], attributes := #[] }
def k12m0 : Method := { name := "<init>", desc := "(Ljava/lang/String;[B)V", sig := { parameters := [(.object "java/lang/String"), (.array .byte)], returnType := none }, accessFlags := 1, code := some k12c0 }
def k12c1 : Code := { maxStack := 5, maxLocals := 1, code := prog_44_method_2_code, exceptionTable := #[], attributes := #[] }
def k12m1 : Method := { name := "text", desc := "(Ljava/lang/String;)Lcom/example/onegate/onegate/core/http/HttpResponse$Content;", sig := { parameters := [(.object "java/lang/String")], returnType := some (.object "com/example/onegate/onegate/core/http/HttpResponse$Content") }, accessFlags := 9, code := some k12c1 }
/-- com/example/onegate/onegate/core/http/HttpResponse$Content -/
def k12 : Class := { plain "com/example/onegate/onegate/core/http/HttpResponse$Content" (some 11) with
  accessFlags := 49
  interfaces := #[]
  cf := some (fileOf pool12 8 #[.nestHost 69] #[{ accessFlags := 1, nameIndex := 5, descriptorIndex := 46, attributes := #[] }, { accessFlags := 9, nameIndex := 61, descriptorIndex := 62, attributes := #[] }] 49 2 #[] #[{ accessFlags := 18, nameIndex := 11, descriptorIndex := 12, attributes := #[] }, { accessFlags := 18, nameIndex := 15, descriptorIndex := 16, attributes := #[] }])
  fields := #[{ name := "type", type := (.object "java/lang/String"), accessFlags := 18, slot := 0, constantValue := 0 }, { name := "bytes", type := (.array .byte), accessFlags := 18, slot := 1, constantValue := 0 }]
  methods := #[k12m0, k12m1]
  instanceTypes := #[(.object "java/lang/String"), (.array .byte)]
  staticTypes := #[]
  resolved := Array.replicate 91 none
  statics := none }

def pool13 : Array CpInfo := pool [(1, .methodref 2 3), (0, .class_ 4), (0, .nameAndType 5 6), (0, u "java/lang/Object"), (0, u "<init>"), (0, u "()V"), (0, .fieldref 8 9), (0, .class_ 10), (0, .nameAndType 11 12), (0, u "java/lang/Throwable"), (0, u "cause"), (0, u "Ljava/lang/Throwable;"), (0, .fieldref 8 14), (0, .nameAndType 15 16), (0, u "UNASSIGNED_STACK"), (0, u "[Ljava/lang/StackTraceElement;"), (0, .fieldref 8 18), (0, .nameAndType 19 16), (0, u "stackTrace"), (0, .fieldref 8 21), (0, .nameAndType 22 23), (0, u "SUPPRESSED_SENTINEL"), (0, u "Ljava/util/List;"), (0, .fieldref 8 25), (0, .nameAndType 26 23), (0, u "suppressedExceptions"), (0, .methodref 8 28), (0, .nameAndType 29 30), (0, u "fillInStackTrace"), (0, u "()Ljava/lang/Throwable;"), (0, .fieldref 8 32), (0, .nameAndType 33 34), (0, u "detailMessage"), (0, u "Ljava/lang/String;"), (3, u "()Ljava/lang/String;"), (2, u "getMessage"), (51, .class_ 94), (0, u "java/lang/Throwable$WrappedPrintStream"), (6, .class_ 103), (1, u "java/lang/Throwable$PrintStreamOrWriter"), (61, u "$assertionsDisabled"), (0, u "Z"), (26, .class_ 194), (0, u "java/lang/Throwable$WrappedPrintWriter"), (3, .fieldref 8 199), (0, .nameAndType 200 201), (0, u "backtrace"), (0, u "Ljava/lang/Object;"), (0, .methodref 8 203), (0, .nameAndType 29 204), (0, u "(I)Ljava/lang/Throwable;"), (6, u "depth"), (0, u "I"), (10, u "(Ljava/lang/String;)V"), (45, .class_ 271), (1, u "java/lang/Throwable$SentinelHolder"), (32, u "EMPTY_THROWABLE_ARRAY"), (0, u "[Ljava/lang/Throwable;"), (12, .class_ 319), (0, u "java/io/Serializable"), (0, u "serialVersionUID"), (0, u "J"), (5, u "NULL_CAUSE_MESSAGE"), (0, u "SELF_SUPPRESSION_MESSAGE"), (0, u "CAUSE_CAPTION"), (0, u "SUPPRESSED_CAPTION")] 73

def k13c0 : Code := { maxStack := 2, maxLocals := 1, code := jdk_78_method_1_code, exceptionTable := #[], attributes := #[] }
def k13m0 : Method := { name := "<init>", desc := "()V", sig := { parameters := [], returnType := none }, accessFlags := 1, code := some k13c0 }
def k13c1 : Code := { maxStack := 2, maxLocals := 2, code := jdk_78_method_2_code, exceptionTable := #[], attributes := #[] }
def k13m1 : Method := { name := "<init>", desc := "(Ljava/lang/String;)V", sig := { parameters := [(.object "java/lang/String")], returnType := none }, accessFlags := 1, code := some k13c1 }
def k13c2 : Code := { maxStack := 1, maxLocals := 1, code := jdk_78_method_6_code, exceptionTable := #[], attributes := #[] }
def k13m2 : Method := { name := "getMessage", desc := "()Ljava/lang/String;", sig := { parameters := [], returnType := some (.object "java/lang/String") }, accessFlags := 1, code := some k13c2 }
def k13c3 : Code := { maxStack := 2, maxLocals := 1, code := ⟨#[0x2a, 0xb4, 0x00, 0x11, 0xc7, 0x00, 0x0a, 0x2a, 0xb4, 0x00, 0xc6, 0xc6, 0x00, 0x10, 0x2a, 0x03, 0xb6, 0x00, 0xca, 0x57, 0x2a, 0xb2, 0x00, 0x0d, 0xb5, 0x00, 0x11, 0x2a, 0xb0]⟩, exceptionTable := #[], attributes := #[] }
def k13m3 : Method := { name := "fillInStackTrace", desc := "()Ljava/lang/Throwable;", sig := { parameters := [], returnType := some (.object "java/lang/Throwable") }, accessFlags := 33, code := some k13c3 }
def k13m4 : Method := { name := "fillInStackTrace", desc := "(I)Ljava/lang/Throwable;", sig := { parameters := [.int], returnType := some (.object "java/lang/Throwable") }, accessFlags := 258, code := none }
/-- java/lang/Throwable -/
def k13 : Class := { plain "java/lang/Throwable" (some 0) with
  accessFlags := 33
  interfaces := #[4]
  cf := some (fileOf pool13 8 #[.nestMembers #[193, 93, 101, 269]] #[{ accessFlags := 1, nameIndex := 5, descriptorIndex := 6, attributes := #[] }, { accessFlags := 1, nameIndex := 5, descriptorIndex := 223, attributes := #[] }, { accessFlags := 1, nameIndex := 41, descriptorIndex := 38, attributes := #[] }, { accessFlags := 33, nameIndex := 29, descriptorIndex := 30, attributes := #[] }, { accessFlags := 258, nameIndex := 29, descriptorIndex := 204, attributes := #[] }] 33 2 #[318] #[{ accessFlags := 26, nameIndex := 320, descriptorIndex := 321, attributes := #[] }, { accessFlags := 130, nameIndex := 200, descriptorIndex := 201, attributes := #[] }, { accessFlags := 2, nameIndex := 33, descriptorIndex := 34, attributes := #[] }, { accessFlags := 26, nameIndex := 15, descriptorIndex := 16, attributes := #[] }, { accessFlags := 2, nameIndex := 11, descriptorIndex := 12, attributes := #[] }, { accessFlags := 2, nameIndex := 19, descriptorIndex := 16, attributes := #[] }, { accessFlags := 130, nameIndex := 211, descriptorIndex := 212, attributes := #[] }, { accessFlags := 26, nameIndex := 22, descriptorIndex := 23, attributes := #[] }, { accessFlags := 2, nameIndex := 26, descriptorIndex := 23, attributes := #[] }, { accessFlags := 26, nameIndex := 327, descriptorIndex := 34, attributes := #[] }, { accessFlags := 26, nameIndex := 328, descriptorIndex := 34, attributes := #[] }, { accessFlags := 26, nameIndex := 329, descriptorIndex := 34, attributes := #[] }, { accessFlags := 26, nameIndex := 330, descriptorIndex := 34, attributes := #[] }, { accessFlags := 26, nameIndex := 304, descriptorIndex := 305, attributes := #[] }, { accessFlags := 4120, nameIndex := 165, descriptorIndex := 166, attributes := #[] }])
  fields := #[{ name := "serialVersionUID", type := .long, accessFlags := 26, slot := 0, constantValue := 0 }, { name := "backtrace", type := (.object "java/lang/Object"), accessFlags := 130, slot := 0, constantValue := 0 }, { name := "detailMessage", type := (.object "java/lang/String"), accessFlags := 2, slot := 1, constantValue := 0 }, { name := "UNASSIGNED_STACK", type := (.array (.object "java/lang/StackTraceElement")), accessFlags := 26, slot := 1, constantValue := 0 }, { name := "cause", type := (.object "java/lang/Throwable"), accessFlags := 2, slot := 2, constantValue := 0 }, { name := "stackTrace", type := (.array (.object "java/lang/StackTraceElement")), accessFlags := 2, slot := 3, constantValue := 0 }, { name := "depth", type := .int, accessFlags := 130, slot := 4, constantValue := 0 }, { name := "SUPPRESSED_SENTINEL", type := (.object "java/util/List"), accessFlags := 26, slot := 2, constantValue := 0 }, { name := "suppressedExceptions", type := (.object "java/util/List"), accessFlags := 2, slot := 5, constantValue := 0 }, { name := "NULL_CAUSE_MESSAGE", type := (.object "java/lang/String"), accessFlags := 26, slot := 3, constantValue := 0 }, { name := "SELF_SUPPRESSION_MESSAGE", type := (.object "java/lang/String"), accessFlags := 26, slot := 4, constantValue := 0 }, { name := "CAUSE_CAPTION", type := (.object "java/lang/String"), accessFlags := 26, slot := 5, constantValue := 0 }, { name := "SUPPRESSED_CAPTION", type := (.object "java/lang/String"), accessFlags := 26, slot := 6, constantValue := 0 }, { name := "EMPTY_THROWABLE_ARRAY", type := (.array (.object "java/lang/Throwable")), accessFlags := 26, slot := 7, constantValue := 0 }, { name := "$assertionsDisabled", type := .boolean, accessFlags := 4120, slot := 8, constantValue := 0 }]
  methods := #[k13m0, k13m1, k13m2, k13m3, k13m4]
  instanceTypes := #[(.object "java/lang/Object"), (.object "java/lang/String"), (.object "java/lang/Throwable"), (.array (.object "java/lang/StackTraceElement")), .int, (.object "java/util/List")]
  staticTypes := #[.long, (.array (.object "java/lang/StackTraceElement")), (.object "java/util/List"), (.object "java/lang/String"), (.object "java/lang/String"), (.object "java/lang/String"), (.object "java/lang/String"), (.array (.object "java/lang/Throwable")), .boolean]
  resolved := Array.replicate 404 none
  statics := some 2 }

def pool14 : Array CpInfo := pool [(2, .class_ 4), (1, u "java/lang/Throwable"), (0, u "<init>"), (0, u "()V"), (0, .methodref 2 8), (0, .nameAndType 5 9), (0, u "(Ljava/lang/String;)V"), (9, .class_ 20), (0, u "java/lang/Exception"), (0, u "serialVersionUID"), (0, u "J")] 17

def k14m0 : Method := { name := "<init>", desc := "()V", sig := { parameters := [], returnType := none }, accessFlags := 1, code := none }
def k14c1 : Code := { maxStack := 2, maxLocals := 2, code := jdk_59_method_2_code, exceptionTable := #[], attributes := #[] }
def k14m1 : Method := { name := "<init>", desc := "(Ljava/lang/String;)V", sig := { parameters := [(.object "java/lang/String")], returnType := none }, accessFlags := 1, code := some k14c1 }
/-- java/lang/Exception -/
def k14 : Class := { plain "java/lang/Exception" (some 13) with
  accessFlags := 33
  interfaces := #[]
  cf := some (fileOf pool14 19 #[] #[{ accessFlags := 1, nameIndex := 5, descriptorIndex := 6, attributes := #[] }, { accessFlags := 1, nameIndex := 5, descriptorIndex := 9, attributes := #[] }] 33 2 #[] #[{ accessFlags := 24, nameIndex := 21, descriptorIndex := 22, attributes := #[] }])
  fields := #[{ name := "serialVersionUID", type := .long, accessFlags := 24, slot := 0, constantValue := 0 }]
  methods := #[k14m0, k14m1]
  instanceTypes := #[(.object "java/lang/Object"), (.object "java/lang/String"), (.object "java/lang/Throwable"), (.array (.object "java/lang/StackTraceElement")), .int, (.object "java/util/List")]
  staticTypes := #[.long]
  resolved := Array.replicate 40 none
  statics := none }

def pool15 : Array CpInfo := pool [(1, .methodref 2 3), (0, .class_ 4), (0, .nameAndType 5 6), (0, u "com/example/onegate/onegate/core/http/HttpResponse$Content"), (0, u "text"), (0, u "(Ljava/lang/String;)Lcom/example/onegate/onegate/core/http/HttpResponse$Content;"), (0, .fieldref 8 9), (0, .class_ 10), (0, .nameAndType 11 12), (0, u "com/example/onegate/onegate/gate/Answer$Line"), (0, u "REFUSED"), (0, u "Lcom/example/onegate/onegate/gate/Answer$Line;"), (0, .methodref 14 15), (0, .class_ 16), (0, .nameAndType 17 18), (0, u "com/example/onegate/onegate/gate/Answer"), (0, u "<init>"), (0, u "(Lcom/example/onegate/onegate/core/http/HttpResponse$Status;Ljava/lang/String;Lcom/example/onegate/onegate/core/http/HttpResponse$Content;Ljava/lang/String;Lcom/example/onegate/onegate/gate/Answer$Line;)V"), (0, .fieldref 8 20), (0, .nameAndType 21 12), (0, u "GIVEN"), (0, .methodref 23 24), (0, .class_ 25), (0, .nameAndType 17 26), (0, u "java/lang/Exception"), (0, u "(Ljava/lang/String;)V"), (0, .fieldref 14 28), (0, .nameAndType 29 30), (0, u "status"), (0, u "Lcom/example/onegate/onegate/core/http/HttpResponse$Status;"), (0, .fieldref 14 32), (0, .nameAndType 33 34), (0, u "content"), (0, u "Lcom/example/onegate/onegate/core/http/HttpResponse$Content;"), (0, .fieldref 14 36), (0, .nameAndType 37 38), (0, u "report"), (0, u "Ljava/lang/String;"), (0, .fieldref 14 40), (0, .nameAndType 41 12), (0, u "line"), (0, .fieldref 8 43), (0, .nameAndType 44 12), (0, u "BROKEN_OFF"), (0, .methodref 14 46), (0, .nameAndType 47 48), (0, u "getMessage"), (0, u "()Ljava/lang/String;"), (29, u "serialVersionUID"), (0, u "J"), (3, u "(Lcom/example/onegate/onegate/core/http/HttpResponse$Status;Ljava/lang/String;)V"), (2, u "(Lcom/example/onegate/onegate/core/http/HttpResponse$Status;Ljava/lang/String;Ljava/lang/String;)V"), (0, u "(Lcom/example/onegate/onegate/core/http/HttpResponse$Status;Ljava/lang/String;Lcom/example/onegate/onegate/core/http/HttpResponse$Content;)V"), (0, u "brokenOff"), (0, u "(Lcom/example/onegate/onegate/core/http/HttpResponse$Status;Ljava/lang/String;)Lcom/example/onegate/onegate/gate/Answer;"), (0, u "again"), (0, u "()Lcom/example/onegate/onegate/gate/Answer;"), (2, u "brokeOff"), (0, u "()Z")] 15

def k15c0 : Code := { maxStack := 6, maxLocals := 3, code := prog_48_method_1_code, exceptionTable := #[], attributes := #[] }
def k15m0 : Method := { name := "<init>", desc := "(Lcom/example/onegate/onegate/core/http/HttpResponse$Status;Ljava/lang/String;)V", sig := { parameters := [(.object "com/example/onegate/onegate/core/http/HttpResponse$Status"), (.object "java/lang/String")], returnType := none }, accessFlags := 0, code := some k15c0 }
def k15c1 : Code := { maxStack := 6, maxLocals := 4, code := prog_48_method_2_code, exceptionTable := #[], attributes := #[] }
def k15m1 : Method := { name := "<init>", desc := "(Lcom/example/onegate/onegate/core/http/HttpResponse$Status;Ljava/lang/String;Ljava/lang/String;)V", sig := { parameters := [(.object "com/example/onegate/onegate/core/http/HttpResponse$Status"), (.object "java/lang/String"), (.object "java/lang/String")], returnType := none }, accessFlags := 0, code := some k15c1 }
def k15c2 : Code := { maxStack := 6, maxLocals := 4, code := prog_48_method_3_code, exceptionTable := #[], attributes := #[] }
def k15m2 : Method := { name := "<init>", desc := "(Lcom/example/onegate/onegate/core/http/HttpResponse$Status;Ljava/lang/String;Lcom/example/onegate/onegate/core/http/HttpResponse$Content;)V", sig := { parameters := [(.object "com/example/onegate/onegate/core/http/HttpResponse$Status"), (.object "java/lang/String"), (.object "com/example/onegate/onegate/core/http/HttpResponse$Content")], returnType := none }, accessFlags := 0, code := some k15c2 }
def k15c3 : Code := { maxStack := 2, maxLocals := 6, code := prog_48_method_4_code, exceptionTable := #[], attributes := #[] }
def k15m3 : Method := { name := "<init>", desc := "(Lcom/example/onegate/onegate/core/http/HttpResponse$Status;Ljava/lang/String;Lcom/example/onegate/onegate/core/http/HttpResponse$Content;Ljava/lang/String;Lcom/example/onegate/onegate/gate/Answer$Line;)V", sig := { parameters := [(.object "com/example/onegate/onegate/core/http/HttpResponse$Status"), (.object "java/lang/String"), (.object "com/example/onegate/onegate/core/http/HttpResponse$Content"), (.object "java/lang/String"), (.object "com/example/onegate/onegate/gate/Answer$Line")], returnType := none }, accessFlags := 2, code := some k15c3 }
def k15c4 : Code := { maxStack := 7, maxLocals := 2, code := prog_48_method_5_code, exceptionTable := #[], attributes := #[] }
def k15m4 : Method := { name := "brokenOff", desc := "(Lcom/example/onegate/onegate/core/http/HttpResponse$Status;Ljava/lang/String;)Lcom/example/onegate/onegate/gate/Answer;", sig := { parameters := [(.object "com/example/onegate/onegate/core/http/HttpResponse$Status"), (.object "java/lang/String")], returnType := some (.object "com/example/onegate/onegate/gate/Answer") }, accessFlags := 8, code := some k15c4 }
def k15c5 : Code := { maxStack := 7, maxLocals := 1, code := prog_48_method_6_code, exceptionTable := #[], attributes := #[] }
def k15m5 : Method := { name := "again", desc := "()Lcom/example/onegate/onegate/gate/Answer;", sig := { parameters := [], returnType := some (.object "com/example/onegate/onegate/gate/Answer") }, accessFlags := 0, code := some k15c5 }
def k15c6 : Code := { maxStack := 2, maxLocals := 1, code := prog_48_method_9_code, exceptionTable := #[], attributes := #[] }
def k15m6 : Method := { name := "brokeOff", desc := "()Z", sig := { parameters := [], returnType := some .boolean }, accessFlags := 0, code := some k15c6 }
/-- com/example/onegate/onegate/gate/Answer -/
def k15 : Class := { plain "com/example/onegate/onegate/gate/Answer" (some 14) with
  accessFlags := 48
  interfaces := #[]
  cf := some (fileOf pool15 14 #[.nestMembers #[8]] #[{ accessFlags := 0, nameIndex := 17, descriptorIndex := 83, attributes := #[] }, { accessFlags := 0, nameIndex := 17, descriptorIndex := 86, attributes := #[] }, { accessFlags := 0, nameIndex := 17, descriptorIndex := 87, attributes := #[] }, { accessFlags := 2, nameIndex := 17, descriptorIndex := 18, attributes := #[] }, { accessFlags := 8, nameIndex := 88, descriptorIndex := 89, attributes := #[] }, { accessFlags := 0, nameIndex := 90, descriptorIndex := 91, attributes := #[] }, { accessFlags := 0, nameIndex := 94, descriptorIndex := 95, attributes := #[] }] 48 23 #[] #[{ accessFlags := 26, nameIndex := 78, descriptorIndex := 79, attributes := #[] }, { accessFlags := 18, nameIndex := 29, descriptorIndex := 30, attributes := #[] }, { accessFlags := 146, nameIndex := 33, descriptorIndex := 34, attributes := #[] }, { accessFlags := 18, nameIndex := 37, descriptorIndex := 38, attributes := #[] }, { accessFlags := 18, nameIndex := 41, descriptorIndex := 12, attributes := #[] }])
  fields := #[{ name := "serialVersionUID", type := .long, accessFlags := 26, slot := 0, constantValue := 0 }, { name := "status", type := (.object "com/example/onegate/onegate/core/http/HttpResponse$Status"), accessFlags := 18, slot := 6, constantValue := 0 }, { name := "content", type := (.object "com/example/onegate/onegate/core/http/HttpResponse$Content"), accessFlags := 146, slot := 7, constantValue := 0 }, { name := "report", type := (.object "java/lang/String"), accessFlags := 18, slot := 8, constantValue := 0 }, { name := "line", type := (.object "com/example/onegate/onegate/gate/Answer$Line"), accessFlags := 18, slot := 9, constantValue := 0 }]
  methods := #[k15m0, k15m1, k15m2, k15m3, k15m4, k15m5, k15m6]
  instanceTypes := #[(.object "java/lang/Object"), (.object "java/lang/String"), (.object "java/lang/Throwable"), (.array (.object "java/lang/StackTraceElement")), .int, (.object "java/util/List"), (.object "com/example/onegate/onegate/core/http/HttpResponse$Status"), (.object "com/example/onegate/onegate/core/http/HttpResponse$Content"), (.object "java/lang/String"), (.object "com/example/onegate/onegate/gate/Answer$Line")]
  staticTypes := #[.long]
  resolved := Array.replicate 111 none
  statics := none }

def pool16 : Array CpInfo := pool [(1, .class_ 2), (0, u "com/example/onegate/onegate/gate/Answer$Line"), (2, u "GIVEN"), (0, u "Lcom/example/onegate/onegate/gate/Answer$Line;"), (2, u "REFUSED"), (2, u "BROKEN_OFF"), (2, u "$VALUES"), (0, u "[Lcom/example/onegate/onegate/gate/Answer$Line;"), (6, .class_ 25), (1, u "java/lang/Enum"), (26, .class_ 53), (0, u "com/example/onegate/onegate/gate/Answer")] 2

/-- com/example/onegate/onegate/gate/Answer$Line -/
def k16 : Class := { plain "com/example/onegate/onegate/gate/Answer$Line" (some 5) with
  accessFlags := 16432
  interfaces := #[]
  cf := some (fileOf pool16 1 #[.nestHost 52] #[] 16432 23 #[] #[{ accessFlags := 16409, nameIndex := 5, descriptorIndex := 6, attributes := #[] }, { accessFlags := 16409, nameIndex := 9, descriptorIndex := 6, attributes := #[] }, { accessFlags := 16409, nameIndex := 12, descriptorIndex := 6, attributes := #[] }, { accessFlags := 4122, nameIndex := 15, descriptorIndex := 16, attributes := #[] }])
  fields := #[{ name := "GIVEN", type := (.object "com/example/onegate/onegate/gate/Answer$Line"), accessFlags := 16409, slot := 0, constantValue := 0 }, { name := "REFUSED", type := (.object "com/example/onegate/onegate/gate/Answer$Line"), accessFlags := 16409, slot := 1, constantValue := 0 }, { name := "BROKEN_OFF", type := (.object "com/example/onegate/onegate/gate/Answer$Line"), accessFlags := 16409, slot := 2, constantValue := 0 }, { name := "$VALUES", type := (.array (.object "com/example/onegate/onegate/gate/Answer$Line")), accessFlags := 4122, slot := 3, constantValue := 0 }]
  methods := #[]
  instanceTypes := #[(.object "java/lang/String"), .int, .int]
  staticTypes := #[(.object "com/example/onegate/onegate/gate/Answer$Line"), (.object "com/example/onegate/onegate/gate/Answer$Line"), (.object "com/example/onegate/onegate/gate/Answer$Line"), (.array (.object "com/example/onegate/onegate/gate/Answer$Line"))]
  resolved := Array.replicate 56 none
  statics := some 3 }

def pool17 : Array CpInfo := pool [(1, .class_ 2), (0, u "java/lang/Appendable"), (0, .class_ 4), (0, u "java/lang/Object")] 9

/-- java/lang/Appendable -/
def k17 : Class := { plain "java/lang/Appendable" (some 0) with
  accessFlags := 1537
  interfaces := #[]
  cf := some (fileOf pool17 1 #[] #[] 1537 3 #[] #[])
  fields := #[]
  methods := #[]
  instanceTypes := #[]
  staticTypes := #[]
  resolved := Array.replicate 14 none
  statics := none }

def pool18 : Array CpInfo := pool [(1, .class_ 2), (0, u "java/lang/String"), (0, .methodref 4 5), (0, .class_ 6), (0, .nameAndType 7 8), (0, u "java/lang/Object"), (0, u "<init>"), (0, u "()V"), (1, .class_ 12), (1, u "java/lang/AbstractStringBuilder"), (0, u "EMPTYVALUE"), (0, u "[B"), (0, .fieldref 10 16), (0, .nameAndType 17 14), (0, u "value"), (0, .fieldref 1 19), (0, .nameAndType 20 21), (0, u "COMPACT_STRINGS"), (0, u "Z"), (0, .fieldref 10 23), (0, .nameAndType 24 25), (0, u "coder"), (0, u "B"), (6, .methodref 1 33), (0, .nameAndType 34 35), (0, u "length"), (0, u "()I"), (4, .methodref 1 41), (0, .nameAndType 24 42), (0, u "()B"), (2, u "append"), (0, u "(Ljava/lang/String;)Ljava/lang/AbstractStringBuilder;"), (1, .class_ 49), (0, u "java/lang/CharSequence"), (19, u "(Ljava/lang/String;)V"), (5, u "maybeLatin1"), (3, .fieldref 10 80), (0, .nameAndType 81 82), (0, u "count"), (0, u "I"), (2, u "isLatin1"), (0, u "()Z"), (13, .methodref 10 101), (0, .nameAndType 102 103), (0, u "ensureCapacityInternal"), (0, u "(I)V"), (104, .methodref 10 209), (0, .nameAndType 210 211), (0, u "putStringAt"), (0, u "(ILjava/lang/String;)V"), (5, u "inflateIfNeededFor"), (2, .nameAndType 221 222), (0, u "getBytes"), (0, u "([BIB)V"), (174, .methodref 10 398), (0, .nameAndType 217 69), (0, .methodref 1 220), (3, u "()[B"), (40, .class_ 445), (0, u "java/lang/Appendable"), (106, u "getValue")] 56

def k18m0 : Method := { name := "<init>", desc := "()V", sig := { parameters := [], returnType := none }, accessFlags := 0, code := none }
def k18c1 : Code := { maxStack := 2, maxLocals := 2, code := jdk_68_method_2_code, exceptionTable := #[], attributes := #[] }
def k18m1 : Method := { name := "<init>", desc := "(I)V", sig := { parameters := [.int], returnType := none }, accessFlags := 0, code := some k18c1 }
def k18c2 : Code := { maxStack := 1, maxLocals := 1, code := jdk_68_method_6_code, exceptionTable := #[], attributes := #[] }
def k18m2 : Method := { name := "length", desc := "()I", sig := { parameters := [], returnType := some .int }, accessFlags := 1, code := some k18c2 }
def k18c3 : Code := { maxStack := 4, maxLocals := 3, code := jdk_68_method_9_code, exceptionTable := #[], attributes := #[] }
def k18m3 : Method := { name := "ensureCapacityInternal", desc := "(I)V", sig := { parameters := [.int], returnType := none }, accessFlags := 2, code := some k18c3 }
def k18c4 : Code := { maxStack := 3, maxLocals := 3, code := jdk_68_method_22_code, exceptionTable := #[], attributes := #[] }
def k18m4 : Method := { name := "append", desc := "(Ljava/lang/String;)Ljava/lang/AbstractStringBuilder;", sig := { parameters := [(.object "java/lang/String")], returnType := some (.object "java/lang/AbstractStringBuilder") }, accessFlags := 1, code := some k18c4 }
def k18c5 : Code := { maxStack := 1, maxLocals := 1, code := jdk_68_method_64_code, exceptionTable := #[], attributes := #[] }
def k18m5 : Method := { name := "getValue", desc := "()[B", sig := { parameters := [], returnType := some (.array .byte) }, accessFlags := 16, code := some k18c5 }
def k18c6 : Code := { maxStack := 1, maxLocals := 1, code := jdk_68_method_68_code, exceptionTable := #[], attributes := #[] }
def k18m6 : Method := { name := "isLatin1", desc := "()Z", sig := { parameters := [], returnType := some .boolean }, accessFlags := 16, code := some k18c6 }
def k18c7 : Code := { maxStack := 2, maxLocals := 2, code := jdk_68_method_71_code, exceptionTable := #[], attributes := #[] }
def k18m7 : Method := { name := "inflateIfNeededFor", desc := "(Ljava/lang/String;)V", sig := { parameters := [(.object "java/lang/String")], returnType := none }, accessFlags := 2, code := some k18c7 }
def k18c8 : Code := { maxStack := 4, maxLocals := 3, code := jdk_68_method_73_code, exceptionTable := #[], attributes := #[] }
def k18m8 : Method := { name := "putStringAt", desc := "(ILjava/lang/String;)V", sig := { parameters := [.int, (.object "java/lang/String")], returnType := none }, accessFlags := 2, code := some k18c8 }
/-- java/lang/AbstractStringBuilder -/
def k18 : Class := { plain "java/lang/AbstractStringBuilder" (some 0) with
  accessFlags := 1056
  interfaces := #[17, 7]
  cf := some (fileOf pool18 10 #[] #[{ accessFlags := 0, nameIndex := 7, descriptorIndex := 8, attributes := #[] }, { accessFlags := 0, nameIndex := 7, descriptorIndex := 103, attributes := #[] }, { accessFlags := 1, nameIndex := 34, descriptorIndex := 35, attributes := #[] }, { accessFlags := 2, nameIndex := 102, descriptorIndex := 103, attributes := #[] }, { accessFlags := 1, nameIndex := 45, descriptorIndex := 46, attributes := #[] }, { accessFlags := 16, nameIndex := 552, descriptorIndex := 403, attributes := #[] }, { accessFlags := 16, nameIndex := 85, descriptorIndex := 86, attributes := #[] }, { accessFlags := 2, nameIndex := 217, descriptorIndex := 69, attributes := #[] }, { accessFlags := 2, nameIndex := 210, descriptorIndex := 211, attributes := #[] }] 1056 4 #[444, 48] #[{ accessFlags := 0, nameIndex := 17, descriptorIndex := 14, attributes := #[] }, { accessFlags := 0, nameIndex := 24, descriptorIndex := 25, attributes := #[] }, { accessFlags := 0, nameIndex := 75, descriptorIndex := 21, attributes := #[] }, { accessFlags := 0, nameIndex := 81, descriptorIndex := 82, attributes := #[] }, { accessFlags := 26, nameIndex := 13, descriptorIndex := 14, attributes := #[] }])
  fields := #[{ name := "value", type := (.array .byte), accessFlags := 0, slot := 0, constantValue := 0 }, { name := "coder", type := .byte, accessFlags := 0, slot := 1, constantValue := 0 }, { name := "maybeLatin1", type := .boolean, accessFlags := 0, slot := 2, constantValue := 0 }, { name := "count", type := .int, accessFlags := 0, slot := 3, constantValue := 0 }, { name := "EMPTYVALUE", type := (.array .byte), accessFlags := 26, slot := 0, constantValue := 0 }]
  methods := #[k18m0, k18m1, k18m2, k18m3, k18m4, k18m5, k18m6, k18m7, k18m8]
  instanceTypes := #[(.array .byte), .byte, .boolean, .int]
  staticTypes := #[(.array .byte)]
  resolved := Array.replicate 609 none
  statics := none }

def pool19 : Array CpInfo := pool [(1, .methodref 2 3), (0, .class_ 4), (0, .nameAndType 5 6), (0, u "java/lang/AbstractStringBuilder"), (0, u "<init>"), (0, u "(I)V"), (11, .class_ 20), (1, u "java/lang/String"), (3, .class_ 26), (1, u "java/lang/StringBuilder"), (0, u "append"), (0, u "(Ljava/lang/String;)Ljava/lang/StringBuilder;"), (0, .methodref 2 30), (0, .nameAndType 27 31), (0, u "(Ljava/lang/String;)Ljava/lang/AbstractStringBuilder;"), (105, .methodref 18 138), (0, .nameAndType 5 139), (0, u "(Ljava/lang/StringBuilder;)V"), (5, u "()V"), (10, u "()I"), (186, .methodref 2 344), (0, .nameAndType 345 156), (0, u "length"), (3, .class_ 350), (0, u "java/lang/Appendable"), (0, .class_ 352), (0, u "java/io/Serializable"), (0, .class_ 354), (0, u "java/lang/Comparable"), (0, .class_ 356), (0, u "java/lang/CharSequence"), (0, u "serialVersionUID"), (0, u "J"), (40, u "toString"), (0, u "()Ljava/lang/String;")] 21

def k19c0 : Code := { maxStack := 2, maxLocals := 1, code := jdk_67_method_1_code, exceptionTable := #[], attributes := #[] }
def k19m0 : Method := { name := "<init>", desc := "()V", sig := { parameters := [], returnType := none }, accessFlags := 1, code := some k19c0 }
def k19c1 : Code := { maxStack := 2, maxLocals := 2, code := jdk_67_method_7_code, exceptionTable := #[], attributes := #[] }
def k19m1 : Method := { name := "append", desc := "(Ljava/lang/String;)Ljava/lang/StringBuilder;", sig := { parameters := [(.object "java/lang/String")], returnType := some (.object "java/lang/StringBuilder") }, accessFlags := 1, code := some k19c1 }
def k19c2 : Code := { maxStack := 3, maxLocals := 1, code := jdk_67_method_42_code, exceptionTable := #[], attributes := #[] }
def k19m2 : Method := { name := "toString", desc := "()Ljava/lang/String;", sig := { parameters := [], returnType := some (.object "java/lang/String") }, accessFlags := 1, code := some k19c2 }
def k19c3 : Code := { maxStack := 1, maxLocals := 1, code := jdk_67_method_93_code, exceptionTable := #[], attributes := #[] }
def k19m3 : Method := { name := "length", desc := "()I", sig := { parameters := [], returnType := some .int }, accessFlags := 4161, code := some k19c3 }
/-- java/lang/StringBuilder -/
def k19 : Class := { plain "java/lang/StringBuilder" (some 18) with
  accessFlags := 49
  interfaces := #[17, 4, 3, 7]
  cf := some (fileOf pool19 24 #[] #[{ accessFlags := 1, nameIndex := 5, descriptorIndex := 145, attributes := #[] }, { accessFlags := 1, nameIndex := 27, descriptorIndex := 28, attributes := #[] }, { accessFlags := 1, nameIndex := 399, descriptorIndex := 400, attributes := #[] }, { accessFlags := 4161, nameIndex := 345, descriptorIndex := 156, attributes := #[] }] 49 2 #[349, 351, 353, 355] #[{ accessFlags := 24, nameIndex := 357, descriptorIndex := 358, attributes := #[] }])
  fields := #[{ name := "serialVersionUID", type := .long, accessFlags := 24, slot := 0, constantValue := 0 }]
  methods := #[k19m0, k19m1, k19m2, k19m3]
  instanceTypes := #[(.array .byte), .byte, .boolean, .int]
  staticTypes := #[.long]
  resolved := Array.replicate 422 none
  statics := none }

def pool20 : Array CpInfo := pool [(2, .class_ 4), (1, u "java/lang/Object"), (0, u "<init>"), (0, u "()V"), (1, .class_ 10), (1, u "java/lang/System"), (0, u "allowSecurityManager"), (0, u "I"), (16, u "cons"), (0, u "Ljava/io/Console;"), (77, .class_ 110), (1, u "java/lang/System$CallersHolder"), (43, u "initialErrStream"), (0, u "Ljava/io/PrintStream;"), (19, u "security"), (0, u "Ljava/lang/SecurityManager;"), (31, .class_ 209), (0, u "java/lang/System$1"), (7, u "props"), (0, u "Ljava/util/Properties;"), (2, u "lineSeparator"), (0, u "Ljava/lang/String;"), (96, .class_ 321), (1, u "java/lang/System$LoggerFinder"), (5, .class_ 328), (0, u "java/lang/System$Logger"), (67, u "err"), (2, u "out"), (91, u "notSupportedJnuEncoding"), (15, u "in"), (17, u "initialIn"), (0, u "Ljava/io/InputStream;"), (35, u "bootLayer"), (0, u "Ljava/lang/ModuleLayer;"), (99, .class_ 664), (0, u "java/lang/System$2"), (9, u "NEVER"), (2, u "MAYBE"), (49, u "arraycopy"), (0, u "(Ljava/lang/Object;ILjava/lang/Object;II)V"), (72, .class_ 802), (0, u "java/lang/System$Logger$Level")] 31

def k20m0 : Method := { name := "<init>", desc := "()V", sig := { parameters := [], returnType := none }, accessFlags := 2, code := none }
def k20m1 : Method := { name := "arraycopy", desc := "(Ljava/lang/Object;ILjava/lang/Object;II)V", sig := { parameters := [(.object "java/lang/Object"), .int, (.object "java/lang/Object"), .int, .int], returnType := none }, accessFlags := 265, code := none }
/-- java/lang/System -/
def k20 : Class := { plain "java/lang/System" (some 0) with
  accessFlags := 49
  interfaces := #[]
  cf := some (fileOf pool20 8 #[.nestMembers #[319, 327, 801, 108, 663, 208]] #[{ accessFlags := 2, nameIndex := 5, descriptorIndex := 6, attributes := #[] }, { accessFlags := 265, nameIndex := 727, descriptorIndex := 728, attributes := #[] }] 49 2 #[] #[{ accessFlags := 25, nameIndex := 507, descriptorIndex := 526, attributes := #[] }, { accessFlags := 25, nameIndex := 399, descriptorIndex := 155, attributes := #[] }, { accessFlags := 25, nameIndex := 396, descriptorIndex := 155, attributes := #[] }, { accessFlags := 10, nameIndex := 525, descriptorIndex := 526, attributes := #[] }, { accessFlags := 26, nameIndex := 674, descriptorIndex := 12, attributes := #[] }, { accessFlags := 26, nameIndex := 677, descriptorIndex := 12, attributes := #[] }, { accessFlags := 10, nameIndex := 11, descriptorIndex := 12, attributes := #[] }, { accessFlags := 74, nameIndex := 175, descriptorIndex := 176, attributes := #[] }, { accessFlags := 10, nameIndex := 491, descriptorIndex := 222, attributes := #[] }, { accessFlags := 74, nameIndex := 29, descriptorIndex := 30, attributes := #[] }, { accessFlags := 74, nameIndex := 154, descriptorIndex := 155, attributes := #[] }, { accessFlags := 10, nameIndex := 217, descriptorIndex := 218, attributes := #[] }, { accessFlags := 10, nameIndex := 221, descriptorIndex := 222, attributes := #[] }, { accessFlags := 8, nameIndex := 562, descriptorIndex := 563, attributes := #[] }])
  fields := #[{ name := "in", type := (.object "java/io/InputStream"), accessFlags := 25, slot := 0, constantValue := 0 }, { name := "out", type := (.object "java/io/PrintStream"), accessFlags := 25, slot := 1, constantValue := 0 }, { name := "err", type := (.object "java/io/PrintStream"), accessFlags := 25, slot := 2, constantValue := 0 }, { name := "initialIn", type := (.object "java/io/InputStream"), accessFlags := 10, slot := 3, constantValue := 0 }, { name := "NEVER", type := .int, accessFlags := 26, slot := 4, constantValue := 0 }, { name := "MAYBE", type := .int, accessFlags := 26, slot := 5, constantValue := 0 }, { name := "allowSecurityManager", type := .int, accessFlags := 10, slot := 6, constantValue := 0 }, { name := "security", type := (.object "java/lang/SecurityManager"), accessFlags := 74, slot := 7, constantValue := 0 }, { name := "notSupportedJnuEncoding", type := (.object "java/lang/String"), accessFlags := 10, slot := 8, constantValue := 0 }, { name := "cons", type := (.object "java/io/Console"), accessFlags := 74, slot := 9, constantValue := 0 }, { name := "initialErrStream", type := (.object "java/io/PrintStream"), accessFlags := 74, slot := 10, constantValue := 0 }, { name := "props", type := (.object "java/util/Properties"), accessFlags := 10, slot := 11, constantValue := 0 }, { name := "lineSeparator", type := (.object "java/lang/String"), accessFlags := 10, slot := 12, constantValue := 0 }, { name := "bootLayer", type := (.object "java/lang/ModuleLayer"), accessFlags := 8, slot := 13, constantValue := 0 }]
  methods := #[k20m0, k20m1]
  instanceTypes := #[]
  staticTypes := #[(.object "java/io/InputStream"), (.object "java/io/PrintStream"), (.object "java/io/PrintStream"), (.object "java/io/InputStream"), .int, .int, .int, (.object "java/lang/SecurityManager"), (.object "java/lang/String"), (.object "java/io/Console"), (.object "java/io/PrintStream"), (.object "java/util/Properties"), (.object "java/lang/String"), (.object "java/lang/ModuleLayer")]
  resolved := Array.replicate 834 none
  statics := none }

def pool21 : Array CpInfo := pool [(2, .class_ 4), (1, u "java/lang/Object"), (0, u "<init>"), (0, u "()V"), (7, .class_ 16), (1, u "java/util/Arrays"), (57, .class_ 76), (1, u "java/util/Arrays$NaturalOrder"), (36, .class_ 115), (1, u "java/util/Arrays$LegacyMergeSort"), (1, u "Z"), (21, u "copyOfRange"), (10, .methodref 151 152), (0, .class_ 153), (0, .nameAndType 154 155), (0, u "java/lang/System"), (0, u "arraycopy"), (0, u "(Ljava/lang/Object;ILjava/lang/Object;II)V"), (146, u "copyOf"), (1, .methodref 305 306), (0, .class_ 307), (0, .nameAndType 308 309), (0, u "java/lang/Math"), (0, u "min"), (0, u "(II)I"), (29, .methodref 14 340), (0, .nameAndType 341 342), (0, u "copyOfRangeByte"), (0, u "([BII)[B"), (0, .methodref 14 344), (0, .nameAndType 345 346), (0, u "checkLength"), (0, u "(II)V"), (28, .class_ 376), (0, u "java/util/Arrays$ArrayList"), (68, u "$assertionsDisabled"), (269, u "MIN_ARRAY_SORT_GRAN"), (0, u "I"), (2, u "INSERTIONSORT_THRESHOLD"), (149, u "([BI)[B"), (105, .class_ 976), (0, u "java/util/Arrays$ArrayItr")] 52

def k21m0 : Method := { name := "<init>", desc := "()V", sig := { parameters := [], returnType := none }, accessFlags := 2, code := none }
def k21c1 : Code := { maxStack := 6, maxLocals := 3, code := jdk_65_method_121_code, exceptionTable := #[], attributes := #[] }
def k21m1 : Method := { name := "copyOf", desc := "([BI)[B", sig := { parameters := [(.array .byte), .int], returnType := some (.array .byte) }, accessFlags := 9, code := some k21c1 }
def k21c2 : Code := { maxStack := 4, maxLocals := 2, code := jdk_65_method_131_code, exceptionTable := #[], attributes := #[] }
def k21m2 : Method := { name := "checkLength", desc := "(II)V", sig := { parameters := [.int, .int], returnType := none }, accessFlags := 10, code := some k21c2 }
def k21c3 : Code := { maxStack := 3, maxLocals := 3, code := jdk_65_method_132_code, exceptionTable := #[], attributes := #[] }
def k21m3 : Method := { name := "copyOfRange", desc := "([BII)[B", sig := { parameters := [(.array .byte), .int, .int], returnType := some (.array .byte) }, accessFlags := 9, code := some k21c3 }
def k21c4 : Code := { maxStack := 6, maxLocals := 5, code := jdk_65_method_133_code, exceptionTable := #[], attributes := #[] }
def k21m4 : Method := { name := "copyOfRangeByte", desc := "([BII)[B", sig := { parameters := [(.array .byte), .int, .int], returnType := some (.array .byte) }, accessFlags := 10, code := some k21c4 }
/-- java/util/Arrays -/
def k21 : Class := { plain "java/util/Arrays" (some 0) with
  accessFlags := 49
  interfaces := #[]
  cf := some (fileOf pool21 14 #[.nestMembers #[975, 375, 113, 74]] #[{ accessFlags := 2, nameIndex := 5, descriptorIndex := 6, attributes := #[] }, { accessFlags := 9, nameIndex := 302, descriptorIndex := 869, attributes := #[] }, { accessFlags := 10, nameIndex := 345, descriptorIndex := 346, attributes := #[] }, { accessFlags := 9, nameIndex := 139, descriptorIndex := 342, attributes := #[] }, { accessFlags := 10, nameIndex := 341, descriptorIndex := 342, attributes := #[] }] 49 2 #[] #[{ accessFlags := 26, nameIndex := 715, descriptorIndex := 716, attributes := #[] }, { accessFlags := 26, nameIndex := 719, descriptorIndex := 716, attributes := #[] }, { accessFlags := 4120, nameIndex := 445, descriptorIndex := 117, attributes := #[] }])
  fields := #[{ name := "MIN_ARRAY_SORT_GRAN", type := .int, accessFlags := 26, slot := 0, constantValue := 0 }, { name := "INSERTIONSORT_THRESHOLD", type := .int, accessFlags := 26, slot := 1, constantValue := 0 }, { name := "$assertionsDisabled", type := .boolean, accessFlags := 4120, slot := 2, constantValue := 0 }]
  methods := #[k21m0, k21m1, k21m2, k21m3, k21m4]
  instanceTypes := #[]
  staticTypes := #[.int, .int, .boolean]
  resolved := Array.replicate 1029 none
  statics := none }

def pool22 : Array CpInfo := pool [(1, .class_ 2), (0, u "java/lang/Math"), (1, .class_ 6), (1, u "java/lang/Object"), (0, u "<init>"), (0, u "()V"), (89, .class_ 100), (1, u "java/lang/Math$RandomNumberGeneratorHolder"), (71, u "negativeZeroFloatBits"), (0, u "J"), (2, u "negativeZeroDoubleBits"), (24, u "min"), (43, u "$assertionsDisabled"), (0, u "Z"), (88, u "(II)I"), (2, u "twoToTheDoubleScaleDown"), (0, u "D"), (4, u "twoToTheDoubleScaleUp"), (9, u "E"), (3, u "PI"), (2, u "TAU"), (2, u "DEGREES_TO_RADIANS"), (0, u "RADIANS_TO_DEGREES")] 94

def k22m0 : Method := { name := "<init>", desc := "()V", sig := { parameters := [], returnType := none }, accessFlags := 2, code := none }
def k22c1 : Code := { maxStack := 2, maxLocals := 2, code := jdk_29_method_69_code, exceptionTable := #[], attributes := #[] }
def k22m1 : Method := { name := "min", desc := "(II)I", sig := { parameters := [.int, .int], returnType := some .int }, accessFlags := 9, code := some k22c1 }
/-- java/lang/Math -/
def k22 : Class := { plain "java/lang/Math" (some 0) with
  accessFlags := 49
  interfaces := #[]
  cf := some (fileOf pool22 1 #[.nestMembers #[98]] #[{ accessFlags := 2, nameIndex := 7, descriptorIndex := 8, attributes := #[] }, { accessFlags := 9, nameIndex := 201, descriptorIndex := 335, attributes := #[] }] 49 4 #[] #[{ accessFlags := 25, nameIndex := 354, descriptorIndex := 339, attributes := #[] }, { accessFlags := 25, nameIndex := 358, descriptorIndex := 339, attributes := #[] }, { accessFlags := 25, nameIndex := 361, descriptorIndex := 339, attributes := #[] }, { accessFlags := 26, nameIndex := 364, descriptorIndex := 339, attributes := #[] }, { accessFlags := 26, nameIndex := 365, descriptorIndex := 339, attributes := #[] }, { accessFlags := 26, nameIndex := 172, descriptorIndex := 173, attributes := #[] }, { accessFlags := 26, nameIndex := 176, descriptorIndex := 173, attributes := #[] }, { accessFlags := 8, nameIndex := 344, descriptorIndex := 339, attributes := #[] }, { accessFlags := 8, nameIndex := 338, descriptorIndex := 339, attributes := #[] }, { accessFlags := 4120, nameIndex := 245, descriptorIndex := 246, attributes := #[] }])
  fields := #[{ name := "E", type := .double, accessFlags := 25, slot := 0, constantValue := 0 }, { name := "PI", type := .double, accessFlags := 25, slot := 1, constantValue := 0 }, { name := "TAU", type := .double, accessFlags := 25, slot := 2, constantValue := 0 }, { name := "DEGREES_TO_RADIANS", type := .double, accessFlags := 26, slot := 3, constantValue := 0 }, { name := "RADIANS_TO_DEGREES", type := .double, accessFlags := 26, slot := 4, constantValue := 0 }, { name := "negativeZeroFloatBits", type := .long, accessFlags := 26, slot := 5, constantValue := 0 }, { name := "negativeZeroDoubleBits", type := .long, accessFlags := 26, slot := 6, constantValue := 0 }, { name := "twoToTheDoubleScaleUp", type := .double, accessFlags := 8, slot := 7, constantValue := 0 }, { name := "twoToTheDoubleScaleDown", type := .double, accessFlags := 8, slot := 8, constantValue := 0 }, { name := "$assertionsDisabled", type := .boolean, accessFlags := 4120, slot := 9, constantValue := 0 }]
  methods := #[k22m0, k22m1]
  instanceTypes := #[]
  staticTypes := #[.double, .double, .double, .double, .double, .long, .long, .double, .double, .boolean]
  resolved := Array.replicate 460 none
  statics := none }

def pool23 : Array CpInfo := pool [(2, .class_ 4), (1, u "java/lang/Object"), (0, u "<init>"), (0, u "()V"), (14, .class_ 23), (1, u "java/nio/charset/StandardCharsets"), (0, u "US_ASCII"), (0, u "Ljava/nio/charset/Charset;"), (7, u "ISO_8859_1"), (7, u "UTF_8"), (5, u "UTF_16BE"), (5, u "UTF_16LE"), (5, u "UTF_16")] 8

def k23m0 : Method := { name := "<init>", desc := "()V", sig := { parameters := [], returnType := none }, accessFlags := 2, code := none }
/-- java/nio/charset/StandardCharsets -/
def k23 : Class := { plain "java/nio/charset/StandardCharsets" (some 0) with
  accessFlags := 49
  interfaces := #[]
  cf := some (fileOf pool23 21 #[] #[{ accessFlags := 2, nameIndex := 5, descriptorIndex := 6, attributes := #[] }] 49 2 #[] #[{ accessFlags := 25, nameIndex := 24, descriptorIndex := 25, attributes := #[] }, { accessFlags := 25, nameIndex := 33, descriptorIndex := 25, attributes := #[] }, { accessFlags := 25, nameIndex := 41, descriptorIndex := 25, attributes := #[] }, { accessFlags := 25, nameIndex := 47, descriptorIndex := 25, attributes := #[] }, { accessFlags := 25, nameIndex := 53, descriptorIndex := 25, attributes := #[] }, { accessFlags := 25, nameIndex := 59, descriptorIndex := 25, attributes := #[] }])
  fields := #[{ name := "US_ASCII", type := (.object "java/nio/charset/Charset"), accessFlags := 25, slot := 0, constantValue := 0 }, { name := "ISO_8859_1", type := (.object "java/nio/charset/Charset"), accessFlags := 25, slot := 1, constantValue := 0 }, { name := "UTF_8", type := (.object "java/nio/charset/Charset"), accessFlags := 25, slot := 2, constantValue := 0 }, { name := "UTF_16BE", type := (.object "java/nio/charset/Charset"), accessFlags := 25, slot := 3, constantValue := 0 }, { name := "UTF_16LE", type := (.object "java/nio/charset/Charset"), accessFlags := 25, slot := 4, constantValue := 0 }, { name := "UTF_16", type := (.object "java/nio/charset/Charset"), accessFlags := 25, slot := 5, constantValue := 0 }]
  methods := #[k23m0]
  instanceTypes := #[]
  staticTypes := #[(.object "java/nio/charset/Charset"), (.object "java/nio/charset/Charset"), (.object "java/nio/charset/Charset"), (.object "java/nio/charset/Charset"), (.object "java/nio/charset/Charset"), (.object "java/nio/charset/Charset")]
  resolved := Array.replicate 68 none
  statics := some 4 }

def pool24 : Array CpInfo := pool [(18, .class_ 20), (1, u "java/nio/charset/Charset"), (0, u "cache1"), (0, u "[Ljava/lang/Object;"), (2, u "cache2"), (0, .class_ 27), (0, u "java/lang/Object"), (0, .class_ 29), (0, u "java/nio/charset/Charset$1"), (4, .class_ 36), (1, u "java/nio/charset/Charset$ThreadTrackHolder"), (21, .class_ 59), (0, u "java/nio/charset/Charset$2"), (11, .class_ 73), (1, u "java/nio/charset/Charset$ExtendedProviderHolder"), (22, u "standardProvider"), (0, u "Ljava/nio/charset/spi/CharsetProvider;"), (29, u "name"), (7, .class_ 136), (0, u "java/nio/charset/Charset$3"), (5, u "defaultCharset"), (0, u "Ljava/nio/charset/Charset;"), (14, u "zeroAliases"), (0, u "[Ljava/lang/String;"), (29, u "Ljava/lang/String;"), (2, u "aliases"), (2, u "aliasSet"), (0, u "Ljava/util/Set;"), (82, .class_ 280), (0, u "java/lang/Comparable"), (84, .class_ 366), (0, u "java/nio/charset/Charset$ExtendedProviderHolder$1")] 3

/-- java/nio/charset/Charset -/
def k24 : Class := { plain "java/nio/charset/Charset" (some 0) with
  accessFlags := 1057
  interfaces := #[3]
  cf := some (fileOf pool24 18 #[.nestMembers #[71, 365, 34, 135, 58, 28]] #[] 1057 26 #[279] #[{ accessFlags := 26, nameIndex := 96, descriptorIndex := 97, attributes := #[] }, { accessFlags := 26, nameIndex := 158, descriptorIndex := 159, attributes := #[] }, { accessFlags := 74, nameIndex := 21, descriptorIndex := 22, attributes := #[] }, { accessFlags := 74, nameIndex := 25, descriptorIndex := 22, attributes := #[] }, { accessFlags := 10, nameIndex := 142, descriptorIndex := 143, attributes := #[] }, { accessFlags := 18, nameIndex := 127, descriptorIndex := 189, attributes := #[] }, { accessFlags := 18, nameIndex := 192, descriptorIndex := 159, attributes := #[] }, { accessFlags := 2, nameIndex := 195, descriptorIndex := 196, attributes := #[] }])
  fields := #[{ name := "standardProvider", type := (.object "java/nio/charset/spi/CharsetProvider"), accessFlags := 26, slot := 0, constantValue := 0 }, { name := "zeroAliases", type := (.array (.object "java/lang/String")), accessFlags := 26, slot := 1, constantValue := 0 }, { name := "cache1", type := (.array (.object "java/lang/Object")), accessFlags := 74, slot := 2, constantValue := 0 }, { name := "cache2", type := (.array (.object "java/lang/Object")), accessFlags := 74, slot := 3, constantValue := 0 }, { name := "defaultCharset", type := (.object "java/nio/charset/Charset"), accessFlags := 10, slot := 4, constantValue := 0 }, { name := "name", type := (.object "java/lang/String"), accessFlags := 18, slot := 0, constantValue := 0 }, { name := "aliases", type := (.array (.object "java/lang/String")), accessFlags := 18, slot := 1, constantValue := 0 }, { name := "aliasSet", type := (.object "java/util/Set"), accessFlags := 2, slot := 2, constantValue := 0 }]
  methods := #[]
  instanceTypes := #[(.object "java/lang/String"), (.array (.object "java/lang/String")), (.object "java/util/Set")]
  staticTypes := #[(.object "java/nio/charset/spi/CharsetProvider"), (.array (.object "java/lang/String")), (.array (.object "java/lang/Object")), (.array (.object "java/lang/Object")), (.object "java/nio/charset/Charset")]
  resolved := Array.replicate 370 none
  statics := none }

def pool25 : Array CpInfo := pool [(1, .class_ 2), (0, u "sun/nio/cs/HistoricallyNamedCharset"), (0, .class_ 4), (0, u "java/lang/Object")] 4

/-- sun/nio/cs/HistoricallyNamedCharset -/
def k25 : Class := { plain "sun/nio/cs/HistoricallyNamedCharset" (some 0) with
  accessFlags := 1537
  interfaces := #[]
  cf := some (fileOf pool25 1 #[] #[] 1537 3 #[] #[])
  fields := #[]
  methods := #[]
  instanceTypes := #[]
  staticTypes := #[]
  resolved := Array.replicate 9 none
  statics := none }

def pool26 : Array CpInfo := pool [(2, .class_ 4), (1, u "java/nio/charset/Charset"), (130, .class_ 136), (0, u "sun/nio/cs/Unicode"), (0, .class_ 138), (0, u "sun/nio/cs/HistoricallyNamedCharset")] 15

/-- sun/nio/cs/Unicode -/
def k26 : Class := { plain "sun/nio/cs/Unicode" (some 24) with
  accessFlags := 1056
  interfaces := #[25]
  cf := some (fileOf pool26 135 #[] #[] 1056 2 #[137] #[])
  fields := #[]
  methods := #[]
  instanceTypes := #[(.object "java/lang/String"), (.array (.object "java/lang/String")), (.object "java/util/Set")]
  staticTypes := #[]
  resolved := Array.replicate 154 none
  statics := none }

def pool27 : Array CpInfo := pool [(10, .class_ 12), (1, u "sun/nio/cs/Unicode"), (0, u "<init>"), (3, .class_ 18), (0, u "sun/nio/cs/UTF_8$Decoder"), (3, .class_ 23), (0, u "sun/nio/cs/UTF_8$Encoder"), (15, .class_ 40), (0, u "sun/nio/cs/UTF_8"), (2, u "()V"), (2, u "INSTANCE"), (0, u "Lsun/nio/cs/UTF_8;"), (8, u "JLA"), (0, u "Ljdk/internal/access/JavaLangAccess;")] 26

def k27m0 : Method := { name := "<init>", desc := "()V", sig := { parameters := [], returnType := none }, accessFlags := 1, code := none }
/-- sun/nio/cs/UTF_8 -/
def k27 : Class := { plain "sun/nio/cs/UTF_8" (some 26) with
  accessFlags := 49
  interfaces := #[]
  cf := some (fileOf pool27 39 #[.nestMembers #[22, 17]] #[{ accessFlags := 1, nameIndex := 13, descriptorIndex := 43, attributes := #[] }] 49 10 #[] #[{ accessFlags := 25, nameIndex := 46, descriptorIndex := 47, attributes := #[] }, { accessFlags := 26, nameIndex := 56, descriptorIndex := 57, attributes := #[] }])
  fields := #[{ name := "INSTANCE", type := (.object "sun/nio/cs/UTF_8"), accessFlags := 25, slot := 0, constantValue := 0 }, { name := "JLA", type := (.object "jdk/internal/access/JavaLangAccess"), accessFlags := 26, slot := 1, constantValue := 0 }]
  methods := #[k27m0]
  instanceTypes := #[(.object "java/lang/String"), (.array (.object "java/lang/String")), (.object "java/util/Set")]
  staticTypes := #[(.object "sun/nio/cs/UTF_8"), (.object "jdk/internal/access/JavaLangAccess")]
  resolved := Array.replicate 84 none
  statics := some 5 }

def pool28 : Array CpInfo := pool [(2, .class_ 4), (1, u "java/lang/Object"), (0, u "<init>"), (0, u "()V"), (0, .methodref 8 9), (0, .class_ 10), (0, .nameAndType 11 12), (0, u "java/lang/StringCoding"), (0, u "countPositives"), (0, u "([BII)I"), (11, u "hasNegatives"), (0, u "([BII)Z")] 23

def k28m0 : Method := { name := "<init>", desc := "()V", sig := { parameters := [], returnType := none }, accessFlags := 2, code := none }
def k28c1 : Code := { maxStack := 3, maxLocals := 3, code := jdk_123_method_2_code, exceptionTable := #[], attributes := #[] }
def k28m1 : Method := { name := "hasNegatives", desc := "([BII)Z", sig := { parameters := [(.array .byte), .int, .int], returnType := some .boolean }, accessFlags := 9, code := some k28c1 }
def k28c2 : Code := { maxStack := 2, maxLocals := 5, code := jdk_123_method_3_code, exceptionTable := #[], attributes := #[] }
def k28m2 : Method := { name := "countPositives", desc := "([BII)I", sig := { parameters := [(.array .byte), .int, .int], returnType := some .int }, accessFlags := 9, code := some k28c2 }
/-- java/lang/StringCoding -/
def k28 : Class := { plain "java/lang/StringCoding" (some 0) with
  accessFlags := 32
  interfaces := #[]
  cf := some (fileOf pool28 8 #[] #[{ accessFlags := 2, nameIndex := 5, descriptorIndex := 6, attributes := #[] }, { accessFlags := 9, nameIndex := 24, descriptorIndex := 25, attributes := #[] }, { accessFlags := 9, nameIndex := 11, descriptorIndex := 12, attributes := #[] }] 32 2 #[] #[])
  fields := #[]
  methods := #[k28m0, k28m1, k28m2]
  instanceTypes := #[]
  staticTypes := #[]
  resolved := Array.replicate 49 none
  statics := none }

def pool29 : Array CpInfo := pool [(1, .class_ 2), (0, u "java/lang/Cloneable"), (0, .class_ 4), (0, u "java/lang/Object")] 2

/-- java/lang/Cloneable -/
def k29 : Class := { plain "java/lang/Cloneable" (some 0) with
  accessFlags := 1537
  interfaces := #[]
  cf := some (fileOf pool29 1 #[] #[] 1537 3 #[] #[])
  fields := #[]
  methods := #[]
  instanceTypes := #[]
  staticTypes := #[]
  resolved := Array.replicate 7 none
  statics := none }

def pool30 : Array CpInfo := pool [(4, .class_ 6), (1, u "java/lang/Object"), (0, u "<init>"), (0, u "()V"), (5, .class_ 16), (1, u "java/lang/StringLatin1"), (104, u "$assertionsDisabled"), (0, u "Z"), (98, .class_ 223), (1, u "java/lang/StringLatin1$LinesSpliterator"), (166, .class_ 391), (0, u "java/lang/StringLatin1$CharsSpliterator")] 3

def k30m0 : Method := { name := "<init>", desc := "()V", sig := { parameters := [], returnType := none }, accessFlags := 0, code := none }
/-- java/lang/StringLatin1 -/
def k30 : Class := { plain "java/lang/StringLatin1" (some 0) with
  accessFlags := 48
  interfaces := #[]
  cf := some (fileOf pool30 14 #[.nestMembers #[390, 221]] #[{ accessFlags := 0, nameIndex := 7, descriptorIndex := 8, attributes := #[] }] 48 4 #[] #[{ accessFlags := 4120, nameIndex := 121, descriptorIndex := 122, attributes := #[] }])
  fields := #[{ name := "$assertionsDisabled", type := .boolean, accessFlags := 4120, slot := 0, constantValue := 0 }]
  methods := #[k30m0]
  instanceTypes := #[]
  staticTypes := #[.boolean]
  resolved := Array.replicate 395 none
  statics := none }

def pool31 : Array CpInfo := pool [(2, .class_ 4), (1, u "java/lang/Object"), (0, u "<init>"), (0, u "()V"), (17, .class_ 26), (1, u "jdk/internal/util/Preconditions"), (28, .class_ 56), (0, u "jdk/internal/util/Preconditions$4"), (57, .class_ 115), (0, u "jdk/internal/util/Preconditions$1"), (7, u "SIOOBE_FORMATTER"), (0, u "Ljava/util/function/BiFunction;"), (0, .class_ 126), (0, u "jdk/internal/util/Preconditions$2"), (3, u "AIOOBE_FORMATTER"), (0, .class_ 132), (0, u "jdk/internal/util/Preconditions$3"), (3, u "IOOBE_FORMATTER")] 57

def k31m0 : Method := { name := "<init>", desc := "()V", sig := { parameters := [], returnType := none }, accessFlags := 1, code := none }
/-- jdk/internal/util/Preconditions -/
def k31 : Class := { plain "jdk/internal/util/Preconditions" (some 0) with
  accessFlags := 33
  interfaces := #[]
  cf := some (fileOf pool31 24 #[.nestMembers #[55, 131, 125, 114]] #[{ accessFlags := 1, nameIndex := 5, descriptorIndex := 6, attributes := #[] }] 33 2 #[] #[{ accessFlags := 25, nameIndex := 123, descriptorIndex := 124, attributes := #[] }, { accessFlags := 25, nameIndex := 130, descriptorIndex := 124, attributes := #[] }, { accessFlags := 25, nameIndex := 136, descriptorIndex := 124, attributes := #[] }])
  fields := #[{ name := "SIOOBE_FORMATTER", type := (.object "java/util/function/BiFunction"), accessFlags := 25, slot := 0, constantValue := 0 }, { name := "AIOOBE_FORMATTER", type := (.object "java/util/function/BiFunction"), accessFlags := 25, slot := 1, constantValue := 0 }, { name := "IOOBE_FORMATTER", type := (.object "java/util/function/BiFunction"), accessFlags := 25, slot := 2, constantValue := 0 }]
  methods := #[k31m0]
  instanceTypes := #[]
  staticTypes := #[(.object "java/util/function/BiFunction"), (.object "java/util/function/BiFunction"), (.object "java/util/function/BiFunction")]
  resolved := Array.replicate 194 none
  statics := some 6 }

def pool32 : Array CpInfo := pool [(9, u "<init>"), (6, .class_ 18), (1, u "java/lang/Object"), (0, u "()V"), (1, .class_ 23), (1, u "jdk/internal/util/ArraysSupport"), (0, u "LOG2_ARRAY_LONG_INDEX_SCALE"), (0, u "I"), (2, u "U"), (0, u "Ljdk/internal/misc/Unsafe;"), (8, u "BIG_ENDIAN"), (0, u "Z"), (8, u "LOG2_BYTE_BIT_SIZE"), (4, u "LOG2_ARRAY_INT_INDEX_SCALE"), (54, u "JLA"), (0, u "Ljdk/internal/access/JavaLangAccess;"), (11, u "LOG2_ARRAY_BOOLEAN_INDEX_SCALE"), (9, u "LOG2_ARRAY_BYTE_INDEX_SCALE"), (5, u "LOG2_ARRAY_CHAR_INDEX_SCALE"), (5, u "LOG2_ARRAY_SHORT_INDEX_SCALE"), (18, u "LOG2_ARRAY_FLOAT_INDEX_SCALE"), (24, u "LOG2_ARRAY_DOUBLE_INDEX_SCALE"), (89, u "T_BOOLEAN"), (2, u "T_CHAR"), (1, u "T_FLOAT"), (1, u "T_DOUBLE"), (1, u "T_BYTE"), (1, u "T_SHORT"), (1, u "T_INT"), (1, u "T_LONG"), (1, u "SOFT_MAX_ARRAY_LENGTH")] 83

def k32m0 : Method := { name := "<init>", desc := "()V", sig := { parameters := [], returnType := none }, accessFlags := 2, code := none }
/-- jdk/internal/util/ArraysSupport -/
def k32 : Class := { plain "jdk/internal/util/ArraysSupport" (some 0) with
  accessFlags := 33
  interfaces := #[]
  cf := some (fileOf pool32 21 #[] #[{ accessFlags := 2, nameIndex := 9, descriptorIndex := 19, attributes := #[] }] 33 16 #[] #[{ accessFlags := 24, nameIndex := 28, descriptorIndex := 29, attributes := #[] }, { accessFlags := 26, nameIndex := 38, descriptorIndex := 39, attributes := #[] }, { accessFlags := 25, nameIndex := 121, descriptorIndex := 25, attributes := #[] }, { accessFlags := 25, nameIndex := 131, descriptorIndex := 25, attributes := #[] }, { accessFlags := 25, nameIndex := 137, descriptorIndex := 25, attributes := #[] }, { accessFlags := 25, nameIndex := 143, descriptorIndex := 25, attributes := #[] }, { accessFlags := 25, nameIndex := 53, descriptorIndex := 25, attributes := #[] }, { accessFlags := 25, nameIndex := 24, descriptorIndex := 25, attributes := #[] }, { accessFlags := 25, nameIndex := 162, descriptorIndex := 25, attributes := #[] }, { accessFlags := 25, nameIndex := 187, descriptorIndex := 25, attributes := #[] }, { accessFlags := 26, nameIndex := 48, descriptorIndex := 25, attributes := #[] }, { accessFlags := 25, nameIndex := 277, descriptorIndex := 25, attributes := #[] }, { accessFlags := 25, nameIndex := 280, descriptorIndex := 25, attributes := #[] }, { accessFlags := 25, nameIndex := 282, descriptorIndex := 25, attributes := #[] }, { accessFlags := 25, nameIndex := 284, descriptorIndex := 25, attributes := #[] }, { accessFlags := 25, nameIndex := 286, descriptorIndex := 25, attributes := #[] }, { accessFlags := 25, nameIndex := 288, descriptorIndex := 25, attributes := #[] }, { accessFlags := 25, nameIndex := 290, descriptorIndex := 25, attributes := #[] }, { accessFlags := 25, nameIndex := 292, descriptorIndex := 25, attributes := #[] }, { accessFlags := 26, nameIndex := 108, descriptorIndex := 109, attributes := #[] }, { accessFlags := 25, nameIndex := 294, descriptorIndex := 25, attributes := #[] }])
  fields := #[{ name := "U", type := (.object "jdk/internal/misc/Unsafe"), accessFlags := 24, slot := 0, constantValue := 0 }, { name := "BIG_ENDIAN", type := .boolean, accessFlags := 26, slot := 1, constantValue := 0 }, { name := "LOG2_ARRAY_BOOLEAN_INDEX_SCALE", type := .int, accessFlags := 25, slot := 2, constantValue := 0 }, { name := "LOG2_ARRAY_BYTE_INDEX_SCALE", type := .int, accessFlags := 25, slot := 3, constantValue := 0 }, { name := "LOG2_ARRAY_CHAR_INDEX_SCALE", type := .int, accessFlags := 25, slot := 4, constantValue := 0 }, { name := "LOG2_ARRAY_SHORT_INDEX_SCALE", type := .int, accessFlags := 25, slot := 5, constantValue := 0 }, { name := "LOG2_ARRAY_INT_INDEX_SCALE", type := .int, accessFlags := 25, slot := 6, constantValue := 0 }, { name := "LOG2_ARRAY_LONG_INDEX_SCALE", type := .int, accessFlags := 25, slot := 7, constantValue := 0 }, { name := "LOG2_ARRAY_FLOAT_INDEX_SCALE", type := .int, accessFlags := 25, slot := 8, constantValue := 0 }, { name := "LOG2_ARRAY_DOUBLE_INDEX_SCALE", type := .int, accessFlags := 25, slot := 9, constantValue := 0 }, { name := "LOG2_BYTE_BIT_SIZE", type := .int, accessFlags := 26, slot := 10, constantValue := 0 }, { name := "T_BOOLEAN", type := .int, accessFlags := 25, slot := 11, constantValue := 0 }, { name := "T_CHAR", type := .int, accessFlags := 25, slot := 12, constantValue := 0 }, { name := "T_FLOAT", type := .int, accessFlags := 25, slot := 13, constantValue := 0 }, { name := "T_DOUBLE", type := .int, accessFlags := 25, slot := 14, constantValue := 0 }, { name := "T_BYTE", type := .int, accessFlags := 25, slot := 15, constantValue := 0 }, { name := "T_SHORT", type := .int, accessFlags := 25, slot := 16, constantValue := 0 }, { name := "T_INT", type := .int, accessFlags := 25, slot := 17, constantValue := 0 }, { name := "T_LONG", type := .int, accessFlags := 25, slot := 18, constantValue := 0 }, { name := "JLA", type := (.object "jdk/internal/access/JavaLangAccess"), accessFlags := 26, slot := 19, constantValue := 0 }, { name := "SOFT_MAX_ARRAY_LENGTH", type := .int, accessFlags := 25, slot := 20, constantValue := 0 }]
  methods := #[k32m0]
  instanceTypes := #[]
  staticTypes := #[(.object "jdk/internal/misc/Unsafe"), .boolean, .int, .int, .int, .int, .int, .int, .int, .int, .int, .int, .int, .int, .int, .int, .int, .int, .int, (.object "jdk/internal/access/JavaLangAccess"), .int]
  resolved := Array.replicate 378 none
  statics := none }

def pool33 : Array CpInfo := pool [(2, .class_ 4), (1, u "java/lang/Object"), (0, u "<init>"), (0, u "()V"), (12, .class_ 20), (0, u "java/util/Collections"), (63, u "r"), (0, u "Ljava/util/Random;"), (80, .class_ 167), (0, u "java/util/Collections$UnmodifiableCollection"), (6, .class_ 175), (0, u "java/util/Collections$UnmodifiableSequencedCollection"), (6, .class_ 183), (0, u "java/util/Collections$UnmodifiableSet"), (6, .class_ 191), (0, u "java/util/Collections$UnmodifiableSequencedSet"), (6, .class_ 199), (0, u "java/util/Collections$UnmodifiableSortedSet"), (6, .class_ 207), (0, u "java/util/Collections$UnmodifiableNavigableSet"), (4, .class_ 213), (0, u "java/util/Collections$UnmodifiableList"), (1, .class_ 216), (0, u "java/util/Collections$UnmodifiableRandomAccessList"), (6, .class_ 224), (0, u "java/util/Collections$UnmodifiableMap"), (6, .class_ 232), (0, u "java/util/Collections$UnmodifiableSequencedMap"), (4, .class_ 238), (0, u "java/util/Collections$UnmodifiableSortedMap"), (6, .class_ 246), (0, u "java/util/Collections$UnmodifiableNavigableMap"), (3, .class_ 251), (0, u "java/util/Collections$SynchronizedCollection"), (4, .class_ 257), (0, u "java/util/Collections$SynchronizedSet"), (4, .class_ 263), (0, u "java/util/Collections$SynchronizedSortedSet"), (1, .class_ 266), (0, u "java/util/Collections$SynchronizedNavigableSet"), (1, .class_ 269), (0, u "java/util/Collections$SynchronizedRandomAccessList"), (1, .class_ 272), (0, u "java/util/Collections$SynchronizedList"), (5, .class_ 279), (0, u "java/util/Collections$SynchronizedMap"), (1, .class_ 282), (0, u "java/util/Collections$SynchronizedSortedMap"), (1, .class_ 285), (0, u "java/util/Collections$SynchronizedNavigableMap"), (1, .class_ 288), (0, u "java/util/Collections$CheckedCollection"), (11, .class_ 301), (0, u "java/util/Collections$CheckedQueue"), (3, .class_ 306), (0, u "java/util/Collections$CheckedSet"), (3, .class_ 311), (0, u "java/util/Collections$CheckedSortedSet"), (3, .class_ 316), (0, u "java/util/Collections$CheckedNavigableSet"), (3, .class_ 321), (0, u "java/util/Collections$CheckedRandomAccessList"), (3, .class_ 326), (0, u "java/util/Collections$CheckedList"), (1, .class_ 329), (0, u "java/util/Collections$CheckedMap"), (3, .class_ 334), (0, u "java/util/Collections$CheckedSortedMap"), (3, .class_ 339), (0, u "java/util/Collections$CheckedNavigableMap"), (4, .class_ 346), (1, u "java/util/Collections$EmptyIterator"), (3, .class_ 352), (1, u "java/util/Collections$EmptyListIterator"), (2, .class_ 357), (1, u "java/util/Collections$EmptyEnumeration"), (4, u "EMPTY_SET"), (0, u "Ljava/util/Set;"), (6, u "EMPTY_LIST"), (0, u "Ljava/util/List;"), (2, u "EMPTY_MAP"), (0, u "Ljava/util/Map;"), (4, .class_ 381), (0, u "java/util/Collections$SingletonSet"), (2, .class_ 385), (0, u "java/util/Collections$1"), (1, .class_ 388), (0, u "java/util/Collections$2"), (1, .class_ 391), (0, u "java/util/Collections$SingletonList"), (1, .class_ 394), (0, u "java/util/Collections$SingletonMap"), (22, .class_ 418), (0, u "java/util/Collections$CopiesList"), (4, .class_ 425), (1, u "java/util/Collections$ReverseComparator"), (8, .class_ 435), (0, u "java/util/Collections$ReverseComparator2"), (6, .class_ 443), (0, u "java/util/Collections$3"), (25, .class_ 470), (0, u "java/util/Collections$SetFromMap"), (2, .class_ 474), (0, u "java/util/Collections$SequencedSetFromMap"), (3, .class_ 479), (0, u "java/util/Collections$AsLIFOQueue"), (11, .class_ 492), (0, u "java/util/Collections$EmptySet"), (1, .class_ 495), (0, u "java/util/Collections$EmptyList"), (1, .class_ 498), (0, u "java/util/Collections$EmptyMap"), (1, u "BINARYSEARCH_THRESHOLD"), (0, u "I"), (2, u "REVERSE_THRESHOLD"), (1, u "SHUFFLE_THRESHOLD"), (1, u "FILL_THRESHOLD"), (1, u "ROTATE_THRESHOLD"), (1, u "COPY_THRESHOLD"), (1, u "REPLACEALL_THRESHOLD"), (1, u "INDEXOFSUBLIST_THRESHOLD"), (333, .class_ 851), (0, u "java/util/Collections$CheckedMap$CheckedEntrySet"), (0, .class_ 853), (0, u "java/util/Collections$CheckedMap$CheckedEntrySet$CheckedEntry"), (0, .class_ 855), (0, u "java/util/Collections$CheckedMap$CheckedEntrySet$1"), (0, .class_ 857), (0, u "java/util/Collections$CheckedList$1"), (0, .class_ 859), (0, u "java/util/Collections$CheckedCollection$1"), (0, .class_ 861), (0, u "java/util/Collections$UnmodifiableNavigableMap$EmptyNavigableMap"), (0, .class_ 863), (0, u "java/util/Collections$UnmodifiableMap$UnmodifiableEntrySet"), (0, .class_ 865), (0, u "java/util/Collections$UnmodifiableMap$UnmodifiableEntrySet$UnmodifiableEntry"), (0, .class_ 867), (0, u "java/util/Collections$UnmodifiableMap$UnmodifiableEntrySet$UnmodifiableEntrySetSpliterator"), (0, .class_ 869), (0, u "java/util/Collections$UnmodifiableMap$UnmodifiableEntrySet$1"), (0, .class_ 871), (0, u "java/util/Collections$UnmodifiableList$1"), (0, .class_ 873), (0, u "java/util/Collections$UnmodifiableNavigableSet$EmptyNavigableSet"), (0, .class_ 875), (0, u "java/util/Collections$UnmodifiableCollection$1")] 57

def k33m0 : Method := { name := "<init>", desc := "()V", sig := { parameters := [], returnType := none }, accessFlags := 2, code := none }
/-- java/util/Collections -/
def k33 : Class := { plain "java/util/Collections" (some 0) with
  accessFlags := 33
  interfaces := #[]
  cf := some (fileOf pool33 19 #[.nestMembers #[478, 473, 469, 434, 423, 417, 393, 390, 380, 497, 494, 491, 355, 350, 344, 338, 333, 328, 850, 852, 854, 320, 325, 856, 315, 310, 305, 300, 287, 858, 284, 281, 278, 268, 271, 265, 262, 256, 250, 245, 860, 237, 231, 223, 862, 864, 866, 868, 215, 212, 870, 206, 872, 198, 190, 182, 174, 166, 874, 442, 387, 384]] #[{ accessFlags := 2, nameIndex := 5, descriptorIndex := 6, attributes := #[] }] 33 2 #[] #[{ accessFlags := 26, nameIndex := 500, descriptorIndex := 501, attributes := #[] }, { accessFlags := 26, nameIndex := 504, descriptorIndex := 501, attributes := #[] }, { accessFlags := 26, nameIndex := 506, descriptorIndex := 501, attributes := #[] }, { accessFlags := 26, nameIndex := 508, descriptorIndex := 501, attributes := #[] }, { accessFlags := 26, nameIndex := 510, descriptorIndex := 501, attributes := #[] }, { accessFlags := 26, nameIndex := 512, descriptorIndex := 501, attributes := #[] }, { accessFlags := 26, nameIndex := 514, descriptorIndex := 501, attributes := #[] }, { accessFlags := 26, nameIndex := 516, descriptorIndex := 501, attributes := #[] }, { accessFlags := 10, nameIndex := 84, descriptorIndex := 85, attributes := #[] }, { accessFlags := 25, nameIndex := 362, descriptorIndex := 363, attributes := #[] }, { accessFlags := 25, nameIndex := 370, descriptorIndex := 371, attributes := #[] }, { accessFlags := 25, nameIndex := 374, descriptorIndex := 375, attributes := #[] }])
  fields := #[{ name := "BINARYSEARCH_THRESHOLD", type := .int, accessFlags := 26, slot := 0, constantValue := 0 }, { name := "REVERSE_THRESHOLD", type := .int, accessFlags := 26, slot := 1, constantValue := 0 }, { name := "SHUFFLE_THRESHOLD", type := .int, accessFlags := 26, slot := 2, constantValue := 0 }, { name := "FILL_THRESHOLD", type := .int, accessFlags := 26, slot := 3, constantValue := 0 }, { name := "ROTATE_THRESHOLD", type := .int, accessFlags := 26, slot := 4, constantValue := 0 }, { name := "COPY_THRESHOLD", type := .int, accessFlags := 26, slot := 5, constantValue := 0 }, { name := "REPLACEALL_THRESHOLD", type := .int, accessFlags := 26, slot := 6, constantValue := 0 }, { name := "INDEXOFSUBLIST_THRESHOLD", type := .int, accessFlags := 26, slot := 7, constantValue := 0 }, { name := "r", type := (.object "java/util/Random"), accessFlags := 10, slot := 8, constantValue := 0 }, { name := "EMPTY_SET", type := (.object "java/util/Set"), accessFlags := 25, slot := 9, constantValue := 0 }, { name := "EMPTY_LIST", type := (.object "java/util/List"), accessFlags := 25, slot := 10, constantValue := 0 }, { name := "EMPTY_MAP", type := (.object "java/util/Map"), accessFlags := 25, slot := 11, constantValue := 0 }]
  methods := #[k33m0]
  instanceTypes := #[]
  staticTypes := #[.int, .int, .int, .int, .int, .int, .int, .int, (.object "java/util/Random"), (.object "java/util/Set"), (.object "java/util/List"), (.object "java/util/Map")]
  resolved := Array.replicate 933 none
  statics := some 7 }

def pool34 : Array CpInfo := pool [(8, .class_ 10), (1, u "java/lang/Iterable"), (24, .class_ 36), (0, u "java/lang/Object")] 25

/-- java/lang/Iterable -/
def k34 : Class := { plain "java/lang/Iterable" (some 0) with
  accessFlags := 1537
  interfaces := #[]
  cf := some (fileOf pool34 8 #[] #[] 1537 35 #[] #[])
  fields := #[]
  methods := #[]
  instanceTypes := #[]
  staticTypes := #[]
  resolved := Array.replicate 62 none
  statics := none }

def pool35 : Array CpInfo := pool [(10, .class_ 12), (1, u "java/util/Collection"), (47, .class_ 61), (0, u "java/lang/Object"), (0, .class_ 63), (0, u "java/lang/Iterable")] 51

/-- java/util/Collection -/
def k35 : Class := { plain "java/util/Collection" (some 0) with
  accessFlags := 1537
  interfaces := #[34]
  cf := some (fileOf pool35 10 #[] #[] 1537 60 #[62] #[])
  fields := #[]
  methods := #[]
  instanceTypes := #[]
  staticTypes := #[]
  resolved := Array.replicate 115 none
  statics := none }

def pool36 : Array CpInfo := pool [(2, .class_ 4), (1, u "java/lang/Object"), (0, u "<init>"), (0, u "()V"), (1, .class_ 10), (1, u "java/util/AbstractCollection"), (66, .class_ 78), (0, u "java/util/Collection")] 81

def k36m0 : Method := { name := "<init>", desc := "()V", sig := { parameters := [], returnType := none }, accessFlags := 4, code := none }
/-- java/util/AbstractCollection -/
def k36 : Class := { plain "java/util/AbstractCollection" (some 0) with
  accessFlags := 1057
  interfaces := #[35]
  cf := some (fileOf pool36 8 #[] #[{ accessFlags := 4, nameIndex := 5, descriptorIndex := 6, attributes := #[] }] 1057 2 #[77] #[])
  fields := #[]
  methods := #[k36m0]
  instanceTypes := #[]
  staticTypes := #[]
  resolved := Array.replicate 160 none
  statics := none }

def pool37 : Array CpInfo := pool [(8, .class_ 10), (1, u "java/util/SequencedCollection"), (15, .class_ 27), (0, u "java/lang/Object"), (0, .class_ 29), (0, u "java/util/Collection")] 27

/-- java/util/SequencedCollection -/
def k37 : Class := { plain "java/util/SequencedCollection" (some 0) with
  accessFlags := 1537
  interfaces := #[35]
  cf := some (fileOf pool37 8 #[] #[] 1537 26 #[28] #[])
  fields := #[]
  methods := #[]
  instanceTypes := #[]
  staticTypes := #[]
  resolved := Array.replicate 57 none
  statics := none }

def pool38 : Array CpInfo := pool [(8, .class_ 10), (1, u "java/util/List"), (92, .class_ 104), (0, u "java/lang/Object"), (15, .class_ 121), (0, u "java/util/SequencedCollection")] 129

/-- java/util/List -/
def k38 : Class := { plain "java/util/List" (some 0) with
  accessFlags := 1537
  interfaces := #[37]
  cf := some (fileOf pool38 8 #[] #[] 1537 103 #[120] #[])
  fields := #[]
  methods := #[]
  instanceTypes := #[]
  staticTypes := #[]
  resolved := Array.replicate 251 none
  statics := none }

def pool39 : Array CpInfo := pool [(2, .class_ 4), (1, u "java/util/AbstractCollection"), (0, u "<init>"), (0, u "()V"), (1, .class_ 10), (1, u "java/util/AbstractList"), (0, u "modCount"), (0, u "I"), (64, .class_ 78), (0, u "java/util/AbstractList$Itr"), (3, .class_ 83), (0, u "java/util/AbstractList$ListItr"), (9, .class_ 94), (0, u "java/util/AbstractList$RandomAccessSubList"), (3, .class_ 99), (0, u "java/util/AbstractList$SubList"), (33, .class_ 134), (0, u "java/util/List"), (73, .class_ 209), (0, u "java/util/AbstractList$SubList$1"), (0, .class_ 211), (0, u "java/util/AbstractList$RandomAccessSpliterator")] 6

def k39m0 : Method := { name := "<init>", desc := "()V", sig := { parameters := [], returnType := none }, accessFlags := 4, code := none }
/-- java/util/AbstractList -/
def k39 : Class := { plain "java/util/AbstractList" (some 36) with
  accessFlags := 1057
  interfaces := #[38]
  cf := some (fileOf pool39 8 #[.nestMembers #[93, 98, 208, 210, 82, 77]] #[{ accessFlags := 4, nameIndex := 5, descriptorIndex := 6, attributes := #[] }] 1057 2 #[133] #[{ accessFlags := 132, nameIndex := 11, descriptorIndex := 12, attributes := #[] }])
  fields := #[{ name := "modCount", type := .int, accessFlags := 132, slot := 0, constantValue := 0 }]
  methods := #[k39m0]
  instanceTypes := #[.int]
  staticTypes := #[]
  resolved := Array.replicate 218 none
  statics := none }

def pool40 : Array CpInfo := pool [(1, .class_ 2), (0, u "java/util/RandomAccess"), (0, .class_ 4), (0, u "java/lang/Object")] 2

/-- java/util/RandomAccess -/
def k40 : Class := { plain "java/util/RandomAccess" (some 0) with
  accessFlags := 1537
  interfaces := #[]
  cf := some (fileOf pool40 1 #[] #[] 1537 3 #[] #[])
  fields := #[]
  methods := #[]
  instanceTypes := #[]
  staticTypes := #[]
  resolved := Array.replicate 7 none
  statics := none }

def pool41 : Array CpInfo := pool [(2, .class_ 4), (1, u "java/util/AbstractList"), (0, u "<init>"), (0, u "()V"), (1, .class_ 10), (1, u "java/util/Collections"), (54, .class_ 66), (0, u "java/util/Collections$EmptyList"), (0, .class_ 68), (0, u "java/util/RandomAccess"), (0, .class_ 70), (0, u "java/io/Serializable"), (0, u "serialVersionUID"), (0, u "J")] 77

def k41m0 : Method := { name := "<init>", desc := "()V", sig := { parameters := [], returnType := none }, accessFlags := 2, code := none }
/-- java/util/Collections$EmptyList -/
def k41 : Class := { plain "java/util/Collections$EmptyList" (some 39) with
  accessFlags := 32
  interfaces := #[40, 4]
  cf := some (fileOf pool41 65 #[.nestHost 8] #[{ accessFlags := 2, nameIndex := 5, descriptorIndex := 6, attributes := #[] }] 32 2 #[67, 69] #[{ accessFlags := 26, nameIndex := 71, descriptorIndex := 72, attributes := #[] }])
  fields := #[{ name := "serialVersionUID", type := .long, accessFlags := 26, slot := 0, constantValue := 0 }]
  methods := #[k41m0]
  instanceTypes := #[.int]
  staticTypes := #[.long]
  resolved := Array.replicate 150 none
  statics := none }

def pool42 : Array CpInfo := pool [(2, .class_ 4), (1, u "java/lang/StackTraceElement"), (0, u "<init>"), (2, .class_ 10), (1, u "java/lang/Object"), (0, u "()V"), (2, u "format"), (0, u "B"), (2, u "classLoaderName"), (0, u "Ljava/lang/String;"), (2, u "moduleName"), (2, u "moduleVersion"), (12, u "declaringClass"), (4, u "methodName"), (2, u "fileName"), (2, u "lineNumber"), (0, u "I"), (65, u "declaringClassObject"), (0, u "Ljava/lang/Class;"), (33, .class_ 153), (1, u "java/lang/StackTraceElement$HashedModules"), (17, .class_ 172), (0, u "java/io/Serializable"), (0, u "NATIVE_METHOD"), (1, u "UNKNOWN_SOURCE"), (2, u "BUILTIN_CLASS_LOADER"), (1, u "JDK_NON_UPGRADEABLE_MODULE"), (1, u "serialVersionUID"), (0, u "J")] 51

def k42m0 : Method := { name := "<init>", desc := "()V", sig := { parameters := [], returnType := none }, accessFlags := 2, code := none }
/-- java/lang/StackTraceElement -/
def k42 : Class := { plain "java/lang/StackTraceElement" (some 0) with
  accessFlags := 49
  interfaces := #[4]
  cf := some (fileOf pool42 2 #[.nestMembers #[151]] #[{ accessFlags := 2, nameIndex := 5, descriptorIndex := 11, attributes := #[] }] 49 8 #[171] #[{ accessFlags := 26, nameIndex := 173, descriptorIndex := 19, attributes := #[] }, { accessFlags := 26, nameIndex := 175, descriptorIndex := 19, attributes := #[] }, { accessFlags := 130, nameIndex := 116, descriptorIndex := 117, attributes := #[] }, { accessFlags := 2, nameIndex := 18, descriptorIndex := 19, attributes := #[] }, { accessFlags := 2, nameIndex := 22, descriptorIndex := 19, attributes := #[] }, { accessFlags := 2, nameIndex := 25, descriptorIndex := 19, attributes := #[] }, { accessFlags := 2, nameIndex := 38, descriptorIndex := 19, attributes := #[] }, { accessFlags := 2, nameIndex := 43, descriptorIndex := 19, attributes := #[] }, { accessFlags := 2, nameIndex := 46, descriptorIndex := 19, attributes := #[] }, { accessFlags := 2, nameIndex := 49, descriptorIndex := 50, attributes := #[] }, { accessFlags := 2, nameIndex := 14, descriptorIndex := 15, attributes := #[] }, { accessFlags := 26, nameIndex := 178, descriptorIndex := 15, attributes := #[] }, { accessFlags := 26, nameIndex := 180, descriptorIndex := 15, attributes := #[] }, { accessFlags := 26, nameIndex := 182, descriptorIndex := 183, attributes := #[] }])
  fields := #[{ name := "NATIVE_METHOD", type := (.object "java/lang/String"), accessFlags := 26, slot := 0, constantValue := 0 }, { name := "UNKNOWN_SOURCE", type := (.object "java/lang/String"), accessFlags := 26, slot := 1, constantValue := 0 }, { name := "declaringClassObject", type := (.object "java/lang/Class"), accessFlags := 130, slot := 0, constantValue := 0 }, { name := "classLoaderName", type := (.object "java/lang/String"), accessFlags := 2, slot := 1, constantValue := 0 }, { name := "moduleName", type := (.object "java/lang/String"), accessFlags := 2, slot := 2, constantValue := 0 }, { name := "moduleVersion", type := (.object "java/lang/String"), accessFlags := 2, slot := 3, constantValue := 0 }, { name := "declaringClass", type := (.object "java/lang/String"), accessFlags := 2, slot := 4, constantValue := 0 }, { name := "methodName", type := (.object "java/lang/String"), accessFlags := 2, slot := 5, constantValue := 0 }, { name := "fileName", type := (.object "java/lang/String"), accessFlags := 2, slot := 6, constantValue := 0 }, { name := "lineNumber", type := .int, accessFlags := 2, slot := 7, constantValue := 0 }, { name := "format", type := .byte, accessFlags := 2, slot := 8, constantValue := 0 }, { name := "BUILTIN_CLASS_LOADER", type := .byte, accessFlags := 26, slot := 2, constantValue := 0 }, { name := "JDK_NON_UPGRADEABLE_MODULE", type := .byte, accessFlags := 26, slot := 3, constantValue := 0 }, { name := "serialVersionUID", type := .long, accessFlags := 26, slot := 4, constantValue := 0 }]
  methods := #[k42m0]
  instanceTypes := #[(.object "java/lang/Class"), (.object "java/lang/String"), (.object "java/lang/String"), (.object "java/lang/String"), (.object "java/lang/String"), (.object "java/lang/String"), (.object "java/lang/String"), .int, .byte]
  staticTypes := #[(.object "java/lang/String"), (.object "java/lang/String"), .byte, .byte, .long]
  resolved := Array.replicate 235 none
  statics := none }

/-- the primitive byte -/
def k43 : Class := { plain "byte" none with kind := .primitive 'B', accessFlags := 0x411 }
/-- [B -/
def k44 : Class := { plain "[B" (some 0) with kind := .array 43 .byte, interfaces := #[29, 4], accessFlags := 1041 }

/-- the primitive char -/
def k45 : Class := { plain "char" none with kind := .primitive 'C', accessFlags := 0x411 }
/-- [C -/
def k46 : Class := { plain "[C" (some 0) with kind := .array 45 .char, interfaces := #[29, 4], accessFlags := 1041 }

/-- the primitive int -/
def k47 : Class := { plain "int" none with kind := .primitive 'I', accessFlags := 0x411 }
/-- [I -/
def k48 : Class := { plain "[I" (some 0) with kind := .array 47 .int, interfaces := #[29, 4], accessFlags := 1041 }

/-- [Ljava/lang/Object; -/
def k49 : Class := { plain "[Ljava/lang/Object;" (some 0) with kind := .array 0 (.object "java/lang/Object"), interfaces := #[29, 4], accessFlags := 1041 }

/-- [Ljava/lang/StackTraceElement; -/
def k50 : Class := { plain "[Ljava/lang/StackTraceElement;" (some 0) with kind := .array 42 (.object "java/lang/StackTraceElement"), interfaces := #[29, 4], accessFlags := 1041 }

/-- [Ljava/lang/Throwable; -/
def k51 : Class := { plain "[Ljava/lang/Throwable;" (some 0) with kind := .array 13 (.object "java/lang/Throwable"), interfaces := #[29, 4], accessFlags := 1041 }

def heap : Heap := #[{ cls := 6, slots := #[.ref 8, .ref 8, .ref 8, .ref 8, .null], vm := .statics 6 },
  { cls := 9, slots := #[.long 0, .int 1, .null, .int 0, .null, .int 0, .int 0], vm := .statics 9 },
  { cls := 13, slots := #[.long 0, .ref 12, .ref 13, .null, .null, .null, .null, .ref 14, .int 1], vm := .statics 13 },
  { cls := 16, slots := #[.ref 9, .ref 10, .ref 11, .null], vm := .statics 16 },
  { cls := 23, slots := #[.null, .null, .ref 15, .null, .null, .null], vm := .statics 23 },
  { cls := 27, slots := #[.ref 15, .null], vm := .statics 27 },
  { cls := 31, slots := #[.null, .null, .null], vm := .statics 31 },
  { cls := 33, slots := #[.int 0, .int 0, .int 0, .int 0, .int 0, .int 0, .int 0, .int 0, .null, .null, .ref 13, .null], vm := .statics 33 },
  { cls := 6, slots := #[.null, .int 0, .int 0, .int 0, .null], vm := .none },
  { cls := 16, slots := #[.null, .int 0, .int 0], vm := .none },
  { cls := 16, slots := #[.null, .int 1, .int 0], vm := .none },
  { cls := 16, slots := #[.null, .int 2, .int 0], vm := .none },
  { cls := 50, slots := #[], vm := .none },
  { cls := 41, slots := #[.int 0], vm := .none },
  { cls := 51, slots := #[], vm := .none },
  { cls := 27, slots := #[.null, .null, .null], vm := .none }]
def classes : Array Class := #[k0, k1, k2, k3, k4, k5, k6, k7, k8, k9, k10, k11, k12, k13, k14, k15, k16, k17, k18, k19, k20, k21, k22, k23, k24, k25, k26, k27, k28, k29, k30, k31, k32, k33, k34, k35, k36, k37, k38, k39, k40, k41, k42, k43, k44, k45, k46, k47, k48, k49, k50, k51]
def interned : List (Array UInt16 × Addr) := []
def slotsUsed : Nat := 66
def theMethod : MethodId := ⟨1, 2⟩
def args0 : Array Value := #[.int 5, .int 5, .int 5]
def aboutOver (below : List Frame) : State where
  vm := { classes := classes, interned := interned.toArray }
  heap := heap
  slotsUsed := slotsUsed
  threads := #[{ frames := .invoking theMethod args0 :: below }]
def below0 : List Frame := [.native { method := ⟨0, 0⟩, args := #[] }]
def about1 : State := aboutOver below0
def p0 : Program := .bare "" "" ""
def e0 : Env := launch0.env 0 0 0
theorem w_frames : about1.frames = Frame.invoking theMethod args0 :: below0 := rfl
set_option maxRecDepth 65536 in
theorem w_args : argsFit about1.vm theMethod args0 = true := by decide +kernel
set_option maxRecDepth 65536 in
theorem w_heap : heapFits about1 = true := by decide +kernel
set_option maxRecDepth 65536 in
theorem w_runnable : about1.curStatus? = some .runnable := by decide +kernel
set_option maxRecDepth 65536 in
theorem w_alone : about1.alone = true := by decide +kernel
set_option maxRecDepth 65536 in
theorem w_named : about1.methodNamed? x = some theMethod := by decide +kernel
set_option maxRecDepth 65536 in
theorem w_hears : about1.hears theMethod below0 = true := by decide +kernel
set_option maxRecDepth 65536 in
theorem w_ripe : about1.ripe theMethod args0 below0 = true := by decide +kernel
theorem w_running : about1.status = .running := rfl
set_option maxRecDepth 65536 in
theorem w_room : about1.hasRoom e0.platform room_1 = true :=
  launch0.hasRoom_least _ room_1 (by decide +kernel) (by decide +kernel) (by decide +kernel) (by decide +kernel) (by decide +kernel) (by decide +kernel)
theorem allAtoms_all (ts : List Jvm.Cond) (a : Array Jvm.Value) (st : Jvm.State) : (allAtoms ts).before a st = ts.all (fun c => c.before a st) := by
  induction ts with
  | nil => rfl
  | cons c t ih =>
    show (Jvm.Cond.and c (allAtoms t)).before a st = _
    rw [Jvm.Cond.before_and, ih, List.all_cons]
def words1 : List Jvm.Cond := Jvm.Cond.code x code maxLocals ret :: tables_1
/-- a 'code' word, met by the world's own term for the bytes: nothing is compared byte by byte -/
theorem code_word {y : MethodName} {bytes : ByteArray} {mx : Nat} {rt : Option FieldType} {a : Array Value} {s : State} {m : MethodId} {meth : Method} {c : Code} (h1 : s.methodNamed? y = some m) (h2 : s.vm.method? m = some meth) (h3 : meth.code = some c) (h4 : c.code = bytes)
    (h5 : (c.maxLocals == mx && c.exceptionTable.isEmpty && decide (c.maxStack ≤ mostOperands) && decide (meth.sig.returnType = rt) && !meth.locks && decide (parseMethodDescriptor y.desc = some meth.sig)) = true) : (Jvm.Cond.code y bytes mx rt).before a s = true := by
  simp only [Bool.and_eq_true, beq_iff_eq, Bool.not_eq_true', decide_eq_true_eq] at h5
  obtain ⟨⟨⟨⟨⟨g1, g2⟩, g3⟩, g4⟩, g5⟩, g6⟩ := h5
  simp [Cond.before, Cond.holds, Cond.value, h1, h2, h3, h4, g1, g2, g3, g4, g5, g6]
def isCode : Jvm.Cond → Bool
  | .code _ _ _ _ => true
  | _ => false
theorem all_split {L : List Jvm.Cond} {P : Jvm.Cond → Bool} (h1 : L.all (fun c => isCode c || P c) = true) (h2 : ∀ c ∈ L.filter isCode, P c = true) : L.all P = true := by
  refine List.all_eq_true.mpr fun c hc => ?_
  have h := List.all_eq_true.mp h1 c hc
  rcases Bool.eq_false_or_eq_true (isCode c) with hi | hi
  · exact h2 c (List.mem_filter.mpr ⟨hc, hi⟩)
  · simpa [hi] using h
set_option maxRecDepth 65536 in
theorem w_c0 : (Jvm.Cond.code x code maxLocals ret).before args0 about1 = true := code_word (m := ⟨1, 2⟩) (meth := k1m2) (c := k1c2) (by decide +kernel) rfl rfl rfl (by decide +kernel)
set_option maxRecDepth 65536 in
theorem w_c1 : (Jvm.Cond.code ({ cls := "com/example/onegate/onegate/gate/AnswerBrokeOffPinLaw", name := "status", desc := "(I)Lcom/example/onegate/onegate/core/http/HttpResponse$Status;" } : Jvm.MethodName) method_2_code (2 : Nat) (Option.some (Jvm.ClassFile.FieldType.object "com/example/onegate/onegate/core/http/HttpResponse$Status"))).before args0 about1 = true := code_word (m := ⟨1, 1⟩) (meth := k1m1) (c := k1c1) (by decide +kernel) rfl rfl rfl (by decide +kernel)
set_option maxRecDepth 65536 in
theorem w_c2 : (Jvm.Cond.code ({ cls := "java/lang/String", name := "<init>", desc := "([C)V" } : Jvm.MethodName) jdk_42_method_3_code (2 : Nat) (Option.none : Option Jvm.ClassFile.FieldType)).before args0 about1 = true := code_word (m := ⟨9, 1⟩) (meth := k9m1) (c := k9c1) (by decide +kernel) rfl rfl rfl (by decide +kernel)
set_option maxRecDepth 65536 in
theorem w_c3 : (Jvm.Cond.code ({ cls := "java/lang/String", name := "<init>", desc := "([CIILjava/lang/Void;)V" } : Jvm.MethodName) jdk_42_method_149_code (6 : Nat) (Option.none : Option Jvm.ClassFile.FieldType)).before args0 about1 = true := code_word (m := ⟨9, 8⟩) (meth := k9m8) (c := k9c8) (by decide +kernel) rfl rfl rfl (by decide +kernel)
set_option maxRecDepth 65536 in
theorem w_c4 : (Jvm.Cond.code ({ cls := "java/lang/Object", name := "<init>", desc := "()V" } : Jvm.MethodName) object_method_1_code (1 : Nat) (Option.none : Option Jvm.ClassFile.FieldType)).before args0 about1 = true := code_word (m := ⟨0, 0⟩) (meth := k0m0) (c := k0c0) (by decide +kernel) rfl rfl rfl (by decide +kernel)
set_option maxRecDepth 65536 in
theorem w_c5 : (Jvm.Cond.code ({ cls := "java/lang/StringUTF16", name := "compress", desc := "([CII)[B" } : Jvm.MethodName) jdk_52_method_16_code (6 : Nat) (Option.some (Jvm.ClassFile.FieldType.array Jvm.ClassFile.FieldType.byte))).before args0 about1 = true := code_word (m := ⟨10, 4⟩) (meth := k10m4) (c := k10c4) (by decide +kernel) rfl rfl rfl (by decide +kernel)
set_option maxRecDepth 65536 in
theorem w_c6 : (Jvm.Cond.code ({ cls := "java/lang/StringUTF16", name := "compress", desc := "([CI[BII)I" } : Jvm.MethodName) jdk_52_method_21_code (7 : Nat) (Option.some Jvm.ClassFile.FieldType.int)).before args0 about1 = true := code_word (m := ⟨10, 5⟩) (meth := k10m5) (c := k10c5) (by decide +kernel) rfl rfl rfl (by decide +kernel)
set_option maxRecDepth 65536 in
theorem w_c7 : (Jvm.Cond.code ({ cls := "java/lang/StringUTF16", name := "coderFromArrayLen", desc := "([BI)B" } : Jvm.MethodName) jdk_52_method_15_code (2 : Nat) (Option.some Jvm.ClassFile.FieldType.byte)).before args0 about1 = true := code_word (m := ⟨10, 3⟩) (meth := k10m3) (c := k10c3) (by decide +kernel) rfl rfl rfl (by decide +kernel)
set_option maxRecDepth 65536 in
theorem w_c8 : (Jvm.Cond.code ({ cls := "com/example/onegate/onegate/core/http/HttpResponse$Content", name := "<init>", desc := "(Ljava/lang/String;[B)V" } : Jvm.MethodName) prog_44_method_1_code (3 : Nat) (Option.none : Option Jvm.ClassFile.FieldType)).before args0 about1 = true := code_word (m := ⟨12, 0⟩) (meth := k12m0) (c := k12c0) (by decide +kernel) rfl rfl rfl (by decide +kernel)
set_option maxRecDepth 65536 in
theorem w_c9 : (Jvm.Cond.code ({ cls := "java/lang/Record", name := "<init>", desc := "()V" } : Jvm.MethodName) jdk_30_method_1_code (1 : Nat) (Option.none : Option Jvm.ClassFile.FieldType)).before args0 about1 = true := code_word (m := ⟨11, 0⟩) (meth := k11m0) (c := k11c0) (by decide +kernel) rfl rfl rfl (by decide +kernel)
set_option maxRecDepth 65536 in
theorem w_c10 : (Jvm.Cond.code ({ cls := "com/example/onegate/onegate/gate/Answer", name := "<init>", desc := "(Lcom/example/onegate/onegate/core/http/HttpResponse$Status;Ljava/lang/String;Lcom/example/onegate/onegate/core/http/HttpResponse$Content;)V" } : Jvm.MethodName) prog_48_method_3_code (4 : Nat) (Option.none : Option Jvm.ClassFile.FieldType)).before args0 about1 = true := code_word (m := ⟨15, 2⟩) (meth := k15m2) (c := k15c2) (by decide +kernel) rfl rfl rfl (by decide +kernel)
set_option maxRecDepth 65536 in
theorem w_c11 : (Jvm.Cond.code ({ cls := "com/example/onegate/onegate/gate/Answer", name := "<init>", desc := "(Lcom/example/onegate/onegate/core/http/HttpResponse$Status;Ljava/lang/String;Lcom/example/onegate/onegate/core/http/HttpResponse$Content;Ljava/lang/String;Lcom/example/onegate/onegate/gate/Answer$Line;)V" } : Jvm.MethodName) prog_48_method_4_code (6 : Nat) (Option.none : Option Jvm.ClassFile.FieldType)).before args0 about1 = true := code_word (m := ⟨15, 3⟩) (meth := k15m3) (c := k15c3) (by decide +kernel) rfl rfl rfl (by decide +kernel)
set_option maxRecDepth 65536 in
theorem w_c12 : (Jvm.Cond.code ({ cls := "java/lang/Exception", name := "<init>", desc := "(Ljava/lang/String;)V" } : Jvm.MethodName) jdk_59_method_2_code (2 : Nat) (Option.none : Option Jvm.ClassFile.FieldType)).before args0 about1 = true := code_word (m := ⟨14, 1⟩) (meth := k14m1) (c := k14c1) (by decide +kernel) rfl rfl rfl (by decide +kernel)
set_option maxRecDepth 65536 in
theorem w_c13 : (Jvm.Cond.code ({ cls := "java/lang/Throwable", name := "<init>", desc := "(Ljava/lang/String;)V" } : Jvm.MethodName) jdk_78_method_2_code (2 : Nat) (Option.none : Option Jvm.ClassFile.FieldType)).before args0 about1 = true := code_word (m := ⟨13, 1⟩) (meth := k13m1) (c := k13c1) (by decide +kernel) rfl rfl rfl (by decide +kernel)
set_option maxRecDepth 65536 in
theorem w_c14 : (Jvm.Cond.code ({ cls := "java/lang/Throwable", name := "<init>", desc := "()V" } : Jvm.MethodName) jdk_78_method_1_code (1 : Nat) (Option.none : Option Jvm.ClassFile.FieldType)).before args0 about1 = true := code_word (m := ⟨13, 0⟩) (meth := k13m0) (c := k13c0) (by decide +kernel) rfl rfl rfl (by decide +kernel)
set_option maxRecDepth 65536 in
theorem w_c15 : (Jvm.Cond.code ({ cls := "com/example/onegate/onegate/gate/Answer", name := "brokeOff", desc := "()Z" } : Jvm.MethodName) prog_48_method_9_code (1 : Nat) (Option.some Jvm.ClassFile.FieldType.boolean)).before args0 about1 = true := code_word (m := ⟨15, 6⟩) (meth := k15m6) (c := k15c6) (by decide +kernel) rfl rfl rfl (by decide +kernel)
set_option maxRecDepth 65536 in
theorem w_c16 : (Jvm.Cond.code ({ cls := "com/example/onegate/onegate/gate/Answer", name := "<init>", desc := "(Lcom/example/onegate/onegate/core/http/HttpResponse$Status;Ljava/lang/String;)V" } : Jvm.MethodName) prog_48_method_1_code (3 : Nat) (Option.none : Option Jvm.ClassFile.FieldType)).before args0 about1 = true := code_word (m := ⟨15, 0⟩) (meth := k15m0) (c := k15c0) (by decide +kernel) rfl rfl rfl (by decide +kernel)
set_option maxRecDepth 65536 in
theorem w_c17 : (Jvm.Cond.code ({ cls := "com/example/onegate/onegate/core/http/HttpResponse$Content", name := "text", desc := "(Ljava/lang/String;)Lcom/example/onegate/onegate/core/http/HttpResponse$Content;" } : Jvm.MethodName) prog_44_method_2_code (1 : Nat) (Option.some (Jvm.ClassFile.FieldType.object "com/example/onegate/onegate/core/http/HttpResponse$Content"))).before args0 about1 = true := code_word (m := ⟨12, 1⟩) (meth := k12m1) (c := k12c1) (by decide +kernel) rfl rfl rfl (by decide +kernel)
set_option maxRecDepth 65536 in
theorem w_c18 : (Jvm.Cond.code ({ cls := "java/lang/StringBuilder", name := "<init>", desc := "()V" } : Jvm.MethodName) jdk_67_method_1_code (1 : Nat) (Option.none : Option Jvm.ClassFile.FieldType)).before args0 about1 = true := code_word (m := ⟨19, 0⟩) (meth := k19m0) (c := k19c0) (by decide +kernel) rfl rfl rfl (by decide +kernel)
set_option maxRecDepth 65536 in
theorem w_c19 : (Jvm.Cond.code ({ cls := "java/lang/AbstractStringBuilder", name := "<init>", desc := "(I)V" } : Jvm.MethodName) jdk_68_method_2_code (2 : Nat) (Option.none : Option Jvm.ClassFile.FieldType)).before args0 about1 = true := code_word (m := ⟨18, 1⟩) (meth := k18m1) (c := k18c1) (by decide +kernel) rfl rfl rfl (by decide +kernel)
set_option maxRecDepth 65536 in
theorem w_c20 : (Jvm.Cond.code ({ cls := "java/lang/StringBuilder", name := "append", desc := "(Ljava/lang/String;)Ljava/lang/StringBuilder;" } : Jvm.MethodName) jdk_67_method_7_code (2 : Nat) (Option.some (Jvm.ClassFile.FieldType.object "java/lang/StringBuilder"))).before args0 about1 = true := code_word (m := ⟨19, 1⟩) (meth := k19m1) (c := k19c1) (by decide +kernel) rfl rfl rfl (by decide +kernel)
set_option maxRecDepth 65536 in
theorem w_c21 : (Jvm.Cond.code ({ cls := "java/lang/AbstractStringBuilder", name := "append", desc := "(Ljava/lang/String;)Ljava/lang/AbstractStringBuilder;" } : Jvm.MethodName) jdk_68_method_22_code (3 : Nat) (Option.some (Jvm.ClassFile.FieldType.object "java/lang/AbstractStringBuilder"))).before args0 about1 = true := code_word (m := ⟨18, 4⟩) (meth := k18m4) (c := k18c4) (by decide +kernel) rfl rfl rfl (by decide +kernel)
set_option maxRecDepth 65536 in
theorem w_c22 : (Jvm.Cond.code ({ cls := "java/lang/String", name := "length", desc := "()I" } : Jvm.MethodName) jdk_42_method_54_code (1 : Nat) (Option.some Jvm.ClassFile.FieldType.int)).before args0 about1 = true := code_word (m := ⟨9, 5⟩) (meth := k9m5) (c := k9c5) (by decide +kernel) rfl rfl rfl (by decide +kernel)
set_option maxRecDepth 65536 in
theorem w_c23 : (Jvm.Cond.code ({ cls := "java/lang/String", name := "coder", desc := "()B" } : Jvm.MethodName) jdk_42_method_152_code (1 : Nat) (Option.some Jvm.ClassFile.FieldType.byte)).before args0 about1 = true := code_word (m := ⟨9, 10⟩) (meth := k9m10) (c := k9c10) (by decide +kernel) rfl rfl rfl (by decide +kernel)
set_option maxRecDepth 65536 in
theorem w_c24 : (Jvm.Cond.code ({ cls := "java/lang/AbstractStringBuilder", name := "ensureCapacityInternal", desc := "(I)V" } : Jvm.MethodName) jdk_68_method_9_code (3 : Nat) (Option.none : Option Jvm.ClassFile.FieldType)).before args0 about1 = true := code_word (m := ⟨18, 3⟩) (meth := k18m3) (c := k18c3) (by decide +kernel) rfl rfl rfl (by decide +kernel)
set_option maxRecDepth 65536 in
theorem w_c25 : (Jvm.Cond.code ({ cls := "java/lang/AbstractStringBuilder", name := "putStringAt", desc := "(ILjava/lang/String;)V" } : Jvm.MethodName) jdk_68_method_73_code (3 : Nat) (Option.none : Option Jvm.ClassFile.FieldType)).before args0 about1 = true := code_word (m := ⟨18, 8⟩) (meth := k18m8) (c := k18c8) (by decide +kernel) rfl rfl rfl (by decide +kernel)
set_option maxRecDepth 65536 in
theorem w_c26 : (Jvm.Cond.code ({ cls := "java/lang/AbstractStringBuilder", name := "inflateIfNeededFor", desc := "(Ljava/lang/String;)V" } : Jvm.MethodName) jdk_68_method_71_code (2 : Nat) (Option.none : Option Jvm.ClassFile.FieldType)).before args0 about1 = true := code_word (m := ⟨18, 7⟩) (meth := k18m7) (c := k18c7) (by decide +kernel) rfl rfl rfl (by decide +kernel)
set_option maxRecDepth 65536 in
theorem w_c27 : (Jvm.Cond.code ({ cls := "java/lang/String", name := "getBytes", desc := "([BIB)V" } : Jvm.MethodName) jdk_42_method_147_code (4 : Nat) (Option.none : Option Jvm.ClassFile.FieldType)).before args0 about1 = true := code_word (m := ⟨9, 7⟩) (meth := k9m7) (c := k9c7) (by decide +kernel) rfl rfl rfl (by decide +kernel)
set_option maxRecDepth 65536 in
theorem w_c28 : (Jvm.Cond.code ({ cls := "java/lang/StringBuilder", name := "toString", desc := "()Ljava/lang/String;" } : Jvm.MethodName) jdk_67_method_42_code (1 : Nat) (Option.some (Jvm.ClassFile.FieldType.object "java/lang/String"))).before args0 about1 = true := code_word (m := ⟨19, 2⟩) (meth := k19m2) (c := k19c2) (by decide +kernel) rfl rfl rfl (by decide +kernel)
set_option maxRecDepth 65536 in
theorem w_c29 : (Jvm.Cond.code ({ cls := "java/lang/String", name := "<init>", desc := "(Ljava/lang/StringBuilder;)V" } : Jvm.MethodName) jdk_42_method_53_code (2 : Nat) (Option.none : Option Jvm.ClassFile.FieldType)).before args0 about1 = true := code_word (m := ⟨9, 4⟩) (meth := k9m4) (c := k9c4) (by decide +kernel) rfl rfl rfl (by decide +kernel)
set_option maxRecDepth 65536 in
theorem w_c30 : (Jvm.Cond.code ({ cls := "java/lang/String", name := "<init>", desc := "(Ljava/lang/AbstractStringBuilder;Ljava/lang/Void;)V" } : Jvm.MethodName) jdk_42_method_150_code (5 : Nat) (Option.none : Option Jvm.ClassFile.FieldType)).before args0 about1 = true := code_word (m := ⟨9, 9⟩) (meth := k9m9) (c := k9c9) (by decide +kernel) rfl rfl rfl (by decide +kernel)
set_option maxRecDepth 65536 in
theorem w_c31 : (Jvm.Cond.code ({ cls := "java/lang/AbstractStringBuilder", name := "getValue", desc := "()[B" } : Jvm.MethodName) jdk_68_method_64_code (1 : Nat) (Option.some (Jvm.ClassFile.FieldType.array Jvm.ClassFile.FieldType.byte))).before args0 about1 = true := code_word (m := ⟨18, 5⟩) (meth := k18m5) (c := k18c5) (by decide +kernel) rfl rfl rfl (by decide +kernel)
set_option maxRecDepth 65536 in
theorem w_c32 : (Jvm.Cond.code ({ cls := "java/lang/StringBuilder", name := "length", desc := "()I" } : Jvm.MethodName) jdk_67_method_93_code (1 : Nat) (Option.some Jvm.ClassFile.FieldType.int)).before args0 about1 = true := code_word (m := ⟨19, 3⟩) (meth := k19m3) (c := k19c3) (by decide +kernel) rfl rfl rfl (by decide +kernel)
set_option maxRecDepth 65536 in
theorem w_c33 : (Jvm.Cond.code ({ cls := "java/lang/AbstractStringBuilder", name := "length", desc := "()I" } : Jvm.MethodName) jdk_68_method_6_code (1 : Nat) (Option.some Jvm.ClassFile.FieldType.int)).before args0 about1 = true := code_word (m := ⟨18, 2⟩) (meth := k18m2) (c := k18c2) (by decide +kernel) rfl rfl rfl (by decide +kernel)
set_option maxRecDepth 65536 in
theorem w_c34 : (Jvm.Cond.code ({ cls := "java/lang/AbstractStringBuilder", name := "isLatin1", desc := "()Z" } : Jvm.MethodName) jdk_68_method_68_code (1 : Nat) (Option.some Jvm.ClassFile.FieldType.boolean)).before args0 about1 = true := code_word (m := ⟨18, 6⟩) (meth := k18m6) (c := k18c6) (by decide +kernel) rfl rfl rfl (by decide +kernel)
set_option maxRecDepth 65536 in
theorem w_c35 : (Jvm.Cond.code ({ cls := "java/util/Arrays", name := "copyOfRange", desc := "([BII)[B" } : Jvm.MethodName) jdk_65_method_132_code (3 : Nat) (Option.some (Jvm.ClassFile.FieldType.array Jvm.ClassFile.FieldType.byte))).before args0 about1 = true := code_word (m := ⟨21, 3⟩) (meth := k21m3) (c := k21c3) (by decide +kernel) rfl rfl rfl (by decide +kernel)
set_option maxRecDepth 65536 in
theorem w_c36 : (Jvm.Cond.code ({ cls := "java/util/Arrays", name := "copyOfRangeByte", desc := "([BII)[B" } : Jvm.MethodName) jdk_65_method_133_code (5 : Nat) (Option.some (Jvm.ClassFile.FieldType.array Jvm.ClassFile.FieldType.byte))).before args0 about1 = true := code_word (m := ⟨21, 4⟩) (meth := k21m4) (c := k21c4) (by decide +kernel) rfl rfl rfl (by decide +kernel)
set_option maxRecDepth 65536 in
theorem w_c37 : (Jvm.Cond.code ({ cls := "java/util/Arrays", name := "checkLength", desc := "(II)V" } : Jvm.MethodName) jdk_65_method_131_code (2 : Nat) (Option.none : Option Jvm.ClassFile.FieldType)).before args0 about1 = true := code_word (m := ⟨21, 2⟩) (meth := k21m2) (c := k21c2) (by decide +kernel) rfl rfl rfl (by decide +kernel)
set_option maxRecDepth 65536 in
theorem w_c38 : (Jvm.Cond.code ({ cls := "java/lang/Math", name := "min", desc := "(II)I" } : Jvm.MethodName) jdk_29_method_69_code (2 : Nat) (Option.some Jvm.ClassFile.FieldType.int)).before args0 about1 = true := code_word (m := ⟨22, 1⟩) (meth := k22m1) (c := k22c1) (by decide +kernel) rfl rfl rfl (by decide +kernel)
set_option maxRecDepth 65536 in
theorem w_c39 : (Jvm.Cond.code ({ cls := "java/lang/String", name := "getBytes", desc := "(Ljava/nio/charset/Charset;)[B" } : Jvm.MethodName) jdk_42_method_64_code (2 : Nat) (Option.some (Jvm.ClassFile.FieldType.array Jvm.ClassFile.FieldType.byte))).before args0 about1 = true := code_word (m := ⟨9, 6⟩) (meth := k9m6) (c := k9c6) (by decide +kernel) rfl rfl rfl (by decide +kernel)
set_option maxRecDepth 65536 in
theorem w_c40 : (Jvm.Cond.code ({ cls := "java/lang/String", name := "encode", desc := "(Ljava/nio/charset/Charset;B[B)[B" } : Jvm.MethodName) jdk_42_method_18_code (3 : Nat) (Option.some (Jvm.ClassFile.FieldType.array Jvm.ClassFile.FieldType.byte))).before args0 about1 = true := code_word (m := ⟨9, 2⟩) (meth := k9m2) (c := k9c2) (by decide +kernel) rfl rfl rfl (by decide +kernel)
set_option maxRecDepth 65536 in
theorem w_c41 : (Jvm.Cond.code ({ cls := "java/lang/String", name := "encodeUTF8", desc := "(B[BZ)[B" } : Jvm.MethodName) jdk_42_method_46_code (9 : Nat) (Option.some (Jvm.ClassFile.FieldType.array Jvm.ClassFile.FieldType.byte))).before args0 about1 = true := code_word (m := ⟨9, 3⟩) (meth := k9m3) (c := k9c3) (by decide +kernel) rfl rfl rfl (by decide +kernel)
set_option maxRecDepth 65536 in
theorem w_c42 : (Jvm.Cond.code ({ cls := "java/lang/StringCoding", name := "hasNegatives", desc := "([BII)Z" } : Jvm.MethodName) jdk_123_method_2_code (3 : Nat) (Option.some Jvm.ClassFile.FieldType.boolean)).before args0 about1 = true := code_word (m := ⟨28, 1⟩) (meth := k28m1) (c := k28c1) (by decide +kernel) rfl rfl rfl (by decide +kernel)
set_option maxRecDepth 65536 in
theorem w_c43 : (Jvm.Cond.code ({ cls := "java/lang/StringCoding", name := "countPositives", desc := "([BII)I" } : Jvm.MethodName) jdk_123_method_3_code (5 : Nat) (Option.some Jvm.ClassFile.FieldType.int)).before args0 about1 = true := code_word (m := ⟨28, 2⟩) (meth := k28m2) (c := k28c2) (by decide +kernel) rfl rfl rfl (by decide +kernel)
set_option maxRecDepth 65536 in
theorem w_c44 : (Jvm.Cond.code ({ cls := "com/example/onegate/onegate/gate/Answer", name := "<init>", desc := "(Lcom/example/onegate/onegate/core/http/HttpResponse$Status;Ljava/lang/String;Ljava/lang/String;)V" } : Jvm.MethodName) prog_48_method_2_code (4 : Nat) (Option.none : Option Jvm.ClassFile.FieldType)).before args0 about1 = true := code_word (m := ⟨15, 1⟩) (meth := k15m1) (c := k15c1) (by decide +kernel) rfl rfl rfl (by decide +kernel)
set_option maxRecDepth 65536 in
theorem w_c45 : (Jvm.Cond.code ({ cls := "java/lang/StringUTF16", name := "newBytesFor", desc := "(I)[B" } : Jvm.MethodName) jdk_52_method_2_code (1 : Nat) (Option.some (Jvm.ClassFile.FieldType.array Jvm.ClassFile.FieldType.byte))).before args0 about1 = true := code_word (m := ⟨10, 1⟩) (meth := k10m1) (c := k10c1) (by decide +kernel) rfl rfl rfl (by decide +kernel)
set_option maxRecDepth 65536 in
theorem w_c46 : (Jvm.Cond.code ({ cls := "java/lang/StringUTF16", name := "newBytesLength", desc := "(I)I" } : Jvm.MethodName) jdk_52_method_3_code (1 : Nat) (Option.some Jvm.ClassFile.FieldType.int)).before args0 about1 = true := code_word (m := ⟨10, 2⟩) (meth := k10m2) (c := k10c2) (by decide +kernel) rfl rfl rfl (by decide +kernel)
set_option maxRecDepth 65536 in
theorem w_c47 : (Jvm.Cond.code ({ cls := "java/util/Arrays", name := "copyOf", desc := "([BI)[B" } : Jvm.MethodName) jdk_65_method_121_code (3 : Nat) (Option.some (Jvm.ClassFile.FieldType.array Jvm.ClassFile.FieldType.byte))).before args0 about1 = true := code_word (m := ⟨21, 1⟩) (meth := k21m1) (c := k21c1) (by decide +kernel) rfl rfl rfl (by decide +kernel)
set_option maxRecDepth 65536 in
theorem w_c48 : (Jvm.Cond.code ({ cls := "com/example/onegate/onegate/gate/Answer", name := "again", desc := "()Lcom/example/onegate/onegate/gate/Answer;" } : Jvm.MethodName) prog_48_method_6_code (1 : Nat) (Option.some (Jvm.ClassFile.FieldType.object "com/example/onegate/onegate/gate/Answer"))).before args0 about1 = true := code_word (m := ⟨15, 5⟩) (meth := k15m5) (c := k15c5) (by decide +kernel) rfl rfl rfl (by decide +kernel)
set_option maxRecDepth 65536 in
theorem w_c49 : (Jvm.Cond.code ({ cls := "java/lang/Throwable", name := "getMessage", desc := "()Ljava/lang/String;" } : Jvm.MethodName) jdk_78_method_6_code (1 : Nat) (Option.some (Jvm.ClassFile.FieldType.object "java/lang/String"))).before args0 about1 = true := code_word (m := ⟨13, 2⟩) (meth := k13m2) (c := k13c2) (by decide +kernel) rfl rfl rfl (by decide +kernel)
set_option maxRecDepth 65536 in
theorem w_c50 : (Jvm.Cond.code ({ cls := "com/example/onegate/onegate/gate/Answer", name := "brokenOff", desc := "(Lcom/example/onegate/onegate/core/http/HttpResponse$Status;Ljava/lang/String;)Lcom/example/onegate/onegate/gate/Answer;" } : Jvm.MethodName) prog_48_method_5_code (2 : Nat) (Option.some (Jvm.ClassFile.FieldType.object "com/example/onegate/onegate/gate/Answer"))).before args0 about1 = true := code_word (m := ⟨15, 4⟩) (meth := k15m4) (c := k15c4) (by decide +kernel) rfl rfl rfl (by decide +kernel)
def codes1 : List Jvm.Cond := [Jvm.Cond.code x code maxLocals ret, Jvm.Cond.code ({ cls := "com/example/onegate/onegate/gate/AnswerBrokeOffPinLaw", name := "status", desc := "(I)Lcom/example/onegate/onegate/core/http/HttpResponse$Status;" } : Jvm.MethodName) method_2_code (2 : Nat) (Option.some (Jvm.ClassFile.FieldType.object "com/example/onegate/onegate/core/http/HttpResponse$Status")), Jvm.Cond.code ({ cls := "java/lang/String", name := "<init>", desc := "([C)V" } : Jvm.MethodName) jdk_42_method_3_code (2 : Nat) (Option.none : Option Jvm.ClassFile.FieldType), Jvm.Cond.code ({ cls := "java/lang/String", name := "<init>", desc := "([CIILjava/lang/Void;)V" } : Jvm.MethodName) jdk_42_method_149_code (6 : Nat) (Option.none : Option Jvm.ClassFile.FieldType), Jvm.Cond.code ({ cls := "java/lang/Object", name := "<init>", desc := "()V" } : Jvm.MethodName) object_method_1_code (1 : Nat) (Option.none : Option Jvm.ClassFile.FieldType), Jvm.Cond.code ({ cls := "java/lang/StringUTF16", name := "compress", desc := "([CII)[B" } : Jvm.MethodName) jdk_52_method_16_code (6 : Nat) (Option.some (Jvm.ClassFile.FieldType.array Jvm.ClassFile.FieldType.byte)), Jvm.Cond.code ({ cls := "java/lang/StringUTF16", name := "compress", desc := "([CI[BII)I" } : Jvm.MethodName) jdk_52_method_21_code (7 : Nat) (Option.some Jvm.ClassFile.FieldType.int), Jvm.Cond.code ({ cls := "java/lang/StringUTF16", name := "coderFromArrayLen", desc := "([BI)B" } : Jvm.MethodName) jdk_52_method_15_code (2 : Nat) (Option.some Jvm.ClassFile.FieldType.byte), Jvm.Cond.code ({ cls := "com/example/onegate/onegate/core/http/HttpResponse$Content", name := "<init>", desc := "(Ljava/lang/String;[B)V" } : Jvm.MethodName) prog_44_method_1_code (3 : Nat) (Option.none : Option Jvm.ClassFile.FieldType), Jvm.Cond.code ({ cls := "java/lang/Record", name := "<init>", desc := "()V" } : Jvm.MethodName) jdk_30_method_1_code (1 : Nat) (Option.none : Option Jvm.ClassFile.FieldType), Jvm.Cond.code ({ cls := "com/example/onegate/onegate/gate/Answer", name := "<init>", desc := "(Lcom/example/onegate/onegate/core/http/HttpResponse$Status;Ljava/lang/String;Lcom/example/onegate/onegate/core/http/HttpResponse$Content;)V" } : Jvm.MethodName) prog_48_method_3_code (4 : Nat) (Option.none : Option Jvm.ClassFile.FieldType), Jvm.Cond.code ({ cls := "com/example/onegate/onegate/gate/Answer", name := "<init>", desc := "(Lcom/example/onegate/onegate/core/http/HttpResponse$Status;Ljava/lang/String;Lcom/example/onegate/onegate/core/http/HttpResponse$Content;Ljava/lang/String;Lcom/example/onegate/onegate/gate/Answer$Line;)V" } : Jvm.MethodName) prog_48_method_4_code (6 : Nat) (Option.none : Option Jvm.ClassFile.FieldType), Jvm.Cond.code ({ cls := "java/lang/Exception", name := "<init>", desc := "(Ljava/lang/String;)V" } : Jvm.MethodName) jdk_59_method_2_code (2 : Nat) (Option.none : Option Jvm.ClassFile.FieldType), Jvm.Cond.code ({ cls := "java/lang/Throwable", name := "<init>", desc := "(Ljava/lang/String;)V" } : Jvm.MethodName) jdk_78_method_2_code (2 : Nat) (Option.none : Option Jvm.ClassFile.FieldType), Jvm.Cond.code ({ cls := "java/lang/Throwable", name := "<init>", desc := "()V" } : Jvm.MethodName) jdk_78_method_1_code (1 : Nat) (Option.none : Option Jvm.ClassFile.FieldType), Jvm.Cond.code ({ cls := "com/example/onegate/onegate/gate/Answer", name := "brokeOff", desc := "()Z" } : Jvm.MethodName) prog_48_method_9_code (1 : Nat) (Option.some Jvm.ClassFile.FieldType.boolean), Jvm.Cond.code ({ cls := "com/example/onegate/onegate/gate/Answer", name := "<init>", desc := "(Lcom/example/onegate/onegate/core/http/HttpResponse$Status;Ljava/lang/String;)V" } : Jvm.MethodName) prog_48_method_1_code (3 : Nat) (Option.none : Option Jvm.ClassFile.FieldType), Jvm.Cond.code ({ cls := "com/example/onegate/onegate/core/http/HttpResponse$Content", name := "text", desc := "(Ljava/lang/String;)Lcom/example/onegate/onegate/core/http/HttpResponse$Content;" } : Jvm.MethodName) prog_44_method_2_code (1 : Nat) (Option.some (Jvm.ClassFile.FieldType.object "com/example/onegate/onegate/core/http/HttpResponse$Content")), Jvm.Cond.code ({ cls := "java/lang/StringBuilder", name := "<init>", desc := "()V" } : Jvm.MethodName) jdk_67_method_1_code (1 : Nat) (Option.none : Option Jvm.ClassFile.FieldType), Jvm.Cond.code ({ cls := "java/lang/AbstractStringBuilder", name := "<init>", desc := "(I)V" } : Jvm.MethodName) jdk_68_method_2_code (2 : Nat) (Option.none : Option Jvm.ClassFile.FieldType), Jvm.Cond.code ({ cls := "java/lang/StringBuilder", name := "append", desc := "(Ljava/lang/String;)Ljava/lang/StringBuilder;" } : Jvm.MethodName) jdk_67_method_7_code (2 : Nat) (Option.some (Jvm.ClassFile.FieldType.object "java/lang/StringBuilder")), Jvm.Cond.code ({ cls := "java/lang/AbstractStringBuilder", name := "append", desc := "(Ljava/lang/String;)Ljava/lang/AbstractStringBuilder;" } : Jvm.MethodName) jdk_68_method_22_code (3 : Nat) (Option.some (Jvm.ClassFile.FieldType.object "java/lang/AbstractStringBuilder")), Jvm.Cond.code ({ cls := "java/lang/String", name := "length", desc := "()I" } : Jvm.MethodName) jdk_42_method_54_code (1 : Nat) (Option.some Jvm.ClassFile.FieldType.int), Jvm.Cond.code ({ cls := "java/lang/String", name := "coder", desc := "()B" } : Jvm.MethodName) jdk_42_method_152_code (1 : Nat) (Option.some Jvm.ClassFile.FieldType.byte), Jvm.Cond.code ({ cls := "java/lang/AbstractStringBuilder", name := "ensureCapacityInternal", desc := "(I)V" } : Jvm.MethodName) jdk_68_method_9_code (3 : Nat) (Option.none : Option Jvm.ClassFile.FieldType), Jvm.Cond.code ({ cls := "java/lang/AbstractStringBuilder", name := "putStringAt", desc := "(ILjava/lang/String;)V" } : Jvm.MethodName) jdk_68_method_73_code (3 : Nat) (Option.none : Option Jvm.ClassFile.FieldType), Jvm.Cond.code ({ cls := "java/lang/AbstractStringBuilder", name := "inflateIfNeededFor", desc := "(Ljava/lang/String;)V" } : Jvm.MethodName) jdk_68_method_71_code (2 : Nat) (Option.none : Option Jvm.ClassFile.FieldType), Jvm.Cond.code ({ cls := "java/lang/String", name := "getBytes", desc := "([BIB)V" } : Jvm.MethodName) jdk_42_method_147_code (4 : Nat) (Option.none : Option Jvm.ClassFile.FieldType), Jvm.Cond.code ({ cls := "java/lang/StringBuilder", name := "toString", desc := "()Ljava/lang/String;" } : Jvm.MethodName) jdk_67_method_42_code (1 : Nat) (Option.some (Jvm.ClassFile.FieldType.object "java/lang/String")), Jvm.Cond.code ({ cls := "java/lang/String", name := "<init>", desc := "(Ljava/lang/StringBuilder;)V" } : Jvm.MethodName) jdk_42_method_53_code (2 : Nat) (Option.none : Option Jvm.ClassFile.FieldType), Jvm.Cond.code ({ cls := "java/lang/String", name := "<init>", desc := "(Ljava/lang/AbstractStringBuilder;Ljava/lang/Void;)V" } : Jvm.MethodName) jdk_42_method_150_code (5 : Nat) (Option.none : Option Jvm.ClassFile.FieldType), Jvm.Cond.code ({ cls := "java/lang/AbstractStringBuilder", name := "getValue", desc := "()[B" } : Jvm.MethodName) jdk_68_method_64_code (1 : Nat) (Option.some (Jvm.ClassFile.FieldType.array Jvm.ClassFile.FieldType.byte)), Jvm.Cond.code ({ cls := "java/lang/StringBuilder", name := "length", desc := "()I" } : Jvm.MethodName) jdk_67_method_93_code (1 : Nat) (Option.some Jvm.ClassFile.FieldType.int), Jvm.Cond.code ({ cls := "java/lang/AbstractStringBuilder", name := "length", desc := "()I" } : Jvm.MethodName) jdk_68_method_6_code (1 : Nat) (Option.some Jvm.ClassFile.FieldType.int), Jvm.Cond.code ({ cls := "java/lang/AbstractStringBuilder", name := "isLatin1", desc := "()Z" } : Jvm.MethodName) jdk_68_method_68_code (1 : Nat) (Option.some Jvm.ClassFile.FieldType.boolean), Jvm.Cond.code ({ cls := "java/util/Arrays", name := "copyOfRange", desc := "([BII)[B" } : Jvm.MethodName) jdk_65_method_132_code (3 : Nat) (Option.some (Jvm.ClassFile.FieldType.array Jvm.ClassFile.FieldType.byte)), Jvm.Cond.code ({ cls := "java/util/Arrays", name := "copyOfRangeByte", desc := "([BII)[B" } : Jvm.MethodName) jdk_65_method_133_code (5 : Nat) (Option.some (Jvm.ClassFile.FieldType.array Jvm.ClassFile.FieldType.byte)), Jvm.Cond.code ({ cls := "java/util/Arrays", name := "checkLength", desc := "(II)V" } : Jvm.MethodName) jdk_65_method_131_code (2 : Nat) (Option.none : Option Jvm.ClassFile.FieldType), Jvm.Cond.code ({ cls := "java/lang/Math", name := "min", desc := "(II)I" } : Jvm.MethodName) jdk_29_method_69_code (2 : Nat) (Option.some Jvm.ClassFile.FieldType.int), Jvm.Cond.code ({ cls := "java/lang/String", name := "getBytes", desc := "(Ljava/nio/charset/Charset;)[B" } : Jvm.MethodName) jdk_42_method_64_code (2 : Nat) (Option.some (Jvm.ClassFile.FieldType.array Jvm.ClassFile.FieldType.byte)), Jvm.Cond.code ({ cls := "java/lang/String", name := "encode", desc := "(Ljava/nio/charset/Charset;B[B)[B" } : Jvm.MethodName) jdk_42_method_18_code (3 : Nat) (Option.some (Jvm.ClassFile.FieldType.array Jvm.ClassFile.FieldType.byte)), Jvm.Cond.code ({ cls := "java/lang/String", name := "encodeUTF8", desc := "(B[BZ)[B" } : Jvm.MethodName) jdk_42_method_46_code (9 : Nat) (Option.some (Jvm.ClassFile.FieldType.array Jvm.ClassFile.FieldType.byte)), Jvm.Cond.code ({ cls := "java/lang/StringCoding", name := "hasNegatives", desc := "([BII)Z" } : Jvm.MethodName) jdk_123_method_2_code (3 : Nat) (Option.some Jvm.ClassFile.FieldType.boolean), Jvm.Cond.code ({ cls := "java/lang/StringCoding", name := "countPositives", desc := "([BII)I" } : Jvm.MethodName) jdk_123_method_3_code (5 : Nat) (Option.some Jvm.ClassFile.FieldType.int), Jvm.Cond.code ({ cls := "com/example/onegate/onegate/gate/Answer", name := "<init>", desc := "(Lcom/example/onegate/onegate/core/http/HttpResponse$Status;Ljava/lang/String;Ljava/lang/String;)V" } : Jvm.MethodName) prog_48_method_2_code (4 : Nat) (Option.none : Option Jvm.ClassFile.FieldType), Jvm.Cond.code ({ cls := "java/lang/StringUTF16", name := "newBytesFor", desc := "(I)[B" } : Jvm.MethodName) jdk_52_method_2_code (1 : Nat) (Option.some (Jvm.ClassFile.FieldType.array Jvm.ClassFile.FieldType.byte)), Jvm.Cond.code ({ cls := "java/lang/StringUTF16", name := "newBytesLength", desc := "(I)I" } : Jvm.MethodName) jdk_52_method_3_code (1 : Nat) (Option.some Jvm.ClassFile.FieldType.int), Jvm.Cond.code ({ cls := "java/util/Arrays", name := "copyOf", desc := "([BI)[B" } : Jvm.MethodName) jdk_65_method_121_code (3 : Nat) (Option.some (Jvm.ClassFile.FieldType.array Jvm.ClassFile.FieldType.byte)), Jvm.Cond.code ({ cls := "com/example/onegate/onegate/gate/Answer", name := "again", desc := "()Lcom/example/onegate/onegate/gate/Answer;" } : Jvm.MethodName) prog_48_method_6_code (1 : Nat) (Option.some (Jvm.ClassFile.FieldType.object "com/example/onegate/onegate/gate/Answer")), Jvm.Cond.code ({ cls := "java/lang/Throwable", name := "getMessage", desc := "()Ljava/lang/String;" } : Jvm.MethodName) jdk_78_method_6_code (1 : Nat) (Option.some (Jvm.ClassFile.FieldType.object "java/lang/String")), Jvm.Cond.code ({ cls := "com/example/onegate/onegate/gate/Answer", name := "brokenOff", desc := "(Lcom/example/onegate/onegate/core/http/HttpResponse$Status;Ljava/lang/String;)Lcom/example/onegate/onegate/gate/Answer;" } : Jvm.MethodName) prog_48_method_5_code (2 : Nat) (Option.some (Jvm.ClassFile.FieldType.object "com/example/onegate/onegate/gate/Answer"))]
set_option maxRecDepth 65536 in
theorem codes_eq : words1.filter isCode = codes1 := rfl
theorem w_codes : ∀ c ∈ words1.filter isCode, c.before args0 about1 = true := by
  rw [codes_eq]
  intro c hc
  simp only [codes1, List.mem_cons, List.not_mem_nil, or_false] at hc
  rcases hc with rfl | rfl | rfl | rfl | rfl | rfl | rfl | rfl | rfl | rfl | rfl | rfl | rfl | rfl | rfl | rfl | rfl | rfl | rfl | rfl | rfl | rfl | rfl | rfl | rfl | rfl | rfl | rfl | rfl | rfl | rfl | rfl | rfl | rfl | rfl | rfl | rfl | rfl | rfl | rfl | rfl | rfl | rfl | rfl | rfl | rfl | rfl | rfl | rfl | rfl | rfl
  · exact w_c0
  · exact w_c1
  · exact w_c2
  · exact w_c3
  · exact w_c4
  · exact w_c5
  · exact w_c6
  · exact w_c7
  · exact w_c8
  · exact w_c9
  · exact w_c10
  · exact w_c11
  · exact w_c12
  · exact w_c13
  · exact w_c14
  · exact w_c15
  · exact w_c16
  · exact w_c17
  · exact w_c18
  · exact w_c19
  · exact w_c20
  · exact w_c21
  · exact w_c22
  · exact w_c23
  · exact w_c24
  · exact w_c25
  · exact w_c26
  · exact w_c27
  · exact w_c28
  · exact w_c29
  · exact w_c30
  · exact w_c31
  · exact w_c32
  · exact w_c33
  · exact w_c34
  · exact w_c35
  · exact w_c36
  · exact w_c37
  · exact w_c38
  · exact w_c39
  · exact w_c40
  · exact w_c41
  · exact w_c42
  · exact w_c43
  · exact w_c44
  · exact w_c45
  · exact w_c46
  · exact w_c47
  · exact w_c48
  · exact w_c49
  · exact w_c50
set_option maxRecDepth 65536 in
theorem w_t1 : (words1.take 24).all (fun c => isCode c || c.before args0 about1) = true := by decide +kernel
set_option maxRecDepth 65536 in
theorem w_t2 : ((words1.drop 24).take 24).all (fun c => isCode c || c.before args0 about1) = true := by decide +kernel
set_option maxRecDepth 65536 in
theorem w_t3 : (((words1.drop 24).drop 24).take 24).all (fun c => isCode c || c.before args0 about1) = true := by decide +kernel
set_option maxRecDepth 65536 in
theorem w_t4 : ((((words1.drop 24).drop 24).drop 24).take 24).all (fun c => isCode c || c.before args0 about1) = true := by decide +kernel
set_option maxRecDepth 65536 in
theorem w_t5 : (((((words1.drop 24).drop 24).drop 24).drop 24).take 24).all (fun c => isCode c || c.before args0 about1) = true := by decide +kernel
set_option maxRecDepth 65536 in
theorem w_t6 : ((((((words1.drop 24).drop 24).drop 24).drop 24).drop 24).take 24).all (fun c => isCode c || c.before args0 about1) = true := by decide +kernel
set_option maxRecDepth 65536 in
theorem w_t7 : (((((((words1.drop 24).drop 24).drop 24).drop 24).drop 24).drop 24).take 24).all (fun c => isCode c || c.before args0 about1) = true := by decide +kernel
set_option maxRecDepth 65536 in
theorem w_t8 : ((((((((words1.drop 24).drop 24).drop 24).drop 24).drop 24).drop 24).drop 24).take 24).all (fun c => isCode c || c.before args0 about1) = true := by decide +kernel
set_option maxRecDepth 65536 in
theorem w_t9 : (((((((((words1.drop 24).drop 24).drop 24).drop 24).drop 24).drop 24).drop 24).drop 24).take 24).all (fun c => isCode c || c.before args0 about1) = true := by decide +kernel
set_option maxRecDepth 65536 in
theorem w_t10 : ((((((((((words1.drop 24).drop 24).drop 24).drop 24).drop 24).drop 24).drop 24).drop 24).drop 24).take 24).all (fun c => isCode c || c.before args0 about1) = true := by decide +kernel
set_option maxRecDepth 65536 in
theorem w_t11 : (((((((((((words1.drop 24).drop 24).drop 24).drop 24).drop 24).drop 24).drop 24).drop 24).drop 24).drop 24).take 24).all (fun c => isCode c || c.before args0 about1) = true := by decide +kernel
set_option maxRecDepth 65536 in
theorem w_t12 : ((((((((((((words1.drop 24).drop 24).drop 24).drop 24).drop 24).drop 24).drop 24).drop 24).drop 24).drop 24).drop 24).take 24).all (fun c => isCode c || c.before args0 about1) = true := by decide +kernel
set_option maxRecDepth 65536 in
theorem w_t13 : (((((((((((((words1.drop 24).drop 24).drop 24).drop 24).drop 24).drop 24).drop 24).drop 24).drop 24).drop 24).drop 24).drop 24).take 24).all (fun c => isCode c || c.before args0 about1) = true := by decide +kernel
set_option maxRecDepth 65536 in
theorem w_t14 : (((((((((((((words1.drop 24).drop 24).drop 24).drop 24).drop 24).drop 24).drop 24).drop 24).drop 24).drop 24).drop 24).drop 24).drop 24).all (fun c => isCode c || c.before args0 about1) = true := by decide +kernel
theorem w_tables : (allAtoms (Jvm.Cond.code x code maxLocals ret :: tables_1)).before args0 about1 = true := by
  rw [allAtoms_all]
  show words1.all (fun c => c.before args0 about1) = true
  refine all_split ?_ w_codes
  rw [← List.take_append_drop 24 words1, List.all_append, w_t1, ← List.take_append_drop 24 (words1.drop 24), List.all_append, w_t2, ← List.take_append_drop 24 ((words1.drop 24).drop 24), List.all_append, w_t3, ← List.take_append_drop 24 (((words1.drop 24).drop 24).drop 24), List.all_append, w_t4, ← List.take_append_drop 24 ((((words1.drop 24).drop 24).drop 24).drop 24), List.all_append, w_t5, ← List.take_append_drop 24 (((((words1.drop 24).drop 24).drop 24).drop 24).drop 24), List.all_append, w_t6, ← List.take_append_drop 24 ((((((words1.drop 24).drop 24).drop 24).drop 24).drop 24).drop 24), List.all_append, w_t7, ← List.take_append_drop 24 (((((((words1.drop 24).drop 24).drop 24).drop 24).drop 24).drop 24).drop 24), List.all_append, w_t8, ← List.take_append_drop 24 ((((((((words1.drop 24).drop 24).drop 24).drop 24).drop 24).drop 24).drop 24).drop 24), List.all_append, w_t9, ← List.take_append_drop 24 (((((((((words1.drop 24).drop 24).drop 24).drop 24).drop 24).drop 24).drop 24).drop 24).drop 24), List.all_append, w_t10, ← List.take_append_drop 24 ((((((((((words1.drop 24).drop 24).drop 24).drop 24).drop 24).drop 24).drop 24).drop 24).drop 24).drop 24), List.all_append, w_t11, ← List.take_append_drop 24 (((((((((((words1.drop 24).drop 24).drop 24).drop 24).drop 24).drop 24).drop 24).drop 24).drop 24).drop 24).drop 24), List.all_append, w_t12, ← List.take_append_drop 24 ((((((((((((words1.drop 24).drop 24).drop 24).drop 24).drop 24).drop 24).drop 24).drop 24).drop 24).drop 24).drop 24).drop 24), List.all_append, w_t13, w_t14]
  rfl
set_option maxRecDepth 65536 in
theorem w_rest : rest_1_c.before args0 about1 = true := by decide +kernel
set_option maxRecDepth 65536 in
theorem w_case : (Jvm.Cond.and given_1 narrow_1).before args0 about1 = true := by decide +kernel
set_option maxRecDepth 65536 in
theorem w_consts : constsHeld consts_1 about1 := Jvm.Lit.constsHeldB_iff.mp (by decide +kernel)
theorem w_applies : (headSpec (Jvm.Cond.code x code maxLocals ret :: tables_1) room_1).applies x e0.platform about1 = true :=
  (Spec.applies_iff w_frames).mpr ⟨w_running, w_runnable, w_alone, w_named, w_hears, w_ripe, w_room, w_tables⟩
theorem atStart : AtStart classFile x code maxLocals ret World_1 tables_1 room_1 Calls_1 rest_1 Pre_1 launch0 p0 e0 about1 theMethod args0 below0 :=
  ⟨lists_1, trivial, launch0.admits_env _ _ _, launch0.least_env, fairChoices_fair.cas, fairChoices_fair.clock, w_frames, w_args, w_heap, w_applies, ⟨(by decide +kernel : framesKnown about1 = true), ⟨(by decide +kernel : tablesKnown about1 = true), ⟨w_consts, trivial⟩⟩⟩, w_rest, w_case⟩
end start1
theorem witness_1 : WitnessClaimed_1 := ⟨start1.p0, start1.e0, start1.about1, start1.theMethod, start1.args0, start1.below0, start1.atStart⟩
end Jvm.Pilot.@@N@@
