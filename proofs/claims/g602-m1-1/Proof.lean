import JvmDerived
import JvmDerived.Pilot.@@N@@Statement
import JvmDerived.Pilot.@@N@@Code
set_option linter.unusedVariables false
set_option linter.unusedSimpArgs false
/- laws to paste: Road.backV (cut by pick.py; bodies as the Statement names them) -/
namespace Jvm.Pilot.@@N@@
namespace StrChars
open Jvm Sem ClassFile Op Lib Jvm.Stand Jvm.Free.XT Jvm.Free.ALB Jvm.Free.JM Jvm.Free
open Jvm.Lib.Cold (StaticIs)
/-- a char array whose places are chars -/
def Ch (a : Addr) (A : Cell) (U : State) : Prop := Arr .char a A U ∧ Typed .char A
theorem Ch.mv {a : Addr} {A : Cell} {U U' : State} (h : Ch a A U) (hal : U.vm.Alike U'.vm) (hh : U'.heap = U.heap) : Ch a A U' := ⟨h.1.mv hal hh, h.2⟩
theorem Ch.keep {a : Addr} {A : Cell} {U U' : State} (h : Ch a A U) (hal : U.vm.Alike U'.vm) (hk : U'.heap[a]? = some A) : Ch a A U' := ⟨h.1.keep hal hk, h.2⟩
/-- what place i of a char[]'s cell holds -/
def cv (A : Cell) (i : Nat) : Int32 := match A.slots[i]? with | some (.int x) => x | _ => 0
theorem Ch.get {a : Addr} {A : Cell} {U : State} (h : Ch a A U) {i : Nat} (hi : i < A.slots.size) : A.slots[i]? = some (.int (cv A i)) := by
  have e := Array.getElem?_eq_getElem hi
  have f := h.2 i _ e
  unfold cv; rw [e]
  generalize A.slots[i] = v at f
  cases v <;> simp [fits] at f ⊢
/-- the byte that i2b leaves of a char -/
def lo8 (x : Int32) : Int32 := x.toInt8.toInt32
theorem fits_lo8 (y : Int32) : fits .byte (.int (lo8 y)) = true := by
  have h1 := y.toInt8.le_toInt
  have h2 := y.toInt8.toInt_lt
  simp only [lo8, fits, Bool.and_eq_true, decide_eq_true_eq, Int32.le_iff_toInt_le, Int8.toInt_toInt32, show (-128 : Int32).toInt = -128 from by decide, show (127 : Int32).toInt = 127 from by decide]
  omega
/-- A' is A but that each place j of lo .. hi - 1 holds f j -/
def Laid (A A' : Cell) (lo hi : Nat) (f : Nat → Value) : Prop := A'.cls = A.cls ∧ A'.vm = A.vm ∧ A'.slots.size = A.slots.size ∧ ∀ i, A'.slots[i]? = if lo ≤ i ∧ i < hi then some (f i) else A.slots[i]?
theorem Laid.zero (A : Cell) (lo : Nat) (f : Nat → Value) : Laid A A lo (lo + 0) f := ⟨rfl, rfl, rfl, fun i => by rw [if_neg (by omega)]⟩
theorem Laid.step {A Ak : Cell} {lo k : Nat} {f : Nat → Value} {v : Value} (h : Laid A Ak lo k f) (hlo : lo ≤ k) (hk : k < Ak.slots.size) (hv : v = f k) : Laid A (Ak.setSlot k v) lo (k + 1) f := by
  refine ⟨h.1, h.2.1, by simpa [Cell.setSlot] using h.2.2.1, fun i => ?_⟩
  by_cases e : k = i
  · subst e; rw [Cell.slots_setSlot_self v hk, if_pos (by omega), hv]
  · rw [Cell.slots_setSlot_ne v e, h.2.2.2 i]
    by_cases q : lo ≤ i ∧ i < k
    · rw [if_pos q, if_pos (by omega)]
    · rw [if_neg q, if_neg (by omega)]
def U16 : String := "java/lang/StringUTF16"
namespace Cmp5
def yN : MethodName := ⟨"java/lang/StringUTF16", "compress", "([CI[BII)I"⟩
abbrev yB : ByteArray := jdk_52_method_21_code
theorem d0 : decode yB 0 = .ok (.iconst 0, 1) := by decide +kernel
theorem d1 : decode yB 1 = .ok (.istore 5, 2) := by decide +kernel
theorem d3 : decode yB 3 = .ok (.iload 5, 2) := by decide +kernel
theorem d5 : decode yB 5 = .ok (.iload 4, 2) := by decide +kernel
theorem d7 : decode yB 7 = .ok (.if_icmp (.ge) 37, 3) := by decide +kernel
theorem d10 : decode yB 10 = .ok (.aload_n 0, 1) := by decide +kernel
theorem d11 : decode yB 11 = .ok (.iload_n 1, 1) := by decide +kernel
theorem d12 : decode yB 12 = .ok (.caload, 1) := by decide +kernel
theorem d13 : decode yB 13 = .ok (.istore 6, 2) := by decide +kernel
theorem d15 : decode yB 15 = .ok (.iload 6, 2) := by decide +kernel
theorem d17 : decode yB 17 = .ok (.sipush 255, 3) := by decide +kernel
theorem d20 : decode yB 20 = .ok (.if_icmp (.le) 6, 3) := by decide +kernel
theorem d26 : decode yB 26 = .ok (.aload_n 2, 1) := by decide +kernel
theorem d27 : decode yB 27 = .ok (.iload_n 3, 1) := by decide +kernel
theorem d28 : decode yB 28 = .ok (.iload 6, 2) := by decide +kernel
theorem d30 : decode yB 30 = .ok (.i2b, 1) := by decide +kernel
theorem d31 : decode yB 31 = .ok (.bastore, 1) := by decide +kernel
theorem d32 : decode yB 32 = .ok (.iinc 1 1, 3) := by decide +kernel
theorem d35 : decode yB 35 = .ok (.iinc 3 1, 3) := by decide +kernel
theorem d38 : decode yB 38 = .ok (.iinc 5 1, 3) := by decide +kernel
theorem d41 : decode yB 41 = .ok (.goto (-38), 3) := by decide +kernel
theorem d44 : decode yB 44 = .ok (.iload 4, 2) := by decide +kernel
theorem d46 : decode yB 46 = .ok (.ireturn, 1) := by decide +kernel
def site : List Cond := []
def tab : Cond := tabOf yN yB 7 (some .int) site
def P (b : Addr) (A : Cell) (d : Addr) (B : Cell) (o q len : Nat) (args : Array Value) (s : State) : Prop := args = #[.ref b, .int (Int32.ofNat o), .ref d, .int (Int32.ofNat q), .int (Int32.ofNat len)] ∧ Ch b A s ∧ Arr .byte d B s ∧ b ≠ d ∧ o + len ≤ A.slots.size ∧ q + len ≤ B.slots.size ∧ ∀ i, i < len → ¬ 255 < cv A (o + i)
def E (b : Addr) (A : Cell) (d : Addr) (B : Cell) (o q len : Nat) (r : Option Value) (s u : State) : Prop := r = some (.int (Int32.ofNat len)) ∧ ∃ B', Put d B' s u ∧ Laid B B' q (q + len) (fun j => Value.int (lo8 (cv A (o + (j - q)))))
/-- no char of the range above 255: len; the places written hold each char's low byte -/
theorem law (l : Launch) (b : Addr) (A : Cell) (d : Addr) (B : Cell) (o q len : Nat) : Law l yN 5 5 0 0 yB 7 (some .int) site (P b A d B o q len) (E b A d B o q len) (copyLocs d q len) 0 0 := by
  refine Law.of_walk (plainFor_of_name (by decide +kernel)) (by decide +kernel) (by decide +kernel) (by decide) (fun _ _ h => by rw [h.1]; rfl) (fun _ U U' hal hh h => ⟨h.1, h.2.1.mv hal hh, h.2.2.1.mv hal hh, h.2.2.2⟩) (fun r U U' V V' h1 hal h2 h => ⟨h.1, h.2.elim fun B' q => ⟨B', q.1.mv h1 h2, q.2⟩⟩) ?_
  intro p e s m args below meth c s₁ X0 hexec hbytes hml hret hlk hnm hown hh0 W hP
  obtain ⟨rfl, hA, hB, hne, l1, l2, hp⟩ := hP
  have c1 : Steps p.tables e below (s₁.setTop (entryFrame m #[.ref b, .int (Int32.ofNat o), .ref d, .int (Int32.ofNat q), .int (Int32.ofNat len)] 7)) (s₁.setTop (mkF m 0 #[.val (.ref b), .val (.int (Int32.ofNat o)), .val (.ref d), .val (.int (Int32.ofNat q)), .val (.int (Int32.ofNat len)), .unset, .unset] [])) := entry rfl
  have hA0 := hA.1.mv X0.warmed.alike hh0
  have hB0 := hB.mv X0.warmed.alike hh0
  have a31 := hA.1.2.2.2
  have c2 : Steps p.tables e below (s₁.setTop (entryFrame m #[.ref b, .int (Int32.ofNat o), .ref d, .int (Int32.ofNat q), .int (Int32.ofNat len)] 7)) (s₁.setTop (mkF m 3 #[.val (.ref b), .val (.int (Int32.ofNat o)), .val (.ref d), .val (.int (Int32.ofNat q)), .val (.int (Int32.ofNat len)), .val (.int 0), .unset] [])) := c1.trans (by
    refine iconstV X0.here hexec rfl 0 (hb hbytes d0) (by decide) ?_
    refine XS.istore X0.here hexec rfl (hb hbytes d1) rfl rfl ?_
    exact Steps.refl _)
  have loop : ∀ (r i : Nat), i + r = len → ∀ (z : Slot), (z = .unset ∨ ∃ w, z = .val w ∧ w.category = 1) → ∀ (Tl : State) (Bk : Cell), Stand p l e { frames := 0, locals := 0, cells := 0, slots := 0 } s m #[.ref b, .int (Int32.ofNat o), .ref d, .int (Int32.ofNat q), .int (Int32.ofNat len)] below meth c Tl ([] ++ copyLocs d q i) 0 0 → Put d Bk s₁ Tl → Laid B Bk q (q + i) (fun j => Value.int (lo8 (cv A (o + (j - q))))) →
      Steps p.tables e below (s₁.setTop (entryFrame m #[.ref b, .int (Int32.ofNat o), .ref d, .int (Int32.ofNat q), .int (Int32.ofNat len)] 7)) (Tl.setTop (mkF m 3 #[.val (.ref b), .val (.int (Int32.ofNat (o + i))), .val (.ref d), .val (.int (Int32.ofNat (q + i))), .val (.int (Int32.ofNat len)), .val (.int (Int32.ofNat i)), z] [])) → ∃ (T' : State) (B' : Cell) (z' : Slot), Stand p l e { frames := 0, locals := 0, cells := 0, slots := 0 } s m #[.ref b, .int (Int32.ofNat o), .ref d, .int (Int32.ofNat q), .int (Int32.ofNat len)] below meth c T' ([] ++ copyLocs d q len) 0 0 ∧ Put d B' s₁ T' ∧ Laid B B' q (q + len) (fun j => Value.int (lo8 (cv A (o + (j - q))))) ∧
      Steps p.tables e below (s₁.setTop (entryFrame m #[.ref b, .int (Int32.ofNat o), .ref d, .int (Int32.ofNat q), .int (Int32.ofNat len)] 7)) (T'.setTop (mkF m 3 #[.val (.ref b), .val (.int (Int32.ofNat (o + len))), .val (.ref d), .val (.int (Int32.ofNat (q + len))), .val (.int (Int32.ofNat len)), .val (.int (Int32.ofNat len)), z'] [])) := by
    intro r
    induction r with
    | zero =>
      intro i hi z hz Tl Bk Xl pl fl cl
      have hil : i = len := by omega
      rw [hil] at Xl fl cl
      exact ⟨Tl, Bk, z, Xl, pl, fl, cl⟩
    | succ r ih =>
      intro i hi z hz Tl Bk Xl pl fl cl
      have all := X0.warmed.alike.symm.trans Xl.warmed.alike
      have hAl := hA0.keep all (pl.other hne hA0.1)
      have hBk := hB0.like all pl.1 fl.1 fl.2.1 fl.2.2.1
      have hlt : q + i < Bk.slots.size := by rw [fl.2.2.1]; omega
      have c3 : Steps p.tables e below (s₁.setTop (entryFrame m #[.ref b, .int (Int32.ofNat o), .ref d, .int (Int32.ofNat q), .int (Int32.ofNat len)] 7)) (Tl.setTop (mkF m 12 #[.val (.ref b), .val (.int (Int32.ofNat (o + i))), .val (.ref d), .val (.int (Int32.ofNat (q + i))), .val (.int (Int32.ofNat len)), .val (.int (Int32.ofNat i)), z] [.int (Int32.ofNat (o + i)), .ref b])) := cl.trans (by
        refine XS.iload Xl.here hexec rfl (hb hbytes d3) rfl ?_
        refine XS.iload Xl.here hexec rfl (hb hbytes d5) rfl ?_
        refine XS.icmpNo Xl.here hexec rfl (hb hbytes d7) rfl (ii_ge_f (lt32 (by omega) (by omega))) ?_
        refine XS.aloadN Xl.here hexec rfl (hb hbytes d10) rfl rfl ?_
        refine XS.iloadN Xl.here hexec rfl (hb hbytes d11) rfl ?_
        exact Steps.refl _)
      have c4 : Steps p.tables e below (s₁.setTop (entryFrame m #[.ref b, .int (Int32.ofNat o), .ref d, .int (Int32.ofNat q), .int (Int32.ofNat len)] 7)) (Tl.setTop (mkF m 13 #[.val (.ref b), .val (.int (Int32.ofNat (o + i))), .val (.ref d), .val (.int (Int32.ofNat (q + i))), .val (.int (Int32.ofNat len)), .val (.int (Int32.ofNat i)), z] [.int (cv A (o + i))])) := c3.trans (by
        refine Xl.aget hexec hAl rfl (hA.get (i := o + i) (by omega)) rfl rfl (hb hbytes d12) ?_
        exact Steps.refl _)
      have c5 : Steps p.tables e below (s₁.setTop (entryFrame m #[.ref b, .int (Int32.ofNat o), .ref d, .int (Int32.ofNat q), .int (Int32.ofNat len)] 7)) (Tl.setTop (mkF m 15 #[.val (.ref b), .val (.int (Int32.ofNat (o + i))), .val (.ref d), .val (.int (Int32.ofNat (q + i))), .val (.int (Int32.ofNat len)), .val (.int (Int32.ofNat i)), .val (.int (cv A (o + i)))] [])) := c4.trans (by
        refine XS.istoreS Xl.here hexec rfl (hb hbytes d13) rfl rfl hz ?_
        exact Steps.refl _)
      have c6 : Steps p.tables e below (s₁.setTop (entryFrame m #[.ref b, .int (Int32.ofNat o), .ref d, .int (Int32.ofNat q), .int (Int32.ofNat len)] 7)) (Tl.setTop (mkF m 31 #[.val (.ref b), .val (.int (Int32.ofNat (o + i))), .val (.ref d), .val (.int (Int32.ofNat (q + i))), .val (.int (Int32.ofNat len)), .val (.int (Int32.ofNat i)), .val (.int (cv A (o + i)))] [.int (lo8 (cv A (o + i))), .int (Int32.ofNat (q + i)), .ref d])) := c5.trans (by
        refine XS.iload Xl.here hexec rfl (hb hbytes d15) rfl ?_
        refine sipushV Xl.here hexec rfl 255 (hb hbytes d17) (by decide) ?_
        refine XS.icmpYes Xl.here hexec rfl (pc0 := 20) rfl (hb hbytes d20) rfl (ii_le_t (hp i (by omega))) (by decide) rfl ?_
        refine XS.aloadN Xl.here hexec rfl (hb hbytes d26) rfl rfl ?_
        refine XS.iloadN Xl.here hexec rfl (hb hbytes d27) rfl ?_
        refine XS.iload Xl.here hexec rfl (hb hbytes d28) rfl ?_
        refine i2b Xl.here hexec rfl (hb hbytes d30) rfl ?_
        exact Steps.refl _)
      obtain ⟨T7, X7, p7, st7⟩ := Xl.aput hexec hBk rfl hlt rfl (fits_lo8 (cv A (o + i))) (g := (mkF m 31 #[.val (.ref b), .val (.int (Int32.ofNat (o + i))), .val (.ref d), .val (.int (Int32.ofNat (q + i))), .val (.int (Int32.ofNat len)), .val (.int (Int32.ofNat i)), .val (.int (cv A (o + i)))] [.int (lo8 (cv A (o + i))), .int (Int32.ofNat (q + i)), .ref d])) rfl (rest := []) rfl (hb hbytes d31)
      have c8 : Steps p.tables e below (s₁.setTop (entryFrame m #[.ref b, .int (Int32.ofNat o), .ref d, .int (Int32.ofNat q), .int (Int32.ofNat len)] 7)) (T7.setTop (mkF m 32 #[.val (.ref b), .val (.int (Int32.ofNat (o + i))), .val (.ref d), .val (.int (Int32.ofNat (q + i))), .val (.int (Int32.ofNat len)), .val (.int (Int32.ofNat i)), .val (.int (cv A (o + i)))] [])) := c6.trans (st7 _ (Steps.refl _))
      have c9 : Steps p.tables e below (s₁.setTop (entryFrame m #[.ref b, .int (Int32.ofNat o), .ref d, .int (Int32.ofNat q), .int (Int32.ofNat len)] 7)) (T7.setTop (mkF m 3 #[.val (.ref b), .val (.int (Int32.ofNat (o + i) + 1)), .val (.ref d), .val (.int (Int32.ofNat (q + i) + 1)), .val (.int (Int32.ofNat len)), .val (.int (Int32.ofNat i + 1)), .val (.int (cv A (o + i)))] [])) := c8.trans (by
        refine iincV X7.here hexec rfl 1 (hb hbytes d32) (by decide) rfl rfl ?_
        refine iincV X7.here hexec rfl 1 (hb hbytes d35) (by decide) rfl rfl ?_
        refine iincV X7.here hexec rfl 1 (hb hbytes d38) (by decide) rfl rfl ?_
        refine XS.goto X7.here hexec rfl (pc0 := 41) rfl (hb hbytes d41) (by decide) rfl ?_
        exact Steps.refl _)
      have c10 : Steps p.tables e below (s₁.setTop (entryFrame m #[.ref b, .int (Int32.ofNat o), .ref d, .int (Int32.ofNat q), .int (Int32.ofNat len)] 7)) (T7.setTop (mkF m 3 #[.val (.ref b), .val (.int (Int32.ofNat (o + (i + 1)))), .val (.ref d), .val (.int (Int32.ofNat (q + (i + 1)))), .val (.int (Int32.ofNat len)), .val (.int (Int32.ofNat (i + 1))), .val (.int (cv A (o + i)))] [])) := by
        have := c9
        rw [succ32, succ32, succ32] at this
        exact this
      exact ih (i + 1) (by omega) _ (Or.inr ⟨_, rfl, rfl⟩) T7 _ (by rw [copyLocs_step, ← List.append_assoc]; exact X7) (pl.trans p7) (fl.step (by omega) hlt (by simp)) c10
  obtain ⟨T9, B9, z9, X9, p9, f9, g9⟩ := loop len 0 (by omega) .unset (Or.inl rfl) s₁ B (by simpa [copyLocs] using X0) ⟨hB0.1, fun _ _ => rfl, rfl⟩ (Laid.zero _ _ _) c2
  have c11 : Steps p.tables e below (s₁.setTop (entryFrame m #[.ref b, .int (Int32.ofNat o), .ref d, .int (Int32.ofNat q), .int (Int32.ofNat len)] 7)) (T9.setTop (mkF m 46 #[.val (.ref b), .val (.int (Int32.ofNat (o + len))), .val (.ref d), .val (.int (Int32.ofNat (q + len))), .val (.int (Int32.ofNat len)), .val (.int (Int32.ofNat len)), z9] [.int (Int32.ofNat len)])) := g9.trans (by
    refine XS.iload X9.here hexec rfl (hb hbytes d3) rfl ?_
    refine XS.iload X9.here hexec rfl (hb hbytes d5) rfl ?_
    refine XS.icmpYes X9.here hexec rfl (pc0 := 7) rfl (hb hbytes d7) rfl (ii_ge_t (nlt32 (by omega) (Nat.le_refl _))) (by decide) rfl ?_
    refine XS.iload X9.here hexec rfl (hb hbytes d44) rfl ?_
    exact Steps.refl _)
  exact ⟨T9, some (.int (Int32.ofNat len)), _, _, _, X9, by simp, rfl, rfl, (fun h => by cases h), ⟨rfl, B9, p9.from hh0, f9⟩, fun fs hl => c11.trans (X9.ireturnOut hexec hret rfl (Or.inl rfl) (hb hbytes d46) hl)⟩
end Cmp5
namespace Cmp3
def yN : MethodName := ⟨"java/lang/StringUTF16", "compress", "([CII)[B"⟩
abbrev yB : ByteArray := jdk_52_method_16_code
theorem d0 : decode yB 0 = .ok (.iload_n 2, 1) := by decide +kernel
theorem d1 : decode yB 1 = .ok (.newarray .byte, 2) := by decide +kernel
theorem d3 : decode yB 3 = .ok (.astore_n 3, 1) := by decide +kernel
theorem d4 : decode yB 4 = .ok (.aload_n 0, 1) := by decide +kernel
theorem d5 : decode yB 5 = .ok (.iload_n 1, 1) := by decide +kernel
theorem d6 : decode yB 6 = .ok (.aload_n 3, 1) := by decide +kernel
theorem d7 : decode yB 7 = .ok (.iconst 0, 1) := by decide +kernel
theorem d8 : decode yB 8 = .ok (.iload_n 2, 1) := by decide +kernel
theorem d9 : decode yB 9 = .ok (.invokestatic 115, 3) := by decide +kernel
theorem d12 : decode yB 12 = .ok (.istore 4, 2) := by decide +kernel
theorem d14 : decode yB 14 = .ok (.iload 4, 2) := by decide +kernel
theorem d16 : decode yB 16 = .ok (.iload_n 2, 1) := by decide +kernel
theorem d17 : decode yB 17 = .ok (.if_icmp (.eq) 40, 3) := by decide +kernel
theorem d57 : decode yB 57 = .ok (.aload_n 3, 1) := by decide +kernel
theorem d58 : decode yB 58 = .ok (.areturn, 1) := by decide +kernel
def site : List Cond := [.arrayClass .byte, Cmp5.tab] ++ staticW U16 115 Cmp5.yN
def tab : Cond := tabOf yN yB 6 (some (.array .byte)) site
def P (b : Addr) (A : Cell) (o len : Nat) (args : Array Value) (s : State) : Prop := args = #[.ref b, .int (Int32.ofNat o), .int (Int32.ofNat len)] ∧ Ch b A s ∧ o + len ≤ A.slots.size ∧ len ≤ 536870912 ∧ ∀ i, i < len → ¬ 255 < cv A (o + i)
def E (b : Addr) (A : Cell) (o len : Nat) (r : Option Value) (s u : State) : Prop := NewArr .byte "[B" len (fun j => .int (lo8 (cv A (o + j)))) r s u ∧ u.heap.size = s.heap.size + 1
/-- no char of the range above 255: a new byte[] of their low bytes -/
theorem law (l : Launch) (b : Addr) (A : Cell) (o len : Nat) : Law l yN 3 3 1 18 yB 6 (some (.array .byte)) site (P b A o len) (E b A o len) [] 1 len := by
  refine Law.of_walk (plainFor_of_name (by decide +kernel)) (by decide +kernel) (by decide +kernel) (by decide) (fun _ _ h => by rw [h.1]; rfl) (fun _ U U' hal hh h => ⟨h.1, h.2.1.mv hal hh, h.2.2⟩) (fun r U U' V V' h1 hal h2 h => ⟨NewArr.mv r U U' V V' h1 hal h2 h.1, by rw [h1, h2]; exact h.2⟩) ?_
  intro p e s m args below meth c s₁ X0 hexec hbytes hml hret hlk hnm hown hh0 W hP
  obtain ⟨rfl, hA, l1, l2, hp⟩ := hP
  have a31 := hA.1.2.2.2
  have c1 : Steps p.tables e below (s₁.setTop (entryFrame m #[.ref b, .int (Int32.ofNat o), .int (Int32.ofNat len)] 6)) (s₁.setTop (mkF m 0 #[.val (.ref b), .val (.int (Int32.ofNat o)), .val (.int (Int32.ofNat len)), .unset, .unset, .unset] [])) := entry rfl
  have c2 : Steps p.tables e below (s₁.setTop (entryFrame m #[.ref b, .int (Int32.ofNat o), .int (Int32.ofNat len)] 6)) (s₁.setTop (mkF m 1 #[.val (.ref b), .val (.int (Int32.ofNat o)), .val (.int (Int32.ofNat len)), .unset, .unset, .unset] [.int (Int32.ofNat len)])) := c1.trans (by
    refine XS.iloadN X0.here hexec rfl (hb hbytes d0) rfl ?_
    exact Steps.refl _)
  obtain ⟨T3, B3, X3, ba3, bs3, bv3, bh3, bf3, st3⟩ := X0.anew hexec (atype := .byte) (wk W (.arrayClass .byte)) rfl (by show len * 1 ≤ _; omega) (by omega) (g := (mkF m 1 #[.val (.ref b), .val (.int (Int32.ofNat o)), .val (.int (Int32.ofNat len)), .unset, .unset, .unset] [.int (Int32.ofNat len)])) rfl (hb hbytes d1) (rest := []) rfl (Nat.le_refl _) (by show 0 + len ≤ len; omega)
  rw [hh0] at ba3 st3
  have kp3 : XT.Kept s T3 := (XT.Kept.of_eq hh0).push bh3
  have hA3 := hA.keep X3.warmed.alike (kp3 _ _ hA.1.1)
  have hne : b ≠ s.heap.size := hA.1.ne
  have c4 : Steps p.tables e below (s₁.setTop (entryFrame m #[.ref b, .int (Int32.ofNat o), .int (Int32.ofNat len)] 6)) (T3.setTop (mkF m 3 #[.val (.ref b), .val (.int (Int32.ofNat o)), .val (.int (Int32.ofNat len)), .unset, .unset, .unset] [.ref s.heap.size])) := c2.trans (st3 _ (Steps.refl _))
  have c5 : Steps p.tables e below (s₁.setTop (entryFrame m #[.ref b, .int (Int32.ofNat o), .int (Int32.ofNat len)] 6)) (T3.setTop (mkF m 9 #[.val (.ref b), .val (.int (Int32.ofNat o)), .val (.int (Int32.ofNat len)), .val (.ref s.heap.size), .unset, .unset] [.int (Int32.ofNat len), .int 0, .ref s.heap.size, .int (Int32.ofNat o), .ref b])) := c4.trans (by
    refine XS.astoreN X3.here hexec rfl (hb hbytes d3) rfl rfl rfl ?_
    refine XS.aloadN X3.here hexec rfl (hb hbytes d4) rfl rfl ?_
    refine XS.iloadN X3.here hexec rfl (hb hbytes d5) rfl ?_
    refine XS.aloadN X3.here hexec rfl (hb hbytes d6) rfl rfl ?_
    refine iconstV X3.here hexec rfl 0 (hb hbytes d7) (by decide) ?_
    refine XS.iloadN X3.here hexec rfl (hb hbytes d8) rfl ?_
    exact Steps.refl _)
  obtain ⟨v6, T6, X6, E6, g6⟩ := X3.callS hexec (Cmp5.law l b A s.heap.size B3 o 0 len) hown (wks W (staticW U16 115 Cmp5.yN)) (wk W Cmp5.tab) (W := 0) (Nat.le_of_ble_eq_true rfl) (Nat.le_of_ble_eq_true rfl) (Nat.le_refl _) (by show 0 + len + 0 ≤ len; omega) (g := (mkF m 9 #[.val (.ref b), .val (.int (Int32.ofNat o)), .val (.int (Int32.ofNat len)), .val (.ref s.heap.size), .unset, .unset] [.int (Int32.ofNat len), .int (Int32.ofNat 0), .ref s.heap.size, .int (Int32.ofNat o), .ref b])) rfl (by rw [hml]; rfl) c5 (argsL := [.ref b, .int (Int32.ofNat o), .ref s.heap.size, .int (Int32.ofNat 0), .int (Int32.ofNat len)]) (rest := []) rfl rfl (by show 2 * 0 + 0 ≤ _; decide) (hb hbytes d9) (⟨rfl, hA3, ba3, hne, l1, by rw [bs3]; simp, hp⟩)
  obtain ⟨rfl, B6, p6, f6⟩ := E6
  have c7 : Steps p.tables e below (s₁.setTop (entryFrame m #[.ref b, .int (Int32.ofNat o), .int (Int32.ofNat len)] 6)) (T6.setTop (mkF m 12 #[.val (.ref b), .val (.int (Int32.ofNat o)), .val (.int (Int32.ofNat len)), .val (.ref s.heap.size), .unset, .unset] [.int (Int32.ofNat len)])) := g6
  have c8 : Steps p.tables e below (s₁.setTop (entryFrame m #[.ref b, .int (Int32.ofNat o), .int (Int32.ofNat len)] 6)) (T6.setTop (mkF m 58 #[.val (.ref b), .val (.int (Int32.ofNat o)), .val (.int (Int32.ofNat len)), .val (.ref s.heap.size), .val (.int (Int32.ofNat len)), .unset] [.ref s.heap.size])) := c7.trans (by
    refine XS.istore X6.here hexec rfl (hb hbytes d12) rfl rfl ?_
    refine XS.iload X6.here hexec rfl (hb hbytes d14) rfl ?_
    refine XS.iloadN X6.here hexec rfl (hb hbytes d16) rfl ?_
    refine XS.icmpYes X6.here hexec rfl (pc0 := 17) rfl (hb hbytes d17) rfl (ii_eq_t rfl) (by decide) rfl ?_
    refine XS.aloadN X6.here hexec rfl (hb hbytes d57) rfl rfl ?_
    exact Steps.refl _)
  have X8 := X6.wide (L' := []) (cells' := 1) (slots' := len) (fun x hx hlt => by
    simp only [List.nil_append, copyLocs, List.mem_map, List.mem_range] at hx
    obtain ⟨i, -, rfl⟩ := hx
    exact absurd hlt (Nat.lt_irrefl _)) (Nat.le_refl _) (by omega)
  exact ⟨T6, some (.ref s.heap.size), _, _, _, X8, rfl, rfl, rfl, (fun h => by cases h), ⟨⟨rfl, B6, ba3.like (X3.warmed.alike.symm.trans X6.warmed.alike) p6.1 f6.1 f6.2.1 f6.2.2.1, f6.2.1.trans bv3, by rw [X6.warmed.alike.findClass, f6.1]; exact bf3, by rw [f6.2.2.1, bs3]; simp, fun j hj => by rw [f6.2.2.2 j, if_pos (by omega)]; rfl, kp3.put p6 (Nat.le_refl _)⟩, by rw [p6.2.2, bh3, hh0]; simp⟩, fun fs hl => c8.trans (X8.areturnOut hexec rfl hret rfl (hb hbytes d58) hl)⟩
end Cmp3
namespace CodL
def yN : MethodName := ⟨"java/lang/StringUTF16", "coderFromArrayLen", "([BI)B"⟩
abbrev yB : ByteArray := jdk_52_method_15_code
theorem d0 : decode yB 0 = .ok (.iload_n 1, 1) := by decide +kernel
theorem d1 : decode yB 1 = .ok (.aload_n 0, 1) := by decide +kernel
theorem d2 : decode yB 2 = .ok (.arraylength, 1) := by decide +kernel
theorem d3 : decode yB 3 = .ok (.isub, 1) := by decide +kernel
theorem d4 : decode yB 4 = .ok (.bipush 31, 2) := by decide +kernel
theorem d6 : decode yB 6 = .ok (.iushr, 1) := by decide +kernel
theorem d7 : decode yB 7 = .ok (.i2b, 1) := by decide +kernel
theorem d8 : decode yB 8 = .ok (.ireturn, 1) := by decide +kernel
def site : List Cond := []
def tab : Cond := tabOf yN yB 2 (some .byte) site
def P (d : Addr) (B : Cell) (args : Array Value) (s : State) : Prop := args = #[.ref d, .int (Int32.ofNat B.slots.size)] ∧ Arr .byte d B s
def E (r : Option Value) (s u : State) : Prop := XT.PureE (some (.int 0)) r s u
/-- an array as long as the number of chars: LATIN1 -/
theorem law (l : Launch) (d : Addr) (B : Cell) : Law l yN 2 2 0 0 yB 2 (some .byte) site (P d B) E [] 0 0 := by
  refine Law.of_walk (plainFor_of_name (by decide +kernel)) (by decide +kernel) (by decide +kernel) (by decide) (fun _ _ h => by rw [h.1]; rfl) (fun _ U U' hal hh h => ⟨h.1, h.2.mv hal hh⟩) (fun r U U' V V' h1 hal h2 h => XT.PureE.mv r U U' V V' h1 hal h2 h) ?_
  intro p e s m args below meth c s₁ X0 hexec hbytes hml hret hlk hnm hown hh0 W hP
  obtain ⟨rfl, hB⟩ := hP
  have hB0 := hB.mv X0.warmed.alike hh0
  have c1 : Steps p.tables e below (s₁.setTop (entryFrame m #[.ref d, .int (Int32.ofNat B.slots.size)] 2)) (s₁.setTop (mkF m 0 #[.val (.ref d), .val (.int (Int32.ofNat B.slots.size))] [])) := entry rfl
  have c2 : Steps p.tables e below (s₁.setTop (entryFrame m #[.ref d, .int (Int32.ofNat B.slots.size)] 2)) (s₁.setTop (mkF m 2 #[.val (.ref d), .val (.int (Int32.ofNat B.slots.size))] [.ref d, .int (Int32.ofNat B.slots.size)])) := c1.trans (by
    refine XS.iloadN X0.here hexec rfl (hb hbytes d0) rfl ?_
    refine XS.aloadN X0.here hexec rfl (hb hbytes d1) rfl rfl ?_
    exact Steps.refl _)
  have c3 : Steps p.tables e below (s₁.setTop (entryFrame m #[.ref d, .int (Int32.ofNat B.slots.size)] 2)) (s₁.setTop (mkF m 8 #[.val (.ref d), .val (.int (Int32.ofNat B.slots.size))] [.int (lo8 (ushr (Int32.ofNat B.slots.size - Int32.ofNat B.slots.size) 31))])) := c2.trans (by
    refine X0.alen hexec hB0 rfl rfl (hb hbytes d2) ?_
    refine XS.isub X0.here hexec rfl (hb hbytes d3) rfl ?_
    refine bipushV X0.here hexec rfl 31 (hb hbytes d4) (by decide) ?_
    refine iushr X0.here hexec rfl (hb hbytes d6) rfl ?_
    refine i2b X0.here hexec rfl (hb hbytes d7) rfl ?_
    exact Steps.refl _)
  have e0 : lo8 (ushr (Int32.ofNat B.slots.size - Int32.ofNat B.slots.size) 31) = 0 := by rw [Int32.sub_self]; decide
  rw [e0] at c3
  exact ⟨s₁, some (.int 0), _, _, _, X0, rfl, rfl, rfl, (fun h => by cases h), ⟨rfl, hh0⟩, fun fs hl => c3.trans (X0.ireturnOut hexec hret rfl (Or.inr (Or.inr (Or.inl rfl))) (hb hbytes d8) hl)⟩
end CodL
/-- the String at a is Latin-1 over a new byte[] (the heap's one new cell): the low bytes of the len chars of A from o on; every cell but a is kept -/
def Got (a : Addr) (D : Cell) (fV fC : Field) (A : Cell) (o len : Nat) (r : Option Value) (s u : State) : Prop := r = none ∧ ∃ D' V : Cell, Blank "java/lang/String" a D' u ∧ Same D D' [fV.slot, fC.slot] ∧ D'.slots[fV.slot]? = some (.ref s.heap.size) ∧ D'.slots[fC.slot]? = some (.int 0) ∧ Arr .byte s.heap.size V u ∧ V.vm = .none ∧ u.vm.findClass "[B" = some V.cls ∧ V.slots.size = len ∧ (∀ j, j < len → V.slots[j]? = some (.int (lo8 (cv A (o + j))))) ∧ (∀ (y : Addr) (c : Cell), y ≠ a → s.heap[y]? = some c → u.heap[y]? = some c) ∧ u.heap.size = s.heap.size + 1
theorem Got.mv {a : Addr} {D A : Cell} {fV fC : Field} {o len : Nat} : ∀ r (U U' V V' : State), U'.heap = U.heap → V.vm.Alike V'.vm → V'.heap = V.heap → Got a D fV fC A o len r U V → Got a D fV fC A o len r U' V' :=
  fun r U U' V V' h1 hal h2 ⟨e0, D', X, a1, a2, a3, a4, a5, a6, a7, a8, a9, a10, a11⟩ => ⟨e0, D', X, a1.mv hal h2, a2, by rw [h1]; exact a3, a4, by rw [h1]; exact a5.mv hal h2, a6, by rw [hal.findClass]; exact a7, a8, a9, by rw [h1, h2]; exact a10, by rw [h1, h2]; exact a11⟩
namespace New4
def yN : MethodName := ⟨"java/lang/String", "<init>", "([CIILjava/lang/Void;)V"⟩
abbrev yB : ByteArray := jdk_42_method_149_code
theorem d0 : decode yB 0 = .ok (.aload_n 0, 1) := by decide +kernel
theorem d1 : decode yB 1 = .ok (.invokespecial 1, 3) := by decide +kernel
theorem d4 : decode yB 4 = .ok (.iload_n 3, 1) := by decide +kernel
theorem d5 : decode yB 5 = .ok (.ifCond (.ne) 22, 3) := by decide +kernel
theorem d27 : decode yB 27 = .ok (.getstatic 38, 3) := by decide +kernel
theorem d30 : decode yB 30 = .ok (.ifCond (.eq) 28, 3) := by decide +kernel
theorem d33 : decode yB 33 = .ok (.aload_n 1, 1) := by decide +kernel
theorem d34 : decode yB 34 = .ok (.iload_n 2, 1) := by decide +kernel
theorem d35 : decode yB 35 = .ok (.iload_n 3, 1) := by decide +kernel
theorem d36 : decode yB 36 = .ok (.invokestatic 177, 3) := by decide +kernel
theorem d39 : decode yB 39 = .ok (.astore 5, 2) := by decide +kernel
theorem d41 : decode yB 41 = .ok (.aload_n 0, 1) := by decide +kernel
theorem d42 : decode yB 42 = .ok (.aload 5, 2) := by decide +kernel
theorem d44 : decode yB 44 = .ok (.iload_n 3, 1) := by decide +kernel
theorem d45 : decode yB 45 = .ok (.invokestatic 47, 3) := by decide +kernel
theorem d48 : decode yB 48 = .ok (.putfield 15, 3) := by decide +kernel
theorem d51 : decode yB 51 = .ok (.aload_n 0, 1) := by decide +kernel
theorem d52 : decode yB 52 = .ok (.aload 5, 2) := by decide +kernel
theorem d54 : decode yB 54 = .ok (.putfield 9, 3) := by decide +kernel
theorem d57 : decode yB 57 = .ok (.return_, 1) := by decide +kernel
def site : List Cond := [.fieldLink "java/lang/String" 38 "java/lang/String" "COMPACT_STRINGS" "Z", Cmp3.tab, CodL.tab, .laysFinal "java/lang/String" "java/lang/String" "value" "[B", .fieldLink "java/lang/String" 9 "java/lang/String" "value" "[B", .laysFinal "java/lang/String" "java/lang/String" "coder" "B", .fieldLink "java/lang/String" 15 "java/lang/String" "coder" "B"] ++ objW "java/lang/String" 1 ++ staticW "java/lang/String" 177 Cmp3.yN ++ staticW "java/lang/String" 47 CodL.yN
def tab : Cond := tabOf yN yB 6 none site
def P (a : Addr) (D : Cell) (fV fC : Field) (b : Addr) (A : Cell) (z : Int32) (o len : Nat) (args : Array Value) (s : State) : Prop := args = #[.ref a, .ref b, .int (Int32.ofNat o), .int (Int32.ofNat len), .null] ∧ Blank "java/lang/String" a D s ∧ Found "java/lang/String" "value" "[B" fV s ∧ Found "java/lang/String" "coder" "B" fC s ∧ Ch b A s ∧ StaticIs s "java/lang/String" "COMPACT_STRINGS" "Z" (.int z) ∧ ¬ z = 0 ∧ 0 < len ∧ o + len ≤ A.slots.size ∧ len ≤ 536870912 ∧ ∀ i, i < len → ¬ 255 < cv A (o + i)
def E (a : Addr) (D : Cell) (fV fC : Field) (A : Cell) (o len : Nat) (r : Option Value) (s u : State) : Prop := Got a D fV fC A o len r s u
/-- len > 0, no char of the range above 255: a Latin-1 String of their low bytes -/
theorem law (l : Launch) (a : Addr) (D : Cell) (fV fC : Field) (b : Addr) (A : Cell) (z : Int32) (o len : Nat) : Law l yN 5 4 2 35 yB 6 none site (P a D fV fC b A z o len) (E a D fV fC A o len) [⟨a, fC.slot⟩, ⟨a, fV.slot⟩] 1 len := by
  refine Law.of_walk (plainFor_of_name (by decide +kernel)) (by decide +kernel) (by decide +kernel) (by decide) (fun _ _ h => by rw [h.1]; rfl) (fun _ U U' hal hh h => ⟨h.1, h.2.1.mv hal hh, h.2.2.1.al hal, h.2.2.2.1.al hal, h.2.2.2.2.1.mv hal hh, h.2.2.2.2.2.1.there hal hh, h.2.2.2.2.2.2⟩) (fun r U U' V V' h1 hal h2 h => Got.mv r U U' V V' h1 hal h2 h) ?_
  intro p e s m args below meth c s₁ X0 hexec hbytes hml hret hlk hnm hown hh0 W hP
  obtain ⟨rfl, hB, f1, f2, hA, s1, hz, l0, l1, l2, hp⟩ := hP
  have a31 := hA.1.2.2.2
  have c1 : Steps p.tables e below (s₁.setTop (entryFrame m #[.ref a, .ref b, .int (Int32.ofNat o), .int (Int32.ofNat len), .null] 6)) (s₁.setTop (mkF m 0 #[.val (.ref a), .val (.ref b), .val (.int (Int32.ofNat o)), .val (.int (Int32.ofNat len)), .val .null, .unset] [])) := entry rfl
  have c2 : Steps p.tables e below (s₁.setTop (entryFrame m #[.ref a, .ref b, .int (Int32.ofNat o), .int (Int32.ofNat len), .null] 6)) (s₁.setTop (mkF m 1 #[.val (.ref a), .val (.ref b), .val (.int (Int32.ofNat o)), .val (.int (Int32.ofNat len)), .val .null, .unset] [.ref a])) := c1.trans (by
    refine XS.aloadN X0.here hexec rfl (hb hbytes d0) rfl rfl ?_
    exact Steps.refl _)
  obtain ⟨T3, X3, q3, st3⟩ := X0.oinit hexec hown (wks W (objW "java/lang/String" 1)) (g := (mkF m 1 #[.val (.ref a), .val (.ref b), .val (.int (Int32.ofNat o)), .val (.int (Int32.ofNat len)), .val .null, .unset] [.ref a])) rfl (by rw [hml]; rfl) (rest := []) rfl (hb hbytes d1) (W := 0) (by show 2 * 0 + 0 ≤ _; decide) (Nat.le_of_ble_eq_true rfl) (Nat.le_of_ble_eq_true rfl)
  have hh3 := q3.trans hh0
  have c4 : Steps p.tables e below (s₁.setTop (entryFrame m #[.ref a, .ref b, .int (Int32.ofNat o), .int (Int32.ofNat len), .null] 6)) (T3.setTop (mkF m 27 #[.val (.ref a), .val (.ref b), .val (.int (Int32.ofNat o)), .val (.int (Int32.ofNat len)), .val .null, .unset] [])) := (c2.trans (st3 _ (Steps.refl _))).trans (by
    refine XS.iloadN X3.here hexec rfl (hb hbytes d4) rfl ?_
    refine XS.ifYes X3.here hexec rfl (pc0 := 5) rfl (hb hbytes d5) rfl (i0_ne_t (nz32 (by omega) l0)) (by decide) rfl ?_
    exact Steps.refl _)
  obtain ⟨T5, X5, q5, st5⟩ := X3.sget hexec hown (wk W (.fieldLink "java/lang/String" 38 "java/lang/String" "COMPACT_STRINGS" "Z")) s1 (fun _ _ h => by rw [hh3]; exact h) (g := (mkF m 27 #[.val (.ref a), .val (.ref b), .val (.int (Int32.ofNat o)), .val (.int (Int32.ofNat len)), .val .null, .unset] [])) rfl (hb hbytes d27)
  have hh5 := q5.trans hh3
  have c6 : Steps p.tables e below (s₁.setTop (entryFrame m #[.ref a, .ref b, .int (Int32.ofNat o), .int (Int32.ofNat len), .null] 6)) (T5.setTop (mkF m 30 #[.val (.ref a), .val (.ref b), .val (.int (Int32.ofNat o)), .val (.int (Int32.ofNat len)), .val .null, .unset] [.int z])) := c4.trans (st5 _ (Steps.refl _))
  have c7 : Steps p.tables e below (s₁.setTop (entryFrame m #[.ref a, .ref b, .int (Int32.ofNat o), .int (Int32.ofNat len), .null] 6)) (T5.setTop (mkF m 36 #[.val (.ref a), .val (.ref b), .val (.int (Int32.ofNat o)), .val (.int (Int32.ofNat len)), .val .null, .unset] [.int (Int32.ofNat len), .int (Int32.ofNat o), .ref b])) := c6.trans (by
    refine XS.ifNo X5.here hexec rfl (hb hbytes d30) rfl (i0_eq_f hz) ?_
    refine XS.aloadN X5.here hexec rfl (hb hbytes d33) rfl rfl ?_
    refine XS.iloadN X5.here hexec rfl (hb hbytes d34) rfl ?_
    refine XS.iloadN X5.here hexec rfl (hb hbytes d35) rfl ?_
    exact Steps.refl _)
  obtain ⟨v8, T8, X8, E8, g8⟩ := X5.callS hexec (Cmp3.law l b A o len) hown (wks W (staticW "java/lang/String" 177 Cmp3.yN)) (wk W Cmp3.tab) (W := 0) (Nat.le_of_ble_eq_true rfl) (Nat.le_of_ble_eq_true rfl) (Nat.le_refl _) (by show 0 + len ≤ len; omega) (g := (mkF m 36 #[.val (.ref a), .val (.ref b), .val (.int (Int32.ofNat o)), .val (.int (Int32.ofNat len)), .val .null, .unset] [.int (Int32.ofNat len), .int (Int32.ofNat o), .ref b])) rfl (by rw [hml]; rfl) c7 (argsL := [.ref b, .int (Int32.ofNat o), .int (Int32.ofNat len)]) (rest := []) rfl rfl (by show 2 * 0 + 0 ≤ _; decide) (hb hbytes d36) (⟨rfl, hA.mv X5.warmed.alike hh5, l1, l2, hp⟩)
  obtain ⟨e8, z8⟩ := E8
  obtain ⟨rfl, N, n1, n2, n3, n4, n5, n6⟩ := NewArr.mv _ T5 s _ _ hh5.symm (Vm.Alike.refl _) rfl e8
  rw [hh5] at z8
  have hB1 := hB.keep X8.warmed.alike (n6 _ _ hB.1)
  have hne : s.heap.size ≠ a := (Nat.ne_of_lt (Array.getElem?_eq_some_iff.mp hB.1).1).symm
  have c9 : Steps p.tables e below (s₁.setTop (entryFrame m #[.ref a, .ref b, .int (Int32.ofNat o), .int (Int32.ofNat len), .null] 6)) (T8.setTop (mkF m 39 #[.val (.ref a), .val (.ref b), .val (.int (Int32.ofNat o)), .val (.int (Int32.ofNat len)), .val .null, .unset] [.ref s.heap.size])) := g8
  have c10 : Steps p.tables e below (s₁.setTop (entryFrame m #[.ref a, .ref b, .int (Int32.ofNat o), .int (Int32.ofNat len), .null] 6)) (T8.setTop (mkF m 45 #[.val (.ref a), .val (.ref b), .val (.int (Int32.ofNat o)), .val (.int (Int32.ofNat len)), .val .null, .val (.ref s.heap.size)] [.int (Int32.ofNat N.slots.size), .ref s.heap.size, .ref a])) := by
    have hc : Steps p.tables e below (s₁.setTop (entryFrame m #[.ref a, .ref b, .int (Int32.ofNat o), .int (Int32.ofNat len), .null] 6)) (T8.setTop (mkF m 45 #[.val (.ref a), .val (.ref b), .val (.int (Int32.ofNat o)), .val (.int (Int32.ofNat len)), .val .null, .val (.ref s.heap.size)] [.int (Int32.ofNat len), .ref s.heap.size, .ref a])) := c9.trans (by
      refine XS.astore X8.here hexec rfl (hb hbytes d39) rfl rfl rfl ?_
      refine XS.aloadN X8.here hexec rfl (hb hbytes d41) rfl rfl ?_
      refine XS.aload X8.here hexec rfl (hb hbytes d42) rfl rfl ?_
      refine XS.iloadN X8.here hexec rfl (hb hbytes d44) rfl ?_
      exact Steps.refl _)
    rw [n4]; exact hc
  obtain ⟨v11, T11, X11, E11, g11⟩ := X8.callS hexec (CodL.law l s.heap.size N) hown (wks W (staticW "java/lang/String" 47 CodL.yN)) (wk W CodL.tab) (W := 1) (Nat.le_of_ble_eq_true rfl) (Nat.le_of_ble_eq_true rfl) (Nat.le_refl _) (by show 0 + len + 0 ≤ len; omega) (g := (mkF m 45 #[.val (.ref a), .val (.ref b), .val (.int (Int32.ofNat o)), .val (.int (Int32.ofNat len)), .val .null, .val (.ref s.heap.size)] [.int (Int32.ofNat N.slots.size), .ref s.heap.size, .ref a])) rfl (by rw [hml]; rfl) c10 (argsL := [.ref s.heap.size, .int (Int32.ofNat N.slots.size)]) (rest := [.ref a]) rfl rfl (by show 2 * 0 + (1 + 0) ≤ _; decide) (hb hbytes d45) (⟨rfl, n1⟩)
  obtain ⟨rfl, q11⟩ := E11
  have hB11 := hB1.mv (X8.warmed.alike.symm.trans X11.warmed.alike) q11
  have c12 : Steps p.tables e below (s₁.setTop (entryFrame m #[.ref a, .ref b, .int (Int32.ofNat o), .int (Int32.ofNat len), .null] 6)) (T11.setTop (mkF m 48 #[.val (.ref a), .val (.ref b), .val (.int (Int32.ofNat o)), .val (.int (Int32.ofNat len)), .val .null, .val (.ref s.heap.size)] [.int 0, .ref a])) := g11
  obtain ⟨T13, X13, p13, bl13, sl13, st13⟩ := X11.finit hexec hown (wk W (.fieldLink "java/lang/String" 15 "java/lang/String" "coder" "B")) (Or.inr ⟨_, (wk W (.laysFinal "java/lang/String" "java/lang/String" "coder" "B"))⟩) (Or.inl ⟨rfl, hnm⟩) f2 (Or.inl rfl) hB11 (t := .byte) (by decide +kernel) rfl (g := (mkF m 48 #[.val (.ref a), .val (.ref b), .val (.int (Int32.ofNat o)), .val (.int (Int32.ofNat len)), .val .null, .val (.ref s.heap.size)] [.int 0, .ref a])) rfl (rest := []) rfl (hb hbytes d48)
  have c14 : Steps p.tables e below (s₁.setTop (entryFrame m #[.ref a, .ref b, .int (Int32.ofNat o), .int (Int32.ofNat len), .null] 6)) (T13.setTop (mkF m 54 #[.val (.ref a), .val (.ref b), .val (.int (Int32.ofNat o)), .val (.int (Int32.ofNat len)), .val .null, .val (.ref s.heap.size)] [.ref s.heap.size, .ref a])) := (c12.trans (st13 _ (Steps.refl _))).trans (by
    refine XS.aloadN X13.here hexec rfl (hb hbytes d51) rfl rfl ?_
    refine XS.aload X13.here hexec rfl (hb hbytes d52) rfl rfl ?_
    exact Steps.refl _)
  obtain ⟨T15, X15, p15, bl15, sl15, st15⟩ := X13.finit hexec hown (wk W (.fieldLink "java/lang/String" 9 "java/lang/String" "value" "[B")) (Or.inr ⟨_, (wk W (.laysFinal "java/lang/String" "java/lang/String" "value" "[B"))⟩) (Or.inl ⟨rfl, hnm⟩) f1 (Or.inl rfl) bl13 (t := (.array .byte)) (by decide +kernel) rfl (g := (mkF m 54 #[.val (.ref a), .val (.ref b), .val (.int (Int32.ofNat o)), .val (.int (Int32.ofNat len)), .val .null, .val (.ref s.heap.size)] [.ref s.heap.size, .ref a])) rfl (rest := []) rfl (hb hbytes d54)
  have c16 : Steps p.tables e below (s₁.setTop (entryFrame m #[.ref a, .ref b, .int (Int32.ofNat o), .int (Int32.ofNat len), .null] 6)) (T15.setTop (mkF m 57 #[.val (.ref a), .val (.ref b), .val (.int (Int32.ofNat o)), .val (.int (Int32.ofNat len)), .val .null, .val (.ref s.heap.size)] [])) := c14.trans (st15 _ (Steps.refl _))
  have ap := apart (Or.inr ⟨_, (wk W (.laysFinal "java/lang/String" "java/lang/String" "value" "[B"))⟩) (Or.inr ⟨_, (wk W (.laysFinal "java/lang/String" "java/lang/String" "coder" "B"))⟩) f1 f2 (t₁ := .array .byte) (t₂ := .byte) (by decide +kernel) (by decide +kernel) (by decide)
  have al := X8.warmed.alike.symm.trans X15.warmed.alike
  have n7 : T11.heap[s.heap.size]? = some N := by rw [q11]; exact n1.1
  exact ⟨T15, none, _, _, _, X15, by simp, rfl, by omega, (fun _ => rfl), ⟨rfl, _, N, bl15, ((Same.refl D _).set _ (by simp)).set _ (by simp), sl15, (Cell.slots_setSlot_ne _ ap).trans sl13, n1.keep al (p15.other hne (p13.other hne n7)), n2, by rw [al.findClass]; exact n3, n4, n5, fun y c h1 h2 => p15.other h1 (p13.other h1 (by rw [q11]; exact n6 y c h2)), by rw [p15.2.2, p13.2.2, q11]; exact z8⟩, fun fs hl => c16.trans (X15.returnOut hexec hret (hb hbytes d57) hl)⟩
end New4
namespace New1
def yN : MethodName := ⟨"java/lang/String", "<init>", "([C)V"⟩
abbrev yB : ByteArray := jdk_42_method_3_code
theorem d0 : decode yB 0 = .ok (.aload_n 0, 1) := by decide +kernel
theorem d1 : decode yB 1 = .ok (.aload_n 1, 1) := by decide +kernel
theorem d2 : decode yB 2 = .ok (.iconst 0, 1) := by decide +kernel
theorem d3 : decode yB 3 = .ok (.aload_n 1, 1) := by decide +kernel
theorem d4 : decode yB 4 = .ok (.arraylength, 1) := by decide +kernel
theorem d5 : decode yB 5 = .ok (.aconst_null, 1) := by decide +kernel
theorem d6 : decode yB 6 = .ok (.invokespecial 27, 3) := by decide +kernel
theorem d9 : decode yB 9 = .ok (.return_, 1) := by decide +kernel
def site : List Cond := [New4.tab] ++ initW "java/lang/String" 27 New4.yN
def tab : Cond := tabOf yN yB 2 none site
def P (a : Addr) (D : Cell) (fV fC : Field) (b : Addr) (A : Cell) (z : Int32) (args : Array Value) (s : State) : Prop := args = #[.ref a, .ref b] ∧ Blank "java/lang/String" a D s ∧ Found "java/lang/String" "value" "[B" fV s ∧ Found "java/lang/String" "coder" "B" fC s ∧ Ch b A s ∧ StaticIs s "java/lang/String" "COMPACT_STRINGS" "Z" (.int z) ∧ ¬ z = 0 ∧ 0 < A.slots.size ∧ A.slots.size ≤ 536870912 ∧ ∀ i, i < A.slots.size → ¬ 255 < cv A i
def E (a : Addr) (D : Cell) (fV fC : Field) (A : Cell) (r : Option Value) (s u : State) : Prop := Got a D fV fC A 0 A.slots.size r s u
/-- new String(chars), not empty, no char above 255: a Latin-1 String of their low bytes -/
theorem law (l : Launch) (a : Addr) (D : Cell) (fV fC : Field) (b : Addr) (A : Cell) (z : Int32) : Law l yN 2 1 3 52 yB 2 none site (P a D fV fC b A z) (E a D fV fC A) [⟨a, fC.slot⟩, ⟨a, fV.slot⟩] 1 A.slots.size := by
  refine Law.of_walk (plainFor_of_name (by decide +kernel)) (by decide +kernel) (by decide +kernel) (by decide) (fun _ _ h => by rw [h.1]; rfl) (fun _ U U' hal hh h => ⟨h.1, h.2.1.mv hal hh, h.2.2.1.al hal, h.2.2.2.1.al hal, h.2.2.2.2.1.mv hal hh, h.2.2.2.2.2.1.there hal hh, h.2.2.2.2.2.2⟩) (fun r U U' V V' h1 hal h2 h => Got.mv r U U' V V' h1 hal h2 h) ?_
  intro p e s m args below meth c s₁ X0 hexec hbytes hml hret hlk hnm hown hh0 W hP
  obtain ⟨rfl, hB, f1, f2, hA, s1, hz, l0, l2, hp⟩ := hP
  have c1 : Steps p.tables e below (s₁.setTop (entryFrame m #[.ref a, .ref b] 2)) (s₁.setTop (mkF m 0 #[.val (.ref a), .val (.ref b)] [])) := entry rfl
  have c2 : Steps p.tables e below (s₁.setTop (entryFrame m #[.ref a, .ref b] 2)) (s₁.setTop (mkF m 6 #[.val (.ref a), .val (.ref b)] [.null, .int (Int32.ofNat A.slots.size), .int 0, .ref b, .ref a])) := c1.trans (by
    refine XS.aloadN X0.here hexec rfl (hb hbytes d0) rfl rfl ?_
    refine XS.aloadN X0.here hexec rfl (hb hbytes d1) rfl rfl ?_
    refine iconstV X0.here hexec rfl 0 (hb hbytes d2) (by decide) ?_
    refine XS.aloadN X0.here hexec rfl (hb hbytes d3) rfl rfl ?_
    refine X0.alen hexec (hA.1.mv X0.warmed.alike hh0) rfl rfl (hb hbytes d4) ?_
    refine XS.aconstNull X0.here hexec rfl (hb hbytes d5) ?_
    exact Steps.refl _)
  obtain ⟨v3, T3, X3, E3, g3⟩ := X0.callN hexec (New4.law l a D fV fC b A z 0 A.slots.size) rfl hown (wks W (initW "java/lang/String" 27 New4.yN)) (W New4.tab (by simp only [site, List.mem_cons, List.mem_append, true_or, or_true])) (W := 0) (Nat.le_of_ble_eq_true rfl) (Nat.le_of_ble_eq_true rfl) (Nat.le_refl _) (by show 0 + A.slots.size ≤ A.slots.size; omega) (g := (mkF m 6 #[.val (.ref a), .val (.ref b)] [.null, .int (Int32.ofNat A.slots.size), .int (Int32.ofNat 0), .ref b, .ref a])) rfl (by rw [hml]; rfl) c2 (argsL := [.ref b, .int (Int32.ofNat 0), .int (Int32.ofNat A.slots.size), .null]) (rest := []) rfl rfl (by show 2 * 0 + 0 ≤ _; decide) (hb hbytes d6) (⟨rfl, hB.mv X0.warmed.alike hh0, f1.al X0.warmed.alike, f2.al X0.warmed.alike, hA.mv X0.warmed.alike hh0, s1.there X0.warmed.alike hh0, hz, l0, by omega, l2, fun i hi => by rw [Nat.zero_add]; exact hp i hi⟩)
  have e0 := Got.mv _ s₁ s _ _ hh0.symm (Vm.Alike.refl _) rfl E3
  obtain rfl := e0.1
  have c4 : Steps p.tables e below (s₁.setTop (entryFrame m #[.ref a, .ref b] 2)) (T3.setTop (mkF m 9 #[.val (.ref a), .val (.ref b)] [])) := g3
  exact ⟨T3, none, _, _, _, X3, by simp, rfl, by omega, (fun _ => rfl), e0, fun fs hl => c4.trans (X3.returnOut hexec hret (hb hbytes d9) hl)⟩
theorem pays {l : Launch} {R : Room} {p : Program} {e : Env} {below : List Frame} {s : State} {sargs : Array Value} {len W : Nat} (a : Addr) (D : Cell) (fV fC : Field) (b : Addr) (A : Cell) (z : Int32) (htab : tab.before sargs s = true) (hfr : 4 ≤ R.frames) (hlo : W + 65 ≤ R.locals) :
    Back l R p e below s sargs yN len W (fun A₁ a₁ => A₁.cells + 1 ≤ R.cells ∧ A₁.slots + A.slots.size ≤ R.slots ∧ P a D fV fC b A z a₁ A₁.U) (fun A₁ _ v₁ B₁ => E a D fV fC A v₁ A₁.U B₁.U ∧ B₁.locs = A₁.locs ++ [⟨a, fC.slot⟩, ⟨a, fV.slot⟩] ∧ B₁.cells = A₁.cells + 1 ∧ B₁.slots = A₁.slots + A.slots.size) :=
  (law l a D fV fC b A z).pays htab hfr (by omega)
end New1
end StrChars
namespace StrChars.Road
open Jvm Sem ClassFile Op Lib Jvm.Stand Jvm.Free Jvm.Free.XT
open Jvm.Lib.Cold (StaticIs)
abbrev ST : String := "java/lang/String"
/-- every table word that New1's law asks, flat -/
abbrev words : List Jvm.Cond := [.code New1.yN New1.yB 2 none, .initialized ST, .methodLink ST 27 New4.yN, .instanceMethod New4.yN,
  .code New4.yN New4.yB 6 none, .fieldLink ST 38 ST "COMPACT_STRINGS" "Z", .laysFinal ST ST "value" "[B", .fieldLink ST 9 ST "value" "[B", .laysFinal ST ST "coder" "B", .fieldLink ST 15 ST "coder" "B",
  .methodLink ST 1 Lib.objectInit, .instanceMethod Lib.objectInit, .code Lib.objectInit ⟨#[0xb1]⟩ 1 none, .methodLink ST 177 Cmp3.yN, .static Cmp3.yN, .methodLink ST 47 CodL.yN, .static CodL.yN,
  .code Cmp3.yN Cmp3.yB 6 (some (.array .byte)), .initialized U16, .arrayClass .byte, .methodLink U16 115 Cmp5.yN, .static Cmp5.yN, .code Cmp5.yN Cmp5.yB 7 (some .int), .code CodL.yN CodL.yB 2 (some .byte)]
theorem tab_of {a : Array Value} {s : State} (h : ∀ w ∈ words, w.before a s = true) : New1.tab.before a s = true := by
  have h5 : Cmp5.tab.before a s = true := unparts (wk h (.code Cmp5.yN Cmp5.yB 7 (some .int))) (wks h (.initialized Cmp5.yN.cls :: Cmp5.site))
  have hc : CodL.tab.before a s = true := unparts (wk h (.code CodL.yN CodL.yB 2 (some .byte))) (wks h (.initialized CodL.yN.cls :: CodL.site))
  have q5 : ∀ w ∈ Cmp5.tab :: words, w.before a s = true := fun w hw => (List.mem_cons.mp hw).elim (fun e => e ▸ h5) (h w)
  have h3 : Cmp3.tab.before a s = true := unparts (wk q5 (.code Cmp3.yN Cmp3.yB 6 (some (.array .byte)))) (wks q5 (.initialized Cmp3.yN.cls :: Cmp3.site))
  have q3 : ∀ w ∈ Cmp3.tab :: CodL.tab :: words, w.before a s = true := fun w hw => (List.mem_cons.mp hw).elim (fun e => e ▸ h3) fun hw => (List.mem_cons.mp hw).elim (fun e => e ▸ hc) (h w)
  have h4 : New4.tab.before a s = true := unparts (wk q3 (.code New4.yN New4.yB 6 none)) (wks q3 (.initialized New4.yN.cls :: New4.site))
  have q4 : ∀ w ∈ New4.tab :: words, w.before a s = true := fun w hw => (List.mem_cons.mp hw).elim (fun e => e ▸ h4) (h w)
  exact unparts (wk q4 (.code New1.yN New1.yB 2 none)) (wks q4 (.initialized New1.yN.cls :: New1.site))
/-- the words ride from the start Z to the walk's own state -/
theorem moved {Z s : State} {a0 args : Array Value} (hZ : Z.Warmed39 s.vm) (hw : ∀ d ∈ words, d.before a0 Z = true) : ∀ d ∈ words, d.before args s = true := fun d hd => by
  have q := hw d hd
  have t : ∀ d ∈ words, d = .arrayClass .byte ∨ (d.onTables && d.keepsFace) = true := by decide +kernel
  rcases t d hd with rfl | t
  · exact RoadKit.mvA hZ q
  · exact RoadKit.mv hZ q t
/-- WHAT COMES BACK, over the tables of the start Z: h the heap at the call, h' behind it -/
def Q (Z : State) (x : Addr) (A : Cell) (h : Heap) (v : Option Value) (h' : Heap) (L : List Loc) : Prop := v = none ∧ (∀ y ∈ L, y.base = x) ∧ RoadKit.Keep h h' [x] ∧ h'.size = h.size + 1 ∧ RoadKit.Exa Z h' x ST ∧ RoadKit.Fld Z h' x ST "value" "[B" (.ref h.size) ∧ RoadKit.Fld Z h' x ST "coder" "B" (.int 0) ∧
  (∃ V : Cell, RoadKit.Arr Z h' h.size V .byte ∧ V.vm = .none ∧ Z.vm.findClass "[B" = some V.cls ∧ V.slots.size = A.slots.size ∧ ∀ j, j < A.slots.size → V.slots[j]? = some (.int (lo8 (cv A j)))) ∧
  ∀ (O n d : String) (w : Value), RoadKit.Fld Z h x O n d w → RoadKit.slotOf Z O n d ≠ RoadKit.slotOf Z ST "value" "[B" → RoadKit.slotOf Z O n d ≠ RoadKit.slotOf Z ST "coder" "B" → RoadKit.Fld Z h' x O n d w
/-- **new String(chars) AT A CALL, IN THE ROAD'S FORM**: for specialBack behind newO: x the fresh String, b the char[] with the cell A -/
theorem back {p : Program} {l : Launch} {e : Env} {R : Room} {s : State} {args : Array Value} {below : List Frame} {len W : Nat} {Z : State} {a0 : Array Value} {h : Heap} (hZ : Z.Warmed39 s.vm) (hw : ∀ d ∈ words, d.before a0 Z = true) {kI : Nat} (wi : (Jvm.Cond.instantiable ST kI).before a0 Z = true)
    {x b : Addr} {A : Cell} {z : Int32} {v0 c0 : Value} (E : RoadKit.Exa Z h x ST) (V : RoadKit.Fld Z h x ST "value" "[B" v0) (C : RoadKit.Fld Z h x ST "coder" "B" c0) (K : RoadKit.Arr Z h b A .char) (hty : Typed .char A) (S : RoadKit.Sta Z h ST "COMPACT_STRINGS" "Z" (.int z)) (hz : ¬ z = 0)
    (l0 : 0 < A.slots.size) (l2 : A.slots.size ≤ 536870912) (hp : ∀ i, i < A.slots.size → ¬ 255 < cv A i) (hfr : 4 ≤ R.frames) (hlo : W + 65 ≤ R.locals) :
    Back l R p e below s args New1.yN len W (fun P a => a = #[.ref x, .ref b] ∧ P.U.heap = h ∧ P.cells + 1 ≤ R.cells ∧ P.slots + A.slots.size ≤ R.slots)
      (fun P _ v B => ∃ L, Q Z x A h v B.U.heap L ∧ B.locs = P.locs ++ L ∧ B.cells = P.cells + 1 ∧ B.slots = P.slots + A.slots.size) := by
  intro m meth c P g ig mk a X hg hsize hdg hW hn hp'
  obtain ⟨rfl, rfl, r1, r2⟩ := hp'
  have al : Z.vm.Alike P.U.vm := hZ.alike.trans X.warmed.alike
  obtain ⟨D, cfV, kV, iV, fV, hD, gV, stV, knV, obV, asV, slV⟩ := id V
  obtain ⟨D', cfC, kC, iC, fC, hD', gC, stC, -, -, asC, slC⟩ := id C
  cases hD.symm.trans hD'
  obtain ⟨D2, kD, e1, e2, e3, e4, e5⟩ := id E
  cases hD.symm.trans e1
  obtain ⟨c2, k2, i1, i2, i3, -⟩ := Cond.instantiable_spec wi
  cases e2.symm.trans i1
  cases e3.symm.trans i2
  obtain ⟨kU, u1, u2⟩ := al.2.2 _ _ e3
  have hB : Blank ST x D P.U := ⟨hD, ⟨knV, fun q hq => by rw [hq] at obV; cases obV⟩, by rw [al.findClass]; exact e2, kU, u1, by rw [u2]; exact i3, by rw [u2]; exact e5 i3⟩
  have F1 : Found ST "value" "[B" fV P.U := ⟨SBG.found_only al ⟨cfV, kV, iV, gV⟩, stV⟩
  have F2 : Found ST "coder" "B" fC P.U := ⟨SBG.found_only al ⟨cfC, kC, iC, gC⟩, stC⟩
  have hA : Ch b A P.U := ⟨⟨K.1, State.isArrayOf_alike al K.2.1, K.2.2, by omega⟩, hty⟩
  have hS : StaticIs P.U ST "COMPACT_STRINGS" "Z" (.int z) := by
    obtain ⟨cfS, iS, kS, fS, st, cS, t1, t2, t3, t4, t5, t6, t7⟩ := S
    exact StaticIs.there (s := { Z with heap := P.U.heap }) ⟨cfS, iS, kS, fS, st, cS, t1, t2, t3, t4, t5, (fun q => by rw [q] at t6; cases t6), t7⟩ al rfl
  obtain ⟨v, B, X', ⟨⟨hv, E', V', q1, q2, q3, q4, q5, q6, q7, q8, q9, q10, q11⟩, hl, hc, hs⟩, st⟩ := New1.pays x D fV fC b A z (tab_of (moved hZ hw)) hfr hlo m meth c P g ig mk _ X hg hsize hdg hW hn ⟨r1, r2, rfl, hB, F1, F2, hA, hS, hz, l0, l2, hp⟩
  have al' : Z.vm.Alike B.U.vm := hZ.alike.trans X'.warmed.alike
  have hsz : E'.slots.size = D.slots.size := by
    obtain ⟨-, -, -, kB, w1, w2, w3⟩ := q1
    obtain ⟨kB', y1, y2⟩ := al'.2.2 _ _ e3
    rw [q2.2.1] at w1
    cases w1.symm.trans y1
    rw [w3, e5 i3, y2]
  refine ⟨v, B, X', ⟨_, ⟨hv, ?_, ⟨by omega, fun y cy hy hn' => q10 y cy (by simpa using hn') hy, fun y cy hy => ?_⟩, q11, ⟨E', _, q1.1, by rw [q2.2.1]; exact e2, by rw [q2.2.1]; exact e3, by rw [q2.1]; exact obV, fun _ => by rw [hsz]; exact e5 i3⟩,
    ⟨E', cfV, kV, iV, fV, q1.1, gV, stV, by rw [q2.1]; exact knV, by rw [q2.1]; exact obV, by rw [q2.2.1]; exact asV, q3⟩, ⟨E', cfC, kC, iC, fC, q1.1, gC, stC, by rw [q2.1]; exact knV, by rw [q2.1]; exact obV, by rw [q2.2.1]; exact asC, q4⟩,
    ⟨V', ⟨q5.1, State.isArrayOf_alike al'.symm q5.2.1, q5.2.2.1⟩, q6, by rw [← al'.findClass]; exact q7, q8, fun j hj => by have := q9 j hj; rwa [Nat.zero_add] at this⟩, fun O n d w F n1 n2 => ?_⟩, hl, hc, hs⟩, st⟩
  · intro y hy
    simp only [List.mem_cons, List.not_mem_nil, or_false] at hy
    rcases hy with rfl | rfl <;> rfl
  · by_cases q : y = x
    · subst q
      cases hD.symm.trans hy
      exact ⟨E', q1.1, q2.2.1, q2.1, hsz⟩
    · exact ⟨cy, q10 y cy q hy, rfl, rfl, rfl⟩
  · obtain ⟨D3, cf, k, i, f, g1, g2, g3, g4, g5, g6, g7⟩ := F
    cases hD.symm.trans g1
    simp only [RoadKit.slotOf, g2, gV, gC, Option.map_some, Option.getD_some] at n1 n2
    exact ⟨E', cf, k, i, f, q1.1, g2, g3, by rw [q2.1]; exact g4, by rw [q2.1]; exact g5, by rw [q2.2.1]; exact g6, by rw [q2.2.2 f.slot (by simp [n1, n2])]; exact g7⟩
end StrChars.Road
namespace StrChars.Road
open Jvm Sem ClassFile Op Lib Jvm.Stand Jvm.Free Jvm.Free.XT
/-- WHAT COMES BACK, the byte[] as a list of values -/
def QA (Z : State) (x : Addr) (zn : Int32) (cs : List Int32) (h : Heap) (v : Option Value) (h' : Heap) (L : List Loc) : Prop := v = none ∧ (∀ y ∈ L, y.base = x) ∧ RoadKit.Keep h h' [x] ∧ h'.size = h.size + 1 ∧ RoadKit.Exa Z h' x ST ∧ RoadKit.Fld Z h' x ST "value" "[B" (.ref h.size) ∧ RoadKit.Fld Z h' x ST "coder" "B" (.int 0) ∧
  (∃ kb, Z.vm.findClass "[B" = some kb ∧ RoadKit.Arv Z h' h.size kb .byte zn (cs.map fun c => .int (lo8 c)) (.int 0)) ∧
  ∀ (O n d : String) (w : Value), RoadKit.Fld Z h x O n d w → RoadKit.slotOf Z O n d ≠ RoadKit.slotOf Z ST "value" "[B" → RoadKit.slotOf Z O n d ≠ RoadKit.slotOf Z ST "coder" "B" → RoadKit.Fld Z h' x O n d w
/-- **new String(chars) AT A CALL, THE ARRAYS AS LISTS**: the char[] at b holds cs, not empty, no char above 255 -/
theorem backArv {p : Program} {l : Launch} {e : Env} {R : Room} {s : State} {args : Array Value} {below : List Frame} {len W : Nat} {Z : State} {a0 : Array Value} {h : Heap} (hZ : Z.Warmed39 s.vm) (hw : ∀ d ∈ words, d.before a0 Z = true) {kI : Nat} (wi : (Jvm.Cond.instantiable ST kI).before a0 Z = true)
    {x b : Addr} {k : ClassId} {zn z : Int32} {cs : List Int32} {dv v0 c0 : Value} (E : RoadKit.Exa Z h x ST) (V : RoadKit.Fld Z h x ST "value" "[B" v0) (C : RoadKit.Fld Z h x ST "coder" "B" c0) (K : RoadKit.Arv Z h b k .char zn (cs.map Value.int) dv) (S : RoadKit.Sta Z h ST "COMPACT_STRINGS" "Z" (.int z)) (hz : ¬ z = 0)
    (hlen : zn.toNatClampNeg = cs.length) (h0 : 0 < cs.length) (hbig : cs.length ≤ 536870912) (hall : ∀ c ∈ cs, ¬ 255 < c) (hfr : 4 ≤ R.frames) (hlo : W + 65 ≤ R.locals) :
    Back l R p e below s args New1.yN len W (fun P a => a = #[.ref x, .ref b] ∧ P.U.heap = h ∧ P.cells + 1 ≤ R.cells ∧ P.slots + cs.length ≤ R.slots)
      (fun P _ v B => ∃ L, QA Z x zn cs h v B.U.heap L ∧ B.locs = P.locs ++ L ∧ B.cells = P.cells + 1 ∧ B.slots = P.slots + cs.length) := by
  obtain ⟨A, K1, K2, K3, K4, K5, K6⟩ := K
  have e : A.slots.size = cs.length := K3.trans hlen
  have hat : ∀ (i : Nat) (hi : i < cs.length), A.slots[i]? = some (.int cs[i]) := fun i hi => by rw [K5 i (by omega)]; simp [List.getD_eq_getElem?_getD, hi]
  have hcv : ∀ (i : Nat) (hi : i < cs.length), cv A i = cs[i] := fun i hi => by unfold cv; rw [hat i hi]
  have hty : Typed .char A := fun i v hv => by
    have hi : i < A.slots.size := (Array.getElem?_eq_some_iff.mp hv).1
    have q := K5 i hi
    rw [hv] at q
    rw [Option.some.inj q]
    exact K6 i hi
  refine Back.mono (back hZ hw wi E V C K1 hty S hz (by omega) (by omega) (fun i hi => by rw [hcv i (by omega)]; exact hall _ (List.getElem_mem _)) hfr hlo) (fun P a hp => ⟨hp.1, hp.2.1, hp.2.2.1, by rw [e]; exact hp.2.2.2⟩) (fun P a v B hp hq => ?_)
  obtain ⟨L, ⟨q1, q2, q3, q4, q5, q6, q7, ⟨V', v1, v2, v3, v4, v5⟩, q9⟩, hl, hc, hs⟩ := hq
  refine ⟨L, ⟨q1, q2, q3, q4, q5, q6, q7, ⟨V'.cls, v3, V', v1, rfl, by rw [v4, e, hlen], K4, fun i hi => ?_, fun i hi => ?_⟩, q9⟩, hl, hc, by rw [hs, e]⟩
  · have hi' : i < cs.length := by omega
    rw [v5 i (by omega), hcv i hi']; simp [List.getD_eq_getElem?_getD, hi']
  · have hi' : i < cs.length := by omega
    simp only [List.getD_eq_getElem?_getD, List.getElem?_map, List.getElem?_eq_getElem hi', Option.map_some, Option.getD_some]
    exact fits_lo8 _
end StrChars.Road
namespace StrChars.Road
open Jvm Sem ClassFile Op Lib Jvm.Stand Jvm.Free Jvm.Free.XT
/-- WHAT COMES BACK, in the writer's own shape -/
def QV (Z : State) (x : Addr) (N : Int32) (bs : List Int32) (h : Heap) (n0 : Nat) (v : Option Value) (h' : Heap) (L : List Loc) : Prop := v = none ∧ RoadKit.Fr n0 L ∧ RoadKit.Keep h h' [x] ∧ RoadKit.Exa Z h' x ST ∧ RoadKit.Fld Z h' x ST "coder" "B" (.int 0) ∧
  ∃ (t : Addr) (kb : ClassId), n0 ≤ t ∧ h.size ≤ t ∧ ¬ t = x ∧ RoadKit.Fld Z h' x ST "value" "[B" (.ref t) ∧ RoadKit.Arv Z h' t kb .byte N (bs.map Value.int) (.int 0)
/-- **new String(chars) AT A CALL, FOR THE WRITER**: a char[] of n known ints, each 0 to 255 -/
theorem backV {p : Program} {l : Launch} {e : Env} {R : Room} {s : State} {args : Array Value} {below : List Frame} {len W : Nat} {Z : State} {a0 : Array Value} {h : Heap} (hZ : Z.Warmed39 s.vm) (hw : ∀ d ∈ words, d.before a0 Z = true) {kI : Nat} (wi : (Jvm.Cond.instantiable ST kI).before a0 Z = true)
    {x b : Addr} {kC : ClassId} {cs bs : List Int32} {d v0 c0 : Value} {z N : Int32} {n n0 : Nat} (hx0 : n0 ≤ x) (hh0 : n0 ≤ h.size) (E : RoadKit.Exa Z h x ST) (V : RoadKit.Fld Z h x ST "value" "[B" v0) (C : RoadKit.Fld Z h x ST "coder" "B" c0) (K : RoadKit.Arv Z h b kC .char N (cs.map Value.int) d) (S : RoadKit.Sta Z h ST "COMPACT_STRINGS" "Z" (.int z)) (hz : ¬ z = 0)
    (hn : cs.length = n) (hN : N = Int32.ofNat n) (l0 : 0 < n) (l2 : n ≤ 4000) (hp : ∀ c ∈ cs, ¬ c < 0 ∧ ¬ (255 : Int32) < c) (hb : bs = cs.map (fun c => c.toInt8.toInt32)) (hfr : 4 ≤ R.frames) (hlo : W + 65 ≤ R.locals) :
    Back l R p e below s args (⟨"java/lang/String", "<init>", "([C)V"⟩ : MethodName) len W (fun P a => a = #[.ref x, .ref b] ∧ P.U.heap = h ∧ P.cells + 1 ≤ R.cells ∧ P.slots + n ≤ R.slots)
      (fun P _ v B => ∃ L, QV Z x N bs h n0 v B.U.heap L ∧ B.locs = P.locs ++ L ∧ B.cells = P.cells + 1 ∧ B.slots = P.slots + n) := by
  subst hn hN hb
  refine Back.mono (backArv hZ hw wi E V C K S hz (n32 (by omega)) l0 (by omega) (fun c hc => (hp c hc).2) hfr hlo) (fun P a hp => hp) (fun P a v B hp hq => ?_)
  obtain ⟨L, ⟨q1, q2, q3, q4, q5, q6, q7, ⟨kb, v1, v2⟩, q9⟩, hl, hc, hs⟩ := hq
  exact ⟨L, ⟨q1, fun y hy => by rw [q2 y hy]; exact hx0, q3, q5, q7, h.size, kb, hh0, Nat.le_refl _, Nat.ne_of_gt E.lt, q6, by rw [List.map_map]; exact v2⟩, hl, hc, hs⟩
end StrChars.Road
end Jvm.Pilot.@@N@@
namespace Jvm.Pilot.@@N@@
open Jvm Jvm.ClassFile Sem Op Lib Jvm.Free Jvm.Stand Jvm.LawKit Jvm.RoadKit Bundle Jvm.Pilot.@@N@@.Jvm.D
section OwnKit
variable {Z : State} {a0 : Array Value} {EL : List (String × Nat)} {own : String} {p : Program} {l : Launch} {e : Env} {R : Room} {s : State} {m : MethodId} {args : Array Value} {below : List Frame} {meth : Method} {c : Code} {vm : Vm} {T : State} {h : Heap} {cells slots : Nat}
theorem nle {a b : Nat} (h : Nat.ble a b = true) : a ≤ b := Nat.le_of_ble_eq_true h
theorem olt {x : Addr} {n : Nat} (h : @LT.lt Nat _ x n) : x < n := h
theorem one {x y : Addr} (h : @Ne Nat x y) : x ≠ y := h
theorem own_xr (h1 : Heap) : Ext h1 h1 := ⟨Nat.le_refl _, fun _ _ q => q⟩
theorem own_xt {h1 h2 h3 : Heap} (A : Ext h1 h2) (B : Ext h2 h3) : Ext h1 h3 := ⟨Nat.le_trans A.1 B.1, fun a c q => B.2 a c (A.2 a c q)⟩
theorem own_xk {h1 h2 h3 : Heap} {ws : List Addr} (A : Ext h1 h2) (K : Keep h2 h3 ws) (q : ∀ x ∈ ws, h1.size ≤ x) : Ext h1 h3 :=
  ⟨Nat.le_trans A.1 K.1, fun a c r => K.2.1 a c (A.2 a c r) fun z => absurd (Array.getElem?_eq_some_iff.mp r).1 (Nat.not_lt.mpr (q a z))⟩
theorem own_xw {h1 h2 h3 : Heap} {a : Addr} {sl : Nat} {v : Value} (A : Ext h1 h2) (W : Wr h2 h3 a sl v) (q : h1.size ≤ a) : Ext h1 h3 := own_xk A (Keep.of_wr W) (allS q all0)
/-- the walk stands: over the start with the tables at hand; its heap; the literals' word; all that it wrote is new -/
def Wk (Z : State) (a0 : Array Value) (EL : List (String × Nat)) (own : String) (p : Program) (l : Launch) (e : Env) (R : Room) (s : State) (m : MethodId) (args : Array Value) (below : List Frame) (meth : Method) (c : Code) (vm : Vm) (T : State) (h : Heap) (cells slots : Nat) : Prop :=
  ∃ (locs : List Loc) (k : Nat), Stand p l e R (s.setVm vm) m args below meth c T locs cells slots ∧ T.heap = h ∧ s.Since vm k ∧ k ≤ h.size ∧ Z.Warmed39 vm ∧ vm.findClass own = some m.cls ∧ EW Z a0 EL ∧ CHr Z EL s.vm s.heap vm h ∧ Fr Z.heap.size locs ∧ Ext Z.heap h
theorem Wk.here (W : Wk Z a0 EL own p l e R s m args below meth c vm T h cells slots) : At T m c below := by obtain ⟨_, _, X, -⟩ := W; exact X.here
theorem Wk.al (W : Wk Z a0 EL own p l e R s m args below meth c vm T h cells slots) : Z.vm.Alike vm := by obtain ⟨_, _, -, -, -, -, hZ, -⟩ := W; exact hZ.alike
theorem Wk.old (W : Wk Z a0 EL own p l e R s m args below meth c vm T h cells slots) : Ext Z.heap h := by obtain ⟨_, _, -, -, -, -, -, -, -, -, -, q⟩ := W; exact q
theorem Wk.ch (W : Wk Z a0 EL own p l e R s m args below meth c vm T h cells slots) : CHv Z EL vm h := by obtain ⟨_, _, -, -, -, -, -, -, -, q, -⟩ := W; exact q.1
theorem Wk.sz (W : Wk Z a0 EL own p l e R s m args below meth c vm T h cells slots) : Z.heap.size ≤ h.size := W.old.1
theorem own_safeB {h' : Heap} {x : Addr} (W : Wk Z a0 EL own p l e R s m args below meth c vm T h cells slots) (E : Ext h h') (q : h.size ≤ x) : Safe Z EL vm h' x := Safe.ext E W.ch (Safe.new q)
theorem own_safeE {x : Addr} {C : String} (W : Wk Z a0 EL own p l e R s m args below meth c vm T h cells slots) (E : Exa Z h x C) (h1 : C ≠ "java/lang/String") (h2 : C ≠ "[B") : Safe Z EL vm h x := Safe.exa W.al E h1 h2
/-- a step that grows the heap at its end and leaves the tables -/
theorem own_mkE {T' : State} {h' : Heap} {cells' slots' : Nat} {locs' : List Loc} {k : Nat} (X : Stand p l e R (s.setVm vm) m args below meth c T' locs' cells' slots') (e' : T'.heap = h') (hS : s.Since vm k) (hk : k ≤ h.size) (hZ : Z.Warmed39 vm) (ho : vm.findClass own = some m.cls) (hEW : EW Z a0 EL) (hC : CHr Z EL s.vm s.heap vm h) (N : Fr Z.heap.size locs') (O : Ext Z.heap h) (E : Ext h h') :
    Wk Z a0 EL own p l e R s m args below meth c vm T' h' cells' slots' :=
  ⟨locs', k, X, e', hS, Nat.le_trans hk E.1, hZ, ho, hEW, hC.trans (CHr.ext E hC.1), N, own_xt O E⟩
theorem own_new (W : Wk Z a0 EL own p l e R s m args below meth c vm T h cells slots) (hx : p.tables.exec = Jvm.exec) {C : String} {index n : Nat} (w : (Cond.classLink own index C).before a0 Z = true) (wi : (Cond.instantiable C n).before a0 Z = true) (wz : (Cond.initialized C).before a0 Z = true)
    {g : JFrame} (hg : g.method = m) (hd : decode c.code g.pc = .ok (.new index, 3)) (hc : cells + 1 ≤ R.cells) (hl : slots + n ≤ R.slots) :
    ∃ (x : Addr) (T' : State) (h' : Heap), h.size ≤ x ∧ Wk Z a0 EL own p l e R s m args below meth c vm T' h' (cells + 1) (slots + n) ∧ Ext h h' ∧ Exa Z h' x C ∧ (∀ {O nm d : String} {ty : FieldType}, Laid Z a0 C O nm d → parseFieldDescriptor d = some ty → Fld Z h' x O nm d (defaultValue ty)) ∧ Unt h' x ∧
      ∀ target, Steps p.tables e below (T'.setTop { g with pc := g.pc + 3, stack := .ref x :: g.stack }) target → Steps p.tables e below (T.setTop g) target := by
  obtain ⟨locs, k, X, eT, hS, hk, hZ, ho, hEW, hC, N, O⟩ := W
  obtain ⟨T', h', X', e', E, A, D, U, st⟩ := newO X hx hZ ho w wi wz eT hg hd hc hl
  exact ⟨_, T', h', Nat.le_refl _, own_mkE X' e' hS hk hZ ho hEW hC N O E, E, A, D, U, st⟩
theorem own_newP (W : Wk Z a0 EL own p l e R s m args below meth c vm T h cells slots) (hx : p.tables.exec = Jvm.exec) {aty : ArrayType} (w : (Cond.arrayClass (newarray.typeOf aty)).before a0 Z = true) {g : JFrame} (hg : g.method = m) (hd : decode c.code g.pc = .ok (.newarray aty, 2)) {n : Int32} {rest : List Value} (hs : g.stack = .int n :: rest)
    (hn : ¬ n < 0) {cap : Nat} (hcap : n.toNatClampNeg ≤ cap) (hb : cap * 8 ≤ 536870912) (hc : cells + 1 ≤ R.cells) (hl : slots + cap ≤ R.slots) :
    ∃ (x : Addr) (T' : State) (h' : Heap) (k : ClassId), h.size ≤ x ∧ Wk Z a0 EL own p l e R s m args below meth c vm T' h' (cells + 1) (slots + cap) ∧ Ext h h' ∧ Arv Z h' x k (newarray.typeOf aty) n [] (defaultValue (newarray.typeOf aty)) ∧
      ∀ target, Steps p.tables e below (T'.setTop { g with pc := g.pc + 2, stack := .ref x :: rest }) target → Steps p.tables e below (T.setTop g) target := by
  obtain ⟨locs, k, X, eT, hS, hk, hZ, ho, hEW, hC, N, O⟩ := W
  obtain ⟨T', h', cA, X', e', E, A, st⟩ := newP X hx hZ w eT hg hd hs hn hcap hb hc hl
  exact ⟨_, T', h', cA, Nat.le_refl _, own_mkE X' e' hS hk hZ ho hEW hC N O E, E, Arv.new A hn, st⟩
theorem own_mkW {T' : State} {h' : Heap} {cells' slots' : Nat} {locs' : List Loc} {k : Nat} {a : Addr} {sl : Nat} {v : Value} (X : Stand p l e R (s.setVm vm) m args below meth c T' (locs' ++ [⟨a, sl⟩]) cells' slots') (e' : T'.heap = h') (hS : s.Since vm k) (hk : k ≤ h.size) (hZ : Z.Warmed39 vm) (ho : vm.findClass own = some m.cls) (hEW : EW Z a0 EL) (hC : CHr Z EL s.vm s.heap vm h) (N : Fr Z.heap.size locs') (O : Ext Z.heap h) (W : Wr h h' a sl v) (S : Safe Z EL vm h a) (q : Z.heap.size ≤ a) :
    Wk Z a0 EL own p l e R s m args below meth c vm T' h' cells' slots' :=
  ⟨_, k, X, e', hS, by rw [W.size]; exact hk, hZ, ho, hEW, hC.trans (CHr.wr W S hC.1), N.app fun y hy => by cases List.mem_singleton.mp hy; exact q, own_xw O W q⟩
theorem own_nc {x : Int32} (h : ¬ x < 0 ∧ ¬ 65535 < x) : nar .char x = x := by
  show x.toUInt32.toUInt16.toUInt32.toInt32 = x
  obtain ⟨h1, h2⟩ := h
  rw [Int32.lt_iff_toInt_lt] at h1 h2
  have e1 : (0 : Int32).toInt = 0 := rfl
  have e2 : (65535 : Int32).toInt = 65535 := rfl
  rw [e1] at h1; rw [e2] at h2
  apply Int32.toBitVec_inj.mp
  apply BitVec.eq_of_toNat_eq
  have hx : x.toInt = x.toBitVec.toInt := rfl
  rw [hx, BitVec.toInt_eq_toNat_cond] at h1 h2
  have hlt := x.toBitVec.isLt
  have hn : x.toBitVec.toNat < 65536 := by split at h1 <;> split at h2 <;> omega
  show ((x.toUInt32.toUInt16.toUInt32)).toBitVec.toNat = _
  have e3 : (x.toUInt32.toUInt16.toUInt32).toNat = x.toUInt32.toNat % 65536 := by simp
  have e4 : x.toUInt32.toNat = x.toBitVec.toNat := rfl
  show (x.toUInt32.toUInt16.toUInt32).toNat = _
  rw [e3, e4]; omega
theorem own_stC (W : Wk Z a0 EL own p l e R s m args below meth c vm T h cells slots) (hx : p.tables.exec = Jvm.exec) {a : Addr} {k : ClassId} {z : Int32} {vs : List Value} {dv : Value} (F : Arv Z h a k .char z vs dv) (q : Z.heap.size ≤ a) {j x : Int32} {i : Nat} (hj : ¬ j < 0 ∧ j < z) (hi : j.toNatClampNeg = i) (hl : i < vs.length) (hr : ¬ x < 0 ∧ ¬ 65535 < x)
    {g : JFrame} (hg : g.method = m) {rest : List Value} (hs : g.stack = .int x :: .int j :: .ref a :: rest) (hd : decode c.code g.pc = .ok (.castore, 1)) :
    ∃ (T' : State) (h' : Heap), Wk Z a0 EL own p l e R s m args below meth c vm T' h' cells slots ∧ Wr h h' a i (.int x) ∧ Arv Z h' a k .char z (vs.set i (.int x)) dv ∧
      ∀ target, Steps p.tables e below (T'.setTop { g with pc := g.pc + 1, stack := rest }) target → Steps p.tables e below (T.setTop g) target := by
  obtain ⟨locs, k1, X, eT, hS, hk, hZ, ho, hEW, hC, N, O⟩ := W
  obtain ⟨cl, A, q1, S, q3, H, U⟩ := id F
  obtain ⟨T', h', X', e', Wr', st⟩ := stC X hx hZ eT A (inb_of S hj) hg hs hd
  rw [own_nc hr, hi] at Wr'
  rw [hi] at X'
  have fx : fits .char (.int x) = true := by have := fits_nar_char x; rw [own_nc hr] at this; exact this
  refine ⟨T', h', own_mkW X' e' hS hk hZ ho hEW hC N O Wr' (Safe.arr hZ.alike A (by decide)) q, Wr', ?_, st⟩
  exact Arv.set A q1 S q3 H U fx (by rw [hi]; exact Wr') i hi hl
theorem own_stB (W : Wk Z a0 EL own p l e R s m args below meth c vm T h cells slots) (hx : p.tables.exec = Jvm.exec) {a : Addr} {k : ClassId} {z : Int32} {vs : List Value} {dv : Value} (F : Arv Z h a k .byte z vs dv) (q : Z.heap.size ≤ a) (Sf : Safe Z EL vm h a) {j x : Int32} {i : Nat} (hj : ¬ j < 0 ∧ j < z) (hi : j.toNatClampNeg = i) (hl : i < vs.length)
    {g : JFrame} (hg : g.method = m) {rest : List Value} (hs : g.stack = .int x :: .int j :: .ref a :: rest) (hd : decode c.code g.pc = .ok (.bastore, 1)) :
    ∃ (T' : State) (h' : Heap), Wk Z a0 EL own p l e R s m args below meth c vm T' h' cells slots ∧ Wr h h' a i (.int x.toInt8.toInt32) ∧ Arv Z h' a k .byte z (vs.set i (.int x.toInt8.toInt32)) dv ∧
      ∀ target, Steps p.tables e below (T'.setTop { g with pc := g.pc + 1, stack := rest }) target → Steps p.tables e below (T.setTop g) target := by
  obtain ⟨locs, k1, X, eT, hS, hk, hZ, ho, hEW, hC, N, O⟩ := W
  obtain ⟨cl, A, q1, S, q3, H, U⟩ := id F
  obtain ⟨T', h', X', e', Wr', st⟩ := stB X hx hZ eT A (inb_of S hj) hg hs hd
  have Wr2 : Wr h h' a i (.int x.toInt8.toInt32) := by rw [← hi]; exact Wr'
  rw [hi] at X'
  refine ⟨T', h', own_mkW X' e' hS hk hZ ho hEW hC N O Wr2 Sf q, Wr2, ?_, st⟩
  exact Arv.set A q1 S q3 H U (fits_nar_byte x) Wr' i hi hl
theorem own_put (W : Wk Z a0 EL own p l e R s m args below meth c vm T h cells slots) (hx : p.tables.exec = Jvm.exec) {R0 O n d host C : String} {index kk : Nat} {ty : FieldType} (w : (Cond.fieldLink own index R0 n d).before a0 Z = true ∨ (Cond.fieldLinkNest own index R0 n d host).before a0 Z = true) (via : Via Z R0 O n d)
    {a : Addr} {v old : Value} (F : Fld Z h a O n d old) (E : Exa Z h a C) (L : (Cond.lays C O n d).before a0 Z = true ∨ ((Cond.laysFinal C O n d).before a0 Z = true ∧ own = O ∧ meth.name = "<init>")) (wi : (Cond.instantiable C kk).before a0 Z = true)
    (hty : parseFieldDescriptor d = some ty) (hn : narrow ty v = v) (hf : fits ty v = true) (S : Safe Z EL vm h a) (q : Z.heap.size ≤ a) {g : JFrame} (hg : g.method = m) {rest : List Value} (hs : g.stack = v :: .ref a :: rest) (hd : decode c.code g.pc = .ok (.putfield index, 3)) :
    ∃ (T' : State) (h' : Heap), Wk Z a0 EL own p l e R s m args below meth c vm T' h' cells slots ∧ Wr h h' a (RoadKit.slotOf Z O n d) v ∧ Fld Z h' a O n d v ∧
      ∀ target, Steps p.tables e below (T'.setTop { g with pc := g.pc + 3, stack := rest }) target → Steps p.tables e below (T.setTop g) target := by
  obtain ⟨locs, k1, X, eT, hS, hk, hZ, ho, hEW, hC, N, O'⟩ := W
  obtain ⟨T', h', X', e', W', st⟩ := putF X hx hZ ho w via eT F E L wi hty hn hf hg hs hd
  exact ⟨T', h', own_mkW X' e' hS hk hZ ho hEW hC N O' W' S q, W', F.same W', st⟩
theorem own_get (W : Wk Z a0 EL own p l e R s m args below meth c vm T h cells slots) (hx : p.tables.exec = Jvm.exec) {R0 O n d host : String} {index : Nat} (w : (Cond.fieldLink own index R0 n d).before a0 Z = true ∨ (Cond.fieldLinkNest own index R0 n d host).before a0 Z = true) (via : Via Z R0 O n d)
    {a : Addr} {v : Value} (F : Fld Z h a O n d v) {g : JFrame} (hg : g.method = m) {rest : List Value} (hs : g.stack = .ref a :: rest) (hd : decode c.code g.pc = .ok (.getfield index, 3)) :
    ∃ T' : State, Wk Z a0 EL own p l e R s m args below meth c vm T' h cells slots ∧
      ∀ target, Steps p.tables e below (T'.setTop { g with pc := g.pc + 3, stack := v :: rest }) target → Steps p.tables e below (T.setTop g) target := by
  obtain ⟨locs, k1, X, eT, hS, hk, hZ, ho, hEW, hC, N, O'⟩ := W
  obtain ⟨T', X', e', st⟩ := getF X hx hZ ho w via eT F hg hs hd
  exact ⟨T', ⟨locs, k1, X', e', hS, hk, hZ, ho, hEW, hC, N, O'⟩, st⟩
theorem own_getS (W : Wk Z a0 EL own p l e R s m args below meth c vm T h cells slots) (hx : p.tables.exec = Jvm.exec) {R0 O n d host : String} {index : Nat} (w : (Cond.fieldLink own index R0 n d).before a0 Z = true ∨ (Cond.fieldLinkNest own index R0 n d host).before a0 Z = true) (via : Via Z R0 O n d)
    {v : Value} (F : Sta Z Z.heap O n d v) {g : JFrame} (hg : g.method = m) (hd : decode c.code g.pc = .ok (.getstatic index, 3)) :
    ∃ T' : State, Wk Z a0 EL own p l e R s m args below meth c vm T' h cells slots ∧
      ∀ target, Steps p.tables e below (T'.setTop { g with pc := g.pc + 3, stack := v :: g.stack }) target → Steps p.tables e below (T.setTop g) target := by
  obtain ⟨locs, k1, X, eT, hS, hk, hZ, ho, hEW, hC, N, O'⟩ := W
  obtain ⟨T', X', e', st⟩ := getS2 X hx hZ ho w via eT (F.ext O') hg hd
  exact ⟨T', ⟨locs, k1, X', e', hS, hk, hZ, ho, hEW, hC, N, O'⟩, st⟩
theorem own_initO (W : Wk Z a0 EL own p l e R s m args below meth c vm T h cells slots) (hx : p.tables.exec = Jvm.exec) {idx : Nat} (w1 : (Cond.methodLink own idx Lib.objectInit).before a0 Z = true) (w2 : (Cond.instanceMethod Lib.objectInit).before a0 Z = true)
    (w3 : (Cond.code Lib.objectInit ⟨#[0xb1]⟩ 1 none).before a0 Z = true) {g : JFrame} (hg : g.method = m) (hsize : g.locals.size = c.maxLocals) {a : Addr} {rest : List Value} (hs : g.stack = .ref a :: rest) (hd : decode c.code g.pc = .ok (.invokespecial idx, 3))
    (hf : 1 ≤ R.frames) {Wd : Nat} (hW : 2 * g.monitorRoom + (rest.map fun v => v.category).sum ≤ Wd) (hl : Wd + 12 ≤ R.locals) :
    ∃ T' : State, Wk Z a0 EL own p l e R s m args below meth c vm T' h cells slots ∧ ∀ target, Steps p.tables e below (T'.setTop { g with pc := g.pc + 3, stack := rest }) target → Steps p.tables e below (T.setTop g) target := by
  obtain ⟨locs, k1, X, eT, hS, hk, hZ, ho, hEW, hC, N, O'⟩ := W
  obtain ⟨T', X', e', st⟩ := initO X hx hZ ho w1 w2 w3 eT hg hsize hs hd hf hW hl
  exact ⟨T', ⟨locs, k1, X', e', hS, hk, hZ, ho, hEW, hC, N, O'⟩, st⟩
theorem own_ldcI (W : Wk Z a0 EL own p l e R s m args below meth c vm T h cells slots) (hx : p.tables.exec = Jvm.exec) {index : Nat} {v : Int32} (w : (Cond.constant own index v).before a0 Z = true) {g : JFrame} (hg : g.method = m) (hd : decode c.code g.pc = .ok (.ldc index, 2)) :
    ∀ target, Steps p.tables e below (T.setTop { g with pc := g.pc + 2, stack := .int v :: g.stack }) target → Steps p.tables e below (T.setTop g) target := by
  obtain ⟨locs, k1, X, eT, hS, hk, hZ, ho, hEW, hC, N, O'⟩ := W
  exact X.ldcInt hx ho (mv (s := s.setVm vm) hZ w) hg hd
theorem own_alen (W : Wk Z a0 EL own p l e R s m args below meth c vm T h cells slots) (hx : p.tables.exec = Jvm.exec) {a : Addr} {k : ClassId} {ty : FieldType} {z : Int32} {vs : List Value} {dv : Value} (F : Arv Z h a k ty z vs dv) {g : JFrame} (hg : g.method = m) {rest : List Value} (hs : g.stack = .ref a :: rest) (hd : decode c.code g.pc = .ok (.arraylength, 1)) :
    ∀ target, Steps p.tables e below (T.setTop { g with pc := g.pc + 1, stack := .int z :: rest }) target → Steps p.tables e below (T.setTop g) target := by
  obtain ⟨locs, k1, X, eT, hS, hk, hZ, ho, hEW, hC, N, O'⟩ := W
  obtain ⟨cl, A, q1, S, q3, H, U⟩ := F
  intro target q
  have e1 := len_of S q3
  refine X.arraylength hx (by rw [eT]; exact A.1) (State.isArrayOf_alike (T := s.setVm vm) hZ.alike A.2.1) hg hs hd _ ?_
  rw [e1]; exact q
theorem own_cal (W : Wk Z a0 EL own p l e R s m args below meth c vm T h cells slots) (hx : p.tables.exec = Jvm.exec) {a : Addr} {k : ClassId} {z : Int32} {vs : List Value} {dv : Value} (F : Arv Z h a k .char z vs dv) {j x : Int32} (hj : ¬ j < 0 ∧ j < z) (hv : vs.getD j.toNatClampNeg dv = .int x) {g : JFrame} (hg : g.method = m) {rest : List Value} (hs : g.stack = .int j :: .ref a :: rest) (hd : decode c.code g.pc = .ok (.caload, 1)) :
    ∀ target, Steps p.tables e below (T.setTop { g with pc := g.pc + 1, stack := .int x :: rest }) target → Steps p.tables e below (T.setTop g) target := by
  obtain ⟨locs, k1, X, eT, hS, hk, hZ, ho, hEW, hC, N, O'⟩ := W
  obtain ⟨cl, A, q1, S, q3, H, U⟩ := F
  exact X.caload hx (by rw [eT]; exact A.1) (State.isArrayOf_alike (T := s.setVm vm) hZ.alike A.2.1) A.2.2 (inb_of S hj) (H.at (inb_of S hj) hv) hg hs hd
theorem own_bal (W : Wk Z a0 EL own p l e R s m args below meth c vm T h cells slots) (hx : p.tables.exec = Jvm.exec) {a : Addr} {k : ClassId} {z : Int32} {vs : List Value} {dv : Value} (F : Arv Z h a k .byte z vs dv) {j x : Int32} (hj : ¬ j < 0 ∧ j < z) (hv : vs.getD j.toNatClampNeg dv = .int x) {g : JFrame} (hg : g.method = m) {rest : List Value} (hs : g.stack = .int j :: .ref a :: rest) (hd : decode c.code g.pc = .ok (.baload, 1)) :
    ∀ target, Steps p.tables e below (T.setTop { g with pc := g.pc + 1, stack := .int x :: rest }) target → Steps p.tables e below (T.setTop g) target := by
  obtain ⟨locs, k1, X, eT, hS, hk, hZ, ho, hEW, hC, N, O'⟩ := W
  obtain ⟨cl, A, q1, S, q3, H, U⟩ := F
  exact X.baloadBytes hx (by rw [eT]; exact A.1) (State.isArrayOf_alike (T := s.setVm vm) hZ.alike A.2.1) A.2.2 (inb_of S hj) (H.at (inb_of S hj) hv) hg hs hd
theorem own_irem (W : Wk Z a0 EL own p l e R s m args below meth c vm T h cells slots) (hx : p.tables.exec = Jvm.exec) {g : JFrame} (hg : g.method = m) {x y : Int32} {rest : List Value} (hd : decode c.code g.pc = .ok (.irem, 1)) (hs : g.stack = .int y :: .int x :: rest) (hy : y ≠ 0) :
    ∀ target, Steps p.tables e below (T.setTop { g with pc := g.pc + 1, stack := .int (x % y) :: rest }) target → Steps p.tables e below (T.setTop g) target := by
  obtain ⟨locs, k1, X, -⟩ := W
  exact fun _ q => iremM X hx hg hd hs hy q
theorem own_acmp (W : Wk Z a0 EL own p l e R s m args below meth c vm T h cells slots) (hx : p.tables.exec = Jvm.exec) {g : JFrame} (hg : g.method = m) {cd : ACond} {x y : Value} (h1 : x.isRef = true) (h2 : y.isRef = true) {rest : List Value} {o : Int} {pc0 pc' : Nat} {same : Bool} (hpc : g.pc = pc0)
    (hd : decode c.code g.pc = .ok (.if_acmp cd o, 3)) (hs : g.stack = y :: x :: rest) (hq : decide (x = y) = same) (ho : 0 ≤ (pc0 : Int) + o) (hp : pc' = if acV cd same = true then ((pc0 : Int) + o).toNat else pc0 + 3) :
    ∀ target, Steps p.tables e below (T.setTop { g with pc := pc', stack := rest }) target → Steps p.tables e below (T.setTop g) target := by
  obtain ⟨locs, k1, X, -⟩ := W
  exact fun _ q => Jvm.RoadKit.acmp X hx hg h1 h2 hpc hd hs hq ho hp q
theorem own_cast (W : Wk Z a0 EL own p l e R s m args below meth c vm T h cells slots) (hx : p.tables.exec = Jvm.exec) {K : String} {index : Nat} (w : (Cond.classLink own index K).before a0 Z = true) {a : Addr} (F : Ins Z h a K true) {g : JFrame} (hg : g.method = m) {rest : List Value} (hs : g.stack = .ref a :: rest) (hd : decode c.code g.pc = .ok (.checkcast index, 3)) :
    ∃ T' : State, Wk Z a0 EL own p l e R s m args below meth c vm T' h cells slots ∧ ∀ target, Steps p.tables e below (T'.setTop { g with pc := g.pc + 3 }) target → Steps p.tables e below (T.setTop g) target := by
  obtain ⟨locs, k1, X, eT, hS, hk, hZ, ho, hEW, hC, N, O'⟩ := W
  obtain ⟨T', X', e', st⟩ := castY X hx hZ ho w eT F hg hs hd
  exact ⟨T', ⟨locs, k1, X', e', hS, hk, hZ, ho, hEW, hC, N, O'⟩, st⟩
/-- ldc of a String constant, its text read -/
theorem own_ldcR (W : Wk Z a0 EL own p l e R s m args below meth c vm T h cells slots) (hx : p.tables.exec = Jvm.exec) {text : String} {index : Nat} (w : (Cond.stringLink own index text).before a0 Z = true) (wS : ∀ a ∈ Bundle.stringAtoms, a.before a0 Z = true) (hmem : (own, index) ∈ EL)
    {vs : List Value} {z : Int32} (ht : (∀ c ∈ text.toList, c.toNat < 256) ∧ text.toList.map (fun c => Value.int (Jvm.Lit.byteI c.toNat.toUInt16)) = vs) (hz : ¬ z < 0) (hl : z.toNatClampNeg = vs.length)
    {g : JFrame} (hg : g.method = m) (hd : decode c.code g.pc = .ok (.ldc index, 2)) {n : Nat} (hn : 4 * text.toList.length ≤ n) (hbig : n ≤ 536870912) (hc : cells + 2 ≤ R.cells) (hl' : slots + (n + 4) ≤ R.slots) :
    ∃ (a : Addr) (b : Addr) (k : ClassId) (vm' : Vm) (T' : State) (h' : Heap), Wk Z a0 EL own p l e R s m args below meth c vm' T' h' (cells + 2) (slots + (n + 4)) ∧ Ext h h' ∧ CHr Z EL vm h vm' h' ∧
      Exa Z h' a "java/lang/String" ∧ Fld Z h' a "java/lang/String" "coder" "B" (.int 0) ∧ Fld Z h' a "java/lang/String" "value" "[B" (.ref b) ∧ Arv Z h' b k .byte z vs (.int 0) ∧ (∀ x, Safe Z EL vm' h' x → x ≠ a ∧ x ≠ b) ∧
      ∀ target, Steps p.tables e below (T'.setTop { g with pc := g.pc + 2, stack := .ref a :: g.stack }) target → Steps p.tables e below (T.setTop g) target := by
  obtain ⟨locs, k1, X, eT, hS, hk, hZ, ho, hEW, hC, N, O'⟩ := W
  obtain ⟨a, T', h', k2, b, k, X', e', E, hS', hk', hZ', ho', f1, f2, f3, f4, -, -, hC', -, hne, st⟩ := ldcCH X hx hZ ho w wS eT hS hk hEW hmem hC.1 ht hz hl hg hd hn hbig hc hl'
  exact ⟨a, b, k, T'.vm, T', h', ⟨locs, k2, X', e', hS', hk', hZ', ho', hEW, hC.trans hC', N, own_xt O' E⟩, E, hC', f1, f2, f3, f4, hne, st⟩
/-- ldc of a String constant, unread -/
theorem own_ldcO (W : Wk Z a0 EL own p l e R s m args below meth c vm T h cells slots) (hx : p.tables.exec = Jvm.exec) {text : String} {index : Nat} (w : (Cond.stringLink own index text).before a0 Z = true) (wS : ∀ a ∈ Bundle.stringAtoms, a.before a0 Z = true)
    {g : JFrame} (hg : g.method = m) (hd : decode c.code g.pc = .ok (.ldc index, 2)) {n : Nat} (hn : 4 * text.toList.length ≤ n) (hbig : n ≤ 536870912) (hc : cells + 2 ≤ R.cells) (hl' : slots + (n + 4) ≤ R.slots) :
    ∃ (a : Addr) (vm' : Vm) (T' : State) (h' : Heap), Wk Z a0 EL own p l e R s m args below meth c vm' T' h' (cells + 2) (slots + (n + 4)) ∧ Ext h h' ∧ CHr Z EL vm h vm' h' ∧
      ∀ target, Steps p.tables e below (T'.setTop { g with pc := g.pc + 2, stack := .ref a :: g.stack }) target → Steps p.tables e below (T.setTop g) target := by
  obtain ⟨locs, k1, X, eT, hS, hk, hZ, ho, hEW, hC, N, O'⟩ := W
  obtain ⟨a, T', h', k2, X', e', E, hS', hk', hZ', ho', hC', -, st⟩ := ldcOH X hx hZ ho w wS eT hS hk hEW hC.1 hg hd hn hbig hc hl'
  exact ⟨a, T'.vm, T', h', ⟨locs, k2, X', e', hS', hk', hZ', ho', hEW, hC.trans hC', N, own_xt O' E⟩, E, hC', st⟩
/-- a method's contract, at a heap -/
def Ct (l : Launch) (Z : State) (a0 : Array Value) (EL : List (String × Nat)) (y : MethodName) (bytes : ByteArray) (maxL : Nat) (ret : Option FieldType) (ws : List Jvm.Cond) (rm : Room) (as' : Array Value) (h : Heap) (sf : List Addr) (Q : Option Value → Heap → List Addr → Prop) : Prop :=
  Ext Z.heap h → MetFree l y (head1 (Cond.code y bytes maxL ret :: ws) rm) (fun a U => a = as' ∧ Z.Warmed39 U.vm ∧ U.heap = h ∧ CHv Z EL U.vm h ∧ ∀ x ∈ sf, Safe Z EL U.vm h x) (fun _ _ _ _ _ => True)
    (fun _ U o U' => ∃ v L so, o = .returned v ∧ Q v U'.heap so ∧ Fr Z.heap.size L ∧ Ext Z.heap U'.heap ∧ CHr Z EL U.vm U.heap U'.vm U'.heap ∧ (∀ x ∈ so, Safe Z EL U'.vm U'.heap x) ∧ ReturnedEndW U o U' L rm.cells rm.slots)
theorem own_safeAt {locs : List Loc} (Y : Stand p l e R (s.setVm vm) m args below meth c T locs cells slots) (hZ : Z.Warmed39 vm) (hEW : EW Z a0 EL) (H : CHv Z EL vm h) {x : Addr} (S : Safe Z EL vm h x) : Safe Z EL T.vm h x := fun B => by
  rcases (CHv.at Y hZ hEW H).2.2 x B with q | q
  · exact S q
  · obtain ⟨cell, r⟩ := B.there
    have := (Array.getElem?_eq_some_iff.mp r).1; omega
theorem own_backS {y : MethodName} {bytes : ByteArray} {maxL : Nat} {ret : Option FieldType} {rm : Room} {len Wd : Nat} {as' : Array Value} {sf : List Addr} {Q : Option Value → Heap → List Addr → Prop} (O : Ext Z.heap h)
    (hM : Ct l Z a0 EL y bytes maxL ret [] rm as' h sf Q)
    (hZ : Z.Warmed39 vm) (wc : (Cond.code y bytes maxL ret).before a0 Z = true) (wz : (Cond.initialized y.cls).before a0 Z = true) (hf : rm.frames + 1 ≤ R.frames) (hl : Wd + (maxL + 11) + rm.locals ≤ R.locals) (hEL : EW Z a0 EL) (H : CHv Z EL vm h) (hsf : ∀ x ∈ sf, Safe Z EL vm h x) :
    BackS l R p e below (s.setVm vm) args y len Wd (fun A a => a = as' ∧ A.U.heap = h ∧ A.cells + rm.cells ≤ R.cells ∧ A.slots + rm.slots ≤ R.slots)
      (fun A _ v B => ∃ L so, Q v B.U.heap so ∧ Fr Z.heap.size L ∧ Ext Z.heap B.U.heap ∧ B.locs = A.locs ++ L ∧ B.cells = A.cells + rm.cells ∧ B.slots = A.slots + rm.slots ∧ CHr Z EL vm h B.U.vm B.U.heap ∧ ∀ x ∈ so, Safe Z EL B.U.vm B.U.heap x) :=
  BackS.of_freeW (bytes := bytes) (maxL := maxL) (ret := ret) (E := fun _ first o t L k n => k = rm.cells ∧ n = rm.slots ∧ (∃ v so, o = .returned v ∧ Q v t.heap so ∧ Fr Z.heap.size L ∧ Ext Z.heap t.heap ∧ ∀ x ∈ so, Safe Z EL t.vm t.heap x) ∧ CHr Z EL first.vm first.heap t.vm t.heap) (hM O) hf hl
    (fun m meth c A a Y hp => have hU : Z.Warmed39 A.U.vm := wtrans (s := s.setVm vm) hZ Y.warmed
      ⟨by show (Cond.and _ .tt).before a A.U = true; rw [Cond.before_and, mv hU wc]; rfl, mv hU wc, mv hU wz, hp.2.2.1, hp.2.2.2⟩)
    (fun m meth c A a g mk Y hp => ⟨hp.1, wtrans (s := s.setVm vm) hZ Y.warmed, hp.2.1, (CHv.at Y hZ hEL H).1, fun x hx => own_safeAt Y hZ hEL H (hsf x hx)⟩) (fun _ _ _ _ _ _ _ _ _ => trivial)
    (fun _ _ _ _ ⟨v, L, so, h1, h2, h3, h4, h5, h7, h6⟩ => ⟨L, _, _, h6, rfl, rfl, ⟨v, so, h1, h2, h3, h4, h7⟩, h5⟩)
    (fun m meth c A a g mk v t L k n Y hp _ _ ⟨e1, e2, ⟨v', so, e3, e4, e5, e6, e8⟩, e7⟩ => by
      cases e3; subst e1 e2
      refine ⟨L, so, e4, e5, e6, rfl, rfl, rfl, (CHv.at Y hZ hEL H).trans ?_, e8⟩
      rw [← hp.2.1]; exact e7)
theorem own_mkB {B : Pt} {L locs : List Loc} {k : Nat} {kc ks : Nat} (X : Stand p l e R ((s.setVm vm).setVm B.U.vm) m args below meth c B.U B.locs B.cells B.slots) (h2 : (s.setVm vm).Since B.U.vm B.U.heap.size) (hg : h.size ≤ B.U.heap.size) (hS : s.Since vm k) (hk : k ≤ h.size) (hZ : Z.Warmed39 vm) (ho : vm.findClass own = some m.cls) (hEW : EW Z a0 EL) (hC : CHr Z EL s.vm s.heap vm h) (N : Fr Z.heap.size locs)
    (hL : Fr Z.heap.size L) (O' : Ext Z.heap B.U.heap) (e1 : B.locs = locs ++ L) (e2 : B.cells = kc) (e3 : B.slots = ks) (hC' : CHr Z EL vm h B.U.vm B.U.heap) :
    Wk Z a0 EL own p l e R s m args below meth c B.U.vm B.U B.U.heap kc ks := by
  obtain ⟨X', hS', hZ', ho'⟩ := rebS hS hk X h2 hg hZ ho
  subst e2 e3
  exact ⟨B.locs, _, X', rfl, hS', Nat.le_refl _, hZ', ho', hEW, hC.trans hC', by rw [e1]; exact N.app hL, O'⟩
theorem own_static (W : Wk Z a0 EL own p l e R s m args below meth c vm T h cells slots) (hx : p.tables.exec = Jvm.exec) {index : Nat} {y : MethodName} {bytes : ByteArray} {maxL : Nat} {ret : Option FieldType} {rm : Room} {as' : Array Value} {sf : List Addr} {Q : Option Value → Heap → List Addr → Prop}
    (w1 : (Cond.methodLink own index y).before a0 Z = true) (w2 : (Cond.static y).before a0 Z = true) (w3 : (Cond.initialized y.cls).before a0 Z = true) (w4 : (Cond.code y bytes maxL ret).before a0 Z = true) (hy : y.cls ≠ "java/lang/invoke/MethodHandle" ∧ y.cls ≠ "java/lang/invoke/VarHandle")
    (hM : Ct l Z a0 EL y bytes maxL ret [] rm as' h sf Q) (hsf : ∀ x ∈ sf, Safe Z EL vm h x) {Wd : Nat} (hf : rm.frames + 1 ≤ R.frames) (hlo : Wd + (maxL + 11) + rm.locals ≤ R.locals) (hce : cells + rm.cells ≤ R.cells) (hsl : slots + rm.slots ≤ R.slots)
    {g : JFrame} (hg : g.method = m) (hsize : g.locals.size = c.maxLocals) {argsL rest : List Value} (hlen : ∀ sig, parseMethodDescriptor y.desc = some sig → argsL.length = sig.parameters.length) (hstack : g.stack = argsL.reverse ++ rest) (has : argsL.toArray = as') (hW : 2 * g.monitorRoom + (rest.map fun v => v.category).sum ≤ Wd)
    (hdg : decode c.code g.pc = .ok (.invokestatic index, 3)) :
    ∃ (v : Option Value) (so : List Addr) (vm' : Vm) (T' : State) (h' : Heap), Wk Z a0 EL own p l e R s m args below meth c vm' T' h' (cells + rm.cells) (slots + rm.slots) ∧ CHr Z EL vm h vm' h' ∧ Q v h' so ∧ (∀ x ∈ so, Safe Z EL vm' h' x) ∧
      ∀ target, Steps p.tables e below (T'.setTop { g with pc := g.pc + 3, stack := v.toList ++ rest }) target → Steps p.tables e below (T.setTop g) target := by
  obtain ⟨locs, k1, X, eT, hS, hk, hZ, ho, hEW, hC, N, O'⟩ := W
  subst eT
  obtain ⟨v, vm1, B, -, X', h2, hg2, ⟨L, so, hQ, hL, O2, e1, e2, e3, hC', hso⟩, st⟩ := callSS X hx ho (mv (s := s.setVm vm) hZ w1) (mv (s := s.setVm vm) hZ w2) (mv (s := s.setVm vm) hZ w3) (mv (s := s.setVm vm) hZ w4) hy (own_backS O' hM hZ w4 w3 hf hlo hEW hC.1 hsf) hg hsize hlen hstack hW hdg (fun _ _ => ⟨has, rfl, hce, hsl⟩)
  exact ⟨v, so, _, B.U, _, own_mkB X' h2 hg2 hS hk hZ ho hEW hC N hL O2 e1 e2 e3 hC', hC', hQ, hso, fun _ q => st.trans q⟩
theorem own_special (W : Wk Z a0 EL own p l e R s m args below meth c vm T h cells slots) (hx : p.tables.exec = Jvm.exec) {index : Nat} {y : MethodName} {bytes : ByteArray} {maxL : Nat} {rm : Room} {as' : Array Value} {sf : List Addr} {Q : Option Value → Heap → List Addr → Prop} (hy1 : y.name = "<init>")
    (w1 : (Cond.methodLink own index y).before a0 Z = true) (w2 : (Cond.instanceMethod y).before a0 Z = true) (w3 : (Cond.initialized y.cls).before a0 Z = true) (w4 : (Cond.code y bytes maxL none).before a0 Z = true) (hy : y.cls ≠ "java/lang/invoke/MethodHandle" ∧ y.cls ≠ "java/lang/invoke/VarHandle")
    (hM : Ct l Z a0 EL y bytes maxL none [] rm as' h sf Q) (hsf : ∀ x ∈ sf, Safe Z EL vm h x) {Wd : Nat} (hf : rm.frames + 1 ≤ R.frames) (hlo : Wd + (maxL + 11) + rm.locals ≤ R.locals) (hce : cells + rm.cells ≤ R.cells) (hsl : slots + rm.slots ≤ R.slots)
    {g : JFrame} (hg : g.method = m) (hsize : g.locals.size = c.maxLocals) {a : Addr} {argsL rest : List Value} (hlen : ∀ sig, parseMethodDescriptor y.desc = some sig → argsL.length = sig.parameters.length) (hstack : g.stack = argsL.reverse ++ .ref a :: rest) (has : (.ref a :: argsL).toArray = as') (hW : 2 * g.monitorRoom + (rest.map fun v => v.category).sum ≤ Wd)
    (hdg : decode c.code g.pc = .ok (.invokespecial index, 3)) :
    ∃ (v : Option Value) (so : List Addr) (vm' : Vm) (T' : State) (h' : Heap), Wk Z a0 EL own p l e R s m args below meth c vm' T' h' (cells + rm.cells) (slots + rm.slots) ∧ CHr Z EL vm h vm' h' ∧ Q v h' so ∧ (∀ x ∈ so, Safe Z EL vm' h' x) ∧
      ∀ target, Steps p.tables e below (T'.setTop { g with pc := g.pc + 3, stack := v.toList ++ rest }) target → Steps p.tables e below (T.setTop g) target := by
  obtain ⟨locs, k1, X, eT, hS, hk, hZ, ho, hEW, hC, N, O'⟩ := W
  subst eT
  obtain ⟨v, vm1, B, -, X', h2, hg2, ⟨L, so, hQ, hL, O2, e1, e2, e3, hC', hso⟩, st⟩ := X.specialBackS hx hy1 ho (mv (s := s.setVm vm) hZ w1) (mv (s := s.setVm vm) hZ w2) (mv (s := s.setVm vm) hZ w4) hy (own_backS O' hM hZ w4 w3 hf hlo hEW hC.1 hsf) hg hsize (Steps.refl _) hlen hstack hW hdg (fun _ _ => ⟨has, rfl, hce, hsl⟩)
  exact ⟨v, so, _, B.U, _, own_mkB X' h2 hg2 hS hk hZ ho hEW hC N hL O2 e1 e2 e3 hC', hC', hQ, hso, fun _ q => st.trans q⟩
theorem own_virtual (W : Wk Z a0 EL own p l e R s m args below meth c vm T h cells slots) (hx : p.tables.exec = Jvm.exec) {index : Nat} {C : String} {y z : MethodName} {bytes : ByteArray} {maxL : Nat} {ret : Option FieldType} {rm : Room} {as' : Array Value} {sf : List Addr} {Q : Option Value → Heap → List Addr → Prop}
    (w1 : (Cond.methodLink own index y).before a0 Z = true) (w2 : (Cond.declares y).before a0 Z = true) (w5 : (Cond.selects C y z).before a0 Z = true) (w6 : (Cond.instanceMethod z).before a0 Z = true) (w3 : (Cond.initialized z.cls).before a0 Z = true) (w4 : (Cond.code z bytes maxL ret).before a0 Z = true) (hy : y.cls ≠ "java/lang/invoke/MethodHandle" ∧ y.cls ≠ "java/lang/invoke/VarHandle") (hnf : NotFace (s.setVm vm) y)
    {a : Addr} (E : Exa Z h a C)
    (hM : Ct l Z a0 EL z bytes maxL ret [] rm as' h sf Q) (hsf : ∀ x ∈ sf, Safe Z EL vm h x) {Wd : Nat} (hf : rm.frames + 1 ≤ R.frames) (hlo : Wd + (maxL + 11) + rm.locals ≤ R.locals) (hce : cells + rm.cells ≤ R.cells) (hsl : slots + rm.slots ≤ R.slots)
    {g : JFrame} (hg : g.method = m) (hsize : g.locals.size = c.maxLocals) {argsL rest : List Value} (hlen : ∀ sig, parseMethodDescriptor y.desc = some sig → argsL.length = sig.parameters.length) (hstack : g.stack = argsL.reverse ++ .ref a :: rest) (has : (.ref a :: argsL).toArray = as') (hW : 2 * g.monitorRoom + (rest.map fun v => v.category).sum ≤ Wd)
    (hdg : decode c.code g.pc = .ok (.invokevirtual index, 3)) :
    ∃ (v : Option Value) (so : List Addr) (vm' : Vm) (T' : State) (h' : Heap), Wk Z a0 EL own p l e R s m args below meth c vm' T' h' (cells + rm.cells) (slots + rm.slots) ∧ CHr Z EL vm h vm' h' ∧ Q v h' so ∧ (∀ x ∈ so, Safe Z EL vm' h' x) ∧
      ∀ target, Steps p.tables e below (T'.setTop { g with pc := g.pc + 3, stack := v.toList ++ rest }) target → Steps p.tables e below (T.setTop g) target := by
  obtain ⟨locs, k1, X, eT, hS, hk, hZ, ho, hEW, hC, N, O'⟩ := W
  obtain ⟨cB, kB, q1, q2, q3⟩ := isOf (s := s.setVm vm) hZ eT E
  subst eT
  obtain ⟨v, vm1, B, -, X', h2, hg2, ⟨L, so, hQ, hL, O2, e1, e2, e3, hC', hso⟩, st⟩ := X.virtualBackS hx ho (mv (s := s.setVm vm) hZ w1) (mv (s := s.setVm vm) hZ w2) hnf (mv (s := s.setVm vm) hZ w5) (mv (s := s.setVm vm) hZ w6) hy (own_backS O' hM hZ w4 w3 hf hlo hEW hC.1 hsf) q1 q3 hg hsize (Steps.refl _) hlen hstack hW hdg (fun _ _ => ⟨has, rfl, hce, hsl⟩)
  exact ⟨v, so, _, B.U, _, own_mkB X' h2 hg2 hS hk hZ ho hEW hC N hL O2 e1 e2 e3 hC', hC', hQ, hso, fun _ q => st.trans q⟩
/-- that the class of a method that its own class selects is no interface -/
theorem own_nf (W : Wk Z a0 EL own p l e R s m args below meth c vm T h cells slots) {C : String} {y : MethodName} (w : (Cond.selects C y y).before a0 Z = true) : NotFace (s.setVm vm) y := by
  obtain ⟨locs, k1, X, eT, hS, hk, hZ, ho, hEW, hC, N, O'⟩ := W
  exact notFace_of_selects (args := #[]) (mv (s := s.setVm vm) hZ w)
/-- a callee of the library that leaves the tables, as a Back -/
theorem own_mkK {B : Pt} {L locs : List Loc} {k : Nat} {kc ks : Nat} {ws : List Addr} (X : Stand p l e R (s.setVm vm) m args below meth c B.U B.locs B.cells B.slots) (hS : s.Since vm k) (hk : k ≤ h.size) (hZ : Z.Warmed39 vm) (ho : vm.findClass own = some m.cls) (hEW : EW Z a0 EL) (hC : CHr Z EL s.vm s.heap vm h) (N : Fr Z.heap.size locs) (O' : Ext Z.heap h)
    (hL : Fr Z.heap.size L) (K : Keep h B.U.heap ws) (hs : ∀ x ∈ ws, Safe Z EL vm h x) (hn : ∀ x ∈ ws, Z.heap.size ≤ x) (e1 : B.locs = locs ++ L) (e2 : B.cells = kc) (e3 : B.slots = ks) :
    Wk Z a0 EL own p l e R s m args below meth c vm B.U B.U.heap kc ks := by
  subst e2 e3
  exact ⟨B.locs, k, X, rfl, hS, Nat.le_trans hk K.1, hZ, ho, hEW, hC.trans (CHr.keep K hs hC.1), by rw [e1]; exact N.app hL, own_xk O' K hn⟩
/-- an instance method that the library pays by a Back -/
theorem own_virtB (W : Wk Z a0 EL own p l e R s m args below meth c vm T h cells slots) (hx : p.tables.exec = Jvm.exec) {index : Nat} {C : String} {y z : MethodName} {kc ks : Nat} {as' : Array Value} {ws : List Addr} {Q : Option Value → Heap → List Loc → Prop}
    (w1 : (Cond.methodLink own index y).before a0 Z = true) (w2 : (Cond.declares y).before a0 Z = true) (w5 : (Cond.selects C y z).before a0 Z = true) (w6 : (Cond.instanceMethod z).before a0 Z = true) (hy : y.cls ≠ "java/lang/invoke/MethodHandle" ∧ y.cls ≠ "java/lang/invoke/VarHandle") (hnf : NotFace (s.setVm vm) y)
    {a : Addr} (E : Exa Z h a C) {Wd : Nat}
    (hK : ∀ s' : State, Z.Warmed39 s'.vm → Back l R p e below s' args z 3 Wd (fun P a => a = as' ∧ P.U.heap = h ∧ P.cells + kc ≤ R.cells ∧ P.slots + ks ≤ R.slots) (fun P _ v B => ∃ L, Q v B.U.heap L ∧ B.locs = P.locs ++ L ∧ B.cells = P.cells + kc ∧ B.slots = P.slots + ks))
    (hQ : ∀ v h' L, Q v h' L → Fr Z.heap.size L ∧ Keep h h' ws) (hs : ∀ x ∈ ws, Safe Z EL vm h x) (hn : ∀ x ∈ ws, Z.heap.size ≤ x) (hce : cells + kc ≤ R.cells) (hsl : slots + ks ≤ R.slots)
    {g : JFrame} (hg : g.method = m) (hsize : g.locals.size = c.maxLocals) {argsL rest : List Value} (hlen : ∀ sig, parseMethodDescriptor y.desc = some sig → argsL.length = sig.parameters.length) (hstack : g.stack = argsL.reverse ++ .ref a :: rest) (has : (.ref a :: argsL).toArray = as') (hW : 2 * g.monitorRoom + (rest.map fun v => v.category).sum ≤ Wd)
    (hdg : decode c.code g.pc = .ok (.invokevirtual index, 3)) :
    ∃ (v : Option Value) (T' : State) (h' : Heap) (L : List Loc), Wk Z a0 EL own p l e R s m args below meth c vm T' h' (cells + kc) (slots + ks) ∧ Q v h' L ∧
      ∀ target, Steps p.tables e below (T'.setTop { g with pc := g.pc + 3, stack := v.toList ++ rest }) target → Steps p.tables e below (T.setTop g) target := by
  obtain ⟨locs, k1, X, eT, hS, hk, hZ, ho, hEW, hC, N, O'⟩ := W
  obtain ⟨cB, kB, q1, q2, q3⟩ := isOf (s := s.setVm vm) hZ eT E
  obtain ⟨v, vm1, B, -, X', ⟨L, hq, e1, e2, e3⟩, st⟩ := X.virtualBack hx ho (mv (s := s.setVm vm) hZ w1) (mv (s := s.setVm vm) hZ w2) hnf (mv (s := s.setVm vm) hZ w5) (mv (s := s.setVm vm) hZ w6) hy (hK _ hZ) q1 q3 hg hsize (Steps.refl _) hlen hstack hW hdg (fun _ _ => ⟨has, eT, hce, hsl⟩)
  obtain ⟨hL, K⟩ := hQ _ _ _ hq
  exact ⟨v, B.U, _, L, own_mkK X' hS hk hZ ho hEW hC N O' hL K hs hn e1 e2 e3, hq, fun _ q => st.trans q⟩
/-- a constructor that the library pays by a Back -/
theorem own_specB (W : Wk Z a0 EL own p l e R s m args below meth c vm T h cells slots) (hx : p.tables.exec = Jvm.exec) {index : Nat} {y : MethodName} {bytes : ByteArray} {maxL kc ks : Nat} {as' : Array Value} {ws : List Addr} {Q : Option Value → Heap → List Loc → Prop} (hy1 : y.name = "<init>")
    (w1 : (Cond.methodLink own index y).before a0 Z = true) (w2 : (Cond.instanceMethod y).before a0 Z = true) (w4 : (Cond.code y bytes maxL none).before a0 Z = true) (hy : y.cls ≠ "java/lang/invoke/MethodHandle" ∧ y.cls ≠ "java/lang/invoke/VarHandle") {Wd : Nat}
    (hK : ∀ s' : State, Z.Warmed39 s'.vm → Back l R p e below s' args y 3 Wd (fun P a => a = as' ∧ P.U.heap = h ∧ P.cells + kc ≤ R.cells ∧ P.slots + ks ≤ R.slots) (fun P _ v B => ∃ L, Q v B.U.heap L ∧ B.locs = P.locs ++ L ∧ B.cells = P.cells + kc ∧ B.slots = P.slots + ks))
    (hQ : ∀ v h' L, Q v h' L → Fr Z.heap.size L ∧ Keep h h' ws) (hs : ∀ x ∈ ws, Safe Z EL vm h x) (hn : ∀ x ∈ ws, Z.heap.size ≤ x) (hce : cells + kc ≤ R.cells) (hsl : slots + ks ≤ R.slots)
    {g : JFrame} (hg : g.method = m) (hsize : g.locals.size = c.maxLocals) {a : Addr} {argsL rest : List Value} (hlen : ∀ sig, parseMethodDescriptor y.desc = some sig → argsL.length = sig.parameters.length) (hstack : g.stack = argsL.reverse ++ .ref a :: rest) (has : (.ref a :: argsL).toArray = as') (hW : 2 * g.monitorRoom + (rest.map fun v => v.category).sum ≤ Wd)
    (hdg : decode c.code g.pc = .ok (.invokespecial index, 3)) :
    ∃ (v : Option Value) (T' : State) (h' : Heap) (L : List Loc), Wk Z a0 EL own p l e R s m args below meth c vm T' h' (cells + kc) (slots + ks) ∧ Q v h' L ∧
      ∀ target, Steps p.tables e below (T'.setTop { g with pc := g.pc + 3, stack := v.toList ++ rest }) target → Steps p.tables e below (T.setTop g) target := by
  obtain ⟨locs, k1, X, eT, hS, hk, hZ, ho, hEW, hC, N, O'⟩ := W
  obtain ⟨v, vm1, B, -, X', ⟨L, hq, e1, e2, e3⟩, st⟩ := X.specialBack hx hy1 ho (mv (s := s.setVm vm) hZ w1) (mv (s := s.setVm vm) hZ w2) (mv (s := s.setVm vm) hZ w4) hy (hK _ hZ) hg hsize (Steps.refl _) hlen hstack hW hdg (fun _ _ => ⟨has, eT, hce, hsl⟩)
  obtain ⟨hL, K⟩ := hQ _ _ _ hq
  exact ⟨v, B.U, _, L, own_mkK X' hS hk hZ ho hEW hC N O' hL K hs hn e1 e2 e3, hq, fun _ q => st.trans q⟩
/-- System.arraycopy between two primitive arrays -/
theorem own_cp (W : Wk Z a0 EL own p l e R s m args below meth c vm T h cells slots) (hx : p.tables.exec = Jvm.exec) {index : Nat} (w1 : (Cond.methodLink own index Jvm.Stand.acN).before a0 Z = true) (w2 : (Cond.native Jvm.Stand.acN).before a0 Z = true) (w3 : (Cond.static Jvm.Stand.acN).before a0 Z = true) (w4 : (Cond.initialized "java/lang/System").before a0 Z = true)
    {a b : Addr} {k k' : ClassId} {ty : FieldType} {z z' sp dp nn : Int32} {vs vd us : List Value} {dv dd : Value} (A : Arv Z h a k ty z vs dv) (B : Arv Z h b k' ty z' vd dd) (hty : refKind ty = false) (Sf : Safe Z EL vm h b)
    (h1 : ¬ sp < 0) (h2 : ¬ dp < 0) (h3 : ¬ nn < 0) (h4 : sp.toNatClampNeg + nn.toNatClampNeg ≤ z.toNatClampNeg) (h5 : dp.toNatClampNeg + nn.toNatClampNeg ≤ z'.toNatClampNeg)
    (hus : us = (List.range nn.toNatClampNeg).map fun i => vs.getD (sp.toNatClampNeg + i) dv) (hl : dp.toNatClampNeg + nn.toNatClampNeg ≤ vd.length) (ge : Z.heap.size ≤ b)
    {g : JFrame} (hg : g.method = m) (hsize : g.locals.size = c.maxLocals) {rest : List Value} (hs : g.stack = .int nn :: .int dp :: .ref b :: .int sp :: .ref a :: rest) (hd : decode c.code g.pc = .ok (.invokestatic index, 3))
    (hf : 1 ≤ R.frames) {Wd : Nat} (hW : 2 * g.monitorRoom + (rest.map fun v => v.category).sum ≤ Wd) (hlo : Wd + (nativeFrameWords "java/lang/System" "arraycopy" 5 + 11) ≤ R.locals) :
    ∃ (T' : State) (h' : Heap), Wk Z a0 EL own p l e R s m args below meth c vm T' h' cells slots ∧ Keep h h' [b] ∧ Arv Z h' b k' ty z' (vd.take dp.toNatClampNeg ++ us ++ vd.drop (dp.toNatClampNeg + nn.toNatClampNeg)) dd ∧
      ∀ target, Steps p.tables e below (T'.setTop { g with pc := g.pc + 3, stack := rest }) target → Steps p.tables e below (T.setTop g) target := by
  obtain ⟨locs, k1, X, eT, hS, hk, hZ, ho, hEW, hC, N, O'⟩ := W
  obtain ⟨T', h', L, X', e', N', K, V, st⟩ := cpA X hx hZ ho w1 w2 w3 w4 eT A B (Or.inl ⟨rfl, hty⟩) h1 h2 h3 h4 h5 hus hl N ge hg hsize hs hd hf hW hlo
  exact ⟨T', h', ⟨L, k1, X', e', hS, Nat.le_trans hk K.1, hZ, ho, hEW, hC.trans (CHr.keep K (allS Sf all0) hC.1), N', own_xk O' K (allS ge all0)⟩, K, V, st⟩
theorem own_cat {v : Value} (h : v.isRef = true) : v.category = 1 := by rcases ref_cases h with rfl | ⟨_, rfl⟩ <;> rfl
theorem own_nrR {v : Value} {t : FieldType} (h : v.isRef = true) (ht : t.isReference = true) : narrow t v = v := by rcases ref_cases h with rfl | ⟨_, rfl⟩ <;> cases t <;> first | rfl | cases ht
theorem own_ftR {v : Value} {t : FieldType} (h : v.isRef = true) (ht : t.isReference = true) : fits t v = true := by rcases ref_cases h with rfl | ⟨_, rfl⟩ <;> cases t <;> first | rfl | cases ht
theorem own_up {x : Int32} (h : ¬ x < 0 ∧ ¬ (255 : Int32) < x) : ¬ x < 0 ∧ ¬ (65535 : Int32) < x := ⟨h.1, fun q => h.2 (by rw [Int32.lt_iff_toInt_lt] at q ⊢; have e1 : (65535 : Int32).toInt = 65535 := rfl; have e2 : (255 : Int32).toInt = 255 := rfl; omega)⟩
theorem own_retV (W : Wk Z a0 EL own p l e R s m args below meth c vm T h cells slots) (hx : p.tables.exec = Jvm.exec) {pc : Nat} {Ls : Array Slot} (hret : meth.sig.returnType = none) (hd : decode c.code pc = .ok (.return_, 1)) :
    ∀ fs : List Frame, (∀ (f : JFrame) (acts : List Action), f.method = m → f.locked = none → f.entered = [] → (doReturn e (T.setTop f) acts none).1 = T.setFrames fs) → Steps p.tables e below (T.setTop (mkF m pc Ls [])) (T.setFrames fs) := by
  obtain ⟨locs, k1, X, -⟩ := W
  exact fun fs hr => X.returnOut hx hret hd hr
theorem own_retI (W : Wk Z a0 EL own p l e R s m args below meth c vm T h cells slots) (hx : p.tables.exec = Jvm.exec) {pc : Nat} {Ls : Array Slot} {z : Int32} {rest : List Value} {t : FieldType} (hret : meth.sig.returnType = some t) (ht : t = .int ∨ t = .boolean ∨ t = .byte ∨ t = .char ∨ t = .short) (hn : narrow t (.int z) = .int z) (hd : decode c.code pc = .ok (.ireturn, 1)) :
    ∀ fs : List Frame, (∀ (f : JFrame) (acts : List Action), f.method = m → f.locked = none → f.entered = [] → (doReturn e (T.setTop f) acts (some (.int z))).1 = T.setFrames fs) → Steps p.tables e below (T.setTop (mkF m pc Ls (.int z :: rest))) (T.setFrames fs) := by
  obtain ⟨locs, k1, X, -⟩ := W
  exact fun fs hr => retOut X hx hret hn (Or.inl ⟨rfl, ht, z, rfl⟩) hd hr
theorem own_retA (W : Wk Z a0 EL own p l e R s m args below meth c vm T h cells slots) (hx : p.tables.exec = Jvm.exec) {pc : Nat} {Ls : Array Slot} {w : Value} {rest : List Value} {t : FieldType} (hret : meth.sig.returnType = some t) (ht : t.isReference = true) (hw : w.isRef = true) (hn : narrow t w = w) (hd : decode c.code pc = .ok (.areturn, 1)) :
    ∀ fs : List Frame, (∀ (f : JFrame) (acts : List Action), f.method = m → f.locked = none → f.entered = [] → (doReturn e (T.setTop f) acts (some w)).1 = T.setFrames fs) → Steps p.tables e below (T.setTop (mkF m pc Ls (w :: rest))) (T.setFrames fs) := by
  obtain ⟨locs, k1, X, -⟩ := W
  exact fun fs hr => retOut X hx hret hn (Or.inr (Or.inr (Or.inr (Or.inr ⟨rfl, ht, hw⟩)))) hd hr
theorem own_enter {y : MethodName} {bytes : ByteArray} {maxL : Nat} {ret : Option FieldType} {ws : List Jvm.Cond} {rm : Room} {as' : Array Value} {sf : List Addr} {Q : Option Value → Heap → List Addr → Prop} {F0 : MethodId → JFrame} (hp : plainFor y = true) (hEW : EW Z a0 EL) (ef : ∀ m, entryFrame m as' maxL = F0 m)
    (body : ∀ (p : Program) (e : Env) (s : State) (m : MethodId) (below : List Frame) (meth : Method) (c : Code) (s₁ : State) (G : State → JFrame → Prop), p.tables.exec = Jvm.exec → c.code = bytes → c.maxLocals = maxL → meth.sig.returnType = ret → meth.name = y.name →
      Wk Z a0 EL y.cls p l e rm s m as' below meth c s.vm s₁ h 0 0 → (∀ x ∈ sf, Safe Z EL s.vm h x) →
      (∀ {T T' : State} {g g' : JFrame}, (∀ target, Steps p.tables e below (T'.setTop g') target → Steps p.tables e below (T.setTop g) target) → G T' g' → G T g) →
      (∀ {v : Option Value} {so : List Addr} {vm : Vm} {T : State} {h' : Heap} {cells slots : Nat} {g : JFrame}, Wk Z a0 EL y.cls p l e rm s m as' below meth c vm T h' cells slots → cells ≤ rm.cells → slots ≤ rm.slots → Q v h' so → (∀ x ∈ so, Safe Z EL vm h' x) → (ret = none → v = none) →
        (∀ fs : List Frame, (∀ (f : JFrame) (acts : List Action), f.method = m → f.locked = none → f.entered = [] → (doReturn e (T.setTop f) acts v).1 = T.setFrames fs) → Steps p.tables e below (T.setTop g) (T.setFrames fs)) → G T g) →
      G s₁ (F0 m)) : Ct l Z a0 EL y bytes maxL ret ws rm as' h sf Q := by
  intro hE
  refine MetFree.of_bodySF hp hisR ?_
  intro p e s m args below meth c s₁ Bd hml0 hP hK
  obtain ⟨rfl, hZ, hh, hC, hS⟩ := hP
  have X0 : Stand p l e rm s m args below meth c s₁ [] 0 0 := Stand.of_body Bd
  have e0 : s₁.heap = h := by rw [← hh, Bd.state]; rfl
  have W0 : Wk Z a0 EL y.cls p l e rm s m args below meth c s.vm s₁ h 0 0 :=
    ⟨[], h.size, X0, e0, (State.WarmedH.refl s).since _, Nat.le_refl _, hZ, findClass_of_methodNamed Bd.named, hEW, by rw [hh]; exact CHr.refl hC, Fr.nil _, hE⟩
  have key := body p e s m below meth c s₁
    (fun T g => ∃ (v : Option Value) (so : List Addr) (vm : Vm) (T' : State) (h' : Heap) (cells slots : Nat), Wk Z a0 EL y.cls p l e rm s m args below meth c vm T' h' cells slots ∧ cells ≤ rm.cells ∧ slots ≤ rm.slots ∧ Q v h' so ∧ (∀ x ∈ so, Safe Z EL vm h' x) ∧ (ret = none → v = none) ∧
      ∀ fs : List Frame, (∀ (f : JFrame) (acts : List Action), f.method = m → f.locked = none → f.entered = [] → (doReturn e (T'.setTop f) acts v).1 = T'.setFrames fs) → Steps p.tables e below (T.setTop g) (T'.setFrames fs))
    Bd.exec Bd.bytes hml0 Bd.returns (name_of_methodNamed Bd.named Bd.method).1 W0 hS
    (fun st ⟨v, so, vm1, T', h', k1, k2, q1, q2, q3, q4, q7, q5, q6⟩ => ⟨v, so, vm1, T', h', k1, k2, q1, q2, q3, q4, q7, q5, fun fs hr => st _ (q6 fs hr)⟩)
    (fun q1 q2 q3 q4 q7 q5 q6 => ⟨_, _, _, _, _, _, _, q1, q2, q3, q4, q7, q5, q6⟩)
  obtain ⟨v, so, vm, T', h', k1, k2, ⟨locs, k, X, rfl, hS', hk, hZ', ho, -, hC', N, O⟩, q2, q3, q4, q7, q5, q6⟩ := key
  obtain ⟨fs, hr, hrun, hended, g1, g2, g3, g4⟩ := X.leaveW hS' hk (v := v) (fun q => q5 (Bd.returns ▸ q))
  have hCf := CHv.at X hZ' hEW hC'.1
  have hSf := fun x hx => own_safeAt X hZ' hEW hC'.1 (q7 x hx)
  exact ⟨_, _, castTop (ef m) (q6 fs hr), hrun, hended, v, locs, so, rfl, q4, N, O, hC'.trans hCf, hSf, g1, g2, g3, g4.mono q2 q3⟩
end OwnKit
section OwnStr
variable {Z : State} {a0 : Array Value} {EL : List (String × Nat)} {own : String} {p : Program} {l : Launch} {e : Env} {R : Room} {s : State} {m : MethodId} {args : Array Value} {below : List Frame} {meth : Method} {c : Code} {vm : Vm} {T : State} {h : Heap} {cells slots : Nat}
/-- a String that spells cs, each sign 0 to 255 -/
def Str (Z : State) (h : Heap) (a : Addr) (cs : List Int32) : Prop := Exa Z h a "java/lang/String" ∧ Fld Z h a "java/lang/String" "coder" "B" (.int 0) ∧ (∀ c ∈ cs, ¬ c < 0 ∧ ¬ (255 : Int32) < c) ∧ ∃ (t : Addr) (kb : ClassId), Fld Z h a "java/lang/String" "value" "[B" (.ref t) ∧ Arv Z h t kb .byte (Int32.ofNat cs.length) ((cs.map fun c => c.toInt8.toInt32).map Value.int) (.int 0)
theorem Str.ext {h' : Heap} {a : Addr} {cs : List Int32} (S : Str Z h a cs) (X : Ext h h') : Str Z h' a cs := by
  obtain ⟨E, C, hp, t, kb, V, K⟩ := S; exact ⟨E.ext X, C.ext X, hp, t, kb, V.ext X, K.ext X⟩
theorem Str.lt {a : Addr} {cs : List Int32} (S : Str Z h a cs) : a < h.size := S.1.lt
theorem own_ups {cs : List Int32} (h : ∀ c ∈ cs, ¬ c < 0 ∧ ¬ (255 : Int32) < c) : ∀ c ∈ cs, ¬ c < 0 ∧ ¬ (65535 : Int32) < c := fun c hc => own_up (h c hc)
theorem own_strNew (W : Wk Z a0 EL own p l e R s m args below meth c vm T h cells slots) (hx : p.tables.exec = Jvm.exec) (hws : ∀ d ∈ StrChars.Road.words, d.before a0 Z = true) {index kI : Nat} {bytes : ByteArray} {maxL : Nat} (w1 : (Cond.methodLink own index ⟨"java/lang/String", "<init>", "([C)V"⟩).before a0 Z = true) (w2 : (Cond.instanceMethod ⟨"java/lang/String", "<init>", "([C)V"⟩).before a0 Z = true) (w4 : (Cond.code ⟨"java/lang/String", "<init>", "([C)V"⟩ bytes maxL none).before a0 Z = true) (wi : (Cond.instantiable "java/lang/String" kI).before a0 Z = true)
    {x b : Addr} {kC : ClassId} {cs : List Int32} {d v0 c0 : Value} {N : Int32} (E : Exa Z h x "java/lang/String") (V : Fld Z h x "java/lang/String" "value" "[B" v0) (C : Fld Z h x "java/lang/String" "coder" "B" c0) (K : Arv Z h b kC .char N (cs.map Value.int) d) (hN : N = Int32.ofNat cs.length) (cmp : ∃ z : Int32, Sta Z Z.heap "java/lang/String" "COMPACT_STRINGS" "Z" (.int z) ∧ ¬ z = 0)
    (l0 : 0 < cs.length) (l2 : cs.length ≤ 4000) (hp : ∀ c ∈ cs, ¬ c < 0 ∧ ¬ (255 : Int32) < c) (Sf : Safe Z EL vm h x) (hfr : Z.heap.size ≤ x) {Wd : Nat} (hf : 4 ≤ R.frames) (hlo : Wd + 65 ≤ R.locals) (hce : cells + 1 ≤ R.cells) (hsl : slots + cs.length ≤ R.slots)
    {g : JFrame} (hg : g.method = m) (hsize : g.locals.size = c.maxLocals) {rest : List Value} (hs : g.stack = .ref b :: .ref x :: rest) (hW : 2 * g.monitorRoom + (rest.map fun v => v.category).sum ≤ Wd) (hd : decode c.code g.pc = .ok (.invokespecial index, 3)) :
    ∃ (T' : State) (h' : Heap), Wk Z a0 EL own p l e R s m args below meth c vm T' h' (cells + 1) (slots + cs.length) ∧ Keep h h' [x] ∧ Str Z h' x cs ∧
      ∀ target, Steps p.tables e below (T'.setTop { g with pc := g.pc + 3, stack := rest }) target → Steps p.tables e below (T.setTop g) target := by
  obtain ⟨z, OS, hz⟩ := cmp
  obtain ⟨v, T', h', L, W', ⟨rfl, hL, hK, q1, q2, t, kb, -, -, -, q3, q4⟩, st⟩ := own_specB W hx (y := ⟨"java/lang/String", "<init>", "([C)V"⟩) (Q := fun v h' L => StrChars.Road.QV Z x N (cs.map fun c => c.toInt8.toInt32) h Z.heap.size v h' L) (kc := 1) (ks := cs.length) (ws := [x]) rfl w1 w2 w4 (by decide)
    (fun s' hZ' => StrChars.Road.backV hZ' hws wi hfr W.sz E V C K (OS.ext W.old) hz rfl hN l0 l2 hp rfl hf hlo)
    (fun v h' L q => ⟨q.2.1, q.2.2.1⟩) (allS Sf all0) (allS hfr all0) hce hsl hg hsize (a := x) (argsL := [.ref b]) (rest := rest) (lenOf (d := "([C)V") (ps := [.array .char]) (r := none) (by decide +kernel) rfl) hs rfl hW hd
  exact ⟨T', h', W', hK, ⟨q1, q2, hp, t, kb, q3, hN ▸ q4⟩, st⟩
end OwnStr
theorem own_al0 {α : Type} {P : α → Prop} : ∀ x ∈ ([] : List α), P x := fun _ q => nomatch q
theorem own_alS {α : Type} {P : α → Prop} {y : α} {L : List α} (q : P y) (r : ∀ x ∈ L, P x) : ∀ x ∈ y :: L, P x := fun x z => (List.mem_cons.mp z).elim (fun u => u ▸ q) (r x)
theorem own_c255 (x : Int32) : ¬ ((x &&& (255 : Int32)).toUInt32.toUInt16.toUInt32.toInt32) < 0 ∧ ¬ (255 : Int32) < ((x &&& (255 : Int32)).toUInt32.toUInt16.toUInt32.toInt32) := by
  have t : ∀ k : Fin 256, ¬ ((Int32.ofNat k.val).toUInt32.toUInt16.toUInt32.toInt32) < 0 ∧ ¬ (255 : Int32) < ((Int32.ofNat k.val).toUInt32.toUInt16.toUInt32.toInt32) := by decide +kernel
  have h : (x &&& 255).toBitVec.toNat < 256 := by
    simp only [Int32.toBitVec_and, BitVec.toNat_and]
    exact Nat.lt_succ_of_le Nat.and_le_right
  have e : (x &&& 255) = Int32.ofNat (x &&& 255).toBitVec.toNat := by
    apply Int32.toBitVec_inj.mp
    show _ = BitVec.ofNat 32 _
    rw [BitVec.ofNat_toNat]; simp
  rw [e]
  exact t ⟨_, h⟩
theorem own_bz {b : Int32} {P Q : Prop} (h : (b = 1 ∧ P) ∨ (b = 0 ∧ Q)) : narrow .boolean (.int b) = .int b ∧ fits .boolean (.int b) = true := by rcases h with ⟨rfl, -⟩ | ⟨rfl, -⟩ <;> exact ⟨rfl, by decide⟩
theorem own_oft {n : Nat} (h : n < 2147483648) : (Int32.ofNat n).toInt = n := Int32.toInt_ofNat_small h
theorem own_ltn {i n : Nat} (hi : i < 2147483648) (hn : n < 2147483648) : Int32.ofNat i < Int32.ofNat n ↔ i < n := by rw [Int32.lt_iff_toInt_lt, own_oft hi, own_oft hn]; omega
theorem own_inc (i : Nat) : Int32.ofNat i + (1 : Int32) = Int32.ofNat (i + 1) := by
  apply Int32.toBitVec_inj.mp
  show BitVec.ofNat 32 i + BitVec.ofNat 32 1 = BitVec.ofNat 32 (i + 1)
  rw [← BitVec.ofNat_add]
theorem own_gd {cs : List Int32} {P : Int32 → Prop} (h : ∀ c ∈ cs, P c) {i : Nat} (hi : i < cs.length) : P (cs.getD i 0) := by
  rw [List.getD_eq_getElem?_getD, List.getElem?_eq_getElem hi]; exact h _ (List.getElem_mem _)
theorem own_mask (x : Int32) : 0 ≤ (x &&& (2147483647 : Int32)).toInt := by
  have h : (x &&& 2147483647).toBitVec.toNat ≤ 2147483647 := by
    simp only [Int32.toBitVec_and, BitVec.toNat_and]
    exact Nat.and_le_right
  show 0 ≤ (x &&& 2147483647).toBitVec.toInt
  rw [BitVec.toInt_eq_toNat_cond]; split <;> omega
theorem own_modk (x k : Int32) (h : 0 < k.toInt) : 0 ≤ ((x &&& (2147483647 : Int32)) % k).toInt ∧ ((x &&& (2147483647 : Int32)) % k).toInt < k.toInt := by
  rw [Int32.toInt_mod]
  exact ⟨Int.tmod_nonneg _ (own_mask x), Int.tmod_lt_of_pos _ h⟩
theorem own_b8 (x : Int32) : (x.toInt8.toInt32).toInt8.toInt32 = x.toInt8.toInt32 := by simp
def own_EL : List (String × Nat) := [("java/lang/String", 7)]
def Cx (Z : State) (a0 : Array Value) : Prop := (∀ d ∈ tables_1, d.before a0 Z = true) ∧ EW Z a0 own_EL ∧ (∃ z : Int32, Sta Z Z.heap "java/lang/String" "COMPACT_STRINGS" "Z" (.int z) ∧ ¬ z = 0) ∧ (∃ z : Value, Sta Z Z.heap "jdk/internal/util/Preconditions" "SIOOBE_FORMATTER" "Ljava/util/function/BiFunction;" z ∧ z.isRef = true) ∧ (∃ z : Addr, Sta Z Z.heap "com/example/vorm/vorm/operations/ErrorReason" "RESOURCE_ALREADY_EXISTS" "Lcom/example/vorm/vorm/operations/ErrorReason;" (.ref z)) ∧ (∃ z : Addr, Sta Z Z.heap "com/example/vorm/vorm/operations/ErrorReason" "WRONG_COLLECTION" "Lcom/example/vorm/vorm/operations/ErrorReason;" (.ref z)) ∧ (∃ z : Addr, Sta Z Z.heap "com/example/vorm/vorm/operations/ErrorReason" "WRONG_PARENT" "Lcom/example/vorm/vorm/operations/ErrorReason;" (.ref z)) ∧ (∃ z : Addr, Sta Z Z.heap "com/example/vorm/vorm/operations/ErrorReason" "PARENT_NOT_FOUND" "Lcom/example/vorm/vorm/operations/ErrorReason;" (.ref z)) ∧ (∃ z : Addr, Sta Z Z.heap "com/example/vorm/vorm/operations/ErrorReason" "PARENT_DELETED" "Lcom/example/vorm/vorm/operations/ErrorReason;" (.ref z)) ∧ (∃ z : Addr, Sta Z Z.heap "com/example/vorm/vorm/operations/ErrorReason" "INVALID_RESOURCE" "Lcom/example/vorm/vorm/operations/ErrorReason;" (.ref z))
theorem Cx.hw {Z : State} {a0 : Array Value} (C : Cx Z a0) : (∀ d ∈ tables_1, d.before a0 Z = true) := C.1
theorem Cx.ew {Z : State} {a0 : Array Value} (C : Cx Z a0) : EW Z a0 own_EL := C.2.1
theorem Cx.cs {Z : State} {a0 : Array Value} (C : Cx Z a0) : (∃ z : Int32, Sta Z Z.heap "java/lang/String" "COMPACT_STRINGS" "Z" (.int z) ∧ ¬ z = 0) := C.2.2.1
theorem Cx.sf {Z : State} {a0 : Array Value} (C : Cx Z a0) : (∃ z : Value, Sta Z Z.heap "jdk/internal/util/Preconditions" "SIOOBE_FORMATTER" "Ljava/util/function/BiFunction;" z ∧ z.isRef = true) := C.2.2.2.1
theorem Cx.s0 {Z : State} {a0 : Array Value} (C : Cx Z a0) : (∃ z : Addr, Sta Z Z.heap "com/example/vorm/vorm/operations/ErrorReason" "RESOURCE_ALREADY_EXISTS" "Lcom/example/vorm/vorm/operations/ErrorReason;" (.ref z)) := C.2.2.2.2.1
theorem Cx.s1 {Z : State} {a0 : Array Value} (C : Cx Z a0) : (∃ z : Addr, Sta Z Z.heap "com/example/vorm/vorm/operations/ErrorReason" "WRONG_COLLECTION" "Lcom/example/vorm/vorm/operations/ErrorReason;" (.ref z)) := C.2.2.2.2.2.1
theorem Cx.s2 {Z : State} {a0 : Array Value} (C : Cx Z a0) : (∃ z : Addr, Sta Z Z.heap "com/example/vorm/vorm/operations/ErrorReason" "WRONG_PARENT" "Lcom/example/vorm/vorm/operations/ErrorReason;" (.ref z)) := C.2.2.2.2.2.2.1
theorem Cx.s3 {Z : State} {a0 : Array Value} (C : Cx Z a0) : (∃ z : Addr, Sta Z Z.heap "com/example/vorm/vorm/operations/ErrorReason" "PARENT_NOT_FOUND" "Lcom/example/vorm/vorm/operations/ErrorReason;" (.ref z)) := C.2.2.2.2.2.2.2.1
theorem Cx.s4 {Z : State} {a0 : Array Value} (C : Cx Z a0) : (∃ z : Addr, Sta Z Z.heap "com/example/vorm/vorm/operations/ErrorReason" "PARENT_DELETED" "Lcom/example/vorm/vorm/operations/ErrorReason;" (.ref z)) := C.2.2.2.2.2.2.2.2.1
theorem Cx.s5 {Z : State} {a0 : Array Value} (C : Cx Z a0) : (∃ z : Addr, Sta Z Z.heap "com/example/vorm/vorm/operations/ErrorReason" "INVALID_RESOURCE" "Lcom/example/vorm/vorm/operations/ErrorReason;" (.ref z)) := C.2.2.2.2.2.2.2.2.2
theorem own_ws {Z : State} {a0 : Array Value} (C : Cx Z a0) : ∀ d ∈ StrChars.Road.words, d.before a0 Z = true := fun d hd => C.1 d ((by decide +kernel : ∀ d ∈ StrChars.Road.words, d ∈ tables_1) d hd)
theorem own_wS {Z : State} {a0 : Array Value} (C : Cx Z a0) : ∀ d ∈ Bundle.stringAtoms, d.before a0 Z = true := fun d hd => C.1 d ((by decide +kernel : ∀ d ∈ Bundle.stringAtoms, d ∈ tables_1) d hd)
theorem w0 {Z : State} {a0 : Array Value} (C : Cx Z a0) : (Jvm.Cond.methodLink "com/example/vorm/vorm/operations/ImportItemRefusedPinLaw" (7 : Nat) ({ cls := "com/example/vorm/vorm/operations/ImportItemRefusedPinLaw", name := "drawn", desc := "(II)Ljava/lang/String;" } : Jvm.MethodName)).before a0 Z = true := C.1 _ (List.mem_of_getElem? (i := 0) rfl)
theorem w1 {Z : State} {a0 : Array Value} (C : Cx Z a0) : (Jvm.Cond.static ({ cls := "com/example/vorm/vorm/operations/ImportItemRefusedPinLaw", name := "drawn", desc := "(II)Ljava/lang/String;" } : Jvm.MethodName)).before a0 Z = true := C.1 _ (List.mem_of_getElem? (i := 1) rfl)
theorem w2 {Z : State} {a0 : Array Value} (C : Cx Z a0) : (Jvm.Cond.initialized "com/example/vorm/vorm/operations/ImportItemRefusedPinLaw").before a0 Z = true := C.1 _ (List.mem_of_getElem? (i := 2) rfl)
theorem w3 {Z : State} {a0 : Array Value} (C : Cx Z a0) : (Jvm.Cond.code ({ cls := "com/example/vorm/vorm/operations/ImportItemRefusedPinLaw", name := "drawn", desc := "(II)Ljava/lang/String;" } : Jvm.MethodName) method_3_code (4 : Nat) (Option.some (Jvm.ClassFile.FieldType.object "java/lang/String"))).before a0 Z = true := C.1 _ (List.mem_of_getElem? (i := 3) rfl)
theorem w4 {Z : State} {a0 : Array Value} (C : Cx Z a0) : (Jvm.Cond.classLink "com/example/vorm/vorm/operations/ImportItemRefusedPinLaw" (38 : Nat) "java/lang/String").before a0 Z = true := C.1 _ (List.mem_of_getElem? (i := 4) rfl)
theorem w5 {Z : State} {a0 : Array Value} (C : Cx Z a0) : (Jvm.Cond.instantiable "java/lang/String" (4 : Nat)).before a0 Z = true := C.1 _ (List.mem_of_getElem? (i := 5) rfl)
theorem w6 {Z : State} {a0 : Array Value} (C : Cx Z a0) : (Jvm.Cond.initialized "java/lang/String").before a0 Z = true := C.1 _ (List.mem_of_getElem? (i := 6) rfl)
theorem w7 {Z : State} {a0 : Array Value} (C : Cx Z a0) : (Jvm.Cond.arrayClass Jvm.ClassFile.FieldType.char).before a0 Z = true := C.1 _ (List.mem_of_getElem? (i := 7) rfl)
theorem w8 {Z : State} {a0 : Array Value} (C : Cx Z a0) : (Jvm.Cond.methodLink "com/example/vorm/vorm/operations/ImportItemRefusedPinLaw" (40 : Nat) ({ cls := "java/lang/String", name := "<init>", desc := "([C)V" } : Jvm.MethodName)).before a0 Z = true := C.1 _ (List.mem_of_getElem? (i := 8) rfl)
theorem w9 {Z : State} {a0 : Array Value} (C : Cx Z a0) : (Jvm.Cond.instanceMethod ({ cls := "java/lang/String", name := "<init>", desc := "([C)V" } : Jvm.MethodName)).before a0 Z = true := C.1 _ (List.mem_of_getElem? (i := 9) rfl)
theorem w10 {Z : State} {a0 : Array Value} (C : Cx Z a0) : (Jvm.Cond.code ({ cls := "java/lang/String", name := "<init>", desc := "([C)V" } : Jvm.MethodName) jdk_42_method_3_code (2 : Nat) (Option.none : Option Jvm.ClassFile.FieldType)).before a0 Z = true := C.1 _ (List.mem_of_getElem? (i := 10) rfl)
theorem w11 {Z : State} {a0 : Array Value} (C : Cx Z a0) : (Jvm.Cond.methodLink "java/lang/String" (27 : Nat) ({ cls := "java/lang/String", name := "<init>", desc := "([CIILjava/lang/Void;)V" } : Jvm.MethodName)).before a0 Z = true := C.1 _ (List.mem_of_getElem? (i := 11) rfl)
theorem w12 {Z : State} {a0 : Array Value} (C : Cx Z a0) : (Jvm.Cond.instanceMethod ({ cls := "java/lang/String", name := "<init>", desc := "([CIILjava/lang/Void;)V" } : Jvm.MethodName)).before a0 Z = true := C.1 _ (List.mem_of_getElem? (i := 12) rfl)
theorem w14 {Z : State} {a0 : Array Value} (C : Cx Z a0) : (Jvm.Cond.code ({ cls := "java/lang/String", name := "<init>", desc := "([CIILjava/lang/Void;)V" } : Jvm.MethodName) jdk_42_method_149_code (6 : Nat) (Option.none : Option Jvm.ClassFile.FieldType)).before a0 Z = true := C.1 _ (List.mem_of_getElem? (i := 14) rfl)
theorem w15 {Z : State} {a0 : Array Value} (C : Cx Z a0) : (Jvm.Cond.methodLink "java/lang/String" (1 : Nat) ({ cls := "java/lang/Object", name := "<init>", desc := "()V" } : Jvm.MethodName)).before a0 Z = true := C.1 _ (List.mem_of_getElem? (i := 15) rfl)
theorem w16 {Z : State} {a0 : Array Value} (C : Cx Z a0) : (Jvm.Cond.instanceMethod ({ cls := "java/lang/Object", name := "<init>", desc := "()V" } : Jvm.MethodName)).before a0 Z = true := C.1 _ (List.mem_of_getElem? (i := 16) rfl)
theorem w17 {Z : State} {a0 : Array Value} (C : Cx Z a0) : (Jvm.Cond.code ({ cls := "java/lang/Object", name := "<init>", desc := "()V" } : Jvm.MethodName) object_method_1_code (1 : Nat) (Option.none : Option Jvm.ClassFile.FieldType)).before a0 Z = true := C.1 _ (List.mem_of_getElem? (i := 17) rfl)
theorem w18 {Z : State} {a0 : Array Value} (C : Cx Z a0) : (Jvm.Cond.stringLink "java/lang/String" (7 : Nat) "").before a0 Z = true := C.1 _ (List.mem_of_getElem? (i := 18) rfl)
theorem w20 {Z : State} {a0 : Array Value} (C : Cx Z a0) : (Jvm.Cond.laysFinal "java/lang/String" "java/lang/String" "value" "[B").before a0 Z = true := C.1 _ (List.mem_of_getElem? (i := 20) rfl)
theorem w21 {Z : State} {a0 : Array Value} (C : Cx Z a0) : (Jvm.Cond.laysFinal "java/lang/String" "java/lang/String" "coder" "B").before a0 Z = true := C.1 _ (List.mem_of_getElem? (i := 21) rfl)
theorem w24 {Z : State} {a0 : Array Value} (C : Cx Z a0) : (Jvm.Cond.fieldLink "java/lang/String" (9 : Nat) "java/lang/String" "value" "[B").before a0 Z = true := C.1 _ (List.mem_of_getElem? (i := 24) rfl)
theorem w25 {Z : State} {a0 : Array Value} (C : Cx Z a0) : (Jvm.Cond.fieldLink "java/lang/String" (15 : Nat) "java/lang/String" "coder" "B").before a0 Z = true := C.1 _ (List.mem_of_getElem? (i := 25) rfl)
theorem w26 {Z : State} {a0 : Array Value} (C : Cx Z a0) : (Jvm.Cond.methodLink "com/example/vorm/vorm/operations/ImportItemRefusedPinLaw" (13 : Nat) ({ cls := "com/example/vorm/vorm/operations/ImportItemRefusedPinLaw", name := "pick", desc := "(I)Lcom/example/vorm/vorm/operations/ErrorReason;" } : Jvm.MethodName)).before a0 Z = true := C.1 _ (List.mem_of_getElem? (i := 26) rfl)
theorem w27 {Z : State} {a0 : Array Value} (C : Cx Z a0) : (Jvm.Cond.static ({ cls := "com/example/vorm/vorm/operations/ImportItemRefusedPinLaw", name := "pick", desc := "(I)Lcom/example/vorm/vorm/operations/ErrorReason;" } : Jvm.MethodName)).before a0 Z = true := C.1 _ (List.mem_of_getElem? (i := 27) rfl)
theorem w28 {Z : State} {a0 : Array Value} (C : Cx Z a0) : (Jvm.Cond.code ({ cls := "com/example/vorm/vorm/operations/ImportItemRefusedPinLaw", name := "pick", desc := "(I)Lcom/example/vorm/vorm/operations/ErrorReason;" } : Jvm.MethodName) method_4_code (2 : Nat) (Option.some (Jvm.ClassFile.FieldType.object "com/example/vorm/vorm/operations/ErrorReason"))).before a0 Z = true := C.1 _ (List.mem_of_getElem? (i := 28) rfl)
theorem w29 {Z : State} {a0 : Array Value} (C : Cx Z a0) : (Jvm.Cond.constant "com/example/vorm/vorm/operations/ImportItemRefusedPinLaw" (43 : Nat) (2147483647 : Int32)).before a0 Z = true := C.1 _ (List.mem_of_getElem? (i := 29) rfl)
theorem w30 {Z : State} {a0 : Array Value} (C : Cx Z a0) : (Jvm.Cond.fieldLink "com/example/vorm/vorm/operations/ImportItemRefusedPinLaw" (53 : Nat) "com/example/vorm/vorm/operations/ErrorReason" "WRONG_PARENT" "Lcom/example/vorm/vorm/operations/ErrorReason;").before a0 Z = true := C.1 _ (List.mem_of_getElem? (i := 30) rfl)
theorem w33 {Z : State} {a0 : Array Value} (C : Cx Z a0) : (Jvm.Cond.methodLink "com/example/vorm/vorm/operations/ImportItemRefusedPinLaw" (17 : Nat) ({ cls := "com/example/vorm/vorm/operations/ImportItem", name := "refused", desc := "(Ljava/lang/String;Lcom/example/vorm/vorm/operations/ErrorReason;Ljava/lang/String;)Lcom/example/vorm/vorm/operations/ImportItem;" } : Jvm.MethodName)).before a0 Z = true := C.1 _ (List.mem_of_getElem? (i := 33) rfl)
theorem w34 {Z : State} {a0 : Array Value} (C : Cx Z a0) : (Jvm.Cond.static ({ cls := "com/example/vorm/vorm/operations/ImportItem", name := "refused", desc := "(Ljava/lang/String;Lcom/example/vorm/vorm/operations/ErrorReason;Ljava/lang/String;)Lcom/example/vorm/vorm/operations/ImportItem;" } : Jvm.MethodName)).before a0 Z = true := C.1 _ (List.mem_of_getElem? (i := 34) rfl)
theorem w35 {Z : State} {a0 : Array Value} (C : Cx Z a0) : (Jvm.Cond.initialized "com/example/vorm/vorm/operations/ImportItem").before a0 Z = true := C.1 _ (List.mem_of_getElem? (i := 35) rfl)
theorem w36 {Z : State} {a0 : Array Value} (C : Cx Z a0) : (Jvm.Cond.code ({ cls := "com/example/vorm/vorm/operations/ImportItem", name := "refused", desc := "(Ljava/lang/String;Lcom/example/vorm/vorm/operations/ErrorReason;Ljava/lang/String;)Lcom/example/vorm/vorm/operations/ImportItem;" } : Jvm.MethodName) prog_12_method_3_code (3 : Nat) (Option.some (Jvm.ClassFile.FieldType.object "com/example/vorm/vorm/operations/ImportItem"))).before a0 Z = true := C.1 _ (List.mem_of_getElem? (i := 36) rfl)
theorem w37 {Z : State} {a0 : Array Value} (C : Cx Z a0) : (Jvm.Cond.classLink "com/example/vorm/vorm/operations/ImportItem" (8 : Nat) "com/example/vorm/vorm/operations/ImportItem").before a0 Z = true := C.1 _ (List.mem_of_getElem? (i := 37) rfl)
theorem w38 {Z : State} {a0 : Array Value} (C : Cx Z a0) : (Jvm.Cond.instantiable "com/example/vorm/vorm/operations/ImportItem" (4 : Nat)).before a0 Z = true := C.1 _ (List.mem_of_getElem? (i := 38) rfl)
theorem w39 {Z : State} {a0 : Array Value} (C : Cx Z a0) : (Jvm.Cond.methodLink "com/example/vorm/vorm/operations/ImportItem" (29 : Nat) ({ cls := "com/example/vorm/vorm/operations/ImportItem", name := "<init>", desc := "(Ljava/lang/String;Lcom/example/vorm/vorm/store/NewResource;Lcom/example/vorm/vorm/operations/ErrorReason;Ljava/lang/String;)V" } : Jvm.MethodName)).before a0 Z = true := C.1 _ (List.mem_of_getElem? (i := 39) rfl)
theorem w40 {Z : State} {a0 : Array Value} (C : Cx Z a0) : (Jvm.Cond.instanceMethod ({ cls := "com/example/vorm/vorm/operations/ImportItem", name := "<init>", desc := "(Ljava/lang/String;Lcom/example/vorm/vorm/store/NewResource;Lcom/example/vorm/vorm/operations/ErrorReason;Ljava/lang/String;)V" } : Jvm.MethodName)).before a0 Z = true := C.1 _ (List.mem_of_getElem? (i := 40) rfl)
theorem w41 {Z : State} {a0 : Array Value} (C : Cx Z a0) : (Jvm.Cond.code ({ cls := "com/example/vorm/vorm/operations/ImportItem", name := "<init>", desc := "(Ljava/lang/String;Lcom/example/vorm/vorm/store/NewResource;Lcom/example/vorm/vorm/operations/ErrorReason;Ljava/lang/String;)V" } : Jvm.MethodName) prog_12_method_1_code (5 : Nat) (Option.none : Option Jvm.ClassFile.FieldType)).before a0 Z = true := C.1 _ (List.mem_of_getElem? (i := 41) rfl)
theorem w42 {Z : State} {a0 : Array Value} (C : Cx Z a0) : (Jvm.Cond.methodLink "com/example/vorm/vorm/operations/ImportItem" (1 : Nat) ({ cls := "java/lang/Object", name := "<init>", desc := "()V" } : Jvm.MethodName)).before a0 Z = true := C.1 _ (List.mem_of_getElem? (i := 42) rfl)
theorem w43 {Z : State} {a0 : Array Value} (C : Cx Z a0) : (Jvm.Cond.fieldLink "com/example/vorm/vorm/operations/ImportItem" (7 : Nat) "com/example/vorm/vorm/operations/ImportItem" "name" "Ljava/lang/String;").before a0 Z = true := C.1 _ (List.mem_of_getElem? (i := 43) rfl)
theorem w44 {Z : State} {a0 : Array Value} (C : Cx Z a0) : (Jvm.Cond.laysFinal "com/example/vorm/vorm/operations/ImportItem" "com/example/vorm/vorm/operations/ImportItem" "name" "Ljava/lang/String;").before a0 Z = true := C.1 _ (List.mem_of_getElem? (i := 44) rfl)
theorem w45 {Z : State} {a0 : Array Value} (C : Cx Z a0) : (Jvm.Cond.fieldLink "com/example/vorm/vorm/operations/ImportItem" (13 : Nat) "com/example/vorm/vorm/operations/ImportItem" "resource" "Lcom/example/vorm/vorm/store/NewResource;").before a0 Z = true := C.1 _ (List.mem_of_getElem? (i := 45) rfl)
theorem w46 {Z : State} {a0 : Array Value} (C : Cx Z a0) : (Jvm.Cond.laysFinal "com/example/vorm/vorm/operations/ImportItem" "com/example/vorm/vorm/operations/ImportItem" "resource" "Lcom/example/vorm/vorm/store/NewResource;").before a0 Z = true := C.1 _ (List.mem_of_getElem? (i := 46) rfl)
theorem w47 {Z : State} {a0 : Array Value} (C : Cx Z a0) : (Jvm.Cond.fieldLink "com/example/vorm/vorm/operations/ImportItem" (17 : Nat) "com/example/vorm/vorm/operations/ImportItem" "reason" "Lcom/example/vorm/vorm/operations/ErrorReason;").before a0 Z = true := C.1 _ (List.mem_of_getElem? (i := 47) rfl)
theorem w48 {Z : State} {a0 : Array Value} (C : Cx Z a0) : (Jvm.Cond.laysFinal "com/example/vorm/vorm/operations/ImportItem" "com/example/vorm/vorm/operations/ImportItem" "reason" "Lcom/example/vorm/vorm/operations/ErrorReason;").before a0 Z = true := C.1 _ (List.mem_of_getElem? (i := 48) rfl)
theorem w49 {Z : State} {a0 : Array Value} (C : Cx Z a0) : (Jvm.Cond.fieldLink "com/example/vorm/vorm/operations/ImportItem" (21 : Nat) "com/example/vorm/vorm/operations/ImportItem" "message" "Ljava/lang/String;").before a0 Z = true := C.1 _ (List.mem_of_getElem? (i := 49) rfl)
theorem w50 {Z : State} {a0 : Array Value} (C : Cx Z a0) : (Jvm.Cond.laysFinal "com/example/vorm/vorm/operations/ImportItem" "com/example/vorm/vorm/operations/ImportItem" "message" "Ljava/lang/String;").before a0 Z = true := C.1 _ (List.mem_of_getElem? (i := 50) rfl)
theorem w51 {Z : State} {a0 : Array Value} (C : Cx Z a0) : (Jvm.Cond.methodLink "com/example/vorm/vorm/operations/ImportItemRefusedPinLaw" (23 : Nat) ({ cls := "com/example/vorm/vorm/operations/ImportItem", name := "name", desc := "()Ljava/lang/String;" } : Jvm.MethodName)).before a0 Z = true := C.1 _ (List.mem_of_getElem? (i := 51) rfl)
theorem w52 {Z : State} {a0 : Array Value} (C : Cx Z a0) : (Jvm.Cond.declares ({ cls := "com/example/vorm/vorm/operations/ImportItem", name := "name", desc := "()Ljava/lang/String;" } : Jvm.MethodName)).before a0 Z = true := C.1 _ (List.mem_of_getElem? (i := 52) rfl)
theorem w53 {Z : State} {a0 : Array Value} (C : Cx Z a0) : (Jvm.Cond.instanceMethod ({ cls := "com/example/vorm/vorm/operations/ImportItem", name := "name", desc := "()Ljava/lang/String;" } : Jvm.MethodName)).before a0 Z = true := C.1 _ (List.mem_of_getElem? (i := 53) rfl)
theorem w54 {Z : State} {a0 : Array Value} (C : Cx Z a0) : (Jvm.Cond.selects "com/example/vorm/vorm/operations/ImportItem" ({ cls := "com/example/vorm/vorm/operations/ImportItem", name := "name", desc := "()Ljava/lang/String;" } : Jvm.MethodName) ({ cls := "com/example/vorm/vorm/operations/ImportItem", name := "name", desc := "()Ljava/lang/String;" } : Jvm.MethodName)).before a0 Z = true := C.1 _ (List.mem_of_getElem? (i := 54) rfl)
theorem w55 {Z : State} {a0 : Array Value} (C : Cx Z a0) : (Jvm.Cond.code ({ cls := "com/example/vorm/vorm/operations/ImportItem", name := "name", desc := "()Ljava/lang/String;" } : Jvm.MethodName) prog_12_method_4_code (1 : Nat) (Option.some (Jvm.ClassFile.FieldType.object "java/lang/String"))).before a0 Z = true := C.1 _ (List.mem_of_getElem? (i := 55) rfl)
theorem w56 {Z : State} {a0 : Array Value} (C : Cx Z a0) : (Jvm.Cond.methodLink "com/example/vorm/vorm/operations/ImportItemRefusedPinLaw" (27 : Nat) ({ cls := "com/example/vorm/vorm/operations/ImportItem", name := "resource", desc := "()Lcom/example/vorm/vorm/store/NewResource;" } : Jvm.MethodName)).before a0 Z = true := C.1 _ (List.mem_of_getElem? (i := 56) rfl)
theorem w57 {Z : State} {a0 : Array Value} (C : Cx Z a0) : (Jvm.Cond.declares ({ cls := "com/example/vorm/vorm/operations/ImportItem", name := "resource", desc := "()Lcom/example/vorm/vorm/store/NewResource;" } : Jvm.MethodName)).before a0 Z = true := C.1 _ (List.mem_of_getElem? (i := 57) rfl)
theorem w58 {Z : State} {a0 : Array Value} (C : Cx Z a0) : (Jvm.Cond.instanceMethod ({ cls := "com/example/vorm/vorm/operations/ImportItem", name := "resource", desc := "()Lcom/example/vorm/vorm/store/NewResource;" } : Jvm.MethodName)).before a0 Z = true := C.1 _ (List.mem_of_getElem? (i := 58) rfl)
theorem w59 {Z : State} {a0 : Array Value} (C : Cx Z a0) : (Jvm.Cond.selects "com/example/vorm/vorm/operations/ImportItem" ({ cls := "com/example/vorm/vorm/operations/ImportItem", name := "resource", desc := "()Lcom/example/vorm/vorm/store/NewResource;" } : Jvm.MethodName) ({ cls := "com/example/vorm/vorm/operations/ImportItem", name := "resource", desc := "()Lcom/example/vorm/vorm/store/NewResource;" } : Jvm.MethodName)).before a0 Z = true := C.1 _ (List.mem_of_getElem? (i := 59) rfl)
theorem w60 {Z : State} {a0 : Array Value} (C : Cx Z a0) : (Jvm.Cond.code ({ cls := "com/example/vorm/vorm/operations/ImportItem", name := "resource", desc := "()Lcom/example/vorm/vorm/store/NewResource;" } : Jvm.MethodName) prog_12_method_5_code (1 : Nat) (Option.some (Jvm.ClassFile.FieldType.object "com/example/vorm/vorm/store/NewResource"))).before a0 Z = true := C.1 _ (List.mem_of_getElem? (i := 60) rfl)
theorem w61 {Z : State} {a0 : Array Value} (C : Cx Z a0) : (Jvm.Cond.methodLink "com/example/vorm/vorm/operations/ImportItemRefusedPinLaw" (31 : Nat) ({ cls := "com/example/vorm/vorm/operations/ImportItem", name := "reason", desc := "()Lcom/example/vorm/vorm/operations/ErrorReason;" } : Jvm.MethodName)).before a0 Z = true := C.1 _ (List.mem_of_getElem? (i := 61) rfl)
theorem w62 {Z : State} {a0 : Array Value} (C : Cx Z a0) : (Jvm.Cond.declares ({ cls := "com/example/vorm/vorm/operations/ImportItem", name := "reason", desc := "()Lcom/example/vorm/vorm/operations/ErrorReason;" } : Jvm.MethodName)).before a0 Z = true := C.1 _ (List.mem_of_getElem? (i := 62) rfl)
theorem w63 {Z : State} {a0 : Array Value} (C : Cx Z a0) : (Jvm.Cond.instanceMethod ({ cls := "com/example/vorm/vorm/operations/ImportItem", name := "reason", desc := "()Lcom/example/vorm/vorm/operations/ErrorReason;" } : Jvm.MethodName)).before a0 Z = true := C.1 _ (List.mem_of_getElem? (i := 63) rfl)
theorem w64 {Z : State} {a0 : Array Value} (C : Cx Z a0) : (Jvm.Cond.selects "com/example/vorm/vorm/operations/ImportItem" ({ cls := "com/example/vorm/vorm/operations/ImportItem", name := "reason", desc := "()Lcom/example/vorm/vorm/operations/ErrorReason;" } : Jvm.MethodName) ({ cls := "com/example/vorm/vorm/operations/ImportItem", name := "reason", desc := "()Lcom/example/vorm/vorm/operations/ErrorReason;" } : Jvm.MethodName)).before a0 Z = true := C.1 _ (List.mem_of_getElem? (i := 64) rfl)
theorem w65 {Z : State} {a0 : Array Value} (C : Cx Z a0) : (Jvm.Cond.code ({ cls := "com/example/vorm/vorm/operations/ImportItem", name := "reason", desc := "()Lcom/example/vorm/vorm/operations/ErrorReason;" } : Jvm.MethodName) prog_12_method_6_code (1 : Nat) (Option.some (Jvm.ClassFile.FieldType.object "com/example/vorm/vorm/operations/ErrorReason"))).before a0 Z = true := C.1 _ (List.mem_of_getElem? (i := 65) rfl)
theorem w66 {Z : State} {a0 : Array Value} (C : Cx Z a0) : (Jvm.Cond.methodLink "com/example/vorm/vorm/operations/ImportItemRefusedPinLaw" (35 : Nat) ({ cls := "com/example/vorm/vorm/operations/ImportItem", name := "message", desc := "()Ljava/lang/String;" } : Jvm.MethodName)).before a0 Z = true := C.1 _ (List.mem_of_getElem? (i := 66) rfl)
theorem w67 {Z : State} {a0 : Array Value} (C : Cx Z a0) : (Jvm.Cond.declares ({ cls := "com/example/vorm/vorm/operations/ImportItem", name := "message", desc := "()Ljava/lang/String;" } : Jvm.MethodName)).before a0 Z = true := C.1 _ (List.mem_of_getElem? (i := 67) rfl)
theorem w68 {Z : State} {a0 : Array Value} (C : Cx Z a0) : (Jvm.Cond.instanceMethod ({ cls := "com/example/vorm/vorm/operations/ImportItem", name := "message", desc := "()Ljava/lang/String;" } : Jvm.MethodName)).before a0 Z = true := C.1 _ (List.mem_of_getElem? (i := 68) rfl)
theorem w69 {Z : State} {a0 : Array Value} (C : Cx Z a0) : (Jvm.Cond.selects "com/example/vorm/vorm/operations/ImportItem" ({ cls := "com/example/vorm/vorm/operations/ImportItem", name := "message", desc := "()Ljava/lang/String;" } : Jvm.MethodName) ({ cls := "com/example/vorm/vorm/operations/ImportItem", name := "message", desc := "()Ljava/lang/String;" } : Jvm.MethodName)).before a0 Z = true := C.1 _ (List.mem_of_getElem? (i := 69) rfl)
theorem w70 {Z : State} {a0 : Array Value} (C : Cx Z a0) : (Jvm.Cond.code ({ cls := "com/example/vorm/vorm/operations/ImportItem", name := "message", desc := "()Ljava/lang/String;" } : Jvm.MethodName) prog_12_method_7_code (1 : Nat) (Option.some (Jvm.ClassFile.FieldType.object "java/lang/String"))).before a0 Z = true := C.1 _ (List.mem_of_getElem? (i := 70) rfl)
theorem w82 {Z : State} {a0 : Array Value} (C : Cx Z a0) : (Jvm.Cond.fieldLink "com/example/vorm/vorm/operations/ImportItemRefusedPinLaw" (59 : Nat) "com/example/vorm/vorm/operations/ErrorReason" "PARENT_DELETED" "Lcom/example/vorm/vorm/operations/ErrorReason;").before a0 Z = true := C.1 _ (List.mem_of_getElem? (i := 82) rfl)
theorem w84 {Z : State} {a0 : Array Value} (C : Cx Z a0) : (Jvm.Cond.fieldLink "com/example/vorm/vorm/operations/ImportItemRefusedPinLaw" (62 : Nat) "com/example/vorm/vorm/operations/ErrorReason" "INVALID_RESOURCE" "Lcom/example/vorm/vorm/operations/ErrorReason;").before a0 Z = true := C.1 _ (List.mem_of_getElem? (i := 84) rfl)
theorem w86 {Z : State} {a0 : Array Value} (C : Cx Z a0) : (Jvm.Cond.fieldLink "com/example/vorm/vorm/operations/ImportItemRefusedPinLaw" (50 : Nat) "com/example/vorm/vorm/operations/ErrorReason" "WRONG_COLLECTION" "Lcom/example/vorm/vorm/operations/ErrorReason;").before a0 Z = true := C.1 _ (List.mem_of_getElem? (i := 86) rfl)
theorem w88 {Z : State} {a0 : Array Value} (C : Cx Z a0) : (Jvm.Cond.fieldLink "com/example/vorm/vorm/operations/ImportItemRefusedPinLaw" (44 : Nat) "com/example/vorm/vorm/operations/ErrorReason" "RESOURCE_ALREADY_EXISTS" "Lcom/example/vorm/vorm/operations/ErrorReason;").before a0 Z = true := C.1 _ (List.mem_of_getElem? (i := 88) rfl)
theorem w90 {Z : State} {a0 : Array Value} (C : Cx Z a0) : (Jvm.Cond.fieldLink "com/example/vorm/vorm/operations/ImportItemRefusedPinLaw" (56 : Nat) "com/example/vorm/vorm/operations/ErrorReason" "PARENT_NOT_FOUND" "Lcom/example/vorm/vorm/operations/ErrorReason;").before a0 Z = true := C.1 _ (List.mem_of_getElem? (i := 90) rfl)
theorem d0_0 : decode jdk_42_method_149_code 0 = .ok (.aload_n 0, 1) := by decide +kernel
theorem d0_1 : decode jdk_42_method_149_code 1 = .ok (.invokespecial 1, 3) := by decide +kernel
theorem d0_11 : decode jdk_42_method_149_code 11 = .ok (.getfield 9, 3) := by decide +kernel
theorem d0_14 : decode jdk_42_method_149_code 14 = .ok (.putfield 9, 3) := by decide +kernel
theorem d0_17 : decode jdk_42_method_149_code 17 = .ok (.aload_n 0, 1) := by decide +kernel
theorem d0_18 : decode jdk_42_method_149_code 18 = .ok (.ldc 7, 2) := by decide +kernel
theorem d0_20 : decode jdk_42_method_149_code 20 = .ok (.getfield 15, 3) := by decide +kernel
theorem d0_23 : decode jdk_42_method_149_code 23 = .ok (.putfield 15, 3) := by decide +kernel
theorem d0_26 : decode jdk_42_method_149_code 26 = .ok (.return_, 1) := by decide +kernel
theorem d0_4 : decode jdk_42_method_149_code 4 = .ok (.iload_n 3, 1) := by decide +kernel
theorem d0_5 : decode jdk_42_method_149_code 5 = .ok (.ifCond .ne 22, 3) := by decide +kernel
theorem d0_8 : decode jdk_42_method_149_code 8 = .ok (.aload_n 0, 1) := by decide +kernel
theorem d0_9 : decode jdk_42_method_149_code 9 = .ok (.ldc 7, 2) := by decide +kernel
theorem d1_0 : decode jdk_42_method_3_code 0 = .ok (.aload_n 0, 1) := by decide +kernel
theorem d1_1 : decode jdk_42_method_3_code 1 = .ok (.aload_n 1, 1) := by decide +kernel
theorem d1_2 : decode jdk_42_method_3_code 2 = .ok (.iconst 0, 1) := by decide +kernel
theorem d1_3 : decode jdk_42_method_3_code 3 = .ok (.aload_n 1, 1) := by decide +kernel
theorem d1_4 : decode jdk_42_method_3_code 4 = .ok (.arraylength, 1) := by decide +kernel
theorem d1_5 : decode jdk_42_method_3_code 5 = .ok (.aconst_null, 1) := by decide +kernel
theorem d1_6 : decode jdk_42_method_3_code 6 = .ok (.invokespecial 27, 3) := by decide +kernel
theorem d1_9 : decode jdk_42_method_3_code 9 = .ok (.return_, 1) := by decide +kernel
theorem d2_0 : decode method_3_code 0 = .ok (.iload_n 0, 1) := by decide +kernel
theorem d2_1 : decode method_3_code 1 = .ok (.sipush 255, 3) := by decide +kernel
theorem d2_10 : decode method_3_code 10 = .ok (.iushr, 1) := by decide +kernel
theorem d2_11 : decode method_3_code 11 = .ok (.sipush 255, 3) := by decide +kernel
theorem d2_14 : decode method_3_code 14 = .ok (.iand, 1) := by decide +kernel
theorem d2_15 : decode method_3_code 15 = .ok (.i2c, 1) := by decide +kernel
theorem d2_16 : decode method_3_code 16 = .ok (.istore_n 3, 1) := by decide +kernel
theorem d2_17 : decode method_3_code 17 = .ok (.iload_n 1, 1) := by decide +kernel
theorem d2_18 : decode method_3_code 18 = .ok (.ifCond .ne 14, 3) := by decide +kernel
theorem d2_21 : decode method_3_code 21 = .ok (.new 38, 3) := by decide +kernel
theorem d2_24 : decode method_3_code 24 = .ok (.dup, 1) := by decide +kernel
theorem d2_25 : decode method_3_code 25 = .ok (.iconst 0, 1) := by decide +kernel
theorem d2_26 : decode method_3_code 26 = .ok (.newarray .char, 2) := by decide +kernel
theorem d2_28 : decode method_3_code 28 = .ok (.invokespecial 40, 3) := by decide +kernel
theorem d2_31 : decode method_3_code 31 = .ok (.areturn, 1) := by decide +kernel
theorem d2_32 : decode method_3_code 32 = .ok (.iload_n 1, 1) := by decide +kernel
theorem d2_33 : decode method_3_code 33 = .ok (.iconst 1, 1) := by decide +kernel
theorem d2_34 : decode method_3_code 34 = .ok (.if_icmp .ne 18, 3) := by decide +kernel
theorem d2_37 : decode method_3_code 37 = .ok (.new 38, 3) := by decide +kernel
theorem d2_4 : decode method_3_code 4 = .ok (.iand, 1) := by decide +kernel
theorem d2_40 : decode method_3_code 40 = .ok (.dup, 1) := by decide +kernel
theorem d2_41 : decode method_3_code 41 = .ok (.iconst 1, 1) := by decide +kernel
theorem d2_42 : decode method_3_code 42 = .ok (.newarray .char, 2) := by decide +kernel
theorem d2_44 : decode method_3_code 44 = .ok (.dup, 1) := by decide +kernel
theorem d2_45 : decode method_3_code 45 = .ok (.iconst 0, 1) := by decide +kernel
theorem d2_46 : decode method_3_code 46 = .ok (.iload_n 2, 1) := by decide +kernel
theorem d2_47 : decode method_3_code 47 = .ok (.castore, 1) := by decide +kernel
theorem d2_48 : decode method_3_code 48 = .ok (.invokespecial 40, 3) := by decide +kernel
theorem d2_5 : decode method_3_code 5 = .ok (.i2c, 1) := by decide +kernel
theorem d2_51 : decode method_3_code 51 = .ok (.areturn, 1) := by decide +kernel
theorem d2_52 : decode method_3_code 52 = .ok (.new 38, 3) := by decide +kernel
theorem d2_55 : decode method_3_code 55 = .ok (.dup, 1) := by decide +kernel
theorem d2_56 : decode method_3_code 56 = .ok (.iconst 2, 1) := by decide +kernel
theorem d2_57 : decode method_3_code 57 = .ok (.newarray .char, 2) := by decide +kernel
theorem d2_59 : decode method_3_code 59 = .ok (.dup, 1) := by decide +kernel
theorem d2_6 : decode method_3_code 6 = .ok (.istore_n 2, 1) := by decide +kernel
theorem d2_60 : decode method_3_code 60 = .ok (.iconst 0, 1) := by decide +kernel
theorem d2_61 : decode method_3_code 61 = .ok (.iload_n 2, 1) := by decide +kernel
theorem d2_62 : decode method_3_code 62 = .ok (.castore, 1) := by decide +kernel
theorem d2_63 : decode method_3_code 63 = .ok (.dup, 1) := by decide +kernel
theorem d2_64 : decode method_3_code 64 = .ok (.iconst 1, 1) := by decide +kernel
theorem d2_65 : decode method_3_code 65 = .ok (.iload_n 3, 1) := by decide +kernel
theorem d2_66 : decode method_3_code 66 = .ok (.castore, 1) := by decide +kernel
theorem d2_67 : decode method_3_code 67 = .ok (.invokespecial 40, 3) := by decide +kernel
theorem d2_7 : decode method_3_code 7 = .ok (.iload_n 0, 1) := by decide +kernel
theorem d2_70 : decode method_3_code 70 = .ok (.areturn, 1) := by decide +kernel
theorem d2_8 : decode method_3_code 8 = .ok (.bipush 8, 2) := by decide +kernel
theorem d3_0 : decode method_4_code 0 = .ok (.iload_n 0, 1) := by decide +kernel
theorem d3_1 : decode method_4_code 1 = .ok (.ldc 43, 2) := by decide +kernel
theorem d3_12 : decode method_4_code 12 = .ok (.getstatic 44, 3) := by decide +kernel
theorem d3_15 : decode method_4_code 15 = .ok (.areturn, 1) := by decide +kernel
theorem d3_16 : decode method_4_code 16 = .ok (.iload_n 1, 1) := by decide +kernel
theorem d3_17 : decode method_4_code 17 = .ok (.iconst 1, 1) := by decide +kernel
theorem d3_18 : decode method_4_code 18 = .ok (.if_icmp .ne 7, 3) := by decide +kernel
theorem d3_21 : decode method_4_code 21 = .ok (.getstatic 50, 3) := by decide +kernel
theorem d3_24 : decode method_4_code 24 = .ok (.areturn, 1) := by decide +kernel
theorem d3_25 : decode method_4_code 25 = .ok (.iload_n 1, 1) := by decide +kernel
theorem d3_26 : decode method_4_code 26 = .ok (.iconst 2, 1) := by decide +kernel
theorem d3_27 : decode method_4_code 27 = .ok (.if_icmp .ne 7, 3) := by decide +kernel
theorem d3_3 : decode method_4_code 3 = .ok (.iand, 1) := by decide +kernel
theorem d3_30 : decode method_4_code 30 = .ok (.getstatic 53, 3) := by decide +kernel
theorem d3_33 : decode method_4_code 33 = .ok (.areturn, 1) := by decide +kernel
theorem d3_34 : decode method_4_code 34 = .ok (.iload_n 1, 1) := by decide +kernel
theorem d3_35 : decode method_4_code 35 = .ok (.iconst 3, 1) := by decide +kernel
theorem d3_36 : decode method_4_code 36 = .ok (.if_icmp .ne 7, 3) := by decide +kernel
theorem d3_39 : decode method_4_code 39 = .ok (.getstatic 56, 3) := by decide +kernel
theorem d3_4 : decode method_4_code 4 = .ok (.bipush 6, 2) := by decide +kernel
theorem d3_42 : decode method_4_code 42 = .ok (.areturn, 1) := by decide +kernel
theorem d3_43 : decode method_4_code 43 = .ok (.iload_n 1, 1) := by decide +kernel
theorem d3_44 : decode method_4_code 44 = .ok (.iconst 4, 1) := by decide +kernel
theorem d3_45 : decode method_4_code 45 = .ok (.if_icmp .ne 7, 3) := by decide +kernel
theorem d3_48 : decode method_4_code 48 = .ok (.getstatic 59, 3) := by decide +kernel
theorem d3_51 : decode method_4_code 51 = .ok (.areturn, 1) := by decide +kernel
theorem d3_52 : decode method_4_code 52 = .ok (.getstatic 62, 3) := by decide +kernel
theorem d3_55 : decode method_4_code 55 = .ok (.areturn, 1) := by decide +kernel
theorem d3_6 : decode method_4_code 6 = .ok (.irem, 1) := by decide +kernel
theorem d3_7 : decode method_4_code 7 = .ok (.istore_n 1, 1) := by decide +kernel
theorem d3_8 : decode method_4_code 8 = .ok (.iload_n 1, 1) := by decide +kernel
theorem d3_9 : decode method_4_code 9 = .ok (.ifCond .ne 7, 3) := by decide +kernel
theorem d4_0 : decode prog_12_method_1_code 0 = .ok (.aload_n 0, 1) := by decide +kernel
theorem d4_1 : decode prog_12_method_1_code 1 = .ok (.invokespecial 1, 3) := by decide +kernel
theorem d4_10 : decode prog_12_method_1_code 10 = .ok (.aload_n 2, 1) := by decide +kernel
theorem d4_11 : decode prog_12_method_1_code 11 = .ok (.putfield 13, 3) := by decide +kernel
theorem d4_14 : decode prog_12_method_1_code 14 = .ok (.aload_n 0, 1) := by decide +kernel
theorem d4_15 : decode prog_12_method_1_code 15 = .ok (.aload_n 3, 1) := by decide +kernel
theorem d4_16 : decode prog_12_method_1_code 16 = .ok (.putfield 17, 3) := by decide +kernel
theorem d4_19 : decode prog_12_method_1_code 19 = .ok (.aload_n 0, 1) := by decide +kernel
theorem d4_20 : decode prog_12_method_1_code 20 = .ok (.aload 4, 2) := by decide +kernel
theorem d4_22 : decode prog_12_method_1_code 22 = .ok (.putfield 21, 3) := by decide +kernel
theorem d4_25 : decode prog_12_method_1_code 25 = .ok (.return_, 1) := by decide +kernel
theorem d4_4 : decode prog_12_method_1_code 4 = .ok (.aload_n 0, 1) := by decide +kernel
theorem d4_5 : decode prog_12_method_1_code 5 = .ok (.aload_n 1, 1) := by decide +kernel
theorem d4_6 : decode prog_12_method_1_code 6 = .ok (.putfield 7, 3) := by decide +kernel
theorem d4_9 : decode prog_12_method_1_code 9 = .ok (.aload_n 0, 1) := by decide +kernel
theorem d5_0 : decode prog_12_method_3_code 0 = .ok (.new 8, 3) := by decide +kernel
theorem d5_11 : decode prog_12_method_3_code 11 = .ok (.areturn, 1) := by decide +kernel
theorem d5_3 : decode prog_12_method_3_code 3 = .ok (.dup, 1) := by decide +kernel
theorem d5_4 : decode prog_12_method_3_code 4 = .ok (.aload_n 0, 1) := by decide +kernel
theorem d5_5 : decode prog_12_method_3_code 5 = .ok (.aconst_null, 1) := by decide +kernel
theorem d5_6 : decode prog_12_method_3_code 6 = .ok (.aload_n 1, 1) := by decide +kernel
theorem d5_7 : decode prog_12_method_3_code 7 = .ok (.aload_n 2, 1) := by decide +kernel
theorem d5_8 : decode prog_12_method_3_code 8 = .ok (.invokespecial 29, 3) := by decide +kernel
theorem d6_0 : decode prog_12_method_4_code 0 = .ok (.aload_n 0, 1) := by decide +kernel
theorem d6_1 : decode prog_12_method_4_code 1 = .ok (.getfield 7, 3) := by decide +kernel
theorem d6_4 : decode prog_12_method_4_code 4 = .ok (.areturn, 1) := by decide +kernel
theorem d7_0 : decode prog_12_method_5_code 0 = .ok (.aload_n 0, 1) := by decide +kernel
theorem d7_1 : decode prog_12_method_5_code 1 = .ok (.getfield 13, 3) := by decide +kernel
theorem d7_4 : decode prog_12_method_5_code 4 = .ok (.areturn, 1) := by decide +kernel
theorem d8_0 : decode prog_12_method_6_code 0 = .ok (.aload_n 0, 1) := by decide +kernel
theorem d8_1 : decode prog_12_method_6_code 1 = .ok (.getfield 17, 3) := by decide +kernel
theorem d8_4 : decode prog_12_method_6_code 4 = .ok (.areturn, 1) := by decide +kernel
theorem d9_0 : decode prog_12_method_7_code 0 = .ok (.aload_n 0, 1) := by decide +kernel
theorem d9_1 : decode prog_12_method_7_code 1 = .ok (.getfield 21, 3) := by decide +kernel
theorem d9_4 : decode prog_12_method_7_code 4 = .ok (.areturn, 1) := by decide +kernel
theorem pd_0 : parseMethodDescriptor "([CIILjava/lang/Void;)V" = some ⟨[(.array .char), .int, .int, (.object "java/lang/Void")], none⟩ := by decide +kernel
theorem pd_1 : parseMethodDescriptor "([C)V" = some ⟨[(.array .char)], none⟩ := by decide +kernel
theorem pd_2 : parseMethodDescriptor "(Ljava/lang/String;Lcom/example/vorm/vorm/store/NewResource;Lcom/example/vorm/vorm/operations/ErrorReason;Ljava/lang/String;)V" = some ⟨[(.object "java/lang/String"), (.object "com/example/vorm/vorm/store/NewResource"), (.object "com/example/vorm/vorm/operations/ErrorReason"), (.object "java/lang/String")], none⟩ := by decide +kernel
theorem pd_3 : parseMethodDescriptor "(II)Ljava/lang/String;" = some ⟨[.int, .int], some (.object "java/lang/String")⟩ := by decide +kernel
theorem pd_4 : parseMethodDescriptor "(I)Lcom/example/vorm/vorm/operations/ErrorReason;" = some ⟨[.int], some (.object "com/example/vorm/vorm/operations/ErrorReason")⟩ := by decide +kernel
theorem pd_5 : parseMethodDescriptor "(Ljava/lang/String;Lcom/example/vorm/vorm/operations/ErrorReason;Ljava/lang/String;)Lcom/example/vorm/vorm/operations/ImportItem;" = some ⟨[(.object "java/lang/String"), (.object "com/example/vorm/vorm/operations/ErrorReason"), (.object "java/lang/String")], some (.object "com/example/vorm/vorm/operations/ImportItem")⟩ := by decide +kernel
theorem pd_6 : parseMethodDescriptor "()Ljava/lang/String;" = some ⟨[], some (.object "java/lang/String")⟩ := by decide +kernel
theorem pd_7 : parseMethodDescriptor "()Lcom/example/vorm/vorm/store/NewResource;" = some ⟨[], some (.object "com/example/vorm/vorm/store/NewResource")⟩ := by decide +kernel
theorem pd_8 : parseMethodDescriptor "()Lcom/example/vorm/vorm/operations/ErrorReason;" = some ⟨[], some (.object "com/example/vorm/vorm/operations/ErrorReason")⟩ := by decide +kernel
theorem pn_0 : plainName "java/lang/String" = true := by first | (simp [plainName, overriddenIn]; done) | decide +kernel
theorem pn_1 : plainName "com/example/vorm/vorm/operations/ImportItemRefusedPinLaw" = true := by first | (simp [plainName, overriddenIn]; done) | decide +kernel
theorem pn_2 : plainName "com/example/vorm/vorm/operations/ImportItem" = true := by first | (simp [plainName, overriddenIn]; done) | decide +kernel
set_option maxRecDepth 65536 in
set_option maxHeartbeats 40000000 in
theorem rm_str0b {l : Launch} {Z : State} {a0 : Array Value} (C : Cx Z a0) (h0 : Heap) (x b : Addr) (Ex : Exa Z h0 x "java/lang/String") (Fv : Fld Z h0 x "java/lang/String" "value" "[B" .null) (Fc : Fld Z h0 x "java/lang/String" "coder" "B" (.int (0 : Int32))) (nx : Z.heap.size ≤ x) :
    Ct l Z a0 own_EL (⟨"java/lang/String", "<init>", "([CIILjava/lang/Void;)V"⟩ : MethodName) jdk_42_method_149_code 6 (Option.none : Option Jvm.ClassFile.FieldType) [] ({ frames := 1, cells := 4, slots := 8, locals := 12 } : Room) #[(.ref x), (.ref b), (.int (0 : Int32)), (.int (0 : Int32)), .null] h0 [x] (fun v h so => v = none ∧ Keep h0 h [x] ∧ Str Z h x []) := by
  refine own_enter (plainFor_of_name pn_0) C.ew (F0 := fun m => mkF m 0 #[.val (.ref x), .val (.ref b), .val (.int (0 : Int32)), .val (.int (0 : Int32)), .val .null, .unset] []) (fun m => by first | (simp [entryFrame, mkF, argsToLocals, Value.category]; done) | rfl) ?_
  intro p e s m below meth c s₁ G hx hby hml hret hnm W0 S0 go fin
  have z0 : Z.heap.size ≤ h0.size := W0.sz
  show G s₁ (mkF m 0 #[.val (.ref x), .val (.ref b), .val (.int (0 : Int32)), .val (.int (0 : Int32)), .val .null, .unset] [])
  have lx : @LT.lt Nat _ x h0.size := Ex.lt
  refine go (g' := (mkF m 1 #[.val (.ref x), .val (.ref b), .val (.int (0 : Int32)), .val (.int (0 : Int32)), .val .null, .unset] [(.ref x)])) (fun _ k => XS.aloadN W0.here hx rfl (hb hby d0_0) rfl rfl k) ?_
  obtain ⟨T1, W1, st1⟩ := own_initO W0 hx (w15 C) (w16 C) (w17 C) (g := (mkF m 1 #[.val (.ref x), .val (.ref b), .val (.int (0 : Int32)), .val (.int (0 : Int32)), .val .null, .unset] [(.ref x)])) rfl (by rw [hml]; rfl) rfl (hb hby d0_1) (nle rfl) (Wd := 0) (by show 2 * 0 + _ ≤ _; exact Nat.le_of_eq rfl) (nle rfl)
  refine go (g' := (mkF m 4 #[.val (.ref x), .val (.ref b), .val (.int (0 : Int32)), .val (.int (0 : Int32)), .val .null, .unset] [])) (st1) ?_
  refine go (g' := (mkF m 5 #[.val (.ref x), .val (.ref b), .val (.int (0 : Int32)), .val (.int (0 : Int32)), .val .null, .unset] [(.int (0 : Int32))])) (fun _ k => XS.iloadN W1.here hx rfl (hb hby d0_4) rfl k) ?_
  refine go (g' := (mkF m 8 #[.val (.ref x), .val (.ref b), .val (.int (0 : Int32)), .val (.int (0 : Int32)), .val .null, .unset] [])) (fun _ k => XS.ifNo W1.here hx rfl (hb hby d0_5) rfl ((if0 _ _).trans (teq ((by decide) : (0 : Int32) = (0 : Int32))).2) k) ?_
  refine go (g' := (mkF m 9 #[.val (.ref x), .val (.ref b), .val (.int (0 : Int32)), .val (.int (0 : Int32)), .val .null, .unset] [(.ref x)])) (fun _ k => XS.aloadN W1.here hx rfl (hb hby d0_8) rfl rfl k) ?_
  obtain ⟨x2, y2, k2, vm2, T2, h2, W2, E2, C2, A2, B2, D2, V2, N2, st2⟩ := own_ldcR W1 hx (w18 C) (own_wS C) (by decide) (vs := []) (z := (0 : Int32)) (by decide +kernel) (by decide) rfl (g := (mkF m 9 #[.val (.ref x), .val (.ref b), .val (.int (0 : Int32)), .val (.int (0 : Int32)), .val .null, .unset] [(.ref x)])) rfl (hb hby d0_9) (n := 0) (by decide) (nle rfl) (nle rfl) (nle rfl)
  have z3 : h0.size ≤ h2.size := E2.1
  have S2_x : Safe Z own_EL vm2 h2 x := C2.safe (olt (by omega)) (S0 _ (List.mem_of_getElem? (i := 0) rfl))
  refine go (g' := (mkF m 11 #[.val (.ref x), .val (.ref b), .val (.int (0 : Int32)), .val (.int (0 : Int32)), .val .null, .unset] [(.ref x2), (.ref x)])) (st2) ?_
  obtain ⟨T4, W4, st4⟩ := own_get W2 hx (host := "") (Or.inl (w24 C)) Via.refl D2 (g := (mkF m 11 #[.val (.ref x), .val (.ref b), .val (.int (0 : Int32)), .val (.int (0 : Int32)), .val .null, .unset] [(.ref x2), (.ref x)])) rfl rfl (hb hby d0_11)
  refine go (g' := (mkF m 14 #[.val (.ref x), .val (.ref b), .val (.int (0 : Int32)), .val (.int (0 : Int32)), .val .null, .unset] [(.ref y2), (.ref x)])) (st4) ?_
  have X5 : Ext h0 h2 := own_xt (own_xr h0) E2
  have f6 : Fld Z h2 x "java/lang/String" "value" "[B" .null := Fv.ext X5
  have f7 : Exa Z h2 x "java/lang/String" := Ex.ext X5
  obtain ⟨T8, h8, W8, R8, F8, st8⟩ := own_put W4 hx (host := "") (Or.inl (w24 C)) Via.refl f6 f7 (Or.inr ⟨(w20 C), rfl, hnm⟩) (w5 C) (ty := (.array .byte)) (by decide) rfl rfl S2_x (by omega) (g := (mkF m 14 #[.val (.ref x), .val (.ref b), .val (.int (0 : Int32)), .val (.int (0 : Int32)), .val .null, .unset] [(.ref y2), (.ref x)])) rfl rfl (hb hby d0_14)
  have f9 : Fld Z h2 x "java/lang/String" "coder" "B" (.int (0 : Int32)) := Fc.ext X5
  have z10 : h8.size = h2.size := R8.size
  have f11 : Exa Z h8 x "java/lang/String" := f7.wr R8
  have f12 : Fld Z h8 x "java/lang/String" "coder" "B" (.int (0 : Int32)) := f9.other R8 (Or.inr (slot_ne (Or.inr (w21 C)) (Or.inr (w20 C)) (by decide) (t := .byte) (t' := (.array .byte)) (by decide) (by decide)))
  have S8 : Safe Z own_EL vm2 h8 x := Safe.wr R8 S2_x W4.ch S2_x
  refine go (g' := (mkF m 17 #[.val (.ref x), .val (.ref b), .val (.int (0 : Int32)), .val (.int (0 : Int32)), .val .null, .unset] [])) (st8) ?_
  refine go (g' := (mkF m 18 #[.val (.ref x), .val (.ref b), .val (.int (0 : Int32)), .val (.int (0 : Int32)), .val .null, .unset] [(.ref x)])) (fun _ k => XS.aloadN W8.here hx rfl (hb hby d0_17) rfl rfl k) ?_
  obtain ⟨x13, y13, k13, vm13, T13, h13, W13, E13, C13, A13, B13, D13, V13, N13, st13⟩ := own_ldcR W8 hx (w18 C) (own_wS C) (by decide) (vs := []) (z := (0 : Int32)) (by decide +kernel) (by decide) rfl (g := (mkF m 18 #[.val (.ref x), .val (.ref b), .val (.int (0 : Int32)), .val (.int (0 : Int32)), .val .null, .unset] [(.ref x)])) rfl (hb hby d0_18) (n := 0) (by decide) (nle rfl) (nle rfl) (nle rfl)
  have z14 : h8.size ≤ h13.size := E13.1
  have S13_x : Safe Z own_EL vm13 h13 x := C13.safe (olt (by omega)) S8
  refine go (g' := (mkF m 20 #[.val (.ref x), .val (.ref b), .val (.int (0 : Int32)), .val (.int (0 : Int32)), .val .null, .unset] [(.ref x13), (.ref x)])) (st13) ?_
  obtain ⟨T15, W15, st15⟩ := own_get W13 hx (host := "") (Or.inl (w25 C)) Via.refl B13 (g := (mkF m 20 #[.val (.ref x), .val (.ref b), .val (.int (0 : Int32)), .val (.int (0 : Int32)), .val .null, .unset] [(.ref x13), (.ref x)])) rfl rfl (hb hby d0_20)
  refine go (g' := (mkF m 23 #[.val (.ref x), .val (.ref b), .val (.int (0 : Int32)), .val (.int (0 : Int32)), .val .null, .unset] [(.int (0 : Int32)), (.ref x)])) (st15) ?_
  have X16 : Ext h8 h13 := own_xt (own_xr h8) E13
  have f17 : Fld Z h13 x "java/lang/String" "coder" "B" (.int (0 : Int32)) := f12.ext X16
  have f18 : Exa Z h13 x "java/lang/String" := f11.ext X16
  obtain ⟨T19, h19, W19, R19, F19, st19⟩ := own_put W15 hx (host := "") (Or.inl (w25 C)) Via.refl f17 f18 (Or.inr ⟨(w21 C), rfl, hnm⟩) (w5 C) (ty := .byte) (by decide) rfl (by decide) S13_x (by omega) (g := (mkF m 23 #[.val (.ref x), .val (.ref b), .val (.int (0 : Int32)), .val (.int (0 : Int32)), .val .null, .unset] [(.int (0 : Int32)), (.ref x)])) rfl rfl (hb hby d0_23)
  have f20 : Fld Z h13 x "java/lang/String" "value" "[B" (.ref y2) := F8.ext X16
  have z21 : h19.size = h13.size := R19.size
  have f22 : Exa Z h19 x "java/lang/String" := f18.wr R19
  have f23 : Fld Z h19 x "java/lang/String" "value" "[B" (.ref y2) := f20.other R19 (Or.inr (slot_ne (Or.inr (w20 C)) (Or.inr (w21 C)) (by decide) (t := (.array .byte)) (t' := .byte) (by decide) (by decide)))
  have S19 : Safe Z own_EL vm13 h19 x := Safe.wr R19 S13_x W15.ch S13_x
  refine go (g' := (mkF m 26 #[.val (.ref x), .val (.ref b), .val (.int (0 : Int32)), .val (.int (0 : Int32)), .val .null, .unset] [])) (st19) ?_
  have KK24 : Keep h0 h19 [x] := (((((Keep.refl h0 [x]).ext E2).wr R8 (Or.inl (List.mem_of_getElem? (i := 0) rfl))).ext E13).wr R19 (Or.inl (List.mem_of_getElem? (i := 0) rfl)))
  have f25 : Arv Z h8 y2 k2 .byte (0 : Int32) [] (.int 0) := V2.other R8 (fun q => (N2 _ S2_x).2 q.symm)
  have f26 : Arv Z h13 y2 k2 .byte (0 : Int32) [] (.int 0) := f25.ext E13
  have f27 : Arv Z h19 y2 k2 .byte (0 : Int32) [] (.int 0) := f26.other R19 (fun q => (N2 _ S2_x).2 q.symm)
  exact fin (v := none) (so := []) W19 (nle rfl) (nle rfl) (⟨rfl, KK24, f22, F19, own_al0, _, _, f23, f27⟩) (fun _ q => nomatch q) (fun _ => rfl) (own_retV W19 hx hret (hb hby d0_26))
set_option maxRecDepth 65536 in
set_option maxHeartbeats 40000000 in
theorem rm_str0 {l : Launch} {Z : State} {a0 : Array Value} (C : Cx Z a0) (h0 : Heap) (x b : Addr) (kb : ClassId) (Ex : Exa Z h0 x "java/lang/String") (Fv : Fld Z h0 x "java/lang/String" "value" "[B" .null) (Fc : Fld Z h0 x "java/lang/String" "coder" "B" (.int (0 : Int32))) (Ab : Arv Z h0 b kb .char (0 : Int32) [] (.int (0 : Int32))) (nx : Z.heap.size ≤ x) :
    Ct l Z a0 own_EL (⟨"java/lang/String", "<init>", "([C)V"⟩ : MethodName) jdk_42_method_3_code 2 (Option.none : Option Jvm.ClassFile.FieldType) [] ({ frames := 2, cells := 4, slots := 8, locals := 29 } : Room) #[(.ref x), (.ref b)] h0 [x] (fun v h so => v = none ∧ Keep h0 h [x] ∧ Str Z h x []) := by
  refine own_enter (plainFor_of_name pn_0) C.ew (F0 := fun m => mkF m 0 #[.val (.ref x), .val (.ref b)] []) (fun m => by first | (simp [entryFrame, mkF, argsToLocals, Value.category]; done) | rfl) ?_
  intro p e s m below meth c s₁ G hx hby hml hret hnm W0 S0 go fin
  have z0 : Z.heap.size ≤ h0.size := W0.sz
  show G s₁ (mkF m 0 #[.val (.ref x), .val (.ref b)] [])
  have lx : @LT.lt Nat _ x h0.size := Ex.lt
  refine go (g' := (mkF m 1 #[.val (.ref x), .val (.ref b)] [(.ref x)])) (fun _ k => XS.aloadN W0.here hx rfl (hb hby d1_0) rfl rfl k) ?_
  refine go (g' := (mkF m 2 #[.val (.ref x), .val (.ref b)] [(.ref b), (.ref x)])) (fun _ k => XS.aloadN W0.here hx rfl (hb hby d1_1) rfl rfl k) ?_
  refine go (g' := (mkF m 3 #[.val (.ref x), .val (.ref b)] [(.int (0 : Int32)), (.ref b), (.ref x)])) (fun _ k => XS.iconst W0.here hx rfl (hb hby d1_2) k) ?_
  refine go (g' := (mkF m 4 #[.val (.ref x), .val (.ref b)] [(.ref b), (.int (0 : Int32)), (.ref b), (.ref x)])) (fun _ k => XS.aloadN W0.here hx rfl (hb hby d1_3) rfl rfl k) ?_
  refine go (g' := (mkF m 5 #[.val (.ref x), .val (.ref b)] [(.int (0 : Int32)), (.int (0 : Int32)), (.ref b), (.ref x)])) (own_alen W0 hx Ab (g := (mkF m 4 #[.val (.ref x), .val (.ref b)] [(.ref b), (.int (0 : Int32)), (.ref b), (.ref x)])) rfl rfl (hb hby d1_4)) ?_
  refine go (g' := (mkF m 6 #[.val (.ref x), .val (.ref b)] [.null, (.int (0 : Int32)), (.int (0 : Int32)), (.ref b), (.ref x)])) (fun _ k => XS.aconstNull W0.here hx rfl (hb hby d1_5) k) ?_
  obtain ⟨v1, so1, vm1, T1, h1, W1, C1, q1, hso1, st1⟩ := own_special W0 hx (y := (⟨"java/lang/String", "<init>", "([CIILjava/lang/Void;)V"⟩ : MethodName)) rfl (w11 C) (w12 C) (w6 C) (w14 C) (by decide) (rm_str0b C h0 x b Ex Fv Fc (by omega)) (allS (S0 _ (List.mem_of_getElem? (i := 0) rfl)) all0) (Wd := 0) (nle rfl) (nle rfl) (nle rfl) (nle rfl) (g := (mkF m 6 #[.val (.ref x), .val (.ref b)] [.null, (.int (0 : Int32)), (.int (0 : Int32)), (.ref b), (.ref x)])) rfl (by rw [hml]; rfl) (a := x) (argsL := [(.ref b), (.int (0 : Int32)), (.int (0 : Int32)), .null]) (rest := []) (lenOf pd_0 rfl) rfl rfl (by show 2 * 0 + _ ≤ _; exact Nat.le_of_eq rfl) (hb hby d1_6)
  obtain ⟨rfl, K1, S1⟩ := q1
  have z2 : h0.size ≤ h1.size := K1.1
  have S1_x : Safe Z own_EL vm1 h1 x := C1.safe (olt (by omega)) (S0 _ (List.mem_of_getElem? (i := 0) rfl))
  refine go (g' := (mkF m 9 #[.val (.ref x), .val (.ref b)] [])) (st1) ?_
  have KK3 : Keep h0 h1 [x] := ((Keep.refl h0 [x]).trans K1 (allS (Or.inl (List.mem_of_getElem? (i := 0) rfl)) all0))
  exact fin (v := none) (so := []) W1 (nle rfl) (nle rfl) (⟨rfl, KK3, S1⟩) (fun _ q => nomatch q) (fun _ => rfl) (own_retV W1 hx hret (hb hby d1_9))
set_option maxRecDepth 65536 in
set_option maxHeartbeats 40000000 in
theorem rm_drawn {l : Launch} {Z : State} {a0 : Array Value} (C : Cx Z a0) (h0 : Heap) (p1 p2 : Int32) :
    Ct l Z a0 own_EL (⟨"com/example/vorm/vorm/operations/ImportItemRefusedPinLaw", "drawn", "(II)Ljava/lang/String;"⟩ : MethodName) method_3_code 4 (Option.some (Jvm.ClassFile.FieldType.object "java/lang/String")) [] ({ frames := 4, cells := 6, slots := 12, locals := 66 } : Room) #[(.int p1), (.int p2)] h0 [] (fun v h so => ∃ x : Addr, v = some (.ref x) ∧ Ext h0 h) := by
  refine own_enter (plainFor_of_name pn_1) C.ew (F0 := fun m => mkF m 0 #[.val (.int p1), .val (.int p2), .unset, .unset] []) (fun m => by first | (simp [entryFrame, mkF, argsToLocals, Value.category]; done) | rfl) ?_
  intro p e s m below meth c s₁ G hx hby hml hret hnm W0 S0 go fin
  have z0 : Z.heap.size ≤ h0.size := W0.sz
  show G s₁ (mkF m 0 #[.val (.int p1), .val (.int p2), .unset, .unset] [])
  refine go (g' := (mkF m 1 #[.val (.int p1), .val (.int p2), .unset, .unset] [(.int p1)])) (fun _ k => XS.iloadN W0.here hx rfl (hb hby d2_0) rfl k) ?_
  refine go (g' := (mkF m 4 #[.val (.int p1), .val (.int p2), .unset, .unset] [(.int (255 : Int32)), (.int p1)])) (fun _ k => XS.sipush W0.here hx rfl (hb hby d2_1) k) ?_
  refine go (g' := (mkF m 5 #[.val (.int p1), .val (.int p2), .unset, .unset] [(.int (p1 &&& (255 : Int32)))])) (fun _ k => XS.iand W0.here hx rfl (hb hby d2_4) rfl k) ?_
  refine go (g' := (mkF m 6 #[.val (.int p1), .val (.int p2), .unset, .unset] [(.int ((p1 &&& (255 : Int32)).toUInt32.toUInt16.toUInt32.toInt32))])) (fun _ k => XS.i2c W0.here hx rfl (hb hby d2_5) rfl k) ?_
  generalize ec1 : ((p1 &&& (255 : Int32)).toUInt32.toUInt16.toUInt32.toInt32) = c1
  have yc1 : ¬ c1 < 0 ∧ ¬ (255 : Int32) < c1 := ec1 ▸ own_c255 _
  refine go (g' := (mkF m 7 #[.val (.int p1), .val (.int p2), .val (.int c1), .unset] [])) (fun _ k => XS.istoreN W0.here hx rfl (hb hby d2_6) rfl (l' := #[.val (.int p1), .val (.int p2), .val (.int c1), .unset]) rfl k) ?_
  refine go (g' := (mkF m 8 #[.val (.int p1), .val (.int p2), .val (.int c1), .unset] [(.int p1)])) (fun _ k => XS.iloadN W0.here hx rfl (hb hby d2_7) rfl k) ?_
  refine go (g' := (mkF m 10 #[.val (.int p1), .val (.int p2), .val (.int c1), .unset] [(.int (8 : Int32)), (.int p1)])) (fun _ k => XS.bipush W0.here hx rfl (hb hby d2_8) k) ?_
  refine go (g' := (mkF m 11 #[.val (.int p1), .val (.int p2), .val (.int c1), .unset] [(.int ((p1.toUInt32 >>> ((8 : Int32) &&& 31).toUInt32).toInt32))])) (fun _ k => XS.iushr W0.here hx rfl (hb hby d2_10) rfl k) ?_
  refine go (g' := (mkF m 14 #[.val (.int p1), .val (.int p2), .val (.int c1), .unset] [(.int (255 : Int32)), (.int ((p1.toUInt32 >>> ((8 : Int32) &&& 31).toUInt32).toInt32))])) (fun _ k => XS.sipush W0.here hx rfl (hb hby d2_11) k) ?_
  refine go (g' := (mkF m 15 #[.val (.int p1), .val (.int p2), .val (.int c1), .unset] [(.int (((p1.toUInt32 >>> ((8 : Int32) &&& 31).toUInt32).toInt32) &&& (255 : Int32)))])) (fun _ k => XS.iand W0.here hx rfl (hb hby d2_14) rfl k) ?_
  refine go (g' := (mkF m 16 #[.val (.int p1), .val (.int p2), .val (.int c1), .unset] [(.int ((((p1.toUInt32 >>> ((8 : Int32) &&& 31).toUInt32).toInt32) &&& (255 : Int32)).toUInt32.toUInt16.toUInt32.toInt32))])) (fun _ k => XS.i2c W0.here hx rfl (hb hby d2_15) rfl k) ?_
  generalize ec2 : ((((p1.toUInt32 >>> ((8 : Int32) &&& 31).toUInt32).toInt32) &&& (255 : Int32)).toUInt32.toUInt16.toUInt32.toInt32) = c2
  have yc2 : ¬ c2 < 0 ∧ ¬ (255 : Int32) < c2 := ec2 ▸ own_c255 _
  refine go (g' := (mkF m 17 #[.val (.int p1), .val (.int p2), .val (.int c1), .val (.int c2)] [])) (fun _ k => XS.istoreN W0.here hx rfl (hb hby d2_16) rfl (l' := #[.val (.int p1), .val (.int p2), .val (.int c1), .val (.int c2)]) rfl k) ?_
  refine go (g' := (mkF m 18 #[.val (.int p1), .val (.int p2), .val (.int c1), .val (.int c2)] [(.int p2)])) (fun _ k => XS.iloadN W0.here hx rfl (hb hby d2_17) rfl k) ?_
  by_cases kb3 : p2 = (0 : Int32)
  · refine go (g' := (mkF m 21 #[.val (.int p1), .val (.int p2), .val (.int c1), .val (.int c2)] [])) (fun _ k => XS.ifNo W0.here hx rfl (hb hby d2_18) rfl ((if0 _ _).trans (teq kb3).2) k) ?_
    obtain ⟨x4, T4, h4, g4, W4, E4, A4, D4, U4, st4⟩ := own_new W0 hx (w4 C) (w5 C) (w6 C) (g := (mkF m 21 #[.val (.int p1), .val (.int p2), .val (.int c1), .val (.int c2)] [])) rfl (hb hby d2_21) (nle rfl) (nle rfl)
    have z5 : h0.size ≤ h4.size := E4.1
    have l4 : @LT.lt Nat _ x4 h4.size := A4.lt
    have F4_value : Fld Z h4 x4 "java/lang/String" "value" "[B" .null := D4 (Or.inr (w20 C)) (ty := (.array .byte)) (by decide)
    have F4_coder : Fld Z h4 x4 "java/lang/String" "coder" "B" (.int (0 : Int32)) := D4 (Or.inr (w21 C)) (ty := .byte) (by decide)
    refine go (g' := (mkF m 24 #[.val (.int p1), .val (.int p2), .val (.int c1), .val (.int c2)] [(.ref x4)])) (st4) ?_
    refine go (g' := (mkF m 25 #[.val (.int p1), .val (.int p2), .val (.int c1), .val (.int c2)] [(.ref x4), (.ref x4)])) (fun _ k => XS.dup W4.here hx rfl (hb hby d2_24) rfl rfl k) ?_
    refine go (g' := (mkF m 26 #[.val (.int p1), .val (.int p2), .val (.int c1), .val (.int c2)] [(.int (0 : Int32)), (.ref x4), (.ref x4)])) (fun _ k => XS.iconst W4.here hx rfl (hb hby d2_25) k) ?_
    obtain ⟨x6, T6, h6, k6, g6, W6, E6, A6, st6⟩ := own_newP W4 hx (aty := .char) (w7 C) (g := (mkF m 26 #[.val (.int p1), .val (.int p2), .val (.int c1), .val (.int c2)] [(.int (0 : Int32)), (.ref x4), (.ref x4)])) rfl (hb hby d2_26) rfl (by decide) (cap := 0) (by decide) (nle rfl) (nle rfl) (nle rfl)
    have z7 : h4.size ≤ h6.size := E6.1
    have l6 : @LT.lt Nat _ x6 h6.size := A6.lt
    have V6 : Arv Z h6 x6 k6 .char (0 : Int32) [] (.int (0 : Int32)) := A6.pad (pad_rep [] (.int (0 : Int32)) 0)
    refine go (g' := (mkF m 28 #[.val (.int p1), .val (.int p2), .val (.int c1), .val (.int c2)] [(.ref x6), (.ref x4), (.ref x4)])) (st6) ?_
    have X9 : Ext h4 h6 := own_xt (own_xr h4) E6
    have f10 : Exa Z h6 x4 "java/lang/String" := A4.ext X9
    have f11 : Fld Z h6 x4 "java/lang/String" "value" "[B" .null := F4_value.ext X9
    have f12 : Fld Z h6 x4 "java/lang/String" "coder" "B" (.int (0 : Int32)) := F4_coder.ext X9
    have X13 : Ext h0 h4 := own_xt (own_xr h0) E4
    have X14 : Ext h0 h6 := own_xt X13 E6
    obtain ⟨v8, so8, vm8, T8, h8, W8, C8, q8, hso8, st8⟩ := own_special W6 hx (y := (⟨"java/lang/String", "<init>", "([C)V"⟩ : MethodName)) rfl (w8 C) (w9 C) (w6 C) (w10 C) (by decide) (rm_str0 C h6 x4 x6 k6 f10 f11 f12 V6 (by omega)) (allS (own_safeB W0 X14 (by omega)) all0) (Wd := 1) (nle rfl) (nle rfl) (nle rfl) (nle rfl) (g := (mkF m 28 #[.val (.int p1), .val (.int p2), .val (.int c1), .val (.int c2)] [(.ref x6), (.ref x4), (.ref x4)])) rfl (by rw [hml]; rfl) (a := x4) (argsL := [(.ref x6)]) (rest := [(.ref x4)]) (lenOf pd_1 rfl) rfl rfl (by show 2 * 0 + _ ≤ _; exact Nat.le_of_eq rfl) (hb hby d2_28)
    obtain ⟨rfl, K8, S8⟩ := q8
    have z15 : h6.size ≤ h8.size := K8.1
    have S8_x4 : Safe Z own_EL vm8 h8 x4 := C8.safe (olt (by omega)) (own_safeB W0 X14 (by omega))
    refine go (g' := (mkF m 31 #[.val (.int p1), .val (.int p2), .val (.int c1), .val (.int c2)] [(.ref x4)])) (st8) ?_
    have X16 : Ext h0 h8 := own_xk X14 K8 (allS (by omega) all0)
    exact fin (v := some (.ref x4)) (so := []) W8 (nle rfl) (nle rfl) (⟨_, rfl, X16⟩) (fun _ q => nomatch q) (fun q => nomatch q) (own_retA W8 hx hret rfl rfl rfl (hb hby d2_31))
  · refine go (g' := (mkF m 32 #[.val (.int p1), .val (.int p2), .val (.int c1), .val (.int c2)] [])) (fun _ k => XS.ifYes W0.here hx rfl (pc0 := 18) (pc' := 32) rfl (hb hby d2_18) rfl ((if0 _ _).trans (feq kb3).2) (by decide) (by decide) k) ?_
    refine go (g' := (mkF m 33 #[.val (.int p1), .val (.int p2), .val (.int c1), .val (.int c2)] [(.int p2)])) (fun _ k => XS.iloadN W0.here hx rfl (hb hby d2_32) rfl k) ?_
    refine go (g' := (mkF m 34 #[.val (.int p1), .val (.int p2), .val (.int c1), .val (.int c2)] [(.int (1 : Int32)), (.int p2)])) (fun _ k => XS.iconst W0.here hx rfl (hb hby d2_33) k) ?_
    by_cases kb17 : p2 = (1 : Int32)
    · refine go (g' := (mkF m 37 #[.val (.int p1), .val (.int p2), .val (.int c1), .val (.int c2)] [])) (fun _ k => XS.icmpNo W0.here hx rfl (hb hby d2_34) rfl (teq kb17).2 k) ?_
      obtain ⟨x18, T18, h18, g18, W18, E18, A18, D18, U18, st18⟩ := own_new W0 hx (w4 C) (w5 C) (w6 C) (g := (mkF m 37 #[.val (.int p1), .val (.int p2), .val (.int c1), .val (.int c2)] [])) rfl (hb hby d2_37) (nle rfl) (nle rfl)
      have z19 : h0.size ≤ h18.size := E18.1
      have l18 : @LT.lt Nat _ x18 h18.size := A18.lt
      have F18_value : Fld Z h18 x18 "java/lang/String" "value" "[B" .null := D18 (Or.inr (w20 C)) (ty := (.array .byte)) (by decide)
      have F18_coder : Fld Z h18 x18 "java/lang/String" "coder" "B" (.int (0 : Int32)) := D18 (Or.inr (w21 C)) (ty := .byte) (by decide)
      refine go (g' := (mkF m 40 #[.val (.int p1), .val (.int p2), .val (.int c1), .val (.int c2)] [(.ref x18)])) (st18) ?_
      refine go (g' := (mkF m 41 #[.val (.int p1), .val (.int p2), .val (.int c1), .val (.int c2)] [(.ref x18), (.ref x18)])) (fun _ k => XS.dup W18.here hx rfl (hb hby d2_40) rfl rfl k) ?_
      refine go (g' := (mkF m 42 #[.val (.int p1), .val (.int p2), .val (.int c1), .val (.int c2)] [(.int (1 : Int32)), (.ref x18), (.ref x18)])) (fun _ k => XS.iconst W18.here hx rfl (hb hby d2_41) k) ?_
      obtain ⟨x20, T20, h20, k20, g20, W20, E20, A20, st20⟩ := own_newP W18 hx (aty := .char) (w7 C) (g := (mkF m 42 #[.val (.int p1), .val (.int p2), .val (.int c1), .val (.int c2)] [(.int (1 : Int32)), (.ref x18), (.ref x18)])) rfl (hb hby d2_42) rfl (by decide) (cap := 1) (by decide) (nle rfl) (nle rfl) (nle rfl)
      have z21 : h18.size ≤ h20.size := E20.1
      have l20 : @LT.lt Nat _ x20 h20.size := A20.lt
      have V20 : Arv Z h20 x20 k20 .char (1 : Int32) [(.int (0 : Int32))] (.int (0 : Int32)) := A20.pad (pad_rep [] (.int (0 : Int32)) 1)
      refine go (g' := (mkF m 44 #[.val (.int p1), .val (.int p2), .val (.int c1), .val (.int c2)] [(.ref x20), (.ref x18), (.ref x18)])) (st20) ?_
      refine go (g' := (mkF m 45 #[.val (.int p1), .val (.int p2), .val (.int c1), .val (.int c2)] [(.ref x20), (.ref x20), (.ref x18), (.ref x18)])) (fun _ k => XS.dup W20.here hx rfl (hb hby d2_44) rfl rfl k) ?_
      refine go (g' := (mkF m 46 #[.val (.int p1), .val (.int p2), .val (.int c1), .val (.int c2)] [(.int (0 : Int32)), (.ref x20), (.ref x20), (.ref x18), (.ref x18)])) (fun _ k => XS.iconst W20.here hx rfl (hb hby d2_45) k) ?_
      refine go (g' := (mkF m 47 #[.val (.int p1), .val (.int p2), .val (.int c1), .val (.int c2)] [(.int c1), (.int (0 : Int32)), (.ref x20), (.ref x20), (.ref x18), (.ref x18)])) (fun _ k => XS.iloadN W20.here hx rfl (hb hby d2_46) rfl k) ?_
      obtain ⟨T22, h22, W22, R22, V22, st22⟩ := own_stC W20 hx V20 (by omega) (j := (0 : Int32)) (i := 0) ⟨by decide, by decide⟩ rfl (Nat.le_of_ble_eq_true rfl) (own_up yc1) (g := (mkF m 47 #[.val (.int p1), .val (.int p2), .val (.int c1), .val (.int c2)] [(.int c1), (.int (0 : Int32)), (.ref x20), (.ref x20), (.ref x18), (.ref x18)])) rfl rfl (hb hby d2_47)
      have z23 : h22.size = h20.size := R22.size
      have U22 : Arv Z h22 x20 k20 .char (1 : Int32) [(.int c1)] (.int (0 : Int32)) := V22
      refine go (g' := (mkF m 48 #[.val (.int p1), .val (.int p2), .val (.int c1), .val (.int c2)] [(.ref x20), (.ref x18), (.ref x18)])) (st22) ?_
      have X25 : Ext h0 h18 := own_xt (own_xr h0) E18
      have X26 : Ext h0 h20 := own_xt X25 E20
      have X27 : Ext h0 h22 := own_xw X26 R22 (by omega)
      have X28 : Ext h18 h20 := own_xt (own_xr h18) E20
      have X29 : Ext h18 h22 := own_xw X28 R22 (by omega)
      have f30 : Exa Z h22 x18 "java/lang/String" := A18.ext X29
      have f31 : Fld Z h22 x18 "java/lang/String" "value" "[B" .null := F18_value.ext X29
      have f32 : Fld Z h22 x18 "java/lang/String" "coder" "B" (.int (0 : Int32)) := F18_coder.ext X29
      obtain ⟨T24, h24, W24, K24, S24, st24⟩ := own_strNew W22 hx (own_ws C) (w8 C) (w9 C) (w10 C) (w5 C) f30 f31 f32 (cs := [c1]) U22 rfl C.cs (nle rfl) (nle rfl) (own_alS yc1 own_al0) (own_safeB W0 X27 (by omega)) (by omega) (Wd := 1) (nle rfl) (nle rfl) (nle rfl) (nle rfl) (g := (mkF m 48 #[.val (.int p1), .val (.int p2), .val (.int c1), .val (.int c2)] [(.ref x20), (.ref x18), (.ref x18)])) rfl (by rw [hml]; rfl) rfl (by show 2 * 0 + _ ≤ _; exact Nat.le_of_eq rfl) (hb hby d2_48)
      have z33 : h22.size ≤ h24.size := K24.1
      refine go (g' := (mkF m 51 #[.val (.int p1), .val (.int p2), .val (.int c1), .val (.int c2)] [(.ref x18)])) (st24) ?_
      have X34 : Ext h0 h24 := own_xk X27 K24 (allS (by omega) all0)
      exact fin (v := some (.ref x18)) (so := []) W24 (nle rfl) (nle rfl) (⟨_, rfl, X34⟩) (fun _ q => nomatch q) (fun q => nomatch q) (own_retA W24 hx hret rfl rfl rfl (hb hby d2_51))
    · refine go (g' := (mkF m 52 #[.val (.int p1), .val (.int p2), .val (.int c1), .val (.int c2)] [])) (fun _ k => XS.icmpYes W0.here hx rfl (pc0 := 34) (pc' := 52) rfl (hb hby d2_34) rfl (feq kb17).2 (by decide) (by decide) k) ?_
      obtain ⟨x35, T35, h35, g35, W35, E35, A35, D35, U35, st35⟩ := own_new W0 hx (w4 C) (w5 C) (w6 C) (g := (mkF m 52 #[.val (.int p1), .val (.int p2), .val (.int c1), .val (.int c2)] [])) rfl (hb hby d2_52) (nle rfl) (nle rfl)
      have z36 : h0.size ≤ h35.size := E35.1
      have l35 : @LT.lt Nat _ x35 h35.size := A35.lt
      have F35_value : Fld Z h35 x35 "java/lang/String" "value" "[B" .null := D35 (Or.inr (w20 C)) (ty := (.array .byte)) (by decide)
      have F35_coder : Fld Z h35 x35 "java/lang/String" "coder" "B" (.int (0 : Int32)) := D35 (Or.inr (w21 C)) (ty := .byte) (by decide)
      refine go (g' := (mkF m 55 #[.val (.int p1), .val (.int p2), .val (.int c1), .val (.int c2)] [(.ref x35)])) (st35) ?_
      refine go (g' := (mkF m 56 #[.val (.int p1), .val (.int p2), .val (.int c1), .val (.int c2)] [(.ref x35), (.ref x35)])) (fun _ k => XS.dup W35.here hx rfl (hb hby d2_55) rfl rfl k) ?_
      refine go (g' := (mkF m 57 #[.val (.int p1), .val (.int p2), .val (.int c1), .val (.int c2)] [(.int (2 : Int32)), (.ref x35), (.ref x35)])) (fun _ k => XS.iconst W35.here hx rfl (hb hby d2_56) k) ?_
      obtain ⟨x37, T37, h37, k37, g37, W37, E37, A37, st37⟩ := own_newP W35 hx (aty := .char) (w7 C) (g := (mkF m 57 #[.val (.int p1), .val (.int p2), .val (.int c1), .val (.int c2)] [(.int (2 : Int32)), (.ref x35), (.ref x35)])) rfl (hb hby d2_57) rfl (by decide) (cap := 2) (by decide) (nle rfl) (nle rfl) (nle rfl)
      have z38 : h35.size ≤ h37.size := E37.1
      have l37 : @LT.lt Nat _ x37 h37.size := A37.lt
      have V37 : Arv Z h37 x37 k37 .char (2 : Int32) [(.int (0 : Int32)), (.int (0 : Int32))] (.int (0 : Int32)) := A37.pad (pad_rep [] (.int (0 : Int32)) 2)
      refine go (g' := (mkF m 59 #[.val (.int p1), .val (.int p2), .val (.int c1), .val (.int c2)] [(.ref x37), (.ref x35), (.ref x35)])) (st37) ?_
      refine go (g' := (mkF m 60 #[.val (.int p1), .val (.int p2), .val (.int c1), .val (.int c2)] [(.ref x37), (.ref x37), (.ref x35), (.ref x35)])) (fun _ k => XS.dup W37.here hx rfl (hb hby d2_59) rfl rfl k) ?_
      refine go (g' := (mkF m 61 #[.val (.int p1), .val (.int p2), .val (.int c1), .val (.int c2)] [(.int (0 : Int32)), (.ref x37), (.ref x37), (.ref x35), (.ref x35)])) (fun _ k => XS.iconst W37.here hx rfl (hb hby d2_60) k) ?_
      refine go (g' := (mkF m 62 #[.val (.int p1), .val (.int p2), .val (.int c1), .val (.int c2)] [(.int c1), (.int (0 : Int32)), (.ref x37), (.ref x37), (.ref x35), (.ref x35)])) (fun _ k => XS.iloadN W37.here hx rfl (hb hby d2_61) rfl k) ?_
      obtain ⟨T39, h39, W39, R39, V39, st39⟩ := own_stC W37 hx V37 (by omega) (j := (0 : Int32)) (i := 0) ⟨by decide, by decide⟩ rfl (Nat.le_of_ble_eq_true rfl) (own_up yc1) (g := (mkF m 62 #[.val (.int p1), .val (.int p2), .val (.int c1), .val (.int c2)] [(.int c1), (.int (0 : Int32)), (.ref x37), (.ref x37), (.ref x35), (.ref x35)])) rfl rfl (hb hby d2_62)
      have z40 : h39.size = h37.size := R39.size
      have U39 : Arv Z h39 x37 k37 .char (2 : Int32) [(.int c1), (.int (0 : Int32))] (.int (0 : Int32)) := V39
      refine go (g' := (mkF m 63 #[.val (.int p1), .val (.int p2), .val (.int c1), .val (.int c2)] [(.ref x37), (.ref x35), (.ref x35)])) (st39) ?_
      refine go (g' := (mkF m 64 #[.val (.int p1), .val (.int p2), .val (.int c1), .val (.int c2)] [(.ref x37), (.ref x37), (.ref x35), (.ref x35)])) (fun _ k => XS.dup W39.here hx rfl (hb hby d2_63) rfl rfl k) ?_
      refine go (g' := (mkF m 65 #[.val (.int p1), .val (.int p2), .val (.int c1), .val (.int c2)] [(.int (1 : Int32)), (.ref x37), (.ref x37), (.ref x35), (.ref x35)])) (fun _ k => XS.iconst W39.here hx rfl (hb hby d2_64) k) ?_
      refine go (g' := (mkF m 66 #[.val (.int p1), .val (.int p2), .val (.int c1), .val (.int c2)] [(.int c2), (.int (1 : Int32)), (.ref x37), (.ref x37), (.ref x35), (.ref x35)])) (fun _ k => XS.iloadN W39.here hx rfl (hb hby d2_65) rfl k) ?_
      obtain ⟨T41, h41, W41, R41, V41, st41⟩ := own_stC W39 hx U39 (by omega) (j := (1 : Int32)) (i := 1) ⟨by decide, by decide⟩ rfl (Nat.le_of_ble_eq_true rfl) (own_up yc2) (g := (mkF m 66 #[.val (.int p1), .val (.int p2), .val (.int c1), .val (.int c2)] [(.int c2), (.int (1 : Int32)), (.ref x37), (.ref x37), (.ref x35), (.ref x35)])) rfl rfl (hb hby d2_66)
      have z42 : h41.size = h39.size := R41.size
      have U41 : Arv Z h41 x37 k37 .char (2 : Int32) [(.int c1), (.int c2)] (.int (0 : Int32)) := V41
      refine go (g' := (mkF m 67 #[.val (.int p1), .val (.int p2), .val (.int c1), .val (.int c2)] [(.ref x37), (.ref x35), (.ref x35)])) (st41) ?_
      have X44 : Ext h0 h35 := own_xt (own_xr h0) E35
      have X45 : Ext h0 h37 := own_xt X44 E37
      have X46 : Ext h0 h39 := own_xw X45 R39 (by omega)
      have X47 : Ext h0 h41 := own_xw X46 R41 (by omega)
      have X48 : Ext h35 h37 := own_xt (own_xr h35) E37
      have X49 : Ext h35 h39 := own_xw X48 R39 (by omega)
      have X50 : Ext h35 h41 := own_xw X49 R41 (by omega)
      have f51 : Exa Z h41 x35 "java/lang/String" := A35.ext X50
      have f52 : Fld Z h41 x35 "java/lang/String" "value" "[B" .null := F35_value.ext X50
      have f53 : Fld Z h41 x35 "java/lang/String" "coder" "B" (.int (0 : Int32)) := F35_coder.ext X50
      obtain ⟨T43, h43, W43, K43, S43, st43⟩ := own_strNew W41 hx (own_ws C) (w8 C) (w9 C) (w10 C) (w5 C) f51 f52 f53 (cs := [c1, c2]) U41 rfl C.cs (nle rfl) (nle rfl) (own_alS yc1 (own_alS yc2 own_al0)) (own_safeB W0 X47 (by omega)) (by omega) (Wd := 1) (nle rfl) (nle rfl) (nle rfl) (nle rfl) (g := (mkF m 67 #[.val (.int p1), .val (.int p2), .val (.int c1), .val (.int c2)] [(.ref x37), (.ref x35), (.ref x35)])) rfl (by rw [hml]; rfl) rfl (by show 2 * 0 + _ ≤ _; exact Nat.le_of_eq rfl) (hb hby d2_67)
      have z54 : h41.size ≤ h43.size := K43.1
      refine go (g' := (mkF m 70 #[.val (.int p1), .val (.int p2), .val (.int c1), .val (.int c2)] [(.ref x35)])) (st43) ?_
      have X55 : Ext h0 h43 := own_xk X47 K43 (allS (by omega) all0)
      exact fin (v := some (.ref x35)) (so := []) W43 (nle rfl) (nle rfl) (⟨_, rfl, X55⟩) (fun _ q => nomatch q) (fun q => nomatch q) (own_retA W43 hx hret rfl rfl rfl (hb hby d2_70))
set_option maxRecDepth 65536 in
set_option maxHeartbeats 40000000 in
theorem rm_pick {l : Launch} {Z : State} {a0 : Array Value} (C : Cx Z a0) (h0 : Heap) (p1 : Int32) :
    Ct l Z a0 own_EL (⟨"com/example/vorm/vorm/operations/ImportItemRefusedPinLaw", "pick", "(I)Lcom/example/vorm/vorm/operations/ErrorReason;"⟩ : MethodName) method_4_code 2 (Option.some (Jvm.ClassFile.FieldType.object "com/example/vorm/vorm/operations/ErrorReason")) [] ({ frames := 0, cells := 0, slots := 0, locals := 0 } : Room) #[(.int p1)] h0 [] (fun v h so => ∃ x : Addr, v = some (.ref x) ∧ h0 = h) := by
  refine own_enter (plainFor_of_name pn_1) C.ew (F0 := fun m => mkF m 0 #[.val (.int p1), .unset] []) (fun m => by first | (simp [entryFrame, mkF, argsToLocals, Value.category]; done) | rfl) ?_
  intro p e s m below meth c s₁ G hx hby hml hret hnm W0 S0 go fin
  have z0 : Z.heap.size ≤ h0.size := W0.sz
  show G s₁ (mkF m 0 #[.val (.int p1), .unset] [])
  refine go (g' := (mkF m 1 #[.val (.int p1), .unset] [(.int p1)])) (fun _ k => XS.iloadN W0.here hx rfl (hb hby d3_0) rfl k) ?_
  refine go (g' := (mkF m 3 #[.val (.int p1), .unset] [(.int (2147483647 : Int32)), (.int p1)])) (own_ldcI W0 hx (w29 C) (g := (mkF m 1 #[.val (.int p1), .unset] [(.int p1)])) rfl (hb hby d3_1)) ?_
  refine go (g' := (mkF m 4 #[.val (.int p1), .unset] [(.int (p1 &&& (2147483647 : Int32)))])) (fun _ k => XS.iand W0.here hx rfl (hb hby d3_3) rfl k) ?_
  refine go (g' := (mkF m 6 #[.val (.int p1), .unset] [(.int (6 : Int32)), (.int (p1 &&& (2147483647 : Int32)))])) (fun _ k => XS.bipush W0.here hx rfl (hb hby d3_4) k) ?_
  refine go (g' := (mkF m 7 #[.val (.int p1), .unset] [(.int ((p1 &&& (2147483647 : Int32)) % (6 : Int32)))])) (own_irem W0 hx (g := (mkF m 6 #[.val (.int p1), .unset] [(.int (6 : Int32)), (.int (p1 &&& (2147483647 : Int32)))])) rfl (hb hby d3_6) rfl (by decide)) ?_
  generalize ec1 : ((p1 &&& (2147483647 : Int32)) % (6 : Int32)) = c1
  refine go (g' := (mkF m 8 #[.val (.int p1), .val (.int c1)] [])) (fun _ k => XS.istoreN W0.here hx rfl (hb hby d3_7) rfl (l' := #[.val (.int p1), .val (.int c1)]) rfl k) ?_
  refine go (g' := (mkF m 9 #[.val (.int p1), .val (.int c1)] [(.int c1)])) (fun _ k => XS.iloadN W0.here hx rfl (hb hby d3_8) rfl k) ?_
  by_cases kb2 : c1 = (0 : Int32)
  · refine go (g' := (mkF m 12 #[.val (.int p1), .val (.int c1)] [])) (fun _ k => XS.ifNo W0.here hx rfl (hb hby d3_9) rfl ((if0 _ _).trans (teq kb2).2) k) ?_
    obtain ⟨gs3, os3⟩ := C.s0
    obtain ⟨T4, W4, st4⟩ := own_getS W0 hx (host := "") (Or.inl (w88 C)) Via.refl os3 (g := (mkF m 12 #[.val (.int p1), .val (.int c1)] [])) rfl (hb hby d3_12)
    refine go (g' := (mkF m 15 #[.val (.int p1), .val (.int c1)] [(.ref gs3)])) (st4) ?_
    exact fin (v := some (.ref gs3)) (so := []) W4 (nle rfl) (nle rfl) (⟨_, rfl, rfl⟩) (fun _ q => nomatch q) (fun q => nomatch q) (own_retA W4 hx hret rfl rfl rfl (hb hby d3_15))
  · refine go (g' := (mkF m 16 #[.val (.int p1), .val (.int c1)] [])) (fun _ k => XS.ifYes W0.here hx rfl (pc0 := 9) (pc' := 16) rfl (hb hby d3_9) rfl ((if0 _ _).trans (feq kb2).2) (by decide) (by decide) k) ?_
    refine go (g' := (mkF m 17 #[.val (.int p1), .val (.int c1)] [(.int c1)])) (fun _ k => XS.iloadN W0.here hx rfl (hb hby d3_16) rfl k) ?_
    refine go (g' := (mkF m 18 #[.val (.int p1), .val (.int c1)] [(.int (1 : Int32)), (.int c1)])) (fun _ k => XS.iconst W0.here hx rfl (hb hby d3_17) k) ?_
    by_cases kb5 : c1 = (1 : Int32)
    · refine go (g' := (mkF m 21 #[.val (.int p1), .val (.int c1)] [])) (fun _ k => XS.icmpNo W0.here hx rfl (hb hby d3_18) rfl (teq kb5).2 k) ?_
      obtain ⟨gs6, os6⟩ := C.s1
      obtain ⟨T7, W7, st7⟩ := own_getS W0 hx (host := "") (Or.inl (w86 C)) Via.refl os6 (g := (mkF m 21 #[.val (.int p1), .val (.int c1)] [])) rfl (hb hby d3_21)
      refine go (g' := (mkF m 24 #[.val (.int p1), .val (.int c1)] [(.ref gs6)])) (st7) ?_
      exact fin (v := some (.ref gs6)) (so := []) W7 (nle rfl) (nle rfl) (⟨_, rfl, rfl⟩) (fun _ q => nomatch q) (fun q => nomatch q) (own_retA W7 hx hret rfl rfl rfl (hb hby d3_24))
    · refine go (g' := (mkF m 25 #[.val (.int p1), .val (.int c1)] [])) (fun _ k => XS.icmpYes W0.here hx rfl (pc0 := 18) (pc' := 25) rfl (hb hby d3_18) rfl (feq kb5).2 (by decide) (by decide) k) ?_
      refine go (g' := (mkF m 26 #[.val (.int p1), .val (.int c1)] [(.int c1)])) (fun _ k => XS.iloadN W0.here hx rfl (hb hby d3_25) rfl k) ?_
      refine go (g' := (mkF m 27 #[.val (.int p1), .val (.int c1)] [(.int (2 : Int32)), (.int c1)])) (fun _ k => XS.iconst W0.here hx rfl (hb hby d3_26) k) ?_
      by_cases kb8 : c1 = (2 : Int32)
      · refine go (g' := (mkF m 30 #[.val (.int p1), .val (.int c1)] [])) (fun _ k => XS.icmpNo W0.here hx rfl (hb hby d3_27) rfl (teq kb8).2 k) ?_
        obtain ⟨gs9, os9⟩ := C.s2
        obtain ⟨T10, W10, st10⟩ := own_getS W0 hx (host := "") (Or.inl (w30 C)) Via.refl os9 (g := (mkF m 30 #[.val (.int p1), .val (.int c1)] [])) rfl (hb hby d3_30)
        refine go (g' := (mkF m 33 #[.val (.int p1), .val (.int c1)] [(.ref gs9)])) (st10) ?_
        exact fin (v := some (.ref gs9)) (so := []) W10 (nle rfl) (nle rfl) (⟨_, rfl, rfl⟩) (fun _ q => nomatch q) (fun q => nomatch q) (own_retA W10 hx hret rfl rfl rfl (hb hby d3_33))
      · refine go (g' := (mkF m 34 #[.val (.int p1), .val (.int c1)] [])) (fun _ k => XS.icmpYes W0.here hx rfl (pc0 := 27) (pc' := 34) rfl (hb hby d3_27) rfl (feq kb8).2 (by decide) (by decide) k) ?_
        refine go (g' := (mkF m 35 #[.val (.int p1), .val (.int c1)] [(.int c1)])) (fun _ k => XS.iloadN W0.here hx rfl (hb hby d3_34) rfl k) ?_
        refine go (g' := (mkF m 36 #[.val (.int p1), .val (.int c1)] [(.int (3 : Int32)), (.int c1)])) (fun _ k => XS.iconst W0.here hx rfl (hb hby d3_35) k) ?_
        by_cases kb11 : c1 = (3 : Int32)
        · refine go (g' := (mkF m 39 #[.val (.int p1), .val (.int c1)] [])) (fun _ k => XS.icmpNo W0.here hx rfl (hb hby d3_36) rfl (teq kb11).2 k) ?_
          obtain ⟨gs12, os12⟩ := C.s3
          obtain ⟨T13, W13, st13⟩ := own_getS W0 hx (host := "") (Or.inl (w90 C)) Via.refl os12 (g := (mkF m 39 #[.val (.int p1), .val (.int c1)] [])) rfl (hb hby d3_39)
          refine go (g' := (mkF m 42 #[.val (.int p1), .val (.int c1)] [(.ref gs12)])) (st13) ?_
          exact fin (v := some (.ref gs12)) (so := []) W13 (nle rfl) (nle rfl) (⟨_, rfl, rfl⟩) (fun _ q => nomatch q) (fun q => nomatch q) (own_retA W13 hx hret rfl rfl rfl (hb hby d3_42))
        · refine go (g' := (mkF m 43 #[.val (.int p1), .val (.int c1)] [])) (fun _ k => XS.icmpYes W0.here hx rfl (pc0 := 36) (pc' := 43) rfl (hb hby d3_36) rfl (feq kb11).2 (by decide) (by decide) k) ?_
          refine go (g' := (mkF m 44 #[.val (.int p1), .val (.int c1)] [(.int c1)])) (fun _ k => XS.iloadN W0.here hx rfl (hb hby d3_43) rfl k) ?_
          refine go (g' := (mkF m 45 #[.val (.int p1), .val (.int c1)] [(.int (4 : Int32)), (.int c1)])) (fun _ k => XS.iconst W0.here hx rfl (hb hby d3_44) k) ?_
          by_cases kb14 : c1 = (4 : Int32)
          · refine go (g' := (mkF m 48 #[.val (.int p1), .val (.int c1)] [])) (fun _ k => XS.icmpNo W0.here hx rfl (hb hby d3_45) rfl (teq kb14).2 k) ?_
            obtain ⟨gs15, os15⟩ := C.s4
            obtain ⟨T16, W16, st16⟩ := own_getS W0 hx (host := "") (Or.inl (w82 C)) Via.refl os15 (g := (mkF m 48 #[.val (.int p1), .val (.int c1)] [])) rfl (hb hby d3_48)
            refine go (g' := (mkF m 51 #[.val (.int p1), .val (.int c1)] [(.ref gs15)])) (st16) ?_
            exact fin (v := some (.ref gs15)) (so := []) W16 (nle rfl) (nle rfl) (⟨_, rfl, rfl⟩) (fun _ q => nomatch q) (fun q => nomatch q) (own_retA W16 hx hret rfl rfl rfl (hb hby d3_51))
          · refine go (g' := (mkF m 52 #[.val (.int p1), .val (.int c1)] [])) (fun _ k => XS.icmpYes W0.here hx rfl (pc0 := 45) (pc' := 52) rfl (hb hby d3_45) rfl (feq kb14).2 (by decide) (by decide) k) ?_
            obtain ⟨gs17, os17⟩ := C.s5
            obtain ⟨T18, W18, st18⟩ := own_getS W0 hx (host := "") (Or.inl (w84 C)) Via.refl os17 (g := (mkF m 52 #[.val (.int p1), .val (.int c1)] [])) rfl (hb hby d3_52)
            refine go (g' := (mkF m 55 #[.val (.int p1), .val (.int c1)] [(.ref gs17)])) (st18) ?_
            exact fin (v := some (.ref gs17)) (so := []) W18 (nle rfl) (nle rfl) (⟨_, rfl, rfl⟩) (fun _ q => nomatch q) (fun q => nomatch q) (own_retA W18 hx hret rfl rfl rfl (hb hby d3_55))
set_option maxRecDepth 65536 in
set_option maxHeartbeats 40000000 in
theorem rm_ctor4 {l : Launch} {Z : State} {a0 : Array Value} (C : Cx Z a0) (h0 : Heap) (x : Addr) (u0 : Value) (r0 : u0.isRef = true) (u1 : Value) (r1 : u1.isRef = true) (u2 : Value) (r2 : u2.isRef = true) (u3 : Value) (r3 : u3.isRef = true) (F_name : Fld Z h0 x "com/example/vorm/vorm/operations/ImportItem" "name" "Ljava/lang/String;" .null) (F_resource : Fld Z h0 x "com/example/vorm/vorm/operations/ImportItem" "resource" "Lcom/example/vorm/vorm/store/NewResource;" .null) (F_reason : Fld Z h0 x "com/example/vorm/vorm/operations/ImportItem" "reason" "Lcom/example/vorm/vorm/operations/ErrorReason;" .null) (F_message : Fld Z h0 x "com/example/vorm/vorm/operations/ImportItem" "message" "Ljava/lang/String;" .null) (Ex : Exa Z h0 x "com/example/vorm/vorm/operations/ImportItem") (nx : Z.heap.size ≤ x) :
    Ct l Z a0 own_EL (⟨"com/example/vorm/vorm/operations/ImportItem", "<init>", "(Ljava/lang/String;Lcom/example/vorm/vorm/store/NewResource;Lcom/example/vorm/vorm/operations/ErrorReason;Ljava/lang/String;)V"⟩ : MethodName) prog_12_method_1_code 5 (Option.none : Option Jvm.ClassFile.FieldType) [] ({ frames := 1, cells := 0, slots := 0, locals := 12 } : Room) #[(.ref x), u0, u1, u2, u3] h0 [] (fun v h so => v = none ∧ Keep h0 h [x] ∧ Exa Z h x "com/example/vorm/vorm/operations/ImportItem" ∧ Fld Z h x "com/example/vorm/vorm/operations/ImportItem" "name" "Ljava/lang/String;" u0 ∧ Fld Z h x "com/example/vorm/vorm/operations/ImportItem" "resource" "Lcom/example/vorm/vorm/store/NewResource;" u1 ∧ Fld Z h x "com/example/vorm/vorm/operations/ImportItem" "reason" "Lcom/example/vorm/vorm/operations/ErrorReason;" u2 ∧ Fld Z h x "com/example/vorm/vorm/operations/ImportItem" "message" "Ljava/lang/String;" u3) := by
  refine own_enter (plainFor_of_name pn_2) C.ew (F0 := fun m => mkF m 0 #[.val (.ref x), .val u0, .val u1, .val u2, .val u3] []) (fun m => by rcases ref_cases r0 with rfl | ⟨_, rfl⟩ <;> rcases ref_cases r1 with rfl | ⟨_, rfl⟩ <;> rcases ref_cases r2 with rfl | ⟨_, rfl⟩ <;> rcases ref_cases r3 with rfl | ⟨_, rfl⟩ <;> rfl) ?_
  intro p e s m below meth c s₁ G hx hby hml hret hnm W0 S0 go fin
  have z0 : Z.heap.size ≤ h0.size := W0.sz
  show G s₁ (mkF m 0 #[.val (.ref x), .val u0, .val u1, .val u2, .val u3] [])
  have lx : @LT.lt Nat _ x h0.size := Ex.lt
  refine go (g' := (mkF m 1 #[.val (.ref x), .val u0, .val u1, .val u2, .val u3] [(.ref x)])) (fun _ k => XS.aloadN W0.here hx rfl (hb hby d4_0) rfl rfl k) ?_
  obtain ⟨T1, W1, st1⟩ := own_initO W0 hx (w42 C) (w16 C) (w17 C) (g := (mkF m 1 #[.val (.ref x), .val u0, .val u1, .val u2, .val u3] [(.ref x)])) rfl (by rw [hml]; rfl) rfl (hb hby d4_1) (nle rfl) (Wd := 0) (by show 2 * 0 + _ ≤ _; exact Nat.le_of_eq rfl) (nle rfl)
  refine go (g' := (mkF m 4 #[.val (.ref x), .val u0, .val u1, .val u2, .val u3] [])) (st1) ?_
  refine go (g' := (mkF m 5 #[.val (.ref x), .val u0, .val u1, .val u2, .val u3] [(.ref x)])) (fun _ k => XS.aloadN W1.here hx rfl (hb hby d4_4) rfl rfl k) ?_
  refine go (g' := (mkF m 6 #[.val (.ref x), .val u0, .val u1, .val u2, .val u3] [u0, (.ref x)])) (fun _ k => XS.aloadN W1.here hx rfl (hb hby d4_5) rfl r0 k) ?_
  obtain ⟨T2, h2, W2, R2, F2, st2⟩ := own_put W1 hx (host := "") (Or.inl (w43 C)) Via.refl F_name Ex (Or.inr ⟨(w44 C), rfl, hnm⟩) (w38 C) (ty := (.object "java/lang/String")) (by decide) (own_nrR r0 rfl) (own_ftR r0 rfl) (own_safeE W1 Ex (by decide) (by decide)) (by omega) (g := (mkF m 6 #[.val (.ref x), .val u0, .val u1, .val u2, .val u3] [u0, (.ref x)])) rfl rfl (hb hby d4_6)
  have z3 : h2.size = h0.size := R2.size
  have f4 : Fld Z h2 x "com/example/vorm/vorm/operations/ImportItem" "resource" "Lcom/example/vorm/vorm/store/NewResource;" .null := F_resource.other R2 (Or.inr (slot_ne (Or.inr (w46 C)) (Or.inr (w44 C)) (by decide) (t := (.object "com/example/vorm/vorm/store/NewResource")) (t' := (.object "java/lang/String")) (by decide) (by decide)))
  have f5 : Fld Z h2 x "com/example/vorm/vorm/operations/ImportItem" "reason" "Lcom/example/vorm/vorm/operations/ErrorReason;" .null := F_reason.other R2 (Or.inr (slot_ne (Or.inr (w48 C)) (Or.inr (w44 C)) (by decide) (t := (.object "com/example/vorm/vorm/operations/ErrorReason")) (t' := (.object "java/lang/String")) (by decide) (by decide)))
  have f6 : Fld Z h2 x "com/example/vorm/vorm/operations/ImportItem" "message" "Ljava/lang/String;" .null := F_message.other R2 (Or.inr (slot_ne (Or.inr (w50 C)) (Or.inr (w44 C)) (by decide) (t := (.object "java/lang/String")) (t' := (.object "java/lang/String")) (by decide) (by decide)))
  have f7 : Exa Z h2 x "com/example/vorm/vorm/operations/ImportItem" := Ex.wr R2
  refine go (g' := (mkF m 9 #[.val (.ref x), .val u0, .val u1, .val u2, .val u3] [])) (st2) ?_
  refine go (g' := (mkF m 10 #[.val (.ref x), .val u0, .val u1, .val u2, .val u3] [(.ref x)])) (fun _ k => XS.aloadN W2.here hx rfl (hb hby d4_9) rfl rfl k) ?_
  refine go (g' := (mkF m 11 #[.val (.ref x), .val u0, .val u1, .val u2, .val u3] [u1, (.ref x)])) (fun _ k => XS.aloadN W2.here hx rfl (hb hby d4_10) rfl r1 k) ?_
  obtain ⟨T8, h8, W8, R8, F8, st8⟩ := own_put W2 hx (host := "") (Or.inl (w45 C)) Via.refl f4 f7 (Or.inr ⟨(w46 C), rfl, hnm⟩) (w38 C) (ty := (.object "com/example/vorm/vorm/store/NewResource")) (by decide) (own_nrR r1 rfl) (own_ftR r1 rfl) (own_safeE W2 f7 (by decide) (by decide)) (by omega) (g := (mkF m 11 #[.val (.ref x), .val u0, .val u1, .val u2, .val u3] [u1, (.ref x)])) rfl rfl (hb hby d4_11)
  have z9 : h8.size = h2.size := R8.size
  have f10 : Fld Z h8 x "com/example/vorm/vorm/operations/ImportItem" "name" "Ljava/lang/String;" u0 := F2.other R8 (Or.inr (slot_ne (Or.inr (w44 C)) (Or.inr (w46 C)) (by decide) (t := (.object "java/lang/String")) (t' := (.object "com/example/vorm/vorm/store/NewResource")) (by decide) (by decide)))
  have f11 : Fld Z h8 x "com/example/vorm/vorm/operations/ImportItem" "reason" "Lcom/example/vorm/vorm/operations/ErrorReason;" .null := f5.other R8 (Or.inr (slot_ne (Or.inr (w48 C)) (Or.inr (w46 C)) (by decide) (t := (.object "com/example/vorm/vorm/operations/ErrorReason")) (t' := (.object "com/example/vorm/vorm/store/NewResource")) (by decide) (by decide)))
  have f12 : Fld Z h8 x "com/example/vorm/vorm/operations/ImportItem" "message" "Ljava/lang/String;" .null := f6.other R8 (Or.inr (slot_ne (Or.inr (w50 C)) (Or.inr (w46 C)) (by decide) (t := (.object "java/lang/String")) (t' := (.object "com/example/vorm/vorm/store/NewResource")) (by decide) (by decide)))
  have f13 : Exa Z h8 x "com/example/vorm/vorm/operations/ImportItem" := f7.wr R8
  refine go (g' := (mkF m 14 #[.val (.ref x), .val u0, .val u1, .val u2, .val u3] [])) (st8) ?_
  refine go (g' := (mkF m 15 #[.val (.ref x), .val u0, .val u1, .val u2, .val u3] [(.ref x)])) (fun _ k => XS.aloadN W8.here hx rfl (hb hby d4_14) rfl rfl k) ?_
  refine go (g' := (mkF m 16 #[.val (.ref x), .val u0, .val u1, .val u2, .val u3] [u2, (.ref x)])) (fun _ k => XS.aloadN W8.here hx rfl (hb hby d4_15) rfl r2 k) ?_
  obtain ⟨T14, h14, W14, R14, F14, st14⟩ := own_put W8 hx (host := "") (Or.inl (w47 C)) Via.refl f11 f13 (Or.inr ⟨(w48 C), rfl, hnm⟩) (w38 C) (ty := (.object "com/example/vorm/vorm/operations/ErrorReason")) (by decide) (own_nrR r2 rfl) (own_ftR r2 rfl) (own_safeE W8 f13 (by decide) (by decide)) (by omega) (g := (mkF m 16 #[.val (.ref x), .val u0, .val u1, .val u2, .val u3] [u2, (.ref x)])) rfl rfl (hb hby d4_16)
  have z15 : h14.size = h8.size := R14.size
  have f16 : Fld Z h14 x "com/example/vorm/vorm/operations/ImportItem" "name" "Ljava/lang/String;" u0 := f10.other R14 (Or.inr (slot_ne (Or.inr (w44 C)) (Or.inr (w48 C)) (by decide) (t := (.object "java/lang/String")) (t' := (.object "com/example/vorm/vorm/operations/ErrorReason")) (by decide) (by decide)))
  have f17 : Fld Z h14 x "com/example/vorm/vorm/operations/ImportItem" "resource" "Lcom/example/vorm/vorm/store/NewResource;" u1 := F8.other R14 (Or.inr (slot_ne (Or.inr (w46 C)) (Or.inr (w48 C)) (by decide) (t := (.object "com/example/vorm/vorm/store/NewResource")) (t' := (.object "com/example/vorm/vorm/operations/ErrorReason")) (by decide) (by decide)))
  have f18 : Fld Z h14 x "com/example/vorm/vorm/operations/ImportItem" "message" "Ljava/lang/String;" .null := f12.other R14 (Or.inr (slot_ne (Or.inr (w50 C)) (Or.inr (w48 C)) (by decide) (t := (.object "java/lang/String")) (t' := (.object "com/example/vorm/vorm/operations/ErrorReason")) (by decide) (by decide)))
  have f19 : Exa Z h14 x "com/example/vorm/vorm/operations/ImportItem" := f13.wr R14
  refine go (g' := (mkF m 19 #[.val (.ref x), .val u0, .val u1, .val u2, .val u3] [])) (st14) ?_
  refine go (g' := (mkF m 20 #[.val (.ref x), .val u0, .val u1, .val u2, .val u3] [(.ref x)])) (fun _ k => XS.aloadN W14.here hx rfl (hb hby d4_19) rfl rfl k) ?_
  refine go (g' := (mkF m 22 #[.val (.ref x), .val u0, .val u1, .val u2, .val u3] [u3, (.ref x)])) (fun _ k => XS.aload W14.here hx rfl (hb hby d4_20) rfl r3 k) ?_
  obtain ⟨T20, h20, W20, R20, F20, st20⟩ := own_put W14 hx (host := "") (Or.inl (w49 C)) Via.refl f18 f19 (Or.inr ⟨(w50 C), rfl, hnm⟩) (w38 C) (ty := (.object "java/lang/String")) (by decide) (own_nrR r3 rfl) (own_ftR r3 rfl) (own_safeE W14 f19 (by decide) (by decide)) (by omega) (g := (mkF m 22 #[.val (.ref x), .val u0, .val u1, .val u2, .val u3] [u3, (.ref x)])) rfl rfl (hb hby d4_22)
  have z21 : h20.size = h14.size := R20.size
  have f22 : Fld Z h20 x "com/example/vorm/vorm/operations/ImportItem" "name" "Ljava/lang/String;" u0 := f16.other R20 (Or.inr (slot_ne (Or.inr (w44 C)) (Or.inr (w50 C)) (by decide) (t := (.object "java/lang/String")) (t' := (.object "java/lang/String")) (by decide) (by decide)))
  have f23 : Fld Z h20 x "com/example/vorm/vorm/operations/ImportItem" "resource" "Lcom/example/vorm/vorm/store/NewResource;" u1 := f17.other R20 (Or.inr (slot_ne (Or.inr (w46 C)) (Or.inr (w50 C)) (by decide) (t := (.object "com/example/vorm/vorm/store/NewResource")) (t' := (.object "java/lang/String")) (by decide) (by decide)))
  have f24 : Fld Z h20 x "com/example/vorm/vorm/operations/ImportItem" "reason" "Lcom/example/vorm/vorm/operations/ErrorReason;" u2 := F14.other R20 (Or.inr (slot_ne (Or.inr (w48 C)) (Or.inr (w50 C)) (by decide) (t := (.object "com/example/vorm/vorm/operations/ErrorReason")) (t' := (.object "java/lang/String")) (by decide) (by decide)))
  have f25 : Exa Z h20 x "com/example/vorm/vorm/operations/ImportItem" := f19.wr R20
  refine go (g' := (mkF m 25 #[.val (.ref x), .val u0, .val u1, .val u2, .val u3] [])) (st20) ?_
  have KK26 : Keep h0 h20 [x] := (((((Keep.refl h0 [x]).wr R2 (Or.inl (List.mem_of_getElem? (i := 0) rfl))).wr R8 (Or.inl (List.mem_of_getElem? (i := 0) rfl))).wr R14 (Or.inl (List.mem_of_getElem? (i := 0) rfl))).wr R20 (Or.inl (List.mem_of_getElem? (i := 0) rfl)))
  exact fin (v := none) (so := []) W20 (nle rfl) (nle rfl) (⟨rfl, KK26, f25, f22, f23, f24, F20⟩) (fun _ q => nomatch q) (fun _ => rfl) (own_retV W20 hx hret (hb hby d4_25))
set_option maxRecDepth 65536 in
set_option maxHeartbeats 40000000 in
theorem rm_refused {l : Launch} {Z : State} {a0 : Array Value} (C : Cx Z a0) (h0 : Heap) (u0 u1 u2 : Value) (r0 : u0.isRef = true) (r1 : u1.isRef = true) (r2 : u2.isRef = true) :
    Ct l Z a0 own_EL (⟨"com/example/vorm/vorm/operations/ImportItem", "refused", "(Ljava/lang/String;Lcom/example/vorm/vorm/operations/ErrorReason;Ljava/lang/String;)Lcom/example/vorm/vorm/operations/ImportItem;"⟩ : MethodName) prog_12_method_3_code 3 (Option.some (Jvm.ClassFile.FieldType.object "com/example/vorm/vorm/operations/ImportItem")) [] ({ frames := 2, cells := 1, slots := 4, locals := 29 } : Room) #[u0, u1, u2] h0 [] (fun v h so => ∃ x : Addr, v = some (.ref x) ∧ Ext h0 h ∧ Exa Z h x "com/example/vorm/vorm/operations/ImportItem" ∧ Fld Z h x "com/example/vorm/vorm/operations/ImportItem" "name" "Ljava/lang/String;" u0 ∧ Fld Z h x "com/example/vorm/vorm/operations/ImportItem" "resource" "Lcom/example/vorm/vorm/store/NewResource;" .null ∧ Fld Z h x "com/example/vorm/vorm/operations/ImportItem" "reason" "Lcom/example/vorm/vorm/operations/ErrorReason;" u1 ∧ Fld Z h x "com/example/vorm/vorm/operations/ImportItem" "message" "Ljava/lang/String;" u2) := by
  refine own_enter (plainFor_of_name pn_2) C.ew (F0 := fun m => mkF m 0 #[.val u0, .val u1, .val u2] []) (fun m => by rcases ref_cases r0 with rfl | ⟨_, rfl⟩ <;> rcases ref_cases r1 with rfl | ⟨_, rfl⟩ <;> rcases ref_cases r2 with rfl | ⟨_, rfl⟩ <;> rfl) ?_
  intro p e s m below meth c s₁ G hx hby hml hret hnm W0 S0 go fin
  have z0 : Z.heap.size ≤ h0.size := W0.sz
  show G s₁ (mkF m 0 #[.val u0, .val u1, .val u2] [])
  obtain ⟨x1, T1, h1, g1, W1, E1, A1, D1, U1, st1⟩ := own_new W0 hx (w37 C) (w38 C) (w35 C) (g := (mkF m 0 #[.val u0, .val u1, .val u2] [])) rfl (hb hby d5_0) (nle rfl) (nle rfl)
  have z2 : h0.size ≤ h1.size := E1.1
  have l1 : @LT.lt Nat _ x1 h1.size := A1.lt
  have F1_name : Fld Z h1 x1 "com/example/vorm/vorm/operations/ImportItem" "name" "Ljava/lang/String;" .null := D1 (Or.inr (w44 C)) (ty := (.object "java/lang/String")) (by decide)
  have F1_resource : Fld Z h1 x1 "com/example/vorm/vorm/operations/ImportItem" "resource" "Lcom/example/vorm/vorm/store/NewResource;" .null := D1 (Or.inr (w46 C)) (ty := (.object "com/example/vorm/vorm/store/NewResource")) (by decide)
  have F1_reason : Fld Z h1 x1 "com/example/vorm/vorm/operations/ImportItem" "reason" "Lcom/example/vorm/vorm/operations/ErrorReason;" .null := D1 (Or.inr (w48 C)) (ty := (.object "com/example/vorm/vorm/operations/ErrorReason")) (by decide)
  have F1_message : Fld Z h1 x1 "com/example/vorm/vorm/operations/ImportItem" "message" "Ljava/lang/String;" .null := D1 (Or.inr (w50 C)) (ty := (.object "java/lang/String")) (by decide)
  refine go (g' := (mkF m 3 #[.val u0, .val u1, .val u2] [(.ref x1)])) (st1) ?_
  refine go (g' := (mkF m 4 #[.val u0, .val u1, .val u2] [(.ref x1), (.ref x1)])) (fun _ k => XS.dup W1.here hx rfl (hb hby d5_3) rfl rfl k) ?_
  refine go (g' := (mkF m 5 #[.val u0, .val u1, .val u2] [u0, (.ref x1), (.ref x1)])) (fun _ k => XS.aloadN W1.here hx rfl (hb hby d5_4) rfl r0 k) ?_
  refine go (g' := (mkF m 6 #[.val u0, .val u1, .val u2] [.null, u0, (.ref x1), (.ref x1)])) (fun _ k => XS.aconstNull W1.here hx rfl (hb hby d5_5) k) ?_
  refine go (g' := (mkF m 7 #[.val u0, .val u1, .val u2] [u1, .null, u0, (.ref x1), (.ref x1)])) (fun _ k => XS.aloadN W1.here hx rfl (hb hby d5_6) rfl r1 k) ?_
  refine go (g' := (mkF m 8 #[.val u0, .val u1, .val u2] [u2, u1, .null, u0, (.ref x1), (.ref x1)])) (fun _ k => XS.aloadN W1.here hx rfl (hb hby d5_7) rfl r2 k) ?_
  obtain ⟨v3, so3, vm3, T3, h3, W3, C3, q3, hso3, st3⟩ := own_special W1 hx (y := (⟨"com/example/vorm/vorm/operations/ImportItem", "<init>", "(Ljava/lang/String;Lcom/example/vorm/vorm/store/NewResource;Lcom/example/vorm/vorm/operations/ErrorReason;Ljava/lang/String;)V"⟩ : MethodName)) rfl (w39 C) (w40 C) (w35 C) (w41 C) (by decide) (rm_ctor4 C h1 x1 u0 r0 .null rfl u1 r1 u2 r2 F1_name F1_resource F1_reason F1_message A1 (by omega)) (fun _ q => nomatch q) (Wd := 1) (nle rfl) (nle rfl) (nle rfl) (nle rfl) (g := (mkF m 8 #[.val u0, .val u1, .val u2] [u2, u1, .null, u0, (.ref x1), (.ref x1)])) rfl (by rw [hml]; rfl) (a := x1) (argsL := [u0, .null, u1, u2]) (rest := [(.ref x1)]) (lenOf pd_2 rfl) rfl rfl (by show 2 * 0 + _ ≤ _; exact Nat.le_of_eq rfl) (hb hby d5_8)
  obtain ⟨rfl, K3, E3, F3_name, F3_resource, F3_reason, F3_message⟩ := q3
  have z4 : h1.size ≤ h3.size := K3.1
  refine go (g' := (mkF m 11 #[.val u0, .val u1, .val u2] [(.ref x1)])) (st3) ?_
  have X5 : Ext h0 h1 := own_xt (own_xr h0) E1
  have X6 : Ext h0 h3 := own_xk X5 K3 (allS (by omega) all0)
  exact fin (v := some (.ref x1)) (so := []) W3 (nle rfl) (nle rfl) (⟨_, rfl, X6, E3, F3_name, F3_resource, F3_reason, F3_message⟩) (fun _ q => nomatch q) (fun q => nomatch q) (own_retA W3 hx hret rfl rfl rfl (hb hby d5_11))
set_option maxRecDepth 65536 in
set_option maxHeartbeats 40000000 in
theorem rm_get6 {l : Launch} {Z : State} {a0 : Array Value} (C : Cx Z a0) (h0 : Heap) (a : Addr) (u : Value) (ru : u.isRef = true) (Fa : Fld Z h0 a "com/example/vorm/vorm/operations/ImportItem" "name" "Ljava/lang/String;" u) :
    Ct l Z a0 own_EL (⟨"com/example/vorm/vorm/operations/ImportItem", "name", "()Ljava/lang/String;"⟩ : MethodName) prog_12_method_4_code 1 (Option.some (Jvm.ClassFile.FieldType.object "java/lang/String")) [] ({ frames := 0, cells := 0, slots := 0, locals := 0 } : Room) #[(.ref a)] h0 [] (fun v h so => v = some u ∧ h0 = h) := by
  refine own_enter (plainFor_of_name pn_2) C.ew (F0 := fun m => mkF m 0 #[.val (.ref a)] []) (fun m => by first | (simp [entryFrame, mkF, argsToLocals, Value.category]; done) | rfl) ?_
  intro p e s m below meth c s₁ G hx hby hml hret hnm W0 S0 go fin
  have z0 : Z.heap.size ≤ h0.size := W0.sz
  show G s₁ (mkF m 0 #[.val (.ref a)] [])
  refine go (g' := (mkF m 1 #[.val (.ref a)] [(.ref a)])) (fun _ k => XS.aloadN W0.here hx rfl (hb hby d6_0) rfl rfl k) ?_
  obtain ⟨T1, W1, st1⟩ := own_get W0 hx (host := "") (Or.inl (w43 C)) Via.refl Fa (g := (mkF m 1 #[.val (.ref a)] [(.ref a)])) rfl rfl (hb hby d6_1)
  refine go (g' := (mkF m 4 #[.val (.ref a)] [u])) (st1) ?_
  exact fin (v := some u) (so := []) W1 (nle rfl) (nle rfl) (⟨rfl, rfl⟩) (fun _ q => nomatch q) (fun q => nomatch q) (own_retA W1 hx hret rfl ru (own_nrR ru rfl) (hb hby d6_4))
set_option maxRecDepth 65536 in
set_option maxHeartbeats 40000000 in
theorem rm_get7 {l : Launch} {Z : State} {a0 : Array Value} (C : Cx Z a0) (h0 : Heap) (a : Addr) (u : Value) (ru : u.isRef = true) (Fa : Fld Z h0 a "com/example/vorm/vorm/operations/ImportItem" "resource" "Lcom/example/vorm/vorm/store/NewResource;" u) :
    Ct l Z a0 own_EL (⟨"com/example/vorm/vorm/operations/ImportItem", "resource", "()Lcom/example/vorm/vorm/store/NewResource;"⟩ : MethodName) prog_12_method_5_code 1 (Option.some (Jvm.ClassFile.FieldType.object "com/example/vorm/vorm/store/NewResource")) [] ({ frames := 0, cells := 0, slots := 0, locals := 0 } : Room) #[(.ref a)] h0 [] (fun v h so => v = some u ∧ h0 = h) := by
  refine own_enter (plainFor_of_name pn_2) C.ew (F0 := fun m => mkF m 0 #[.val (.ref a)] []) (fun m => by first | (simp [entryFrame, mkF, argsToLocals, Value.category]; done) | rfl) ?_
  intro p e s m below meth c s₁ G hx hby hml hret hnm W0 S0 go fin
  have z0 : Z.heap.size ≤ h0.size := W0.sz
  show G s₁ (mkF m 0 #[.val (.ref a)] [])
  refine go (g' := (mkF m 1 #[.val (.ref a)] [(.ref a)])) (fun _ k => XS.aloadN W0.here hx rfl (hb hby d7_0) rfl rfl k) ?_
  obtain ⟨T1, W1, st1⟩ := own_get W0 hx (host := "") (Or.inl (w45 C)) Via.refl Fa (g := (mkF m 1 #[.val (.ref a)] [(.ref a)])) rfl rfl (hb hby d7_1)
  refine go (g' := (mkF m 4 #[.val (.ref a)] [u])) (st1) ?_
  exact fin (v := some u) (so := []) W1 (nle rfl) (nle rfl) (⟨rfl, rfl⟩) (fun _ q => nomatch q) (fun q => nomatch q) (own_retA W1 hx hret rfl ru (own_nrR ru rfl) (hb hby d7_4))
set_option maxRecDepth 65536 in
set_option maxHeartbeats 40000000 in
theorem rm_get8 {l : Launch} {Z : State} {a0 : Array Value} (C : Cx Z a0) (h0 : Heap) (a : Addr) (u : Value) (ru : u.isRef = true) (Fa : Fld Z h0 a "com/example/vorm/vorm/operations/ImportItem" "reason" "Lcom/example/vorm/vorm/operations/ErrorReason;" u) :
    Ct l Z a0 own_EL (⟨"com/example/vorm/vorm/operations/ImportItem", "reason", "()Lcom/example/vorm/vorm/operations/ErrorReason;"⟩ : MethodName) prog_12_method_6_code 1 (Option.some (Jvm.ClassFile.FieldType.object "com/example/vorm/vorm/operations/ErrorReason")) [] ({ frames := 0, cells := 0, slots := 0, locals := 0 } : Room) #[(.ref a)] h0 [] (fun v h so => v = some u ∧ h0 = h) := by
  refine own_enter (plainFor_of_name pn_2) C.ew (F0 := fun m => mkF m 0 #[.val (.ref a)] []) (fun m => by first | (simp [entryFrame, mkF, argsToLocals, Value.category]; done) | rfl) ?_
  intro p e s m below meth c s₁ G hx hby hml hret hnm W0 S0 go fin
  have z0 : Z.heap.size ≤ h0.size := W0.sz
  show G s₁ (mkF m 0 #[.val (.ref a)] [])
  refine go (g' := (mkF m 1 #[.val (.ref a)] [(.ref a)])) (fun _ k => XS.aloadN W0.here hx rfl (hb hby d8_0) rfl rfl k) ?_
  obtain ⟨T1, W1, st1⟩ := own_get W0 hx (host := "") (Or.inl (w47 C)) Via.refl Fa (g := (mkF m 1 #[.val (.ref a)] [(.ref a)])) rfl rfl (hb hby d8_1)
  refine go (g' := (mkF m 4 #[.val (.ref a)] [u])) (st1) ?_
  exact fin (v := some u) (so := []) W1 (nle rfl) (nle rfl) (⟨rfl, rfl⟩) (fun _ q => nomatch q) (fun q => nomatch q) (own_retA W1 hx hret rfl ru (own_nrR ru rfl) (hb hby d8_4))
set_option maxRecDepth 65536 in
set_option maxHeartbeats 40000000 in
theorem rm_get9 {l : Launch} {Z : State} {a0 : Array Value} (C : Cx Z a0) (h0 : Heap) (a : Addr) (u : Value) (ru : u.isRef = true) (Fa : Fld Z h0 a "com/example/vorm/vorm/operations/ImportItem" "message" "Ljava/lang/String;" u) :
    Ct l Z a0 own_EL (⟨"com/example/vorm/vorm/operations/ImportItem", "message", "()Ljava/lang/String;"⟩ : MethodName) prog_12_method_7_code 1 (Option.some (Jvm.ClassFile.FieldType.object "java/lang/String")) [] ({ frames := 0, cells := 0, slots := 0, locals := 0 } : Room) #[(.ref a)] h0 [] (fun v h so => v = some u ∧ h0 = h) := by
  refine own_enter (plainFor_of_name pn_2) C.ew (F0 := fun m => mkF m 0 #[.val (.ref a)] []) (fun m => by first | (simp [entryFrame, mkF, argsToLocals, Value.category]; done) | rfl) ?_
  intro p e s m below meth c s₁ G hx hby hml hret hnm W0 S0 go fin
  have z0 : Z.heap.size ≤ h0.size := W0.sz
  show G s₁ (mkF m 0 #[.val (.ref a)] [])
  refine go (g' := (mkF m 1 #[.val (.ref a)] [(.ref a)])) (fun _ k => XS.aloadN W0.here hx rfl (hb hby d9_0) rfl rfl k) ?_
  obtain ⟨T1, W1, st1⟩ := own_get W0 hx (host := "") (Or.inl (w49 C)) Via.refl Fa (g := (mkF m 1 #[.val (.ref a)] [(.ref a)])) rfl rfl (hb hby d9_1)
  refine go (g' := (mkF m 4 #[.val (.ref a)] [u])) (st1) ?_
  exact fin (v := some u) (so := []) W1 (nle rfl) (nle rfl) (⟨rfl, rfl⟩) (fun _ q => nomatch q) (fun q => nomatch q) (own_retA W1 hx hret rfl ru (own_nrR ru rfl) (hb hby d9_4))
set_option maxRecDepth 65536 in
set_option maxHeartbeats 40000000 in
theorem rm0 {l : Launch} {Z : State} {a0 : Array Value} (C : Cx Z a0) (h0 : Heap) (p1 p2 p3 p4 : Int32) :
    Ct l Z a0 own_EL x code maxLocals ret tables_1 room_1 #[(.int p1), (.int p2), (.int p3), (.int p4)] h0 [] (fun v h so => v = some (.int 1)) := by
  refine own_enter (plainFor_of_name pn_1) C.ew (F0 := fun m => mkF m 0 #[.val (.int p1), .val (.int p2), .val (.int p3), .val (.int p4), .unset, .unset, .unset, .unset] []) (fun m => by first | (simp [entryFrame, mkF, argsToLocals, Value.category, maxLocals]; done) | rfl) ?_
  intro p e s m below meth c s₁ G hx hby hml hret hnm W0 S0 go fin
  have z0 : Z.heap.size ≤ h0.size := W0.sz
  show G s₁ (mkF m 0 #[.val (.int p1), .val (.int p2), .val (.int p3), .val (.int p4), .unset, .unset, .unset, .unset] [])
  refine go (g' := (mkF m 1 #[.val (.int p1), .val (.int p2), .val (.int p3), .val (.int p4), .unset, .unset, .unset, .unset] [.null])) (fun _ k => XS.aconstNull W0.here hx rfl (hb hby at_0) k) ?_
  refine go (g' := (mkF m 3 #[.val (.int p1), .val (.int p2), .val (.int p3), .val (.int p4), .val .null, .unset, .unset, .unset] [])) (fun _ k => XS.astore W0.here hx rfl (hb hby at_1) rfl rfl (l' := #[.val (.int p1), .val (.int p2), .val (.int p3), .val (.int p4), .val .null, .unset, .unset, .unset]) rfl k) ?_
  refine go (g' := (mkF m 4 #[.val (.int p1), .val (.int p2), .val (.int p3), .val (.int p4), .val .null, .unset, .unset, .unset] [(.int p4)])) (fun _ k => XS.iloadN W0.here hx rfl (hb hby at_3) rfl k) ?_
  refine go (g' := (mkF m 5 #[.val (.int p1), .val (.int p2), .val (.int p3), .val (.int p4), .val .null, .unset, .unset, .unset] [(.int (1 : Int32)), (.int p4)])) (fun _ k => XS.iconst W0.here hx rfl (hb hby at_4) k) ?_
  refine go (g' := (mkF m 6 #[.val (.int p1), .val (.int p2), .val (.int p3), .val (.int p4), .val .null, .unset, .unset, .unset] [(.int (p4 &&& (1 : Int32)))])) (fun _ k => XS.iand W0.here hx rfl (hb hby at_5) rfl k) ?_
  by_cases kb1 : (p4 &&& (1 : Int32)) = (0 : Int32)
  · refine go (g' := (mkF m 9 #[.val (.int p1), .val (.int p2), .val (.int p3), .val (.int p4), .val .null, .unset, .unset, .unset] [])) (fun _ k => XS.ifNo W0.here hx rfl (hb hby at_6) rfl ((if0 _ _).trans (teq kb1).2) k) ?_
    refine go (g' := (mkF m 10 #[.val (.int p1), .val (.int p2), .val (.int p3), .val (.int p4), .val .null, .unset, .unset, .unset] [(.int p1)])) (fun _ k => XS.iloadN W0.here hx rfl (hb hby at_9) rfl k) ?_
    refine go (g' := (mkF m 11 #[.val (.int p1), .val (.int p2), .val (.int p3), .val (.int p4), .val .null, .unset, .unset, .unset] [(.int p4), (.int p1)])) (fun _ k => XS.iloadN W0.here hx rfl (hb hby at_10) rfl k) ?_
    refine go (g' := (mkF m 12 #[.val (.int p1), .val (.int p2), .val (.int p3), .val (.int p4), .val .null, .unset, .unset, .unset] [(.int (1 : Int32)), (.int p4), (.int p1)])) (fun _ k => XS.iconst W0.here hx rfl (hb hby at_11) k) ?_
    refine go (g' := (mkF m 13 #[.val (.int p1), .val (.int p2), .val (.int p3), .val (.int p4), .val .null, .unset, .unset, .unset] [(.int ((p4.toUInt32 >>> ((1 : Int32) &&& 31).toUInt32).toInt32)), (.int p1)])) (fun _ k => XS.iushr W0.here hx rfl (hb hby at_12) rfl k) ?_
    refine go (g' := (mkF m 14 #[.val (.int p1), .val (.int p2), .val (.int p3), .val (.int p4), .val .null, .unset, .unset, .unset] [(.int (3 : Int32)), (.int ((p4.toUInt32 >>> ((1 : Int32) &&& 31).toUInt32).toInt32)), (.int p1)])) (fun _ k => XS.iconst W0.here hx rfl (hb hby at_13) k) ?_
    refine go (g' := (mkF m 15 #[.val (.int p1), .val (.int p2), .val (.int p3), .val (.int p4), .val .null, .unset, .unset, .unset] [(.int (((p4.toUInt32 >>> ((1 : Int32) &&& 31).toUInt32).toInt32) &&& (3 : Int32))), (.int p1)])) (fun _ k => XS.iand W0.here hx rfl (hb hby at_14) rfl k) ?_
    obtain ⟨v2, so2, vm2, T2, h2, W2, C2, q2, hso2, st2⟩ := own_static W0 hx (y := (⟨"com/example/vorm/vorm/operations/ImportItemRefusedPinLaw", "drawn", "(II)Ljava/lang/String;"⟩ : MethodName)) (w0 C) (w1 C) (w2 C) (w3 C) (by decide) (rm_drawn C h0 p1 (((p4.toUInt32 >>> ((1 : Int32) &&& 31).toUInt32).toInt32) &&& (3 : Int32))) (fun _ q => nomatch q) (Wd := 0) (nle rfl) (nle rfl) (nle rfl) (nle rfl) (g := (mkF m 15 #[.val (.int p1), .val (.int p2), .val (.int p3), .val (.int p4), .val .null, .unset, .unset, .unset] [(.int (((p4.toUInt32 >>> ((1 : Int32) &&& 31).toUInt32).toInt32) &&& (3 : Int32))), (.int p1)])) rfl (by rw [hml]; rfl) (argsL := [(.int p1), (.int (((p4.toUInt32 >>> ((1 : Int32) &&& 31).toUInt32).toInt32) &&& (3 : Int32)))]) (rest := []) (lenOf pd_3 rfl) rfl rfl (by show 2 * 0 + _ ≤ _; exact Nat.le_of_eq rfl) (hb hby at_15)
    obtain ⟨x2, rfl, E2⟩ := q2
    have z3 : h0.size ≤ h2.size := E2.1
    refine go (g' := (mkF m 18 #[.val (.int p1), .val (.int p2), .val (.int p3), .val (.int p4), .val .null, .unset, .unset, .unset] [(.ref x2)])) (st2) ?_
    refine go (g' := (mkF m 20 #[.val (.int p1), .val (.int p2), .val (.int p3), .val (.int p4), .val (.ref x2), .unset, .unset, .unset] [])) (fun _ k => XS.astore W2.here hx rfl (hb hby at_18) rfl rfl (l' := #[.val (.int p1), .val (.int p2), .val (.int p3), .val (.int p4), .val (.ref x2), .unset, .unset, .unset]) rfl k) ?_
    refine go (g' := (mkF m 21 #[.val (.int p1), .val (.int p2), .val (.int p3), .val (.int p4), .val (.ref x2), .unset, .unset, .unset] [(.int p2)])) (fun _ k => XS.iloadN W2.here hx rfl (hb hby at_20) rfl k) ?_
    refine go (g' := (mkF m 22 #[.val (.int p1), .val (.int p2), .val (.int p3), .val (.int p4), .val (.ref x2), .unset, .unset, .unset] [(.int p4), (.int p2)])) (fun _ k => XS.iloadN W2.here hx rfl (hb hby at_21) rfl k) ?_
    refine go (g' := (mkF m 23 #[.val (.int p1), .val (.int p2), .val (.int p3), .val (.int p4), .val (.ref x2), .unset, .unset, .unset] [(.int (3 : Int32)), (.int p4), (.int p2)])) (fun _ k => XS.iconst W2.here hx rfl (hb hby at_22) k) ?_
    refine go (g' := (mkF m 24 #[.val (.int p1), .val (.int p2), .val (.int p3), .val (.int p4), .val (.ref x2), .unset, .unset, .unset] [(.int ((p4.toUInt32 >>> ((3 : Int32) &&& 31).toUInt32).toInt32)), (.int p2)])) (fun _ k => XS.iushr W2.here hx rfl (hb hby at_23) rfl k) ?_
    refine go (g' := (mkF m 25 #[.val (.int p1), .val (.int p2), .val (.int p3), .val (.int p4), .val (.ref x2), .unset, .unset, .unset] [(.int (3 : Int32)), (.int ((p4.toUInt32 >>> ((3 : Int32) &&& 31).toUInt32).toInt32)), (.int p2)])) (fun _ k => XS.iconst W2.here hx rfl (hb hby at_24) k) ?_
    refine go (g' := (mkF m 26 #[.val (.int p1), .val (.int p2), .val (.int p3), .val (.int p4), .val (.ref x2), .unset, .unset, .unset] [(.int (((p4.toUInt32 >>> ((3 : Int32) &&& 31).toUInt32).toInt32) &&& (3 : Int32))), (.int p2)])) (fun _ k => XS.iand W2.here hx rfl (hb hby at_25) rfl k) ?_
    obtain ⟨v4, so4, vm4, T4, h4, W4, C4, q4, hso4, st4⟩ := own_static W2 hx (y := (⟨"com/example/vorm/vorm/operations/ImportItemRefusedPinLaw", "drawn", "(II)Ljava/lang/String;"⟩ : MethodName)) (w0 C) (w1 C) (w2 C) (w3 C) (by decide) (rm_drawn C h2 p2 (((p4.toUInt32 >>> ((3 : Int32) &&& 31).toUInt32).toInt32) &&& (3 : Int32))) (fun _ q => nomatch q) (Wd := 0) (nle rfl) (nle rfl) (nle rfl) (nle rfl) (g := (mkF m 26 #[.val (.int p1), .val (.int p2), .val (.int p3), .val (.int p4), .val (.ref x2), .unset, .unset, .unset] [(.int (((p4.toUInt32 >>> ((3 : Int32) &&& 31).toUInt32).toInt32) &&& (3 : Int32))), (.int p2)])) rfl (by rw [hml]; rfl) (argsL := [(.int p2), (.int (((p4.toUInt32 >>> ((3 : Int32) &&& 31).toUInt32).toInt32) &&& (3 : Int32)))]) (rest := []) (lenOf pd_3 rfl) rfl rfl (by show 2 * 0 + _ ≤ _; exact Nat.le_of_eq rfl) (hb hby at_26)
    obtain ⟨x4, rfl, E4⟩ := q4
    have z5 : h2.size ≤ h4.size := E4.1
    refine go (g' := (mkF m 29 #[.val (.int p1), .val (.int p2), .val (.int p3), .val (.int p4), .val (.ref x2), .unset, .unset, .unset] [(.ref x4)])) (st4) ?_
    refine go (g' := (mkF m 31 #[.val (.int p1), .val (.int p2), .val (.int p3), .val (.int p4), .val (.ref x2), .val (.ref x4), .unset, .unset] [])) (fun _ k => XS.astore W4.here hx rfl (hb hby at_29) rfl rfl (l' := #[.val (.int p1), .val (.int p2), .val (.int p3), .val (.int p4), .val (.ref x2), .val (.ref x4), .unset, .unset]) rfl k) ?_
    refine go (g' := (mkF m 32 #[.val (.int p1), .val (.int p2), .val (.int p3), .val (.int p4), .val (.ref x2), .val (.ref x4), .unset, .unset] [(.int p3)])) (fun _ k => XS.iloadN W4.here hx rfl (hb hby at_31) rfl k) ?_
    obtain ⟨v6, so6, vm6, T6, h6, W6, C6, q6, hso6, st6⟩ := own_static W4 hx (y := (⟨"com/example/vorm/vorm/operations/ImportItemRefusedPinLaw", "pick", "(I)Lcom/example/vorm/vorm/operations/ErrorReason;"⟩ : MethodName)) (w26 C) (w27 C) (w2 C) (w28 C) (by decide) (rm_pick C h4 p3) (fun _ q => nomatch q) (Wd := 0) (nle rfl) (nle rfl) (nle rfl) (nle rfl) (g := (mkF m 32 #[.val (.int p1), .val (.int p2), .val (.int p3), .val (.int p4), .val (.ref x2), .val (.ref x4), .unset, .unset] [(.int p3)])) rfl (by rw [hml]; rfl) (argsL := [(.int p3)]) (rest := []) (lenOf pd_4 rfl) rfl rfl (by show 2 * 0 + _ ≤ _; exact Nat.le_of_eq rfl) (hb hby at_32)
    obtain ⟨x6, rfl, rfl⟩ := q6
    refine go (g' := (mkF m 35 #[.val (.int p1), .val (.int p2), .val (.int p3), .val (.int p4), .val (.ref x2), .val (.ref x4), .unset, .unset] [(.ref x6)])) (st6) ?_
    refine go (g' := (mkF m 37 #[.val (.int p1), .val (.int p2), .val (.int p3), .val (.int p4), .val (.ref x2), .val (.ref x4), .val (.ref x6), .unset] [])) (fun _ k => XS.astore W6.here hx rfl (hb hby at_35) rfl rfl (l' := #[.val (.int p1), .val (.int p2), .val (.int p3), .val (.int p4), .val (.ref x2), .val (.ref x4), .val (.ref x6), .unset]) rfl k) ?_
    refine go (g' := (mkF m 39 #[.val (.int p1), .val (.int p2), .val (.int p3), .val (.int p4), .val (.ref x2), .val (.ref x4), .val (.ref x6), .unset] [(.ref x2)])) (fun _ k => XS.aload W6.here hx rfl (hb hby at_37) rfl rfl k) ?_
    refine go (g' := (mkF m 41 #[.val (.int p1), .val (.int p2), .val (.int p3), .val (.int p4), .val (.ref x2), .val (.ref x4), .val (.ref x6), .unset] [(.ref x6), (.ref x2)])) (fun _ k => XS.aload W6.here hx rfl (hb hby at_39) rfl rfl k) ?_
    refine go (g' := (mkF m 43 #[.val (.int p1), .val (.int p2), .val (.int p3), .val (.int p4), .val (.ref x2), .val (.ref x4), .val (.ref x6), .unset] [(.ref x4), (.ref x6), (.ref x2)])) (fun _ k => XS.aload W6.here hx rfl (hb hby at_41) rfl rfl k) ?_
    obtain ⟨v7, so7, vm7, T7, h7, W7, C7, q7, hso7, st7⟩ := own_static W6 hx (y := (⟨"com/example/vorm/vorm/operations/ImportItem", "refused", "(Ljava/lang/String;Lcom/example/vorm/vorm/operations/ErrorReason;Ljava/lang/String;)Lcom/example/vorm/vorm/operations/ImportItem;"⟩ : MethodName)) (w33 C) (w34 C) (w35 C) (w36 C) (by decide) (rm_refused C h4 (.ref x2) (.ref x6) (.ref x4) rfl rfl rfl) (fun _ q => nomatch q) (Wd := 0) (nle rfl) (nle rfl) (nle rfl) (nle rfl) (g := (mkF m 43 #[.val (.int p1), .val (.int p2), .val (.int p3), .val (.int p4), .val (.ref x2), .val (.ref x4), .val (.ref x6), .unset] [(.ref x4), (.ref x6), (.ref x2)])) rfl (by rw [hml]; rfl) (argsL := [(.ref x2), (.ref x6), (.ref x4)]) (rest := []) (lenOf pd_5 rfl) rfl rfl (by show 2 * 0 + _ ≤ _; exact Nat.le_of_eq rfl) (hb hby at_43)
    obtain ⟨x7, rfl, E7, A7, F7_name, F7_resource, F7_reason, F7_message⟩ := q7
    have z8 : h4.size ≤ h7.size := E7.1
    refine go (g' := (mkF m 46 #[.val (.int p1), .val (.int p2), .val (.int p3), .val (.int p4), .val (.ref x2), .val (.ref x4), .val (.ref x6), .unset] [(.ref x7)])) (st7) ?_
    refine go (g' := (mkF m 48 #[.val (.int p1), .val (.int p2), .val (.int p3), .val (.int p4), .val (.ref x2), .val (.ref x4), .val (.ref x6), .val (.ref x7)] [])) (fun _ k => XS.astore W7.here hx rfl (hb hby at_46) rfl rfl (l' := #[.val (.int p1), .val (.int p2), .val (.int p3), .val (.int p4), .val (.ref x2), .val (.ref x4), .val (.ref x6), .val (.ref x7)]) rfl k) ?_
    refine go (g' := (mkF m 50 #[.val (.int p1), .val (.int p2), .val (.int p3), .val (.int p4), .val (.ref x2), .val (.ref x4), .val (.ref x6), .val (.ref x7)] [(.ref x7)])) (fun _ k => XS.aload W7.here hx rfl (hb hby at_48) rfl rfl k) ?_
    obtain ⟨v9, so9, vm9, T9, h9, W9, C9, q9, hso9, st9⟩ := own_virtual W7 hx (y := (⟨"com/example/vorm/vorm/operations/ImportItem", "name", "()Ljava/lang/String;"⟩ : MethodName)) (z := (⟨"com/example/vorm/vorm/operations/ImportItem", "name", "()Ljava/lang/String;"⟩ : MethodName)) (w51 C) (w52 C) (w54 C) (w53 C) (w35 C) (w55 C) (by decide) (own_nf W7 (w54 C)) A7 (rm_get6 C h7 x7 (.ref x2) rfl F7_name) (fun _ q => nomatch q) (Wd := 0) (nle rfl) (nle rfl) (nle rfl) (nle rfl) (g := (mkF m 50 #[.val (.int p1), .val (.int p2), .val (.int p3), .val (.int p4), .val (.ref x2), .val (.ref x4), .val (.ref x6), .val (.ref x7)] [(.ref x7)])) rfl (by rw [hml]; rfl) (argsL := []) (rest := []) (lenOf pd_6 rfl) rfl rfl (by show 2 * 0 + _ ≤ _; exact Nat.le_of_eq rfl) (hb hby at_50)
    obtain ⟨rfl, rfl⟩ := q9
    refine go (g' := (mkF m 53 #[.val (.int p1), .val (.int p2), .val (.int p3), .val (.int p4), .val (.ref x2), .val (.ref x4), .val (.ref x6), .val (.ref x7)] [(.ref x2)])) (st9) ?_
    refine go (g' := (mkF m 55 #[.val (.int p1), .val (.int p2), .val (.int p3), .val (.int p4), .val (.ref x2), .val (.ref x4), .val (.ref x6), .val (.ref x7)] [(.ref x2), (.ref x2)])) (fun _ k => XS.aload W9.here hx rfl (hb hby at_53) rfl rfl k) ?_
    refine go (g' := (mkF m 58 #[.val (.int p1), .val (.int p2), .val (.int p3), .val (.int p4), .val (.ref x2), .val (.ref x4), .val (.ref x6), .val (.ref x7)] [])) (own_acmp W9 hx (g := (mkF m 55 #[.val (.int p1), .val (.int p2), .val (.int p3), .val (.int p4), .val (.ref x2), .val (.ref x4), .val (.ref x6), .val (.ref x7)] [(.ref x2), (.ref x2)])) rfl rfl rfl (pc0 := 55) (pc' := 58) (same := true) rfl (hb hby at_55) rfl (decide_eq_true rfl) (by decide) (by decide)) ?_
    refine go (g' := (mkF m 60 #[.val (.int p1), .val (.int p2), .val (.int p3), .val (.int p4), .val (.ref x2), .val (.ref x4), .val (.ref x6), .val (.ref x7)] [(.ref x7)])) (fun _ k => XS.aload W9.here hx rfl (hb hby at_58) rfl rfl k) ?_
    obtain ⟨v10, so10, vm10, T10, h10, W10, C10, q10, hso10, st10⟩ := own_virtual W9 hx (y := (⟨"com/example/vorm/vorm/operations/ImportItem", "resource", "()Lcom/example/vorm/vorm/store/NewResource;"⟩ : MethodName)) (z := (⟨"com/example/vorm/vorm/operations/ImportItem", "resource", "()Lcom/example/vorm/vorm/store/NewResource;"⟩ : MethodName)) (w56 C) (w57 C) (w59 C) (w58 C) (w35 C) (w60 C) (by decide) (own_nf W9 (w59 C)) A7 (rm_get7 C h7 x7 .null rfl F7_resource) (fun _ q => nomatch q) (Wd := 0) (nle rfl) (nle rfl) (nle rfl) (nle rfl) (g := (mkF m 60 #[.val (.int p1), .val (.int p2), .val (.int p3), .val (.int p4), .val (.ref x2), .val (.ref x4), .val (.ref x6), .val (.ref x7)] [(.ref x7)])) rfl (by rw [hml]; rfl) (argsL := []) (rest := []) (lenOf pd_7 rfl) rfl rfl (by show 2 * 0 + _ ≤ _; exact Nat.le_of_eq rfl) (hb hby at_60)
    obtain ⟨rfl, rfl⟩ := q10
    refine go (g' := (mkF m 63 #[.val (.int p1), .val (.int p2), .val (.int p3), .val (.int p4), .val (.ref x2), .val (.ref x4), .val (.ref x6), .val (.ref x7)] [.null])) (st10) ?_
    refine go (g' := (mkF m 66 #[.val (.int p1), .val (.int p2), .val (.int p3), .val (.int p4), .val (.ref x2), .val (.ref x4), .val (.ref x6), .val (.ref x7)] [])) (fun _ k => XS.ifnonnullNo W10.here hx rfl (hb hby at_63) rfl k) ?_
    refine go (g' := (mkF m 68 #[.val (.int p1), .val (.int p2), .val (.int p3), .val (.int p4), .val (.ref x2), .val (.ref x4), .val (.ref x6), .val (.ref x7)] [(.ref x7)])) (fun _ k => XS.aload W10.here hx rfl (hb hby at_66) rfl rfl k) ?_
    obtain ⟨v11, so11, vm11, T11, h11, W11, C11, q11, hso11, st11⟩ := own_virtual W10 hx (y := (⟨"com/example/vorm/vorm/operations/ImportItem", "reason", "()Lcom/example/vorm/vorm/operations/ErrorReason;"⟩ : MethodName)) (z := (⟨"com/example/vorm/vorm/operations/ImportItem", "reason", "()Lcom/example/vorm/vorm/operations/ErrorReason;"⟩ : MethodName)) (w61 C) (w62 C) (w64 C) (w63 C) (w35 C) (w65 C) (by decide) (own_nf W10 (w64 C)) A7 (rm_get8 C h7 x7 (.ref x6) rfl F7_reason) (fun _ q => nomatch q) (Wd := 0) (nle rfl) (nle rfl) (nle rfl) (nle rfl) (g := (mkF m 68 #[.val (.int p1), .val (.int p2), .val (.int p3), .val (.int p4), .val (.ref x2), .val (.ref x4), .val (.ref x6), .val (.ref x7)] [(.ref x7)])) rfl (by rw [hml]; rfl) (argsL := []) (rest := []) (lenOf pd_8 rfl) rfl rfl (by show 2 * 0 + _ ≤ _; exact Nat.le_of_eq rfl) (hb hby at_68)
    obtain ⟨rfl, rfl⟩ := q11
    refine go (g' := (mkF m 71 #[.val (.int p1), .val (.int p2), .val (.int p3), .val (.int p4), .val (.ref x2), .val (.ref x4), .val (.ref x6), .val (.ref x7)] [(.ref x6)])) (st11) ?_
    refine go (g' := (mkF m 73 #[.val (.int p1), .val (.int p2), .val (.int p3), .val (.int p4), .val (.ref x2), .val (.ref x4), .val (.ref x6), .val (.ref x7)] [(.ref x6), (.ref x6)])) (fun _ k => XS.aload W11.here hx rfl (hb hby at_71) rfl rfl k) ?_
    refine go (g' := (mkF m 76 #[.val (.int p1), .val (.int p2), .val (.int p3), .val (.int p4), .val (.ref x2), .val (.ref x4), .val (.ref x6), .val (.ref x7)] [])) (own_acmp W11 hx (g := (mkF m 73 #[.val (.int p1), .val (.int p2), .val (.int p3), .val (.int p4), .val (.ref x2), .val (.ref x4), .val (.ref x6), .val (.ref x7)] [(.ref x6), (.ref x6)])) rfl rfl rfl (pc0 := 73) (pc' := 76) (same := true) rfl (hb hby at_73) rfl (decide_eq_true rfl) (by decide) (by decide)) ?_
    refine go (g' := (mkF m 78 #[.val (.int p1), .val (.int p2), .val (.int p3), .val (.int p4), .val (.ref x2), .val (.ref x4), .val (.ref x6), .val (.ref x7)] [(.ref x7)])) (fun _ k => XS.aload W11.here hx rfl (hb hby at_76) rfl rfl k) ?_
    obtain ⟨v12, so12, vm12, T12, h12, W12, C12, q12, hso12, st12⟩ := own_virtual W11 hx (y := (⟨"com/example/vorm/vorm/operations/ImportItem", "message", "()Ljava/lang/String;"⟩ : MethodName)) (z := (⟨"com/example/vorm/vorm/operations/ImportItem", "message", "()Ljava/lang/String;"⟩ : MethodName)) (w66 C) (w67 C) (w69 C) (w68 C) (w35 C) (w70 C) (by decide) (own_nf W11 (w69 C)) A7 (rm_get9 C h7 x7 (.ref x4) rfl F7_message) (fun _ q => nomatch q) (Wd := 0) (nle rfl) (nle rfl) (nle rfl) (nle rfl) (g := (mkF m 78 #[.val (.int p1), .val (.int p2), .val (.int p3), .val (.int p4), .val (.ref x2), .val (.ref x4), .val (.ref x6), .val (.ref x7)] [(.ref x7)])) rfl (by rw [hml]; rfl) (argsL := []) (rest := []) (lenOf pd_6 rfl) rfl rfl (by show 2 * 0 + _ ≤ _; exact Nat.le_of_eq rfl) (hb hby at_78)
    obtain ⟨rfl, rfl⟩ := q12
    refine go (g' := (mkF m 81 #[.val (.int p1), .val (.int p2), .val (.int p3), .val (.int p4), .val (.ref x2), .val (.ref x4), .val (.ref x6), .val (.ref x7)] [(.ref x4)])) (st12) ?_
    refine go (g' := (mkF m 83 #[.val (.int p1), .val (.int p2), .val (.int p3), .val (.int p4), .val (.ref x2), .val (.ref x4), .val (.ref x6), .val (.ref x7)] [(.ref x4), (.ref x4)])) (fun _ k => XS.aload W12.here hx rfl (hb hby at_81) rfl rfl k) ?_
    refine go (g' := (mkF m 86 #[.val (.int p1), .val (.int p2), .val (.int p3), .val (.int p4), .val (.ref x2), .val (.ref x4), .val (.ref x6), .val (.ref x7)] [])) (own_acmp W12 hx (g := (mkF m 83 #[.val (.int p1), .val (.int p2), .val (.int p3), .val (.int p4), .val (.ref x2), .val (.ref x4), .val (.ref x6), .val (.ref x7)] [(.ref x4), (.ref x4)])) rfl rfl rfl (pc0 := 83) (pc' := 86) (same := true) rfl (hb hby at_83) rfl (decide_eq_true rfl) (by decide) (by decide)) ?_
    refine go (g' := (mkF m 87 #[.val (.int p1), .val (.int p2), .val (.int p3), .val (.int p4), .val (.ref x2), .val (.ref x4), .val (.ref x6), .val (.ref x7)] [(.int (1 : Int32))])) (fun _ k => XS.iconst W12.here hx rfl (hb hby at_86) k) ?_
    refine go (g' := (mkF m 91 #[.val (.int p1), .val (.int p2), .val (.int p3), .val (.int p4), .val (.ref x2), .val (.ref x4), .val (.ref x6), .val (.ref x7)] [(.int (1 : Int32))])) (fun _ k => XS.goto W12.here hx rfl (pc0 := 87) (pc' := 91) rfl (hb hby at_87) (by decide) (by decide) k) ?_
    exact fin (v := some (.int (1 : Int32))) (so := []) W12 (nle rfl) (nle rfl) (rfl) (fun _ q => nomatch q) (fun q => nomatch q) (own_retI W12 hx hret (by decide) rfl (hb hby at_91))
  · refine go (g' := (mkF m 20 #[.val (.int p1), .val (.int p2), .val (.int p3), .val (.int p4), .val .null, .unset, .unset, .unset] [])) (fun _ k => XS.ifYes W0.here hx rfl (pc0 := 6) (pc' := 20) rfl (hb hby at_6) rfl ((if0 _ _).trans (feq kb1).2) (by decide) (by decide) k) ?_
    refine go (g' := (mkF m 21 #[.val (.int p1), .val (.int p2), .val (.int p3), .val (.int p4), .val .null, .unset, .unset, .unset] [(.int p2)])) (fun _ k => XS.iloadN W0.here hx rfl (hb hby at_20) rfl k) ?_
    refine go (g' := (mkF m 22 #[.val (.int p1), .val (.int p2), .val (.int p3), .val (.int p4), .val .null, .unset, .unset, .unset] [(.int p4), (.int p2)])) (fun _ k => XS.iloadN W0.here hx rfl (hb hby at_21) rfl k) ?_
    refine go (g' := (mkF m 23 #[.val (.int p1), .val (.int p2), .val (.int p3), .val (.int p4), .val .null, .unset, .unset, .unset] [(.int (3 : Int32)), (.int p4), (.int p2)])) (fun _ k => XS.iconst W0.here hx rfl (hb hby at_22) k) ?_
    refine go (g' := (mkF m 24 #[.val (.int p1), .val (.int p2), .val (.int p3), .val (.int p4), .val .null, .unset, .unset, .unset] [(.int ((p4.toUInt32 >>> ((3 : Int32) &&& 31).toUInt32).toInt32)), (.int p2)])) (fun _ k => XS.iushr W0.here hx rfl (hb hby at_23) rfl k) ?_
    refine go (g' := (mkF m 25 #[.val (.int p1), .val (.int p2), .val (.int p3), .val (.int p4), .val .null, .unset, .unset, .unset] [(.int (3 : Int32)), (.int ((p4.toUInt32 >>> ((3 : Int32) &&& 31).toUInt32).toInt32)), (.int p2)])) (fun _ k => XS.iconst W0.here hx rfl (hb hby at_24) k) ?_
    refine go (g' := (mkF m 26 #[.val (.int p1), .val (.int p2), .val (.int p3), .val (.int p4), .val .null, .unset, .unset, .unset] [(.int (((p4.toUInt32 >>> ((3 : Int32) &&& 31).toUInt32).toInt32) &&& (3 : Int32))), (.int p2)])) (fun _ k => XS.iand W0.here hx rfl (hb hby at_25) rfl k) ?_
    obtain ⟨v13, so13, vm13, T13, h13, W13, C13, q13, hso13, st13⟩ := own_static W0 hx (y := (⟨"com/example/vorm/vorm/operations/ImportItemRefusedPinLaw", "drawn", "(II)Ljava/lang/String;"⟩ : MethodName)) (w0 C) (w1 C) (w2 C) (w3 C) (by decide) (rm_drawn C h0 p2 (((p4.toUInt32 >>> ((3 : Int32) &&& 31).toUInt32).toInt32) &&& (3 : Int32))) (fun _ q => nomatch q) (Wd := 0) (nle rfl) (nle rfl) (nle rfl) (nle rfl) (g := (mkF m 26 #[.val (.int p1), .val (.int p2), .val (.int p3), .val (.int p4), .val .null, .unset, .unset, .unset] [(.int (((p4.toUInt32 >>> ((3 : Int32) &&& 31).toUInt32).toInt32) &&& (3 : Int32))), (.int p2)])) rfl (by rw [hml]; rfl) (argsL := [(.int p2), (.int (((p4.toUInt32 >>> ((3 : Int32) &&& 31).toUInt32).toInt32) &&& (3 : Int32)))]) (rest := []) (lenOf pd_3 rfl) rfl rfl (by show 2 * 0 + _ ≤ _; exact Nat.le_of_eq rfl) (hb hby at_26)
    obtain ⟨x13, rfl, E13⟩ := q13
    have z14 : h0.size ≤ h13.size := E13.1
    refine go (g' := (mkF m 29 #[.val (.int p1), .val (.int p2), .val (.int p3), .val (.int p4), .val .null, .unset, .unset, .unset] [(.ref x13)])) (st13) ?_
    refine go (g' := (mkF m 31 #[.val (.int p1), .val (.int p2), .val (.int p3), .val (.int p4), .val .null, .val (.ref x13), .unset, .unset] [])) (fun _ k => XS.astore W13.here hx rfl (hb hby at_29) rfl rfl (l' := #[.val (.int p1), .val (.int p2), .val (.int p3), .val (.int p4), .val .null, .val (.ref x13), .unset, .unset]) rfl k) ?_
    refine go (g' := (mkF m 32 #[.val (.int p1), .val (.int p2), .val (.int p3), .val (.int p4), .val .null, .val (.ref x13), .unset, .unset] [(.int p3)])) (fun _ k => XS.iloadN W13.here hx rfl (hb hby at_31) rfl k) ?_
    obtain ⟨v15, so15, vm15, T15, h15, W15, C15, q15, hso15, st15⟩ := own_static W13 hx (y := (⟨"com/example/vorm/vorm/operations/ImportItemRefusedPinLaw", "pick", "(I)Lcom/example/vorm/vorm/operations/ErrorReason;"⟩ : MethodName)) (w26 C) (w27 C) (w2 C) (w28 C) (by decide) (rm_pick C h13 p3) (fun _ q => nomatch q) (Wd := 0) (nle rfl) (nle rfl) (nle rfl) (nle rfl) (g := (mkF m 32 #[.val (.int p1), .val (.int p2), .val (.int p3), .val (.int p4), .val .null, .val (.ref x13), .unset, .unset] [(.int p3)])) rfl (by rw [hml]; rfl) (argsL := [(.int p3)]) (rest := []) (lenOf pd_4 rfl) rfl rfl (by show 2 * 0 + _ ≤ _; exact Nat.le_of_eq rfl) (hb hby at_32)
    obtain ⟨x15, rfl, rfl⟩ := q15
    refine go (g' := (mkF m 35 #[.val (.int p1), .val (.int p2), .val (.int p3), .val (.int p4), .val .null, .val (.ref x13), .unset, .unset] [(.ref x15)])) (st15) ?_
    refine go (g' := (mkF m 37 #[.val (.int p1), .val (.int p2), .val (.int p3), .val (.int p4), .val .null, .val (.ref x13), .val (.ref x15), .unset] [])) (fun _ k => XS.astore W15.here hx rfl (hb hby at_35) rfl rfl (l' := #[.val (.int p1), .val (.int p2), .val (.int p3), .val (.int p4), .val .null, .val (.ref x13), .val (.ref x15), .unset]) rfl k) ?_
    refine go (g' := (mkF m 39 #[.val (.int p1), .val (.int p2), .val (.int p3), .val (.int p4), .val .null, .val (.ref x13), .val (.ref x15), .unset] [.null])) (fun _ k => XS.aload W15.here hx rfl (hb hby at_37) rfl rfl k) ?_
    refine go (g' := (mkF m 41 #[.val (.int p1), .val (.int p2), .val (.int p3), .val (.int p4), .val .null, .val (.ref x13), .val (.ref x15), .unset] [(.ref x15), .null])) (fun _ k => XS.aload W15.here hx rfl (hb hby at_39) rfl rfl k) ?_
    refine go (g' := (mkF m 43 #[.val (.int p1), .val (.int p2), .val (.int p3), .val (.int p4), .val .null, .val (.ref x13), .val (.ref x15), .unset] [(.ref x13), (.ref x15), .null])) (fun _ k => XS.aload W15.here hx rfl (hb hby at_41) rfl rfl k) ?_
    obtain ⟨v16, so16, vm16, T16, h16, W16, C16, q16, hso16, st16⟩ := own_static W15 hx (y := (⟨"com/example/vorm/vorm/operations/ImportItem", "refused", "(Ljava/lang/String;Lcom/example/vorm/vorm/operations/ErrorReason;Ljava/lang/String;)Lcom/example/vorm/vorm/operations/ImportItem;"⟩ : MethodName)) (w33 C) (w34 C) (w35 C) (w36 C) (by decide) (rm_refused C h13 .null (.ref x15) (.ref x13) rfl rfl rfl) (fun _ q => nomatch q) (Wd := 0) (nle rfl) (nle rfl) (nle rfl) (nle rfl) (g := (mkF m 43 #[.val (.int p1), .val (.int p2), .val (.int p3), .val (.int p4), .val .null, .val (.ref x13), .val (.ref x15), .unset] [(.ref x13), (.ref x15), .null])) rfl (by rw [hml]; rfl) (argsL := [.null, (.ref x15), (.ref x13)]) (rest := []) (lenOf pd_5 rfl) rfl rfl (by show 2 * 0 + _ ≤ _; exact Nat.le_of_eq rfl) (hb hby at_43)
    obtain ⟨x16, rfl, E16, A16, F16_name, F16_resource, F16_reason, F16_message⟩ := q16
    have z17 : h13.size ≤ h16.size := E16.1
    refine go (g' := (mkF m 46 #[.val (.int p1), .val (.int p2), .val (.int p3), .val (.int p4), .val .null, .val (.ref x13), .val (.ref x15), .unset] [(.ref x16)])) (st16) ?_
    refine go (g' := (mkF m 48 #[.val (.int p1), .val (.int p2), .val (.int p3), .val (.int p4), .val .null, .val (.ref x13), .val (.ref x15), .val (.ref x16)] [])) (fun _ k => XS.astore W16.here hx rfl (hb hby at_46) rfl rfl (l' := #[.val (.int p1), .val (.int p2), .val (.int p3), .val (.int p4), .val .null, .val (.ref x13), .val (.ref x15), .val (.ref x16)]) rfl k) ?_
    refine go (g' := (mkF m 50 #[.val (.int p1), .val (.int p2), .val (.int p3), .val (.int p4), .val .null, .val (.ref x13), .val (.ref x15), .val (.ref x16)] [(.ref x16)])) (fun _ k => XS.aload W16.here hx rfl (hb hby at_48) rfl rfl k) ?_
    obtain ⟨v18, so18, vm18, T18, h18, W18, C18, q18, hso18, st18⟩ := own_virtual W16 hx (y := (⟨"com/example/vorm/vorm/operations/ImportItem", "name", "()Ljava/lang/String;"⟩ : MethodName)) (z := (⟨"com/example/vorm/vorm/operations/ImportItem", "name", "()Ljava/lang/String;"⟩ : MethodName)) (w51 C) (w52 C) (w54 C) (w53 C) (w35 C) (w55 C) (by decide) (own_nf W16 (w54 C)) A16 (rm_get6 C h16 x16 .null rfl F16_name) (fun _ q => nomatch q) (Wd := 0) (nle rfl) (nle rfl) (nle rfl) (nle rfl) (g := (mkF m 50 #[.val (.int p1), .val (.int p2), .val (.int p3), .val (.int p4), .val .null, .val (.ref x13), .val (.ref x15), .val (.ref x16)] [(.ref x16)])) rfl (by rw [hml]; rfl) (argsL := []) (rest := []) (lenOf pd_6 rfl) rfl rfl (by show 2 * 0 + _ ≤ _; exact Nat.le_of_eq rfl) (hb hby at_50)
    obtain ⟨rfl, rfl⟩ := q18
    refine go (g' := (mkF m 53 #[.val (.int p1), .val (.int p2), .val (.int p3), .val (.int p4), .val .null, .val (.ref x13), .val (.ref x15), .val (.ref x16)] [.null])) (st18) ?_
    refine go (g' := (mkF m 55 #[.val (.int p1), .val (.int p2), .val (.int p3), .val (.int p4), .val .null, .val (.ref x13), .val (.ref x15), .val (.ref x16)] [.null, .null])) (fun _ k => XS.aload W18.here hx rfl (hb hby at_53) rfl rfl k) ?_
    refine go (g' := (mkF m 58 #[.val (.int p1), .val (.int p2), .val (.int p3), .val (.int p4), .val .null, .val (.ref x13), .val (.ref x15), .val (.ref x16)] [])) (own_acmp W18 hx (g := (mkF m 55 #[.val (.int p1), .val (.int p2), .val (.int p3), .val (.int p4), .val .null, .val (.ref x13), .val (.ref x15), .val (.ref x16)] [.null, .null])) rfl rfl rfl (pc0 := 55) (pc' := 58) (same := true) rfl (hb hby at_55) rfl (decide_eq_true rfl) (by decide) (by decide)) ?_
    refine go (g' := (mkF m 60 #[.val (.int p1), .val (.int p2), .val (.int p3), .val (.int p4), .val .null, .val (.ref x13), .val (.ref x15), .val (.ref x16)] [(.ref x16)])) (fun _ k => XS.aload W18.here hx rfl (hb hby at_58) rfl rfl k) ?_
    obtain ⟨v19, so19, vm19, T19, h19, W19, C19, q19, hso19, st19⟩ := own_virtual W18 hx (y := (⟨"com/example/vorm/vorm/operations/ImportItem", "resource", "()Lcom/example/vorm/vorm/store/NewResource;"⟩ : MethodName)) (z := (⟨"com/example/vorm/vorm/operations/ImportItem", "resource", "()Lcom/example/vorm/vorm/store/NewResource;"⟩ : MethodName)) (w56 C) (w57 C) (w59 C) (w58 C) (w35 C) (w60 C) (by decide) (own_nf W18 (w59 C)) A16 (rm_get7 C h16 x16 .null rfl F16_resource) (fun _ q => nomatch q) (Wd := 0) (nle rfl) (nle rfl) (nle rfl) (nle rfl) (g := (mkF m 60 #[.val (.int p1), .val (.int p2), .val (.int p3), .val (.int p4), .val .null, .val (.ref x13), .val (.ref x15), .val (.ref x16)] [(.ref x16)])) rfl (by rw [hml]; rfl) (argsL := []) (rest := []) (lenOf pd_7 rfl) rfl rfl (by show 2 * 0 + _ ≤ _; exact Nat.le_of_eq rfl) (hb hby at_60)
    obtain ⟨rfl, rfl⟩ := q19
    refine go (g' := (mkF m 63 #[.val (.int p1), .val (.int p2), .val (.int p3), .val (.int p4), .val .null, .val (.ref x13), .val (.ref x15), .val (.ref x16)] [.null])) (st19) ?_
    refine go (g' := (mkF m 66 #[.val (.int p1), .val (.int p2), .val (.int p3), .val (.int p4), .val .null, .val (.ref x13), .val (.ref x15), .val (.ref x16)] [])) (fun _ k => XS.ifnonnullNo W19.here hx rfl (hb hby at_63) rfl k) ?_
    refine go (g' := (mkF m 68 #[.val (.int p1), .val (.int p2), .val (.int p3), .val (.int p4), .val .null, .val (.ref x13), .val (.ref x15), .val (.ref x16)] [(.ref x16)])) (fun _ k => XS.aload W19.here hx rfl (hb hby at_66) rfl rfl k) ?_
    obtain ⟨v20, so20, vm20, T20, h20, W20, C20, q20, hso20, st20⟩ := own_virtual W19 hx (y := (⟨"com/example/vorm/vorm/operations/ImportItem", "reason", "()Lcom/example/vorm/vorm/operations/ErrorReason;"⟩ : MethodName)) (z := (⟨"com/example/vorm/vorm/operations/ImportItem", "reason", "()Lcom/example/vorm/vorm/operations/ErrorReason;"⟩ : MethodName)) (w61 C) (w62 C) (w64 C) (w63 C) (w35 C) (w65 C) (by decide) (own_nf W19 (w64 C)) A16 (rm_get8 C h16 x16 (.ref x15) rfl F16_reason) (fun _ q => nomatch q) (Wd := 0) (nle rfl) (nle rfl) (nle rfl) (nle rfl) (g := (mkF m 68 #[.val (.int p1), .val (.int p2), .val (.int p3), .val (.int p4), .val .null, .val (.ref x13), .val (.ref x15), .val (.ref x16)] [(.ref x16)])) rfl (by rw [hml]; rfl) (argsL := []) (rest := []) (lenOf pd_8 rfl) rfl rfl (by show 2 * 0 + _ ≤ _; exact Nat.le_of_eq rfl) (hb hby at_68)
    obtain ⟨rfl, rfl⟩ := q20
    refine go (g' := (mkF m 71 #[.val (.int p1), .val (.int p2), .val (.int p3), .val (.int p4), .val .null, .val (.ref x13), .val (.ref x15), .val (.ref x16)] [(.ref x15)])) (st20) ?_
    refine go (g' := (mkF m 73 #[.val (.int p1), .val (.int p2), .val (.int p3), .val (.int p4), .val .null, .val (.ref x13), .val (.ref x15), .val (.ref x16)] [(.ref x15), (.ref x15)])) (fun _ k => XS.aload W20.here hx rfl (hb hby at_71) rfl rfl k) ?_
    refine go (g' := (mkF m 76 #[.val (.int p1), .val (.int p2), .val (.int p3), .val (.int p4), .val .null, .val (.ref x13), .val (.ref x15), .val (.ref x16)] [])) (own_acmp W20 hx (g := (mkF m 73 #[.val (.int p1), .val (.int p2), .val (.int p3), .val (.int p4), .val .null, .val (.ref x13), .val (.ref x15), .val (.ref x16)] [(.ref x15), (.ref x15)])) rfl rfl rfl (pc0 := 73) (pc' := 76) (same := true) rfl (hb hby at_73) rfl (decide_eq_true rfl) (by decide) (by decide)) ?_
    refine go (g' := (mkF m 78 #[.val (.int p1), .val (.int p2), .val (.int p3), .val (.int p4), .val .null, .val (.ref x13), .val (.ref x15), .val (.ref x16)] [(.ref x16)])) (fun _ k => XS.aload W20.here hx rfl (hb hby at_76) rfl rfl k) ?_
    obtain ⟨v21, so21, vm21, T21, h21, W21, C21, q21, hso21, st21⟩ := own_virtual W20 hx (y := (⟨"com/example/vorm/vorm/operations/ImportItem", "message", "()Ljava/lang/String;"⟩ : MethodName)) (z := (⟨"com/example/vorm/vorm/operations/ImportItem", "message", "()Ljava/lang/String;"⟩ : MethodName)) (w66 C) (w67 C) (w69 C) (w68 C) (w35 C) (w70 C) (by decide) (own_nf W20 (w69 C)) A16 (rm_get9 C h16 x16 (.ref x13) rfl F16_message) (fun _ q => nomatch q) (Wd := 0) (nle rfl) (nle rfl) (nle rfl) (nle rfl) (g := (mkF m 78 #[.val (.int p1), .val (.int p2), .val (.int p3), .val (.int p4), .val .null, .val (.ref x13), .val (.ref x15), .val (.ref x16)] [(.ref x16)])) rfl (by rw [hml]; rfl) (argsL := []) (rest := []) (lenOf pd_6 rfl) rfl rfl (by show 2 * 0 + _ ≤ _; exact Nat.le_of_eq rfl) (hb hby at_78)
    obtain ⟨rfl, rfl⟩ := q21
    refine go (g' := (mkF m 81 #[.val (.int p1), .val (.int p2), .val (.int p3), .val (.int p4), .val .null, .val (.ref x13), .val (.ref x15), .val (.ref x16)] [(.ref x13)])) (st21) ?_
    refine go (g' := (mkF m 83 #[.val (.int p1), .val (.int p2), .val (.int p3), .val (.int p4), .val .null, .val (.ref x13), .val (.ref x15), .val (.ref x16)] [(.ref x13), (.ref x13)])) (fun _ k => XS.aload W21.here hx rfl (hb hby at_81) rfl rfl k) ?_
    refine go (g' := (mkF m 86 #[.val (.int p1), .val (.int p2), .val (.int p3), .val (.int p4), .val .null, .val (.ref x13), .val (.ref x15), .val (.ref x16)] [])) (own_acmp W21 hx (g := (mkF m 83 #[.val (.int p1), .val (.int p2), .val (.int p3), .val (.int p4), .val .null, .val (.ref x13), .val (.ref x15), .val (.ref x16)] [(.ref x13), (.ref x13)])) rfl rfl rfl (pc0 := 83) (pc' := 86) (same := true) rfl (hb hby at_83) rfl (decide_eq_true rfl) (by decide) (by decide)) ?_
    refine go (g' := (mkF m 87 #[.val (.int p1), .val (.int p2), .val (.int p3), .val (.int p4), .val .null, .val (.ref x13), .val (.ref x15), .val (.ref x16)] [(.int (1 : Int32))])) (fun _ k => XS.iconst W21.here hx rfl (hb hby at_86) k) ?_
    refine go (g' := (mkF m 91 #[.val (.int p1), .val (.int p2), .val (.int p3), .val (.int p4), .val .null, .val (.ref x13), .val (.ref x15), .val (.ref x16)] [(.int (1 : Int32))])) (fun _ k => XS.goto W21.here hx rfl (pc0 := 87) (pc' := 91) rfl (hb hby at_87) (by decide) (by decide) k) ?_
    exact fin (v := some (.int (1 : Int32))) (so := []) W21 (nle rfl) (nle rfl) (rfl) (fun _ q => nomatch q) (fun q => nomatch q) (own_retI W21 hx hret (by decide) rfl (hb hby at_91))
set_option maxRecDepth 65536 in
set_option maxHeartbeats 40000000 in
theorem comes_1 {Post : Tables → Env → Array Value → State → Outcome → State → Prop} (hpost : ∀ tb e args s v u, (limb_1_1.after args s (.returned v) u = true ∧ limb_1_2.after args s (.returned v) u = true ∧ True) → ReturnedEndW s (.returned v) u (Jvm.fieldLocs frame_1_writes args s ++ Jvm.arrayLocs frame_1_arrays args s ++ Jvm.staticLocs frame_1_statics s) 24 1152 → Post tb e args s (.returned v) u) :
    ArmFor flags0 classFile x code maxLocals ret World_1 tables_1 room_1 Calls_1 rest_1 Pre_1 Post := by
  intro l hfl _ _ p e ha hc hk s m args below hf hA hF happ hP
  obtain ⟨hcalls, hrest, hpre⟩ := hP
  obtain ⟨-, -, -, hnamed, -, -, -, hat⟩ := (Spec.applies_iff hf).mp happ
  obtain ⟨hg, hn⟩ := and_e (Cond.before_iff.mp (show (Jvm.Cond.and given_1 narrow_1).before args s = true from hpre))
  obtain ⟨gg1, gg2⟩ := and_e hg
  obtain ⟨gg3, gg4⟩ := and_e gg2
  obtain ⟨gg5, gg6⟩ := and_e gg4
  obtain ⟨gg7, gg8⟩ := and_e gg6
  obtain ⟨gg9, gg10⟩ := and_e hn
  obtain ⟨gg11, gg12⟩ := and_e gg10
  obtain ⟨gg13, gg14⟩ := and_e gg12
  obtain ⟨gg15, gg16⟩ := and_e gg14
  obtain ⟨gg17, gg18⟩ := and_e gg16
  obtain ⟨w0, w1, w2, w3, rfl⟩ : ∃ w0 w1 w2 w3 : Value, args = #[w0, w1, w2, w3] := by
    have hs : args.size = 4 := by simpa [Cond.value, given_1] using gg1
    obtain ⟨L⟩ := args
    match L, hs with
    | [w0, w1, w2, w3], _ => exact ⟨w0, w1, w2, w3, rfl⟩
  have hw := fun d (hd : d ∈ tables_1) => atoms_spec (ws := Jvm.Cond.code x code maxLocals ret :: tables_1) hat d (List.mem_cons_of_mem _ hd)
  obtain ⟨hsets, hown0⟩ := atoms_of _ (rest_1_c_eq ▸ (show rest_1_c.before _ s = true from hrest))
  have n3 := not_v (Cond.before_iff.mp (hsets _ (List.mem_of_getElem? (i := 2) rfl)))
  obtain ⟨i0, ei0⟩ := is_v gg3
  obtain rfl : w0 = (.int i0) := Option.some.inj ei0
  obtain ⟨i1, ei1⟩ := is_v gg5
  obtain rfl : w1 = (.int i1) := Option.some.inj ei1
  obtain ⟨i2, ei2⟩ := is_v gg7
  obtain rfl : w2 = (.int i2) := Option.some.inj ei2
  obtain ⟨i3, ei3⟩ := is_v gg8
  obtain rfl : w3 = (.int i3) := Option.some.inj ei3
  obtain ⟨gz, egz⟩ := is_v (Cond.before_iff.mp (hsets _ (List.mem_of_getElem? (i := 1) rfl)))
  have S8 : Sta s s.heap "java/lang/String" "COMPACT_STRINGS" "Z" (.int gz) := Sta.start egz (Or.inl (hsets _ (List.mem_of_getElem? (i := 0) rfl)))
  obtain ⟨gf, egf, rgf⟩ := isR_v (Cond.before_iff.mp (hsets _ (List.mem_of_getElem? (i := 8) rfl)))
  have S12 : Sta s s.heap "jdk/internal/util/Preconditions" "SIOOBE_FORMATTER" "Ljava/util/function/BiFunction;" gf := Sta.start egf (Or.inl (hsets _ (List.mem_of_getElem? (i := 7) rfl)))
  have c13 : ¬ (gz = (0 : Int32)) := gotF (Cond.eq_ints egz (Term.int_eval (0))) n3
  have hEW : EW s #[(.int i0), (.int i1), (.int i2), (.int i3)] own_EL := (EW.cons (hw _ (List.mem_of_getElem? (i := 18) rfl)) (by decide +kernel) EW.nil)
  obtain ⟨sx0, se0⟩ := exa_v gg17
  have ss0 : Sta s s.heap "com/example/vorm/vorm/operations/ErrorReason" "RESOURCE_ALREADY_EXISTS" "Lcom/example/vorm/vorm/operations/ErrorReason;" (.ref sx0) := Sta.start se0 (Or.inr ⟨hw _ (List.mem_of_getElem? (i := 31) rfl), hw _ (List.mem_of_getElem? (i := 89) rfl)⟩)
  obtain ⟨sx1, se1⟩ := exa_v gg15
  have ss1 : Sta s s.heap "com/example/vorm/vorm/operations/ErrorReason" "WRONG_COLLECTION" "Lcom/example/vorm/vorm/operations/ErrorReason;" (.ref sx1) := Sta.start se1 (Or.inr ⟨hw _ (List.mem_of_getElem? (i := 31) rfl), hw _ (List.mem_of_getElem? (i := 87) rfl)⟩)
  obtain ⟨sx2, se2⟩ := exa_v gg9
  have ss2 : Sta s s.heap "com/example/vorm/vorm/operations/ErrorReason" "WRONG_PARENT" "Lcom/example/vorm/vorm/operations/ErrorReason;" (.ref sx2) := Sta.start se2 (Or.inr ⟨hw _ (List.mem_of_getElem? (i := 31) rfl), hw _ (List.mem_of_getElem? (i := 32) rfl)⟩)
  obtain ⟨sx3, se3⟩ := exa_v gg18
  have ss3 : Sta s s.heap "com/example/vorm/vorm/operations/ErrorReason" "PARENT_NOT_FOUND" "Lcom/example/vorm/vorm/operations/ErrorReason;" (.ref sx3) := Sta.start se3 (Or.inr ⟨hw _ (List.mem_of_getElem? (i := 31) rfl), hw _ (List.mem_of_getElem? (i := 91) rfl)⟩)
  obtain ⟨sx4, se4⟩ := exa_v gg11
  have ss4 : Sta s s.heap "com/example/vorm/vorm/operations/ErrorReason" "PARENT_DELETED" "Lcom/example/vorm/vorm/operations/ErrorReason;" (.ref sx4) := Sta.start se4 (Or.inr ⟨hw _ (List.mem_of_getElem? (i := 31) rfl), hw _ (List.mem_of_getElem? (i := 83) rfl)⟩)
  obtain ⟨sx5, se5⟩ := exa_v gg13
  have ss5 : Sta s s.heap "com/example/vorm/vorm/operations/ErrorReason" "INVALID_RESOURCE" "Lcom/example/vorm/vorm/operations/ErrorReason;" (.ref sx5) := Sta.start se5 (Or.inr ⟨hw _ (List.mem_of_getElem? (i := 31) rfl), hw _ (List.mem_of_getElem? (i := 85) rfl)⟩)
  have CX : Cx s _ := ⟨hw, hEW, ⟨gz, S8, c13⟩, ⟨gf, S12, rgf⟩, ⟨sx0, ss0⟩, ⟨sx1, ss1⟩, ⟨sx2, ss2⟩, ⟨sx3, ss3⟩, ⟨sx4, ss4⟩, ⟨sx5, ss5⟩⟩
  have hCH : CHv s own_EL s.vm s.heap := CHv.start hEW (fun p hp => hcalls.1 p hp) (hsets _ (List.mem_of_getElem? (i := 2) rfl)) (hw _ (List.mem_of_getElem? (i := 19) rfl)) (hw _ (List.mem_of_getElem? (i := 5) rfl))
  obtain ⟨n, o, h1, h2, h3, v, L, so, rfl, hQ, N, -, -, -, hq⟩ := rm0 (l := l) CX s.heap i0 i1 i2 i3 (own_xr _) p e ha hc hk s m _ below hf ((Spec.applies_iff_loose hf).mp happ).1 ⟨rfl, State.Warmed39.refl s, rfl, hCH, fun _ q => nomatch q⟩ trivial
  subst hQ
  refine ⟨n, _, h1, h2, h3, hpost _ _ _ _ _ _ ⟨Cond.after_iff.mpr rfl, Cond.after_iff.mpr (eq_i res_at (Term.int_eval (1)) rfl), trivial⟩ ⟨hq.1, hq.2.1, hq.2.2.1, (hq.2.2.2.sift fun y hy => Or.inr (N y hy)).mono (by decide) (by decide)⟩⟩
theorem main_1_1 : Claimed_1_1 := comes_1 fun _ _ _ _ _ _ h hF => ⟨h.1, hF⟩
theorem main_1_2 : Claimed_1_2 := comes_1 fun _ _ _ _ _ _ h hF => ⟨h.2.1, hF⟩
end Jvm.Pilot.@@N@@
namespace Jvm.Pilot.@@N@@
open Jvm Jvm.ClassFile Sem Op Lib Jvm.Free Jvm.Stand Jvm.Pilot.@@N@@.Jvm.D
/-! MADE BY PROGRAM (witnessworld.py) out of the Statement's table words and the real class files: 22 classes; the members and pool entries that the words name. The judged class is class 1, her method 1. -/
namespace start1
open Jvm.ClassFile
def u (s : String) : CpInfo := .utf8 (stringToUtf16 s)
/-- a pool by its gaps: so many unusable entries, then the entry; so many at the end -/
def gap : Nat → List CpInfo → List CpInfo
  | 0, r => r
  | n + 1, r => .unusable :: gap n r
def poolList (es : List (Nat × CpInfo)) (last : Nat) : List CpInfo := es.foldr (fun e r => gap e.1 (e.2 :: r)) (gap last [])
def pool (es : List (Nat × CpInfo)) (last : Nat) : Array CpInfo := ⟨poolList es last⟩
def fileOf (pool : Array CpInfo) (this : Nat) (attrs : Array Attribute := #[]) (ms : Array MethodInfo := #[]) (fl : Nat := 33) (sup : Nat := 0) (ifs : Array Nat := #[]) (fds : Array FieldInfo := #[]) : ClassFile where
  minorVersion := 0
  majorVersion := 65
  constantPool := pool
  accessFlags := fl
  thisClass := this
  superClass := sup
  interfaces := ifs
  fields := fds
  methods := ms
  attributes := attrs
def plain (name : String) (sup : Option ClassId) : Class where
  name := name
  kind := .ordinary
  loader := none
  accessFlags := 33
  super := sup
  interfaces := #[]
  cf := none
  fields := #[]
  methods := #[]
  instanceTypes := #[]
  staticTypes := #[]
  resolved := #[]
  callSites := []
  init := .initialized
  statics := none
  mirror := none

def pool0 : Array CpInfo := pool [(5, u "<init>"), (0, u "()V"), (1, .class_ 10), (1, u "java/lang/Object")] 113

def k0c0 : Code := { maxStack := 0, maxLocals := 1, code := object_method_1_code, exceptionTable := #[], attributes := #[] }
def k0m0 : Method := { name := "<init>", desc := "()V", sig := { parameters := [], returnType := none }, accessFlags := 1, code := some k0c0 }
/-- java/lang/Object -/
def k0 : Class := { plain "java/lang/Object" none with
  accessFlags := 33
  interfaces := #[]
  cf := some (fileOf pool0 8 #[] #[{ accessFlags := 1, nameIndex := 5, descriptorIndex := 6, attributes := #[] }] 33 0 #[] #[])
  fields := #[]
  methods := #[k0m0]
  instanceTypes := #[]
  staticTypes := #[]
  resolved := Array.replicate 124 none
  statics := none }

def pool1 : Array CpInfo := pool [(2, .class_ 4), (1, u "java/lang/Object"), (0, u "<init>"), (0, u "()V"), (0, .methodref 8 9), (0, .class_ 10), (0, .nameAndType 11 12), (0, u "com/example/vorm/vorm/operations/ImportItemRefusedPinLaw"), (0, u "drawn"), (0, u "(II)Ljava/lang/String;"), (0, .methodref 8 14), (0, .nameAndType 15 16), (0, u "pick"), (0, u "(I)Lcom/example/vorm/vorm/operations/ErrorReason;"), (0, .methodref 18 19), (0, .class_ 20), (0, .nameAndType 21 22), (0, u "com/example/vorm/vorm/operations/ImportItem"), (0, u "refused"), (0, u "(Ljava/lang/String;Lcom/example/vorm/vorm/operations/ErrorReason;Ljava/lang/String;)Lcom/example/vorm/vorm/operations/ImportItem;"), (0, .methodref 18 24), (0, .nameAndType 25 26), (0, u "name"), (0, u "()Ljava/lang/String;"), (0, .methodref 18 28), (0, .nameAndType 29 30), (0, u "resource"), (0, u "()Lcom/example/vorm/vorm/store/NewResource;"), (0, .methodref 18 32), (0, .nameAndType 33 34), (0, u "reason"), (0, u "()Lcom/example/vorm/vorm/operations/ErrorReason;"), (0, .methodref 18 36), (0, .nameAndType 37 26), (0, u "message"), (0, .class_ 39), (0, u "java/lang/String"), (0, .methodref 38 41), (0, .nameAndType 5 42), (0, u "([C)V"), (0, .integer 2147483647), (0, .fieldref 45 46), (0, .class_ 47), (0, .nameAndType 48 49), (0, u "com/example/vorm/vorm/operations/ErrorReason"), (0, u "RESOURCE_ALREADY_EXISTS"), (0, u "Lcom/example/vorm/vorm/operations/ErrorReason;"), (0, .fieldref 45 51), (0, .nameAndType 52 49), (0, u "WRONG_COLLECTION"), (0, .fieldref 45 54), (0, .nameAndType 55 49), (0, u "WRONG_PARENT"), (0, .fieldref 45 57), (0, .nameAndType 58 49), (0, u "PARENT_NOT_FOUND"), (0, .fieldref 45 60), (0, .nameAndType 61 49), (0, u "PARENT_DELETED"), (0, .fieldref 45 63), (0, .nameAndType 64 49), (0, u "INVALID_RESOURCE"), (2, u "law"), (0, u "(IIII)Z")] 3

def k1m0 : Method := { name := "<init>", desc := "()V", sig := { parameters := [], returnType := none }, accessFlags := 1, code := none }
def k1c1 : Code := { maxStack := 3, maxLocals := 8, code := code, exceptionTable := #[], attributes := #[] }
def k1m1 : Method := { name := "law", desc := "(IIII)Z", sig := { parameters := [.int, .int, .int, .int], returnType := some .boolean }, accessFlags := 9, code := some k1c1 }
def k1c2 : Code := { maxStack := 6, maxLocals := 4, code := method_3_code, exceptionTable := #[], attributes := #[] }
def k1m2 : Method := { name := "drawn", desc := "(II)Ljava/lang/String;", sig := { parameters := [.int, .int], returnType := some (.object "java/lang/String") }, accessFlags := 10, code := some k1c2 }
def k1c3 : Code := { maxStack := 2, maxLocals := 2, code := method_4_code, exceptionTable := #[], attributes := #[] }
def k1m3 : Method := { name := "pick", desc := "(I)Lcom/example/vorm/vorm/operations/ErrorReason;", sig := { parameters := [.int], returnType := some (.object "com/example/vorm/vorm/operations/ErrorReason") }, accessFlags := 10, code := some k1c3 }
/-- com/example/vorm/vorm/operations/ImportItemRefusedPinLaw -/
def k1 : Class := { plain "com/example/vorm/vorm/operations/ImportItemRefusedPinLaw" (some 0) with
  accessFlags := 49
  interfaces := #[]
  cf := some (fileOf pool1 8 #[] #[{ accessFlags := 1, nameIndex := 5, descriptorIndex := 6, attributes := #[] }, { accessFlags := 9, nameIndex := 67, descriptorIndex := 68, attributes := #[] }, { accessFlags := 10, nameIndex := 11, descriptorIndex := 12, attributes := #[] }, { accessFlags := 10, nameIndex := 15, descriptorIndex := 16, attributes := #[] }] 49 2 #[] #[])
  fields := #[]
  methods := #[k1m0, k1m1, k1m2, k1m3]
  instanceTypes := #[]
  staticTypes := #[]
  resolved := Array.replicate 72 none
  statics := none }

def pool2 : Array CpInfo := pool [(1, .class_ 2), (0, u "java/io/Serializable"), (0, .class_ 4), (0, u "java/lang/Object")] 2

/-- java/io/Serializable -/
def k2 : Class := { plain "java/io/Serializable" (some 0) with
  accessFlags := 1537
  interfaces := #[]
  cf := some (fileOf pool2 1 #[] #[] 1537 3 #[] #[])
  fields := #[]
  methods := #[]
  instanceTypes := #[]
  staticTypes := #[]
  resolved := Array.replicate 7 none
  statics := none }

def pool3 : Array CpInfo := pool [(1, .class_ 2), (0, u "java/lang/Comparable"), (0, .class_ 4), (0, u "java/lang/Object")] 7

/-- java/lang/Comparable -/
def k3 : Class := { plain "java/lang/Comparable" (some 0) with
  accessFlags := 1537
  interfaces := #[]
  cf := some (fileOf pool3 1 #[] #[] 1537 3 #[] #[])
  fields := #[]
  methods := #[]
  instanceTypes := #[]
  staticTypes := #[]
  resolved := Array.replicate 12 none
  statics := none }

def pool4 : Array CpInfo := pool [(2, .class_ 4), (1, u "java/lang/CharSequence"), (42, .class_ 48), (0, u "java/lang/CharSequence$1CodePointIterator"), (10, .class_ 60), (0, u "java/lang/CharSequence$1CharIterator"), (5, .class_ 67), (0, u "java/lang/Object")] 63

/-- java/lang/CharSequence -/
def k4 : Class := { plain "java/lang/CharSequence" (some 0) with
  accessFlags := 1537
  interfaces := #[]
  cf := some (fileOf pool4 2 #[.nestMembers #[47, 59]] #[] 1537 66 #[] #[])
  fields := #[]
  methods := #[]
  instanceTypes := #[]
  staticTypes := #[]
  resolved := Array.replicate 131 none
  statics := none }

def pool5 : Array CpInfo := pool [(1, .class_ 2), (0, u "java/lang/constant/Constable"), (0, .class_ 4), (0, u "java/lang/Object")] 6

/-- java/lang/constant/Constable -/
def k5 : Class := { plain "java/lang/constant/Constable" (some 0) with
  accessFlags := 1537
  interfaces := #[]
  cf := some (fileOf pool5 1 #[] #[] 1537 3 #[] #[])
  fields := #[]
  methods := #[]
  instanceTypes := #[]
  staticTypes := #[]
  resolved := Array.replicate 11 none
  statics := none }

def pool6 : Array CpInfo := pool [(1, .class_ 2), (0, u "java/lang/constant/ConstantDesc"), (0, .class_ 4), (0, u "java/lang/Object")] 32

/-- java/lang/constant/ConstantDesc -/
def k6 : Class := { plain "java/lang/constant/ConstantDesc" (some 0) with
  accessFlags := 1537
  interfaces := #[]
  cf := some (fileOf pool6 1 #[] #[] 1537 3 #[] #[])
  fields := #[]
  methods := #[]
  instanceTypes := #[]
  staticTypes := #[]
  resolved := Array.replicate 37 none
  statics := none }

def pool7 : Array CpInfo := pool [(1, .methodref 2 3), (0, .class_ 4), (0, .nameAndType 5 6), (0, u "java/lang/Object"), (0, u "<init>"), (0, u "()V"), (0, .string 8), (0, u ""), (0, .fieldref 10 11), (0, .class_ 12), (0, .nameAndType 13 14), (0, u "java/lang/String"), (0, u "value"), (0, u "[B"), (0, .fieldref 10 16), (0, .nameAndType 17 18), (0, u "coder"), (0, u "B"), (2, u "hash"), (0, u "I"), (2, u "hashIsZero"), (0, u "Z"), (0, .methodref 10 28), (0, .nameAndType 5 29), (0, u "([CIILjava/lang/Void;)V"), (8, .fieldref 10 39), (0, .nameAndType 40 26), (0, u "COMPACT_STRINGS"), (1, .class_ 44), (1, u "java/lang/StringUTF16"), (0, u "compress"), (1, .methodref 42 48), (0, .nameAndType 49 50), (0, u "coderFromArrayLen"), (0, u "([BI)B"), (126, .methodref 42 178), (0, .nameAndType 45 179), (0, u "([CII)[B"), (395, .class_ 576), (0, u "java/lang/CharSequence"), (22, u "CASE_INSENSITIVE_ORDER"), (0, u "Ljava/util/Comparator;"), (409, u "([C)V"), (90, u "serialPersistentFields"), (0, u "[Ljava/io/ObjectStreamField;"), (0, .class_ 1104), (0, u "java/lang/String$CaseInsensitiveComparator"), (1, .class_ 1107), (0, u "java/io/Serializable"), (0, .class_ 1109), (0, u "java/lang/Comparable"), (0, .class_ 1111), (0, u "java/lang/constant/Constable"), (0, .class_ 1113), (0, u "java/lang/constant/ConstantDesc"), (2, u "serialVersionUID"), (0, u "J"), (3, u "REPL"), (0, u "C"), (2, u "LATIN1"), (1, u "UTF16")] 323

def k7m0 : Method := { name := "<init>", desc := "()V", sig := { parameters := [], returnType := none }, accessFlags := 1, code := none }
def k7c1 : Code := { maxStack := 5, maxLocals := 2, code := jdk_42_method_3_code, exceptionTable := #[], attributes := #[] }
def k7m1 : Method := { name := "<init>", desc := "([C)V", sig := { parameters := [(.array .char)], returnType := none }, accessFlags := 1, code := some k7c1 }
def k7c2 : Code := { maxStack := 4, maxLocals := 6, code := jdk_42_method_149_code, exceptionTable := #[], attributes := #[] }
def k7m2 : Method := { name := "<init>", desc := "([CIILjava/lang/Void;)V", sig := { parameters := [(.array .char), .int, .int, (.object "java/lang/Void")], returnType := none }, accessFlags := 2, code := some k7c2 }
/-- java/lang/String -/
def k7 : Class := { plain "java/lang/String" (some 0) with
  accessFlags := 49
  interfaces := #[2, 3, 4, 5, 6]
  cf := some (fileOf pool7 10 #[.nestMembers #[1103]] #[{ accessFlags := 1, nameIndex := 5, descriptorIndex := 6, attributes := #[] }, { accessFlags := 1, nameIndex := 5, descriptorIndex := 1010, attributes := #[] }, { accessFlags := 2, nameIndex := 5, descriptorIndex := 29, attributes := #[] }] 49 2 #[1106, 1108, 575, 1110, 1112] #[{ accessFlags := 18, nameIndex := 13, descriptorIndex := 14, attributes := #[] }, { accessFlags := 18, nameIndex := 17, descriptorIndex := 18, attributes := #[] }, { accessFlags := 2, nameIndex := 21, descriptorIndex := 22, attributes := #[] }, { accessFlags := 2, nameIndex := 25, descriptorIndex := 26, attributes := #[] }, { accessFlags := 26, nameIndex := 1116, descriptorIndex := 1117, attributes := #[] }, { accessFlags := 24, nameIndex := 40, descriptorIndex := 26, attributes := #[] }, { accessFlags := 26, nameIndex := 1101, descriptorIndex := 1102, attributes := #[] }, { accessFlags := 26, nameIndex := 1121, descriptorIndex := 1122, attributes := #[] }, { accessFlags := 25, nameIndex := 599, descriptorIndex := 600, attributes := #[] }, { accessFlags := 24, nameIndex := 1125, descriptorIndex := 18, attributes := #[] }, { accessFlags := 24, nameIndex := 1127, descriptorIndex := 18, attributes := #[] }])
  fields := #[{ name := "value", type := (.array .byte), accessFlags := 18, slot := 0, constantValue := 0 }, { name := "coder", type := .byte, accessFlags := 18, slot := 1, constantValue := 0 }, { name := "hash", type := .int, accessFlags := 2, slot := 2, constantValue := 0 }, { name := "hashIsZero", type := .boolean, accessFlags := 2, slot := 3, constantValue := 0 }, { name := "serialVersionUID", type := .long, accessFlags := 26, slot := 0, constantValue := 0 }, { name := "COMPACT_STRINGS", type := .boolean, accessFlags := 24, slot := 1, constantValue := 0 }, { name := "serialPersistentFields", type := (.array (.object "java/io/ObjectStreamField")), accessFlags := 26, slot := 2, constantValue := 0 }, { name := "REPL", type := .char, accessFlags := 26, slot := 3, constantValue := 0 }, { name := "CASE_INSENSITIVE_ORDER", type := (.object "java/util/Comparator"), accessFlags := 25, slot := 4, constantValue := 0 }, { name := "LATIN1", type := .byte, accessFlags := 24, slot := 5, constantValue := 0 }, { name := "UTF16", type := .byte, accessFlags := 24, slot := 6, constantValue := 0 }]
  methods := #[k7m0, k7m1, k7m2]
  instanceTypes := #[(.array .byte), .byte, .int, .boolean]
  staticTypes := #[.long, .boolean, (.array (.object "java/io/ObjectStreamField")), .char, (.object "java/util/Comparator"), .byte, .byte]
  resolved := Array.replicate 1451 none
  statics := some 0 }

def pool8 : Array CpInfo := pool [(2, .class_ 4), (1, u "java/lang/Enum"), (0, u "name"), (0, u "Ljava/lang/String;"), (2, u "ordinal"), (0, u "I"), (1, .class_ 14), (1, u "java/lang/Object"), (4, u "hash"), (86, .class_ 108), (1, u "java/lang/Enum$EnumDesc"), (2, .class_ 112), (0, u "java/lang/constant/Constable"), (0, .class_ 114), (0, u "java/lang/Comparable"), (0, .class_ 116), (0, u "java/io/Serializable")] 87

/-- java/lang/Enum -/
def k8 : Class := { plain "java/lang/Enum" (some 0) with
  accessFlags := 1057
  interfaces := #[5, 3, 2]
  cf := some (fileOf pool8 2 #[.nestMembers #[106]] #[] 1057 12 #[111, 113, 115] #[{ accessFlags := 18, nameIndex := 5, descriptorIndex := 6, attributes := #[] }, { accessFlags := 18, nameIndex := 9, descriptorIndex := 10, attributes := #[] }, { accessFlags := 2, nameIndex := 19, descriptorIndex := 10, attributes := #[] }])
  fields := #[{ name := "name", type := (.object "java/lang/String"), accessFlags := 18, slot := 0, constantValue := 0 }, { name := "ordinal", type := .int, accessFlags := 18, slot := 1, constantValue := 0 }, { name := "hash", type := .int, accessFlags := 2, slot := 2, constantValue := 0 }]
  methods := #[]
  instanceTypes := #[(.object "java/lang/String"), .int, .int]
  staticTypes := #[]
  resolved := Array.replicate 204 none
  statics := none }

def pool9 : Array CpInfo := pool [(1, .class_ 2), (0, u "com/example/vorm/vorm/operations/ErrorReason"), (2, u "RESOURCE_ALREADY_EXISTS"), (0, u "Lcom/example/vorm/vorm/operations/ErrorReason;"), (2, u "WRONG_COLLECTION"), (2, u "WRONG_PARENT"), (2, u "PARENT_NOT_FOUND"), (2, u "PARENT_DELETED"), (2, u "INVALID_RESOURCE"), (2, u "$VALUES"), (0, u "[Lcom/example/vorm/vorm/operations/ErrorReason;"), (6, .class_ 34), (1, u "java/lang/Enum"), (8, u "code"), (0, u "Lcom/example/vorm/vorm/ErrorCode;")] 40

/-- com/example/vorm/vorm/operations/ErrorReason -/
def k9 : Class := { plain "com/example/vorm/vorm/operations/ErrorReason" (some 8) with
  accessFlags := 16433
  interfaces := #[]
  cf := some (fileOf pool9 1 #[] #[] 16433 32 #[] #[{ accessFlags := 16409, nameIndex := 5, descriptorIndex := 6, attributes := #[] }, { accessFlags := 16409, nameIndex := 9, descriptorIndex := 6, attributes := #[] }, { accessFlags := 16409, nameIndex := 12, descriptorIndex := 6, attributes := #[] }, { accessFlags := 16409, nameIndex := 15, descriptorIndex := 6, attributes := #[] }, { accessFlags := 16409, nameIndex := 18, descriptorIndex := 6, attributes := #[] }, { accessFlags := 16409, nameIndex := 21, descriptorIndex := 6, attributes := #[] }, { accessFlags := 18, nameIndex := 43, descriptorIndex := 44, attributes := #[] }, { accessFlags := 4122, nameIndex := 24, descriptorIndex := 25, attributes := #[] }])
  fields := #[{ name := "RESOURCE_ALREADY_EXISTS", type := (.object "com/example/vorm/vorm/operations/ErrorReason"), accessFlags := 16409, slot := 0, constantValue := 0 }, { name := "WRONG_COLLECTION", type := (.object "com/example/vorm/vorm/operations/ErrorReason"), accessFlags := 16409, slot := 1, constantValue := 0 }, { name := "WRONG_PARENT", type := (.object "com/example/vorm/vorm/operations/ErrorReason"), accessFlags := 16409, slot := 2, constantValue := 0 }, { name := "PARENT_NOT_FOUND", type := (.object "com/example/vorm/vorm/operations/ErrorReason"), accessFlags := 16409, slot := 3, constantValue := 0 }, { name := "PARENT_DELETED", type := (.object "com/example/vorm/vorm/operations/ErrorReason"), accessFlags := 16409, slot := 4, constantValue := 0 }, { name := "INVALID_RESOURCE", type := (.object "com/example/vorm/vorm/operations/ErrorReason"), accessFlags := 16409, slot := 5, constantValue := 0 }, { name := "code", type := (.object "com/example/vorm/vorm/ErrorCode"), accessFlags := 18, slot := 3, constantValue := 0 }, { name := "$VALUES", type := (.array (.object "com/example/vorm/vorm/operations/ErrorReason")), accessFlags := 4122, slot := 6, constantValue := 0 }]
  methods := #[]
  instanceTypes := #[(.object "java/lang/String"), .int, .int, (.object "com/example/vorm/vorm/ErrorCode")]
  staticTypes := #[(.object "com/example/vorm/vorm/operations/ErrorReason"), (.object "com/example/vorm/vorm/operations/ErrorReason"), (.object "com/example/vorm/vorm/operations/ErrorReason"), (.object "com/example/vorm/vorm/operations/ErrorReason"), (.object "com/example/vorm/vorm/operations/ErrorReason"), (.object "com/example/vorm/vorm/operations/ErrorReason"), (.array (.object "com/example/vorm/vorm/operations/ErrorReason"))]
  resolved := Array.replicate 85 none
  statics := some 1 }

def pool10 : Array CpInfo := pool [(1, .methodref 2 3), (0, .class_ 4), (0, .nameAndType 5 6), (0, u "java/lang/Object"), (0, u "<init>"), (0, u "()V"), (0, .fieldref 8 9), (0, .class_ 10), (0, .nameAndType 11 12), (0, u "com/example/vorm/vorm/operations/ImportItem"), (0, u "name"), (0, u "Ljava/lang/String;"), (0, .fieldref 8 14), (0, .nameAndType 15 16), (0, u "resource"), (0, u "Lcom/example/vorm/vorm/store/NewResource;"), (0, .fieldref 8 18), (0, .nameAndType 19 20), (0, u "reason"), (0, u "Lcom/example/vorm/vorm/operations/ErrorReason;"), (0, .fieldref 8 22), (0, .nameAndType 23 12), (0, u "message"), (4, u "()Ljava/lang/String;"), (0, .methodref 8 30), (0, .nameAndType 5 31), (0, u "(Ljava/lang/String;Lcom/example/vorm/vorm/store/NewResource;Lcom/example/vorm/vorm/operations/ErrorReason;Ljava/lang/String;)V"), (4, u "refused"), (0, u "(Ljava/lang/String;Lcom/example/vorm/vorm/operations/ErrorReason;Ljava/lang/String;)Lcom/example/vorm/vorm/operations/ImportItem;"), (0, u "()Lcom/example/vorm/vorm/store/NewResource;"), (0, u "()Lcom/example/vorm/vorm/operations/ErrorReason;")] 2

def k10c0 : Code := { maxStack := 2, maxLocals := 5, code := prog_12_method_1_code, exceptionTable := #[], attributes := #[] }
def k10m0 : Method := { name := "<init>", desc := "(Ljava/lang/String;Lcom/example/vorm/vorm/store/NewResource;Lcom/example/vorm/vorm/operations/ErrorReason;Ljava/lang/String;)V", sig := { parameters := [(.object "java/lang/String"), (.object "com/example/vorm/vorm/store/NewResource"), (.object "com/example/vorm/vorm/operations/ErrorReason"), (.object "java/lang/String")], returnType := none }, accessFlags := 2, code := some k10c0 }
def k10c1 : Code := { maxStack := 6, maxLocals := 3, code := prog_12_method_3_code, exceptionTable := #[], attributes := #[] }
def k10m1 : Method := { name := "refused", desc := "(Ljava/lang/String;Lcom/example/vorm/vorm/operations/ErrorReason;Ljava/lang/String;)Lcom/example/vorm/vorm/operations/ImportItem;", sig := { parameters := [(.object "java/lang/String"), (.object "com/example/vorm/vorm/operations/ErrorReason"), (.object "java/lang/String")], returnType := some (.object "com/example/vorm/vorm/operations/ImportItem") }, accessFlags := 9, code := some k10c1 }
def k10c2 : Code := { maxStack := 1, maxLocals := 1, code := prog_12_method_4_code, exceptionTable := #[], attributes := #[] }
def k10m2 : Method := { name := "name", desc := "()Ljava/lang/String;", sig := { parameters := [], returnType := some (.object "java/lang/String") }, accessFlags := 0, code := some k10c2 }
def k10c3 : Code := { maxStack := 1, maxLocals := 1, code := prog_12_method_5_code, exceptionTable := #[], attributes := #[] }
def k10m3 : Method := { name := "resource", desc := "()Lcom/example/vorm/vorm/store/NewResource;", sig := { parameters := [], returnType := some (.object "com/example/vorm/vorm/store/NewResource") }, accessFlags := 0, code := some k10c3 }
def k10c4 : Code := { maxStack := 1, maxLocals := 1, code := prog_12_method_6_code, exceptionTable := #[], attributes := #[] }
def k10m4 : Method := { name := "reason", desc := "()Lcom/example/vorm/vorm/operations/ErrorReason;", sig := { parameters := [], returnType := some (.object "com/example/vorm/vorm/operations/ErrorReason") }, accessFlags := 0, code := some k10c4 }
def k10c5 : Code := { maxStack := 1, maxLocals := 1, code := prog_12_method_7_code, exceptionTable := #[], attributes := #[] }
def k10m5 : Method := { name := "message", desc := "()Ljava/lang/String;", sig := { parameters := [], returnType := some (.object "java/lang/String") }, accessFlags := 0, code := some k10c5 }
/-- com/example/vorm/vorm/operations/ImportItem -/
def k10 : Class := { plain "com/example/vorm/vorm/operations/ImportItem" (some 0) with
  accessFlags := 49
  interfaces := #[]
  cf := some (fileOf pool10 8 #[] #[{ accessFlags := 2, nameIndex := 5, descriptorIndex := 31, attributes := #[] }, { accessFlags := 9, nameIndex := 36, descriptorIndex := 37, attributes := #[] }, { accessFlags := 0, nameIndex := 11, descriptorIndex := 28, attributes := #[] }, { accessFlags := 0, nameIndex := 15, descriptorIndex := 38, attributes := #[] }, { accessFlags := 0, nameIndex := 19, descriptorIndex := 39, attributes := #[] }, { accessFlags := 0, nameIndex := 23, descriptorIndex := 28, attributes := #[] }] 49 2 #[] #[{ accessFlags := 18, nameIndex := 11, descriptorIndex := 12, attributes := #[] }, { accessFlags := 18, nameIndex := 15, descriptorIndex := 16, attributes := #[] }, { accessFlags := 18, nameIndex := 19, descriptorIndex := 20, attributes := #[] }, { accessFlags := 18, nameIndex := 23, descriptorIndex := 12, attributes := #[] }])
  fields := #[{ name := "name", type := (.object "java/lang/String"), accessFlags := 18, slot := 0, constantValue := 0 }, { name := "resource", type := (.object "com/example/vorm/vorm/store/NewResource"), accessFlags := 18, slot := 1, constantValue := 0 }, { name := "reason", type := (.object "com/example/vorm/vorm/operations/ErrorReason"), accessFlags := 18, slot := 2, constantValue := 0 }, { name := "message", type := (.object "java/lang/String"), accessFlags := 18, slot := 3, constantValue := 0 }]
  methods := #[k10m0, k10m1, k10m2, k10m3, k10m4, k10m5]
  instanceTypes := #[(.object "java/lang/String"), (.object "com/example/vorm/vorm/store/NewResource"), (.object "com/example/vorm/vorm/operations/ErrorReason"), (.object "java/lang/String")]
  staticTypes := #[]
  resolved := Array.replicate 42 none
  statics := none }

def pool11 : Array CpInfo := pool [(6, .class_ 8), (1, u "java/lang/Object"), (0, u "<init>"), (0, u "()V"), (1, .class_ 14), (1, u "java/lang/StringUTF16"), (31, u "$assertionsDisabled"), (0, u "Z"), (13, u "HI_BYTE_SHIFT"), (0, u "I"), (2, u "LO_BYTE_SHIFT"), (49, .methodref 12 116), (0, .nameAndType 117 118), (0, u "compress"), (0, u "([CI[BII)I"), (3, u "([CII)[B"), (138, u "coderFromArrayLen"), (0, u "([BI)B"), (106, .class_ 371), (1, u "java/lang/StringUTF16$LinesSpliterator"), (58, u "MAX_LENGTH"), (196, .class_ 628), (0, u "java/lang/StringUTF16$CodePointsSpliterator"), (0, .class_ 630), (0, u "java/lang/StringUTF16$CharsSpliterator")] 4

def k11m0 : Method := { name := "<init>", desc := "()V", sig := { parameters := [], returnType := none }, accessFlags := 0, code := none }
def k11c1 : Code := { maxStack := 2, maxLocals := 2, code := jdk_52_method_15_code, exceptionTable := #[], attributes := #[] }
def k11m1 : Method := { name := "coderFromArrayLen", desc := "([BI)B", sig := { parameters := [(.array .byte), .int], returnType := some .byte }, accessFlags := 8, code := some k11c1 }
def k11c2 : Code := { maxStack := 5, maxLocals := 6, code := jdk_52_method_16_code, exceptionTable := #[], attributes := #[] }
def k11m2 : Method := { name := "compress", desc := "([CII)[B", sig := { parameters := [(.array .char), .int, .int], returnType := some (.array .byte) }, accessFlags := 9, code := some k11c2 }
def k11c3 : Code := { maxStack := 3, maxLocals := 7, code := jdk_52_method_21_code, exceptionTable := #[], attributes := #[] }
def k11m3 : Method := { name := "compress", desc := "([CI[BII)I", sig := { parameters := [(.array .char), .int, (.array .byte), .int, .int], returnType := some .int }, accessFlags := 9, code := some k11c3 }
/-- java/lang/StringUTF16 -/
def k11 : Class := { plain "java/lang/StringUTF16" (some 0) with
  accessFlags := 48
  interfaces := #[]
  cf := some (fileOf pool11 12 #[.nestMembers #[627, 629, 369]] #[{ accessFlags := 0, nameIndex := 9, descriptorIndex := 10, attributes := #[] }, { accessFlags := 8, nameIndex := 261, descriptorIndex := 262, attributes := #[] }, { accessFlags := 9, nameIndex := 117, descriptorIndex := 122, attributes := #[] }, { accessFlags := 9, nameIndex := 117, descriptorIndex := 118, attributes := #[] }] 48 6 #[] #[{ accessFlags := 26, nameIndex := 61, descriptorIndex := 62, attributes := #[] }, { accessFlags := 26, nameIndex := 65, descriptorIndex := 62, attributes := #[] }, { accessFlags := 24, nameIndex := 430, descriptorIndex := 62, attributes := #[] }, { accessFlags := 4120, nameIndex := 46, descriptorIndex := 47, attributes := #[] }])
  fields := #[{ name := "HI_BYTE_SHIFT", type := .int, accessFlags := 26, slot := 0, constantValue := 0 }, { name := "LO_BYTE_SHIFT", type := .int, accessFlags := 26, slot := 1, constantValue := 0 }, { name := "MAX_LENGTH", type := .int, accessFlags := 24, slot := 2, constantValue := 0 }, { name := "$assertionsDisabled", type := .boolean, accessFlags := 4120, slot := 3, constantValue := 0 }]
  methods := #[k11m0, k11m1, k11m2, k11m3]
  instanceTypes := #[]
  staticTypes := #[.int, .int, .int, .boolean]
  resolved := Array.replicate 635 none
  statics := none }

def pool12 : Array CpInfo := pool [(4, .class_ 6), (1, u "java/lang/Object"), (0, u "<init>"), (0, u "()V"), (5, .class_ 16), (1, u "java/lang/StringLatin1"), (104, u "$assertionsDisabled"), (0, u "Z"), (98, .class_ 223), (1, u "java/lang/StringLatin1$LinesSpliterator"), (166, .class_ 391), (0, u "java/lang/StringLatin1$CharsSpliterator")] 3

def k12m0 : Method := { name := "<init>", desc := "()V", sig := { parameters := [], returnType := none }, accessFlags := 0, code := none }
/-- java/lang/StringLatin1 -/
def k12 : Class := { plain "java/lang/StringLatin1" (some 0) with
  accessFlags := 48
  interfaces := #[]
  cf := some (fileOf pool12 14 #[.nestMembers #[390, 221]] #[{ accessFlags := 0, nameIndex := 7, descriptorIndex := 8, attributes := #[] }] 48 4 #[] #[{ accessFlags := 4120, nameIndex := 121, descriptorIndex := 122, attributes := #[] }])
  fields := #[{ name := "$assertionsDisabled", type := .boolean, accessFlags := 4120, slot := 0, constantValue := 0 }]
  methods := #[k12m0]
  instanceTypes := #[]
  staticTypes := #[.boolean]
  resolved := Array.replicate 395 none
  statics := none }

def pool13 : Array CpInfo := pool [(2, .class_ 4), (1, u "java/lang/Object"), (0, u "<init>"), (0, u "()V"), (17, .class_ 26), (1, u "jdk/internal/util/Preconditions"), (28, .class_ 56), (0, u "jdk/internal/util/Preconditions$4"), (57, .class_ 115), (0, u "jdk/internal/util/Preconditions$1"), (7, u "SIOOBE_FORMATTER"), (0, u "Ljava/util/function/BiFunction;"), (0, .class_ 126), (0, u "jdk/internal/util/Preconditions$2"), (3, u "AIOOBE_FORMATTER"), (0, .class_ 132), (0, u "jdk/internal/util/Preconditions$3"), (3, u "IOOBE_FORMATTER")] 57

def k13m0 : Method := { name := "<init>", desc := "()V", sig := { parameters := [], returnType := none }, accessFlags := 1, code := none }
/-- jdk/internal/util/Preconditions -/
def k13 : Class := { plain "jdk/internal/util/Preconditions" (some 0) with
  accessFlags := 33
  interfaces := #[]
  cf := some (fileOf pool13 24 #[.nestMembers #[55, 131, 125, 114]] #[{ accessFlags := 1, nameIndex := 5, descriptorIndex := 6, attributes := #[] }] 33 2 #[] #[{ accessFlags := 25, nameIndex := 123, descriptorIndex := 124, attributes := #[] }, { accessFlags := 25, nameIndex := 130, descriptorIndex := 124, attributes := #[] }, { accessFlags := 25, nameIndex := 136, descriptorIndex := 124, attributes := #[] }])
  fields := #[{ name := "SIOOBE_FORMATTER", type := (.object "java/util/function/BiFunction"), accessFlags := 25, slot := 0, constantValue := 0 }, { name := "AIOOBE_FORMATTER", type := (.object "java/util/function/BiFunction"), accessFlags := 25, slot := 1, constantValue := 0 }, { name := "IOOBE_FORMATTER", type := (.object "java/util/function/BiFunction"), accessFlags := 25, slot := 2, constantValue := 0 }]
  methods := #[k13m0]
  instanceTypes := #[]
  staticTypes := #[(.object "java/util/function/BiFunction"), (.object "java/util/function/BiFunction"), (.object "java/util/function/BiFunction")]
  resolved := Array.replicate 194 none
  statics := some 2 }

def pool14 : Array CpInfo := pool [(9, u "<init>"), (6, .class_ 18), (1, u "java/lang/Object"), (0, u "()V"), (1, .class_ 23), (1, u "jdk/internal/util/ArraysSupport"), (0, u "LOG2_ARRAY_LONG_INDEX_SCALE"), (0, u "I"), (2, u "U"), (0, u "Ljdk/internal/misc/Unsafe;"), (8, u "BIG_ENDIAN"), (0, u "Z"), (8, u "LOG2_BYTE_BIT_SIZE"), (4, u "LOG2_ARRAY_INT_INDEX_SCALE"), (54, u "JLA"), (0, u "Ljdk/internal/access/JavaLangAccess;"), (11, u "LOG2_ARRAY_BOOLEAN_INDEX_SCALE"), (9, u "LOG2_ARRAY_BYTE_INDEX_SCALE"), (5, u "LOG2_ARRAY_CHAR_INDEX_SCALE"), (5, u "LOG2_ARRAY_SHORT_INDEX_SCALE"), (18, u "LOG2_ARRAY_FLOAT_INDEX_SCALE"), (24, u "LOG2_ARRAY_DOUBLE_INDEX_SCALE"), (89, u "T_BOOLEAN"), (2, u "T_CHAR"), (1, u "T_FLOAT"), (1, u "T_DOUBLE"), (1, u "T_BYTE"), (1, u "T_SHORT"), (1, u "T_INT"), (1, u "T_LONG"), (1, u "SOFT_MAX_ARRAY_LENGTH")] 83

def k14m0 : Method := { name := "<init>", desc := "()V", sig := { parameters := [], returnType := none }, accessFlags := 2, code := none }
/-- jdk/internal/util/ArraysSupport -/
def k14 : Class := { plain "jdk/internal/util/ArraysSupport" (some 0) with
  accessFlags := 33
  interfaces := #[]
  cf := some (fileOf pool14 21 #[] #[{ accessFlags := 2, nameIndex := 9, descriptorIndex := 19, attributes := #[] }] 33 16 #[] #[{ accessFlags := 24, nameIndex := 28, descriptorIndex := 29, attributes := #[] }, { accessFlags := 26, nameIndex := 38, descriptorIndex := 39, attributes := #[] }, { accessFlags := 25, nameIndex := 121, descriptorIndex := 25, attributes := #[] }, { accessFlags := 25, nameIndex := 131, descriptorIndex := 25, attributes := #[] }, { accessFlags := 25, nameIndex := 137, descriptorIndex := 25, attributes := #[] }, { accessFlags := 25, nameIndex := 143, descriptorIndex := 25, attributes := #[] }, { accessFlags := 25, nameIndex := 53, descriptorIndex := 25, attributes := #[] }, { accessFlags := 25, nameIndex := 24, descriptorIndex := 25, attributes := #[] }, { accessFlags := 25, nameIndex := 162, descriptorIndex := 25, attributes := #[] }, { accessFlags := 25, nameIndex := 187, descriptorIndex := 25, attributes := #[] }, { accessFlags := 26, nameIndex := 48, descriptorIndex := 25, attributes := #[] }, { accessFlags := 25, nameIndex := 277, descriptorIndex := 25, attributes := #[] }, { accessFlags := 25, nameIndex := 280, descriptorIndex := 25, attributes := #[] }, { accessFlags := 25, nameIndex := 282, descriptorIndex := 25, attributes := #[] }, { accessFlags := 25, nameIndex := 284, descriptorIndex := 25, attributes := #[] }, { accessFlags := 25, nameIndex := 286, descriptorIndex := 25, attributes := #[] }, { accessFlags := 25, nameIndex := 288, descriptorIndex := 25, attributes := #[] }, { accessFlags := 25, nameIndex := 290, descriptorIndex := 25, attributes := #[] }, { accessFlags := 25, nameIndex := 292, descriptorIndex := 25, attributes := #[] }, { accessFlags := 26, nameIndex := 108, descriptorIndex := 109, attributes := #[] }, { accessFlags := 25, nameIndex := 294, descriptorIndex := 25, attributes := #[] }])
  fields := #[{ name := "U", type := (.object "jdk/internal/misc/Unsafe"), accessFlags := 24, slot := 0, constantValue := 0 }, { name := "BIG_ENDIAN", type := .boolean, accessFlags := 26, slot := 1, constantValue := 0 }, { name := "LOG2_ARRAY_BOOLEAN_INDEX_SCALE", type := .int, accessFlags := 25, slot := 2, constantValue := 0 }, { name := "LOG2_ARRAY_BYTE_INDEX_SCALE", type := .int, accessFlags := 25, slot := 3, constantValue := 0 }, { name := "LOG2_ARRAY_CHAR_INDEX_SCALE", type := .int, accessFlags := 25, slot := 4, constantValue := 0 }, { name := "LOG2_ARRAY_SHORT_INDEX_SCALE", type := .int, accessFlags := 25, slot := 5, constantValue := 0 }, { name := "LOG2_ARRAY_INT_INDEX_SCALE", type := .int, accessFlags := 25, slot := 6, constantValue := 0 }, { name := "LOG2_ARRAY_LONG_INDEX_SCALE", type := .int, accessFlags := 25, slot := 7, constantValue := 0 }, { name := "LOG2_ARRAY_FLOAT_INDEX_SCALE", type := .int, accessFlags := 25, slot := 8, constantValue := 0 }, { name := "LOG2_ARRAY_DOUBLE_INDEX_SCALE", type := .int, accessFlags := 25, slot := 9, constantValue := 0 }, { name := "LOG2_BYTE_BIT_SIZE", type := .int, accessFlags := 26, slot := 10, constantValue := 0 }, { name := "T_BOOLEAN", type := .int, accessFlags := 25, slot := 11, constantValue := 0 }, { name := "T_CHAR", type := .int, accessFlags := 25, slot := 12, constantValue := 0 }, { name := "T_FLOAT", type := .int, accessFlags := 25, slot := 13, constantValue := 0 }, { name := "T_DOUBLE", type := .int, accessFlags := 25, slot := 14, constantValue := 0 }, { name := "T_BYTE", type := .int, accessFlags := 25, slot := 15, constantValue := 0 }, { name := "T_SHORT", type := .int, accessFlags := 25, slot := 16, constantValue := 0 }, { name := "T_INT", type := .int, accessFlags := 25, slot := 17, constantValue := 0 }, { name := "T_LONG", type := .int, accessFlags := 25, slot := 18, constantValue := 0 }, { name := "JLA", type := (.object "jdk/internal/access/JavaLangAccess"), accessFlags := 26, slot := 19, constantValue := 0 }, { name := "SOFT_MAX_ARRAY_LENGTH", type := .int, accessFlags := 25, slot := 20, constantValue := 0 }]
  methods := #[k14m0]
  instanceTypes := #[]
  staticTypes := #[(.object "jdk/internal/misc/Unsafe"), .boolean, .int, .int, .int, .int, .int, .int, .int, .int, .int, .int, .int, .int, .int, .int, .int, .int, .int, (.object "jdk/internal/access/JavaLangAccess"), .int]
  resolved := Array.replicate 378 none
  statics := none }

def pool15 : Array CpInfo := pool [(1, u "java/lang/Cloneable"), (0, .class_ 1), (0, u "java/lang/Object"), (0, .class_ 3)] 3

/-- java/lang/Cloneable -/
def k15 : Class := { plain "java/lang/Cloneable" (some 0) with
  accessFlags := 1537
  interfaces := #[]
  cf := some (fileOf pool15 2 #[] #[] 1537 4 #[] #[])
  fields := #[]
  methods := #[]
  instanceTypes := #[]
  staticTypes := #[]
  resolved := Array.replicate 8 none
  statics := none }

/-- the primitive byte -/
def k16 : Class := { plain "byte" none with kind := .primitive 'B', accessFlags := 0x411 }
/-- [B -/
def k17 : Class := { plain "[B" (some 0) with kind := .array 16 .byte, interfaces := #[15, 2], accessFlags := 1041 }

/-- the primitive char -/
def k18 : Class := { plain "char" none with kind := .primitive 'C', accessFlags := 0x411 }
/-- [C -/
def k19 : Class := { plain "[C" (some 0) with kind := .array 18 .char, interfaces := #[15, 2], accessFlags := 1041 }

/-- the primitive int -/
def k20 : Class := { plain "int" none with kind := .primitive 'I', accessFlags := 0x411 }
/-- [I -/
def k21 : Class := { plain "[I" (some 0) with kind := .array 20 .int, interfaces := #[15, 2], accessFlags := 1041 }

def heap : Heap := #[{ cls := 7, slots := #[.long 0, .int 1, .null, .int 0, .null, .int 0, .int 0], vm := .statics 7 },
  { cls := 9, slots := #[.ref 6, .ref 7, .ref 8, .ref 5, .ref 4, .ref 3, .null], vm := .statics 9 },
  { cls := 13, slots := #[.null, .null, .null], vm := .statics 13 },
  { cls := 9, slots := #[.null, .int 0, .int 0, .null], vm := .none },
  { cls := 9, slots := #[.null, .int 0, .int 0, .null], vm := .none },
  { cls := 9, slots := #[.null, .int 0, .int 0, .null], vm := .none },
  { cls := 9, slots := #[.null, .int 0, .int 0, .null], vm := .none },
  { cls := 9, slots := #[.null, .int 0, .int 0, .null], vm := .none },
  { cls := 9, slots := #[.null, .int 0, .int 0, .null], vm := .none }]
def classes : Array Class := #[k0, k1, k2, k3, k4, k5, k6, k7, k8, k9, k10, k11, k12, k13, k14, k15, k16, k17, k18, k19, k20, k21]
def interned : List (Array UInt16 × Addr) := []
def slotsUsed : Nat := 41
def theMethod : MethodId := ⟨1, 1⟩
def args0 : Array Value := #[.int 5, .int 5, .int 5, .int 5]
def aboutOver (below : List Frame) : State where
  vm := { classes := classes, interned := interned.toArray }
  heap := heap
  slotsUsed := slotsUsed
  threads := #[{ frames := .invoking theMethod args0 :: below }]
def below0 : List Frame := [.native { method := ⟨0, 0⟩, args := #[] }]
def about1 : State := aboutOver below0
def p0 : Program := .bare "" "" ""
def e0 : Env := launch0.env 0 0 0
theorem w_frames : about1.frames = Frame.invoking theMethod args0 :: below0 := rfl
set_option maxRecDepth 65536 in
theorem w_args : argsFit about1.vm theMethod args0 = true := by decide +kernel
set_option maxRecDepth 65536 in
theorem w_heap : heapFits about1 = true := by decide +kernel
set_option maxRecDepth 65536 in
theorem w_runnable : about1.curStatus? = some .runnable := by decide +kernel
set_option maxRecDepth 65536 in
theorem w_alone : about1.alone = true := by decide +kernel
set_option maxRecDepth 65536 in
theorem w_named : about1.methodNamed? x = some theMethod := by decide +kernel
set_option maxRecDepth 65536 in
theorem w_hears : about1.hears theMethod below0 = true := by decide +kernel
set_option maxRecDepth 65536 in
theorem w_ripe : about1.ripe theMethod args0 below0 = true := by decide +kernel
theorem w_running : about1.status = .running := rfl
set_option maxRecDepth 65536 in
theorem w_room : about1.hasRoom e0.platform room_1 = true :=
  launch0.hasRoom_least _ room_1 (by decide +kernel) (by decide +kernel) (by decide +kernel) (by decide +kernel) (by decide +kernel) (by decide +kernel)
theorem allAtoms_all (ts : List Jvm.Cond) (a : Array Jvm.Value) (st : Jvm.State) : (allAtoms ts).before a st = ts.all (fun c => c.before a st) := by
  induction ts with
  | nil => rfl
  | cons c t ih =>
    show (Jvm.Cond.and c (allAtoms t)).before a st = _
    rw [Jvm.Cond.before_and, ih, List.all_cons]
def words1 : List Jvm.Cond := Jvm.Cond.code x code maxLocals ret :: tables_1
/-- a 'code' word, met by the world's own term for the bytes: nothing is compared byte by byte -/
theorem code_word {y : MethodName} {bytes : ByteArray} {mx : Nat} {rt : Option FieldType} {a : Array Value} {s : State} {m : MethodId} {meth : Method} {c : Code} (h1 : s.methodNamed? y = some m) (h2 : s.vm.method? m = some meth) (h3 : meth.code = some c) (h4 : c.code = bytes)
    (h5 : (c.maxLocals == mx && c.exceptionTable.isEmpty && decide (c.maxStack ≤ mostOperands) && decide (meth.sig.returnType = rt) && !meth.locks && decide (parseMethodDescriptor y.desc = some meth.sig)) = true) : (Jvm.Cond.code y bytes mx rt).before a s = true := by
  simp only [Bool.and_eq_true, beq_iff_eq, Bool.not_eq_true', decide_eq_true_eq] at h5
  obtain ⟨⟨⟨⟨⟨g1, g2⟩, g3⟩, g4⟩, g5⟩, g6⟩ := h5
  simp [Cond.before, Cond.holds, Cond.value, h1, h2, h3, h4, g1, g2, g3, g4, g5, g6]
def isCode : Jvm.Cond → Bool
  | .code _ _ _ _ => true
  | _ => false
theorem all_split {L : List Jvm.Cond} {P : Jvm.Cond → Bool} (h1 : L.all (fun c => isCode c || P c) = true) (h2 : ∀ c ∈ L.filter isCode, P c = true) : L.all P = true := by
  refine List.all_eq_true.mpr fun c hc => ?_
  have h := List.all_eq_true.mp h1 c hc
  rcases Bool.eq_false_or_eq_true (isCode c) with hi | hi
  · exact h2 c (List.mem_filter.mpr ⟨hc, hi⟩)
  · simpa [hi] using h
set_option maxRecDepth 65536 in
theorem w_c0 : (Jvm.Cond.code x code maxLocals ret).before args0 about1 = true := code_word (m := ⟨1, 1⟩) (meth := k1m1) (c := k1c1) (by decide +kernel) rfl rfl rfl (by decide +kernel)
set_option maxRecDepth 65536 in
theorem w_c1 : (Jvm.Cond.code ({ cls := "com/example/vorm/vorm/operations/ImportItemRefusedPinLaw", name := "drawn", desc := "(II)Ljava/lang/String;" } : Jvm.MethodName) method_3_code (4 : Nat) (Option.some (Jvm.ClassFile.FieldType.object "java/lang/String"))).before args0 about1 = true := code_word (m := ⟨1, 2⟩) (meth := k1m2) (c := k1c2) (by decide +kernel) rfl rfl rfl (by decide +kernel)
set_option maxRecDepth 65536 in
theorem w_c2 : (Jvm.Cond.code ({ cls := "java/lang/String", name := "<init>", desc := "([C)V" } : Jvm.MethodName) jdk_42_method_3_code (2 : Nat) (Option.none : Option Jvm.ClassFile.FieldType)).before args0 about1 = true := code_word (m := ⟨7, 1⟩) (meth := k7m1) (c := k7c1) (by decide +kernel) rfl rfl rfl (by decide +kernel)
set_option maxRecDepth 65536 in
theorem w_c3 : (Jvm.Cond.code ({ cls := "java/lang/String", name := "<init>", desc := "([CIILjava/lang/Void;)V" } : Jvm.MethodName) jdk_42_method_149_code (6 : Nat) (Option.none : Option Jvm.ClassFile.FieldType)).before args0 about1 = true := code_word (m := ⟨7, 2⟩) (meth := k7m2) (c := k7c2) (by decide +kernel) rfl rfl rfl (by decide +kernel)
set_option maxRecDepth 65536 in
theorem w_c4 : (Jvm.Cond.code ({ cls := "java/lang/Object", name := "<init>", desc := "()V" } : Jvm.MethodName) object_method_1_code (1 : Nat) (Option.none : Option Jvm.ClassFile.FieldType)).before args0 about1 = true := code_word (m := ⟨0, 0⟩) (meth := k0m0) (c := k0c0) (by decide +kernel) rfl rfl rfl (by decide +kernel)
set_option maxRecDepth 65536 in
theorem w_c5 : (Jvm.Cond.code ({ cls := "com/example/vorm/vorm/operations/ImportItemRefusedPinLaw", name := "pick", desc := "(I)Lcom/example/vorm/vorm/operations/ErrorReason;" } : Jvm.MethodName) method_4_code (2 : Nat) (Option.some (Jvm.ClassFile.FieldType.object "com/example/vorm/vorm/operations/ErrorReason"))).before args0 about1 = true := code_word (m := ⟨1, 3⟩) (meth := k1m3) (c := k1c3) (by decide +kernel) rfl rfl rfl (by decide +kernel)
set_option maxRecDepth 65536 in
theorem w_c6 : (Jvm.Cond.code ({ cls := "com/example/vorm/vorm/operations/ImportItem", name := "refused", desc := "(Ljava/lang/String;Lcom/example/vorm/vorm/operations/ErrorReason;Ljava/lang/String;)Lcom/example/vorm/vorm/operations/ImportItem;" } : Jvm.MethodName) prog_12_method_3_code (3 : Nat) (Option.some (Jvm.ClassFile.FieldType.object "com/example/vorm/vorm/operations/ImportItem"))).before args0 about1 = true := code_word (m := ⟨10, 1⟩) (meth := k10m1) (c := k10c1) (by decide +kernel) rfl rfl rfl (by decide +kernel)
set_option maxRecDepth 65536 in
theorem w_c7 : (Jvm.Cond.code ({ cls := "com/example/vorm/vorm/operations/ImportItem", name := "<init>", desc := "(Ljava/lang/String;Lcom/example/vorm/vorm/store/NewResource;Lcom/example/vorm/vorm/operations/ErrorReason;Ljava/lang/String;)V" } : Jvm.MethodName) prog_12_method_1_code (5 : Nat) (Option.none : Option Jvm.ClassFile.FieldType)).before args0 about1 = true := code_word (m := ⟨10, 0⟩) (meth := k10m0) (c := k10c0) (by decide +kernel) rfl rfl rfl (by decide +kernel)
set_option maxRecDepth 65536 in
theorem w_c8 : (Jvm.Cond.code ({ cls := "com/example/vorm/vorm/operations/ImportItem", name := "name", desc := "()Ljava/lang/String;" } : Jvm.MethodName) prog_12_method_4_code (1 : Nat) (Option.some (Jvm.ClassFile.FieldType.object "java/lang/String"))).before args0 about1 = true := code_word (m := ⟨10, 2⟩) (meth := k10m2) (c := k10c2) (by decide +kernel) rfl rfl rfl (by decide +kernel)
set_option maxRecDepth 65536 in
theorem w_c9 : (Jvm.Cond.code ({ cls := "com/example/vorm/vorm/operations/ImportItem", name := "resource", desc := "()Lcom/example/vorm/vorm/store/NewResource;" } : Jvm.MethodName) prog_12_method_5_code (1 : Nat) (Option.some (Jvm.ClassFile.FieldType.object "com/example/vorm/vorm/store/NewResource"))).before args0 about1 = true := code_word (m := ⟨10, 3⟩) (meth := k10m3) (c := k10c3) (by decide +kernel) rfl rfl rfl (by decide +kernel)
set_option maxRecDepth 65536 in
theorem w_c10 : (Jvm.Cond.code ({ cls := "com/example/vorm/vorm/operations/ImportItem", name := "reason", desc := "()Lcom/example/vorm/vorm/operations/ErrorReason;" } : Jvm.MethodName) prog_12_method_6_code (1 : Nat) (Option.some (Jvm.ClassFile.FieldType.object "com/example/vorm/vorm/operations/ErrorReason"))).before args0 about1 = true := code_word (m := ⟨10, 4⟩) (meth := k10m4) (c := k10c4) (by decide +kernel) rfl rfl rfl (by decide +kernel)
set_option maxRecDepth 65536 in
theorem w_c11 : (Jvm.Cond.code ({ cls := "com/example/vorm/vorm/operations/ImportItem", name := "message", desc := "()Ljava/lang/String;" } : Jvm.MethodName) prog_12_method_7_code (1 : Nat) (Option.some (Jvm.ClassFile.FieldType.object "java/lang/String"))).before args0 about1 = true := code_word (m := ⟨10, 5⟩) (meth := k10m5) (c := k10c5) (by decide +kernel) rfl rfl rfl (by decide +kernel)
set_option maxRecDepth 65536 in
theorem w_c12 : (Jvm.Cond.code ({ cls := "java/lang/StringUTF16", name := "compress", desc := "([CII)[B" } : Jvm.MethodName) jdk_52_method_16_code (6 : Nat) (Option.some (Jvm.ClassFile.FieldType.array Jvm.ClassFile.FieldType.byte))).before args0 about1 = true := code_word (m := ⟨11, 2⟩) (meth := k11m2) (c := k11c2) (by decide +kernel) rfl rfl rfl (by decide +kernel)
set_option maxRecDepth 65536 in
theorem w_c13 : (Jvm.Cond.code ({ cls := "java/lang/StringUTF16", name := "compress", desc := "([CI[BII)I" } : Jvm.MethodName) jdk_52_method_21_code (7 : Nat) (Option.some Jvm.ClassFile.FieldType.int)).before args0 about1 = true := code_word (m := ⟨11, 3⟩) (meth := k11m3) (c := k11c3) (by decide +kernel) rfl rfl rfl (by decide +kernel)
set_option maxRecDepth 65536 in
theorem w_c14 : (Jvm.Cond.code ({ cls := "java/lang/StringUTF16", name := "coderFromArrayLen", desc := "([BI)B" } : Jvm.MethodName) jdk_52_method_15_code (2 : Nat) (Option.some Jvm.ClassFile.FieldType.byte)).before args0 about1 = true := code_word (m := ⟨11, 1⟩) (meth := k11m1) (c := k11c1) (by decide +kernel) rfl rfl rfl (by decide +kernel)
def codes1 : List Jvm.Cond := [Jvm.Cond.code x code maxLocals ret, Jvm.Cond.code ({ cls := "com/example/vorm/vorm/operations/ImportItemRefusedPinLaw", name := "drawn", desc := "(II)Ljava/lang/String;" } : Jvm.MethodName) method_3_code (4 : Nat) (Option.some (Jvm.ClassFile.FieldType.object "java/lang/String")), Jvm.Cond.code ({ cls := "java/lang/String", name := "<init>", desc := "([C)V" } : Jvm.MethodName) jdk_42_method_3_code (2 : Nat) (Option.none : Option Jvm.ClassFile.FieldType), Jvm.Cond.code ({ cls := "java/lang/String", name := "<init>", desc := "([CIILjava/lang/Void;)V" } : Jvm.MethodName) jdk_42_method_149_code (6 : Nat) (Option.none : Option Jvm.ClassFile.FieldType), Jvm.Cond.code ({ cls := "java/lang/Object", name := "<init>", desc := "()V" } : Jvm.MethodName) object_method_1_code (1 : Nat) (Option.none : Option Jvm.ClassFile.FieldType), Jvm.Cond.code ({ cls := "com/example/vorm/vorm/operations/ImportItemRefusedPinLaw", name := "pick", desc := "(I)Lcom/example/vorm/vorm/operations/ErrorReason;" } : Jvm.MethodName) method_4_code (2 : Nat) (Option.some (Jvm.ClassFile.FieldType.object "com/example/vorm/vorm/operations/ErrorReason")), Jvm.Cond.code ({ cls := "com/example/vorm/vorm/operations/ImportItem", name := "refused", desc := "(Ljava/lang/String;Lcom/example/vorm/vorm/operations/ErrorReason;Ljava/lang/String;)Lcom/example/vorm/vorm/operations/ImportItem;" } : Jvm.MethodName) prog_12_method_3_code (3 : Nat) (Option.some (Jvm.ClassFile.FieldType.object "com/example/vorm/vorm/operations/ImportItem")), Jvm.Cond.code ({ cls := "com/example/vorm/vorm/operations/ImportItem", name := "<init>", desc := "(Ljava/lang/String;Lcom/example/vorm/vorm/store/NewResource;Lcom/example/vorm/vorm/operations/ErrorReason;Ljava/lang/String;)V" } : Jvm.MethodName) prog_12_method_1_code (5 : Nat) (Option.none : Option Jvm.ClassFile.FieldType), Jvm.Cond.code ({ cls := "com/example/vorm/vorm/operations/ImportItem", name := "name", desc := "()Ljava/lang/String;" } : Jvm.MethodName) prog_12_method_4_code (1 : Nat) (Option.some (Jvm.ClassFile.FieldType.object "java/lang/String")), Jvm.Cond.code ({ cls := "com/example/vorm/vorm/operations/ImportItem", name := "resource", desc := "()Lcom/example/vorm/vorm/store/NewResource;" } : Jvm.MethodName) prog_12_method_5_code (1 : Nat) (Option.some (Jvm.ClassFile.FieldType.object "com/example/vorm/vorm/store/NewResource")), Jvm.Cond.code ({ cls := "com/example/vorm/vorm/operations/ImportItem", name := "reason", desc := "()Lcom/example/vorm/vorm/operations/ErrorReason;" } : Jvm.MethodName) prog_12_method_6_code (1 : Nat) (Option.some (Jvm.ClassFile.FieldType.object "com/example/vorm/vorm/operations/ErrorReason")), Jvm.Cond.code ({ cls := "com/example/vorm/vorm/operations/ImportItem", name := "message", desc := "()Ljava/lang/String;" } : Jvm.MethodName) prog_12_method_7_code (1 : Nat) (Option.some (Jvm.ClassFile.FieldType.object "java/lang/String")), Jvm.Cond.code ({ cls := "java/lang/StringUTF16", name := "compress", desc := "([CII)[B" } : Jvm.MethodName) jdk_52_method_16_code (6 : Nat) (Option.some (Jvm.ClassFile.FieldType.array Jvm.ClassFile.FieldType.byte)), Jvm.Cond.code ({ cls := "java/lang/StringUTF16", name := "compress", desc := "([CI[BII)I" } : Jvm.MethodName) jdk_52_method_21_code (7 : Nat) (Option.some Jvm.ClassFile.FieldType.int), Jvm.Cond.code ({ cls := "java/lang/StringUTF16", name := "coderFromArrayLen", desc := "([BI)B" } : Jvm.MethodName) jdk_52_method_15_code (2 : Nat) (Option.some Jvm.ClassFile.FieldType.byte)]
set_option maxRecDepth 65536 in
theorem codes_eq : words1.filter isCode = codes1 := rfl
theorem w_codes : ∀ c ∈ words1.filter isCode, c.before args0 about1 = true := by
  rw [codes_eq]
  intro c hc
  simp only [codes1, List.mem_cons, List.not_mem_nil, or_false] at hc
  rcases hc with rfl | rfl | rfl | rfl | rfl | rfl | rfl | rfl | rfl | rfl | rfl | rfl | rfl | rfl | rfl
  · exact w_c0
  · exact w_c1
  · exact w_c2
  · exact w_c3
  · exact w_c4
  · exact w_c5
  · exact w_c6
  · exact w_c7
  · exact w_c8
  · exact w_c9
  · exact w_c10
  · exact w_c11
  · exact w_c12
  · exact w_c13
  · exact w_c14
set_option maxRecDepth 65536 in
theorem w_t1 : (words1.take 24).all (fun c => isCode c || c.before args0 about1) = true := by decide +kernel
set_option maxRecDepth 65536 in
theorem w_t2 : ((words1.drop 24).take 24).all (fun c => isCode c || c.before args0 about1) = true := by decide +kernel
set_option maxRecDepth 65536 in
theorem w_t3 : (((words1.drop 24).drop 24).take 24).all (fun c => isCode c || c.before args0 about1) = true := by decide +kernel
set_option maxRecDepth 65536 in
theorem w_t4 : (((words1.drop 24).drop 24).drop 24).all (fun c => isCode c || c.before args0 about1) = true := by decide +kernel
theorem w_tables : (allAtoms (Jvm.Cond.code x code maxLocals ret :: tables_1)).before args0 about1 = true := by
  rw [allAtoms_all]
  show words1.all (fun c => c.before args0 about1) = true
  refine all_split ?_ w_codes
  rw [← List.take_append_drop 24 words1, List.all_append, w_t1, ← List.take_append_drop 24 (words1.drop 24), List.all_append, w_t2, ← List.take_append_drop 24 ((words1.drop 24).drop 24), List.all_append, w_t3, w_t4]
  rfl
set_option maxRecDepth 65536 in
theorem w_rest : rest_1_c.before args0 about1 = true := by decide +kernel
set_option maxRecDepth 65536 in
theorem w_case : (Jvm.Cond.and given_1 narrow_1).before args0 about1 = true := by decide +kernel
set_option maxRecDepth 65536 in
theorem w_consts : constsHeld consts_1 about1 := Jvm.Lit.constsHeldB_iff.mp (by decide +kernel)
theorem w_applies : (headSpec (Jvm.Cond.code x code maxLocals ret :: tables_1) room_1).applies x e0.platform about1 = true :=
  (Spec.applies_iff w_frames).mpr ⟨w_running, w_runnable, w_alone, w_named, w_hears, w_ripe, w_room, w_tables⟩
theorem atStart : AtStart classFile x code maxLocals ret World_1 tables_1 room_1 Calls_1 rest_1 Pre_1 launch0 p0 e0 about1 theMethod args0 below0 :=
  ⟨lists_1, trivial, launch0.admits_env _ _ _, launch0.least_env, fairChoices_fair.cas, fairChoices_fair.clock, w_frames, w_args, w_heap, w_applies, ⟨w_consts, trivial⟩, w_rest, w_case⟩
end start1
theorem witness_1 : WitnessClaimed_1 := ⟨start1.p0, start1.e0, start1.about1, start1.theMethod, start1.args0, start1.below0, start1.atStart⟩
end Jvm.Pilot.@@N@@
