import JvmDerived
import JvmDerived.Pilot.@@N@@Statement
import JvmDerived.Pilot.@@N@@Code
set_option linter.unusedVariables false
set_option linter.unusedSimpArgs false
/- laws to paste: Road.backV, Road.lenW, Road.chN, Road.codOf (cut by pick.py; bodies as the Statement names them) -/
namespace Jvm.Pilot.@@N@@
namespace StrChars
open Jvm Sem ClassFile Op Lib Jvm.Stand Jvm.Free.XT Jvm.Free.ALB Jvm.Free.JM Jvm.Free
open Jvm.Lib.Cold (StaticIs)
/-- a char array whose places are chars -/
def Ch (a : Addr) (A : Cell) (U : State) : Prop := Arr .char a A U ∧ Typed .char A
theorem Ch.mv {a : Addr} {A : Cell} {U U' : State} (h : Ch a A U) (hal : U.vm.Alike U'.vm) (hh : U'.heap = U.heap) : Ch a A U' := ⟨h.1.mv hal hh, h.2⟩
theorem Ch.keep {a : Addr} {A : Cell} {U U' : State} (h : Ch a A U) (hal : U.vm.Alike U'.vm) (hk : U'.heap[a]? = some A) : Ch a A U' := ⟨h.1.keep hal hk, h.2⟩
/-- what place i of a char[]'s cell holds -/
def cv (A : Cell) (i : Nat) : Int32 := match A.slots[i]? with | some (.int x) => x | _ => 0
theorem Ch.get {a : Addr} {A : Cell} {U : State} (h : Ch a A U) {i : Nat} (hi : i < A.slots.size) : A.slots[i]? = some (.int (cv A i)) := by
  have e := Array.getElem?_eq_getElem hi
  have f := h.2 i _ e
  unfold cv; rw [e]
  generalize A.slots[i] = v at f
  cases v <;> simp [fits] at f ⊢
/-- the byte that i2b leaves of a char -/
def lo8 (x : Int32) : Int32 := x.toInt8.toInt32
theorem fits_lo8 (y : Int32) : fits .byte (.int (lo8 y)) = true := by
  have h1 := y.toInt8.le_toInt
  have h2 := y.toInt8.toInt_lt
  simp only [lo8, fits, Bool.and_eq_true, decide_eq_true_eq, Int32.le_iff_toInt_le, Int8.toInt_toInt32, show (-128 : Int32).toInt = -128 from by decide, show (127 : Int32).toInt = 127 from by decide]
  omega
/-- A' is A but that each place j of lo .. hi - 1 holds f j -/
def Laid (A A' : Cell) (lo hi : Nat) (f : Nat → Value) : Prop := A'.cls = A.cls ∧ A'.vm = A.vm ∧ A'.slots.size = A.slots.size ∧ ∀ i, A'.slots[i]? = if lo ≤ i ∧ i < hi then some (f i) else A.slots[i]?
theorem Laid.zero (A : Cell) (lo : Nat) (f : Nat → Value) : Laid A A lo (lo + 0) f := ⟨rfl, rfl, rfl, fun i => by rw [if_neg (by omega)]⟩
theorem Laid.step {A Ak : Cell} {lo k : Nat} {f : Nat → Value} {v : Value} (h : Laid A Ak lo k f) (hlo : lo ≤ k) (hk : k < Ak.slots.size) (hv : v = f k) : Laid A (Ak.setSlot k v) lo (k + 1) f := by
  refine ⟨h.1, h.2.1, by simpa [Cell.setSlot] using h.2.2.1, fun i => ?_⟩
  by_cases e : k = i
  · subst e; rw [Cell.slots_setSlot_self v hk, if_pos (by omega), hv]
  · rw [Cell.slots_setSlot_ne v e, h.2.2.2 i]
    by_cases q : lo ≤ i ∧ i < k
    · rw [if_pos q, if_pos (by omega)]
    · rw [if_neg q, if_neg (by omega)]
def U16 : String := "java/lang/StringUTF16"
namespace Cmp5
def yN : MethodName := ⟨"java/lang/StringUTF16", "compress", "([CI[BII)I"⟩
abbrev yB : ByteArray := jdk_52_method_21_code
theorem d0 : decode yB 0 = .ok (.iconst 0, 1) := by decide +kernel
theorem d1 : decode yB 1 = .ok (.istore 5, 2) := by decide +kernel
theorem d3 : decode yB 3 = .ok (.iload 5, 2) := by decide +kernel
theorem d5 : decode yB 5 = .ok (.iload 4, 2) := by decide +kernel
theorem d7 : decode yB 7 = .ok (.if_icmp (.ge) 37, 3) := by decide +kernel
theorem d10 : decode yB 10 = .ok (.aload_n 0, 1) := by decide +kernel
theorem d11 : decode yB 11 = .ok (.iload_n 1, 1) := by decide +kernel
theorem d12 : decode yB 12 = .ok (.caload, 1) := by decide +kernel
theorem d13 : decode yB 13 = .ok (.istore 6, 2) := by decide +kernel
theorem d15 : decode yB 15 = .ok (.iload 6, 2) := by decide +kernel
theorem d17 : decode yB 17 = .ok (.sipush 255, 3) := by decide +kernel
theorem d20 : decode yB 20 = .ok (.if_icmp (.le) 6, 3) := by decide +kernel
theorem d26 : decode yB 26 = .ok (.aload_n 2, 1) := by decide +kernel
theorem d27 : decode yB 27 = .ok (.iload_n 3, 1) := by decide +kernel
theorem d28 : decode yB 28 = .ok (.iload 6, 2) := by decide +kernel
theorem d30 : decode yB 30 = .ok (.i2b, 1) := by decide +kernel
theorem d31 : decode yB 31 = .ok (.bastore, 1) := by decide +kernel
theorem d32 : decode yB 32 = .ok (.iinc 1 1, 3) := by decide +kernel
theorem d35 : decode yB 35 = .ok (.iinc 3 1, 3) := by decide +kernel
theorem d38 : decode yB 38 = .ok (.iinc 5 1, 3) := by decide +kernel
theorem d41 : decode yB 41 = .ok (.goto (-38), 3) := by decide +kernel
theorem d44 : decode yB 44 = .ok (.iload 4, 2) := by decide +kernel
theorem d46 : decode yB 46 = .ok (.ireturn, 1) := by decide +kernel
def site : List Cond := []
def tab : Cond := tabOf yN yB 7 (some .int) site
def P (b : Addr) (A : Cell) (d : Addr) (B : Cell) (o q len : Nat) (args : Array Value) (s : State) : Prop := args = #[.ref b, .int (Int32.ofNat o), .ref d, .int (Int32.ofNat q), .int (Int32.ofNat len)] ∧ Ch b A s ∧ Arr .byte d B s ∧ b ≠ d ∧ o + len ≤ A.slots.size ∧ q + len ≤ B.slots.size ∧ ∀ i, i < len → ¬ 255 < cv A (o + i)
def E (b : Addr) (A : Cell) (d : Addr) (B : Cell) (o q len : Nat) (r : Option Value) (s u : State) : Prop := r = some (.int (Int32.ofNat len)) ∧ ∃ B', Put d B' s u ∧ Laid B B' q (q + len) (fun j => Value.int (lo8 (cv A (o + (j - q)))))
/-- no char of the range above 255: len; the places written hold each char's low byte -/
theorem law (l : Launch) (b : Addr) (A : Cell) (d : Addr) (B : Cell) (o q len : Nat) : Law l yN 5 5 0 0 yB 7 (some .int) site (P b A d B o q len) (E b A d B o q len) (copyLocs d q len) 0 0 := by
  refine Law.of_walk (plainFor_of_name (by decide +kernel)) (by decide +kernel) (by decide +kernel) (by decide) (fun _ _ h => by rw [h.1]; rfl) (fun _ U U' hal hh h => ⟨h.1, h.2.1.mv hal hh, h.2.2.1.mv hal hh, h.2.2.2⟩) (fun r U U' V V' h1 hal h2 h => ⟨h.1, h.2.elim fun B' q => ⟨B', q.1.mv h1 h2, q.2⟩⟩) ?_
  intro p e s m args below meth c s₁ X0 hexec hbytes hml hret hlk hnm hown hh0 W hP
  obtain ⟨rfl, hA, hB, hne, l1, l2, hp⟩ := hP
  have c1 : Steps p.tables e below (s₁.setTop (entryFrame m #[.ref b, .int (Int32.ofNat o), .ref d, .int (Int32.ofNat q), .int (Int32.ofNat len)] 7)) (s₁.setTop (mkF m 0 #[.val (.ref b), .val (.int (Int32.ofNat o)), .val (.ref d), .val (.int (Int32.ofNat q)), .val (.int (Int32.ofNat len)), .unset, .unset] [])) := entry rfl
  have hA0 := hA.1.mv X0.warmed.alike hh0
  have hB0 := hB.mv X0.warmed.alike hh0
  have a31 := hA.1.2.2.2
  have c2 : Steps p.tables e below (s₁.setTop (entryFrame m #[.ref b, .int (Int32.ofNat o), .ref d, .int (Int32.ofNat q), .int (Int32.ofNat len)] 7)) (s₁.setTop (mkF m 3 #[.val (.ref b), .val (.int (Int32.ofNat o)), .val (.ref d), .val (.int (Int32.ofNat q)), .val (.int (Int32.ofNat len)), .val (.int 0), .unset] [])) := c1.trans (by
    refine iconstV X0.here hexec rfl 0 (hb hbytes d0) (by decide) ?_
    refine XS.istore X0.here hexec rfl (hb hbytes d1) rfl rfl ?_
    exact Steps.refl _)
  have loop : ∀ (r i : Nat), i + r = len → ∀ (z : Slot), (z = .unset ∨ ∃ w, z = .val w ∧ w.category = 1) → ∀ (Tl : State) (Bk : Cell), Stand p l e { frames := 0, locals := 0, cells := 0, slots := 0 } s m #[.ref b, .int (Int32.ofNat o), .ref d, .int (Int32.ofNat q), .int (Int32.ofNat len)] below meth c Tl ([] ++ copyLocs d q i) 0 0 → Put d Bk s₁ Tl → Laid B Bk q (q + i) (fun j => Value.int (lo8 (cv A (o + (j - q))))) →
      Steps p.tables e below (s₁.setTop (entryFrame m #[.ref b, .int (Int32.ofNat o), .ref d, .int (Int32.ofNat q), .int (Int32.ofNat len)] 7)) (Tl.setTop (mkF m 3 #[.val (.ref b), .val (.int (Int32.ofNat (o + i))), .val (.ref d), .val (.int (Int32.ofNat (q + i))), .val (.int (Int32.ofNat len)), .val (.int (Int32.ofNat i)), z] [])) → ∃ (T' : State) (B' : Cell) (z' : Slot), Stand p l e { frames := 0, locals := 0, cells := 0, slots := 0 } s m #[.ref b, .int (Int32.ofNat o), .ref d, .int (Int32.ofNat q), .int (Int32.ofNat len)] below meth c T' ([] ++ copyLocs d q len) 0 0 ∧ Put d B' s₁ T' ∧ Laid B B' q (q + len) (fun j => Value.int (lo8 (cv A (o + (j - q))))) ∧
      Steps p.tables e below (s₁.setTop (entryFrame m #[.ref b, .int (Int32.ofNat o), .ref d, .int (Int32.ofNat q), .int (Int32.ofNat len)] 7)) (T'.setTop (mkF m 3 #[.val (.ref b), .val (.int (Int32.ofNat (o + len))), .val (.ref d), .val (.int (Int32.ofNat (q + len))), .val (.int (Int32.ofNat len)), .val (.int (Int32.ofNat len)), z'] [])) := by
    intro r
    induction r with
    | zero =>
      intro i hi z hz Tl Bk Xl pl fl cl
      have hil : i = len := by omega
      rw [hil] at Xl fl cl
      exact ⟨Tl, Bk, z, Xl, pl, fl, cl⟩
    | succ r ih =>
      intro i hi z hz Tl Bk Xl pl fl cl
      have all := X0.warmed.alike.symm.trans Xl.warmed.alike
      have hAl := hA0.keep all (pl.other hne hA0.1)
      have hBk := hB0.like all pl.1 fl.1 fl.2.1 fl.2.2.1
      have hlt : q + i < Bk.slots.size := by rw [fl.2.2.1]; omega
      have c3 : Steps p.tables e below (s₁.setTop (entryFrame m #[.ref b, .int (Int32.ofNat o), .ref d, .int (Int32.ofNat q), .int (Int32.ofNat len)] 7)) (Tl.setTop (mkF m 12 #[.val (.ref b), .val (.int (Int32.ofNat (o + i))), .val (.ref d), .val (.int (Int32.ofNat (q + i))), .val (.int (Int32.ofNat len)), .val (.int (Int32.ofNat i)), z] [.int (Int32.ofNat (o + i)), .ref b])) := cl.trans (by
        refine XS.iload Xl.here hexec rfl (hb hbytes d3) rfl ?_
        refine XS.iload Xl.here hexec rfl (hb hbytes d5) rfl ?_
        refine XS.icmpNo Xl.here hexec rfl (hb hbytes d7) rfl (ii_ge_f (lt32 (by omega) (by omega))) ?_
        refine XS.aloadN Xl.here hexec rfl (hb hbytes d10) rfl rfl ?_
        refine XS.iloadN Xl.here hexec rfl (hb hbytes d11) rfl ?_
        exact Steps.refl _)
      have c4 : Steps p.tables e below (s₁.setTop (entryFrame m #[.ref b, .int (Int32.ofNat o), .ref d, .int (Int32.ofNat q), .int (Int32.ofNat len)] 7)) (Tl.setTop (mkF m 13 #[.val (.ref b), .val (.int (Int32.ofNat (o + i))), .val (.ref d), .val (.int (Int32.ofNat (q + i))), .val (.int (Int32.ofNat len)), .val (.int (Int32.ofNat i)), z] [.int (cv A (o + i))])) := c3.trans (by
        refine Xl.aget hexec hAl rfl (hA.get (i := o + i) (by omega)) rfl rfl (hb hbytes d12) ?_
        exact Steps.refl _)
      have c5 : Steps p.tables e below (s₁.setTop (entryFrame m #[.ref b, .int (Int32.ofNat o), .ref d, .int (Int32.ofNat q), .int (Int32.ofNat len)] 7)) (Tl.setTop (mkF m 15 #[.val (.ref b), .val (.int (Int32.ofNat (o + i))), .val (.ref d), .val (.int (Int32.ofNat (q + i))), .val (.int (Int32.ofNat len)), .val (.int (Int32.ofNat i)), .val (.int (cv A (o + i)))] [])) := c4.trans (by
        refine XS.istoreS Xl.here hexec rfl (hb hbytes d13) rfl rfl hz ?_
        exact Steps.refl _)
      have c6 : Steps p.tables e below (s₁.setTop (entryFrame m #[.ref b, .int (Int32.ofNat o), .ref d, .int (Int32.ofNat q), .int (Int32.ofNat len)] 7)) (Tl.setTop (mkF m 31 #[.val (.ref b), .val (.int (Int32.ofNat (o + i))), .val (.ref d), .val (.int (Int32.ofNat (q + i))), .val (.int (Int32.ofNat len)), .val (.int (Int32.ofNat i)), .val (.int (cv A (o + i)))] [.int (lo8 (cv A (o + i))), .int (Int32.ofNat (q + i)), .ref d])) := c5.trans (by
        refine XS.iload Xl.here hexec rfl (hb hbytes d15) rfl ?_
        refine sipushV Xl.here hexec rfl 255 (hb hbytes d17) (by decide) ?_
        refine XS.icmpYes Xl.here hexec rfl (pc0 := 20) rfl (hb hbytes d20) rfl (ii_le_t (hp i (by omega))) (by decide) rfl ?_
        refine XS.aloadN Xl.here hexec rfl (hb hbytes d26) rfl rfl ?_
        refine XS.iloadN Xl.here hexec rfl (hb hbytes d27) rfl ?_
        refine XS.iload Xl.here hexec rfl (hb hbytes d28) rfl ?_
        refine i2b Xl.here hexec rfl (hb hbytes d30) rfl ?_
        exact Steps.refl _)
      obtain ⟨T7, X7, p7, st7⟩ := Xl.aput hexec hBk rfl hlt rfl (fits_lo8 (cv A (o + i))) (g := (mkF m 31 #[.val (.ref b), .val (.int (Int32.ofNat (o + i))), .val (.ref d), .val (.int (Int32.ofNat (q + i))), .val (.int (Int32.ofNat len)), .val (.int (Int32.ofNat i)), .val (.int (cv A (o + i)))] [.int (lo8 (cv A (o + i))), .int (Int32.ofNat (q + i)), .ref d])) rfl (rest := []) rfl (hb hbytes d31)
      have c8 : Steps p.tables e below (s₁.setTop (entryFrame m #[.ref b, .int (Int32.ofNat o), .ref d, .int (Int32.ofNat q), .int (Int32.ofNat len)] 7)) (T7.setTop (mkF m 32 #[.val (.ref b), .val (.int (Int32.ofNat (o + i))), .val (.ref d), .val (.int (Int32.ofNat (q + i))), .val (.int (Int32.ofNat len)), .val (.int (Int32.ofNat i)), .val (.int (cv A (o + i)))] [])) := c6.trans (st7 _ (Steps.refl _))
      have c9 : Steps p.tables e below (s₁.setTop (entryFrame m #[.ref b, .int (Int32.ofNat o), .ref d, .int (Int32.ofNat q), .int (Int32.ofNat len)] 7)) (T7.setTop (mkF m 3 #[.val (.ref b), .val (.int (Int32.ofNat (o + i) + 1)), .val (.ref d), .val (.int (Int32.ofNat (q + i) + 1)), .val (.int (Int32.ofNat len)), .val (.int (Int32.ofNat i + 1)), .val (.int (cv A (o + i)))] [])) := c8.trans (by
        refine iincV X7.here hexec rfl 1 (hb hbytes d32) (by decide) rfl rfl ?_
        refine iincV X7.here hexec rfl 1 (hb hbytes d35) (by decide) rfl rfl ?_
        refine iincV X7.here hexec rfl 1 (hb hbytes d38) (by decide) rfl rfl ?_
        refine XS.goto X7.here hexec rfl (pc0 := 41) rfl (hb hbytes d41) (by decide) rfl ?_
        exact Steps.refl _)
      have c10 : Steps p.tables e below (s₁.setTop (entryFrame m #[.ref b, .int (Int32.ofNat o), .ref d, .int (Int32.ofNat q), .int (Int32.ofNat len)] 7)) (T7.setTop (mkF m 3 #[.val (.ref b), .val (.int (Int32.ofNat (o + (i + 1)))), .val (.ref d), .val (.int (Int32.ofNat (q + (i + 1)))), .val (.int (Int32.ofNat len)), .val (.int (Int32.ofNat (i + 1))), .val (.int (cv A (o + i)))] [])) := by
        have := c9
        rw [succ32, succ32, succ32] at this
        exact this
      exact ih (i + 1) (by omega) _ (Or.inr ⟨_, rfl, rfl⟩) T7 _ (by rw [copyLocs_step, ← List.append_assoc]; exact X7) (pl.trans p7) (fl.step (by omega) hlt (by simp)) c10
  obtain ⟨T9, B9, z9, X9, p9, f9, g9⟩ := loop len 0 (by omega) .unset (Or.inl rfl) s₁ B (by simpa [copyLocs] using X0) ⟨hB0.1, fun _ _ => rfl, rfl⟩ (Laid.zero _ _ _) c2
  have c11 : Steps p.tables e below (s₁.setTop (entryFrame m #[.ref b, .int (Int32.ofNat o), .ref d, .int (Int32.ofNat q), .int (Int32.ofNat len)] 7)) (T9.setTop (mkF m 46 #[.val (.ref b), .val (.int (Int32.ofNat (o + len))), .val (.ref d), .val (.int (Int32.ofNat (q + len))), .val (.int (Int32.ofNat len)), .val (.int (Int32.ofNat len)), z9] [.int (Int32.ofNat len)])) := g9.trans (by
    refine XS.iload X9.here hexec rfl (hb hbytes d3) rfl ?_
    refine XS.iload X9.here hexec rfl (hb hbytes d5) rfl ?_
    refine XS.icmpYes X9.here hexec rfl (pc0 := 7) rfl (hb hbytes d7) rfl (ii_ge_t (nlt32 (by omega) (Nat.le_refl _))) (by decide) rfl ?_
    refine XS.iload X9.here hexec rfl (hb hbytes d44) rfl ?_
    exact Steps.refl _)
  exact ⟨T9, some (.int (Int32.ofNat len)), _, _, _, X9, by simp, rfl, rfl, (fun h => by cases h), ⟨rfl, B9, p9.from hh0, f9⟩, fun fs hl => c11.trans (X9.ireturnOut hexec hret rfl (Or.inl rfl) (hb hbytes d46) hl)⟩
end Cmp5
namespace Cmp3
def yN : MethodName := ⟨"java/lang/StringUTF16", "compress", "([CII)[B"⟩
abbrev yB : ByteArray := jdk_52_method_16_code
theorem d0 : decode yB 0 = .ok (.iload_n 2, 1) := by decide +kernel
theorem d1 : decode yB 1 = .ok (.newarray .byte, 2) := by decide +kernel
theorem d3 : decode yB 3 = .ok (.astore_n 3, 1) := by decide +kernel
theorem d4 : decode yB 4 = .ok (.aload_n 0, 1) := by decide +kernel
theorem d5 : decode yB 5 = .ok (.iload_n 1, 1) := by decide +kernel
theorem d6 : decode yB 6 = .ok (.aload_n 3, 1) := by decide +kernel
theorem d7 : decode yB 7 = .ok (.iconst 0, 1) := by decide +kernel
theorem d8 : decode yB 8 = .ok (.iload_n 2, 1) := by decide +kernel
theorem d9 : decode yB 9 = .ok (.invokestatic 115, 3) := by decide +kernel
theorem d12 : decode yB 12 = .ok (.istore 4, 2) := by decide +kernel
theorem d14 : decode yB 14 = .ok (.iload 4, 2) := by decide +kernel
theorem d16 : decode yB 16 = .ok (.iload_n 2, 1) := by decide +kernel
theorem d17 : decode yB 17 = .ok (.if_icmp (.eq) 40, 3) := by decide +kernel
theorem d57 : decode yB 57 = .ok (.aload_n 3, 1) := by decide +kernel
theorem d58 : decode yB 58 = .ok (.areturn, 1) := by decide +kernel
def site : List Cond := [.arrayClass .byte, Cmp5.tab] ++ staticW U16 115 Cmp5.yN
def tab : Cond := tabOf yN yB 6 (some (.array .byte)) site
def P (b : Addr) (A : Cell) (o len : Nat) (args : Array Value) (s : State) : Prop := args = #[.ref b, .int (Int32.ofNat o), .int (Int32.ofNat len)] ∧ Ch b A s ∧ o + len ≤ A.slots.size ∧ len ≤ 536870912 ∧ ∀ i, i < len → ¬ 255 < cv A (o + i)
def E (b : Addr) (A : Cell) (o len : Nat) (r : Option Value) (s u : State) : Prop := NewArr .byte "[B" len (fun j => .int (lo8 (cv A (o + j)))) r s u ∧ u.heap.size = s.heap.size + 1
/-- no char of the range above 255: a new byte[] of their low bytes -/
theorem law (l : Launch) (b : Addr) (A : Cell) (o len : Nat) : Law l yN 3 3 1 18 yB 6 (some (.array .byte)) site (P b A o len) (E b A o len) [] 1 len := by
  refine Law.of_walk (plainFor_of_name (by decide +kernel)) (by decide +kernel) (by decide +kernel) (by decide) (fun _ _ h => by rw [h.1]; rfl) (fun _ U U' hal hh h => ⟨h.1, h.2.1.mv hal hh, h.2.2⟩) (fun r U U' V V' h1 hal h2 h => ⟨NewArr.mv r U U' V V' h1 hal h2 h.1, by rw [h1, h2]; exact h.2⟩) ?_
  intro p e s m args below meth c s₁ X0 hexec hbytes hml hret hlk hnm hown hh0 W hP
  obtain ⟨rfl, hA, l1, l2, hp⟩ := hP
  have a31 := hA.1.2.2.2
  have c1 : Steps p.tables e below (s₁.setTop (entryFrame m #[.ref b, .int (Int32.ofNat o), .int (Int32.ofNat len)] 6)) (s₁.setTop (mkF m 0 #[.val (.ref b), .val (.int (Int32.ofNat o)), .val (.int (Int32.ofNat len)), .unset, .unset, .unset] [])) := entry rfl
  have c2 : Steps p.tables e below (s₁.setTop (entryFrame m #[.ref b, .int (Int32.ofNat o), .int (Int32.ofNat len)] 6)) (s₁.setTop (mkF m 1 #[.val (.ref b), .val (.int (Int32.ofNat o)), .val (.int (Int32.ofNat len)), .unset, .unset, .unset] [.int (Int32.ofNat len)])) := c1.trans (by
    refine XS.iloadN X0.here hexec rfl (hb hbytes d0) rfl ?_
    exact Steps.refl _)
  obtain ⟨T3, B3, X3, ba3, bs3, bv3, bh3, bf3, st3⟩ := X0.anew hexec (atype := .byte) (wk W (.arrayClass .byte)) rfl (by show len * 1 ≤ _; omega) (by omega) (g := (mkF m 1 #[.val (.ref b), .val (.int (Int32.ofNat o)), .val (.int (Int32.ofNat len)), .unset, .unset, .unset] [.int (Int32.ofNat len)])) rfl (hb hbytes d1) (rest := []) rfl (Nat.le_refl _) (by show 0 + len ≤ len; omega)
  rw [hh0] at ba3 st3
  have kp3 : XT.Kept s T3 := (XT.Kept.of_eq hh0).push bh3
  have hA3 := hA.keep X3.warmed.alike (kp3 _ _ hA.1.1)
  have hne : b ≠ s.heap.size := hA.1.ne
  have c4 : Steps p.tables e below (s₁.setTop (entryFrame m #[.ref b, .int (Int32.ofNat o), .int (Int32.ofNat len)] 6)) (T3.setTop (mkF m 3 #[.val (.ref b), .val (.int (Int32.ofNat o)), .val (.int (Int32.ofNat len)), .unset, .unset, .unset] [.ref s.heap.size])) := c2.trans (st3 _ (Steps.refl _))
  have c5 : Steps p.tables e below (s₁.setTop (entryFrame m #[.ref b, .int (Int32.ofNat o), .int (Int32.ofNat len)] 6)) (T3.setTop (mkF m 9 #[.val (.ref b), .val (.int (Int32.ofNat o)), .val (.int (Int32.ofNat len)), .val (.ref s.heap.size), .unset, .unset] [.int (Int32.ofNat len), .int 0, .ref s.heap.size, .int (Int32.ofNat o), .ref b])) := c4.trans (by
    refine XS.astoreN X3.here hexec rfl (hb hbytes d3) rfl rfl rfl ?_
    refine XS.aloadN X3.here hexec rfl (hb hbytes d4) rfl rfl ?_
    refine XS.iloadN X3.here hexec rfl (hb hbytes d5) rfl ?_
    refine XS.aloadN X3.here hexec rfl (hb hbytes d6) rfl rfl ?_
    refine iconstV X3.here hexec rfl 0 (hb hbytes d7) (by decide) ?_
    refine XS.iloadN X3.here hexec rfl (hb hbytes d8) rfl ?_
    exact Steps.refl _)
  obtain ⟨v6, T6, X6, E6, g6⟩ := X3.callS hexec (Cmp5.law l b A s.heap.size B3 o 0 len) hown (wks W (staticW U16 115 Cmp5.yN)) (wk W Cmp5.tab) (W := 0) (Nat.le_of_ble_eq_true rfl) (Nat.le_of_ble_eq_true rfl) (Nat.le_refl _) (by show 0 + len + 0 ≤ len; omega) (g := (mkF m 9 #[.val (.ref b), .val (.int (Int32.ofNat o)), .val (.int (Int32.ofNat len)), .val (.ref s.heap.size), .unset, .unset] [.int (Int32.ofNat len), .int (Int32.ofNat 0), .ref s.heap.size, .int (Int32.ofNat o), .ref b])) rfl (by rw [hml]; rfl) c5 (argsL := [.ref b, .int (Int32.ofNat o), .ref s.heap.size, .int (Int32.ofNat 0), .int (Int32.ofNat len)]) (rest := []) rfl rfl (by show 2 * 0 + 0 ≤ _; decide) (hb hbytes d9) (⟨rfl, hA3, ba3, hne, l1, by rw [bs3]; simp, hp⟩)
  obtain ⟨rfl, B6, p6, f6⟩ := E6
  have c7 : Steps p.tables e below (s₁.setTop (entryFrame m #[.ref b, .int (Int32.ofNat o), .int (Int32.ofNat len)] 6)) (T6.setTop (mkF m 12 #[.val (.ref b), .val (.int (Int32.ofNat o)), .val (.int (Int32.ofNat len)), .val (.ref s.heap.size), .unset, .unset] [.int (Int32.ofNat len)])) := g6
  have c8 : Steps p.tables e below (s₁.setTop (entryFrame m #[.ref b, .int (Int32.ofNat o), .int (Int32.ofNat len)] 6)) (T6.setTop (mkF m 58 #[.val (.ref b), .val (.int (Int32.ofNat o)), .val (.int (Int32.ofNat len)), .val (.ref s.heap.size), .val (.int (Int32.ofNat len)), .unset] [.ref s.heap.size])) := c7.trans (by
    refine XS.istore X6.here hexec rfl (hb hbytes d12) rfl rfl ?_
    refine XS.iload X6.here hexec rfl (hb hbytes d14) rfl ?_
    refine XS.iloadN X6.here hexec rfl (hb hbytes d16) rfl ?_
    refine XS.icmpYes X6.here hexec rfl (pc0 := 17) rfl (hb hbytes d17) rfl (ii_eq_t rfl) (by decide) rfl ?_
    refine XS.aloadN X6.here hexec rfl (hb hbytes d57) rfl rfl ?_
    exact Steps.refl _)
  have X8 := X6.wide (L' := []) (cells' := 1) (slots' := len) (fun x hx hlt => by
    simp only [List.nil_append, copyLocs, List.mem_map, List.mem_range] at hx
    obtain ⟨i, -, rfl⟩ := hx
    exact absurd hlt (Nat.lt_irrefl _)) (Nat.le_refl _) (by omega)
  exact ⟨T6, some (.ref s.heap.size), _, _, _, X8, rfl, rfl, rfl, (fun h => by cases h), ⟨⟨rfl, B6, ba3.like (X3.warmed.alike.symm.trans X6.warmed.alike) p6.1 f6.1 f6.2.1 f6.2.2.1, f6.2.1.trans bv3, by rw [X6.warmed.alike.findClass, f6.1]; exact bf3, by rw [f6.2.2.1, bs3]; simp, fun j hj => by rw [f6.2.2.2 j, if_pos (by omega)]; rfl, kp3.put p6 (Nat.le_refl _)⟩, by rw [p6.2.2, bh3, hh0]; simp⟩, fun fs hl => c8.trans (X8.areturnOut hexec rfl hret rfl (hb hbytes d58) hl)⟩
end Cmp3
namespace CodL
def yN : MethodName := ⟨"java/lang/StringUTF16", "coderFromArrayLen", "([BI)B"⟩
abbrev yB : ByteArray := jdk_52_method_15_code
theorem d0 : decode yB 0 = .ok (.iload_n 1, 1) := by decide +kernel
theorem d1 : decode yB 1 = .ok (.aload_n 0, 1) := by decide +kernel
theorem d2 : decode yB 2 = .ok (.arraylength, 1) := by decide +kernel
theorem d3 : decode yB 3 = .ok (.isub, 1) := by decide +kernel
theorem d4 : decode yB 4 = .ok (.bipush 31, 2) := by decide +kernel
theorem d6 : decode yB 6 = .ok (.iushr, 1) := by decide +kernel
theorem d7 : decode yB 7 = .ok (.i2b, 1) := by decide +kernel
theorem d8 : decode yB 8 = .ok (.ireturn, 1) := by decide +kernel
def site : List Cond := []
def tab : Cond := tabOf yN yB 2 (some .byte) site
def P (d : Addr) (B : Cell) (args : Array Value) (s : State) : Prop := args = #[.ref d, .int (Int32.ofNat B.slots.size)] ∧ Arr .byte d B s
def E (r : Option Value) (s u : State) : Prop := XT.PureE (some (.int 0)) r s u
/-- an array as long as the number of chars: LATIN1 -/
theorem law (l : Launch) (d : Addr) (B : Cell) : Law l yN 2 2 0 0 yB 2 (some .byte) site (P d B) E [] 0 0 := by
  refine Law.of_walk (plainFor_of_name (by decide +kernel)) (by decide +kernel) (by decide +kernel) (by decide) (fun _ _ h => by rw [h.1]; rfl) (fun _ U U' hal hh h => ⟨h.1, h.2.mv hal hh⟩) (fun r U U' V V' h1 hal h2 h => XT.PureE.mv r U U' V V' h1 hal h2 h) ?_
  intro p e s m args below meth c s₁ X0 hexec hbytes hml hret hlk hnm hown hh0 W hP
  obtain ⟨rfl, hB⟩ := hP
  have hB0 := hB.mv X0.warmed.alike hh0
  have c1 : Steps p.tables e below (s₁.setTop (entryFrame m #[.ref d, .int (Int32.ofNat B.slots.size)] 2)) (s₁.setTop (mkF m 0 #[.val (.ref d), .val (.int (Int32.ofNat B.slots.size))] [])) := entry rfl
  have c2 : Steps p.tables e below (s₁.setTop (entryFrame m #[.ref d, .int (Int32.ofNat B.slots.size)] 2)) (s₁.setTop (mkF m 2 #[.val (.ref d), .val (.int (Int32.ofNat B.slots.size))] [.ref d, .int (Int32.ofNat B.slots.size)])) := c1.trans (by
    refine XS.iloadN X0.here hexec rfl (hb hbytes d0) rfl ?_
    refine XS.aloadN X0.here hexec rfl (hb hbytes d1) rfl rfl ?_
    exact Steps.refl _)
  have c3 : Steps p.tables e below (s₁.setTop (entryFrame m #[.ref d, .int (Int32.ofNat B.slots.size)] 2)) (s₁.setTop (mkF m 8 #[.val (.ref d), .val (.int (Int32.ofNat B.slots.size))] [.int (lo8 (ushr (Int32.ofNat B.slots.size - Int32.ofNat B.slots.size) 31))])) := c2.trans (by
    refine X0.alen hexec hB0 rfl rfl (hb hbytes d2) ?_
    refine XS.isub X0.here hexec rfl (hb hbytes d3) rfl ?_
    refine bipushV X0.here hexec rfl 31 (hb hbytes d4) (by decide) ?_
    refine iushr X0.here hexec rfl (hb hbytes d6) rfl ?_
    refine i2b X0.here hexec rfl (hb hbytes d7) rfl ?_
    exact Steps.refl _)
  have e0 : lo8 (ushr (Int32.ofNat B.slots.size - Int32.ofNat B.slots.size) 31) = 0 := by rw [Int32.sub_self]; decide
  rw [e0] at c3
  exact ⟨s₁, some (.int 0), _, _, _, X0, rfl, rfl, rfl, (fun h => by cases h), ⟨rfl, hh0⟩, fun fs hl => c3.trans (X0.ireturnOut hexec hret rfl (Or.inr (Or.inr (Or.inl rfl))) (hb hbytes d8) hl)⟩
end CodL
/-- the String at a is Latin-1 over a new byte[] (the heap's one new cell): the low bytes of the len chars of A from o on; every cell but a is kept -/
def Got (a : Addr) (D : Cell) (fV fC : Field) (A : Cell) (o len : Nat) (r : Option Value) (s u : State) : Prop := r = none ∧ ∃ D' V : Cell, Blank "java/lang/String" a D' u ∧ Same D D' [fV.slot, fC.slot] ∧ D'.slots[fV.slot]? = some (.ref s.heap.size) ∧ D'.slots[fC.slot]? = some (.int 0) ∧ Arr .byte s.heap.size V u ∧ V.vm = .none ∧ u.vm.findClass "[B" = some V.cls ∧ V.slots.size = len ∧ (∀ j, j < len → V.slots[j]? = some (.int (lo8 (cv A (o + j))))) ∧ (∀ (y : Addr) (c : Cell), y ≠ a → s.heap[y]? = some c → u.heap[y]? = some c) ∧ u.heap.size = s.heap.size + 1
theorem Got.mv {a : Addr} {D A : Cell} {fV fC : Field} {o len : Nat} : ∀ r (U U' V V' : State), U'.heap = U.heap → V.vm.Alike V'.vm → V'.heap = V.heap → Got a D fV fC A o len r U V → Got a D fV fC A o len r U' V' :=
  fun r U U' V V' h1 hal h2 ⟨e0, D', X, a1, a2, a3, a4, a5, a6, a7, a8, a9, a10, a11⟩ => ⟨e0, D', X, a1.mv hal h2, a2, by rw [h1]; exact a3, a4, by rw [h1]; exact a5.mv hal h2, a6, by rw [hal.findClass]; exact a7, a8, a9, by rw [h1, h2]; exact a10, by rw [h1, h2]; exact a11⟩
namespace New4
def yN : MethodName := ⟨"java/lang/String", "<init>", "([CIILjava/lang/Void;)V"⟩
abbrev yB : ByteArray := jdk_42_method_149_code
theorem d0 : decode yB 0 = .ok (.aload_n 0, 1) := by decide +kernel
theorem d1 : decode yB 1 = .ok (.invokespecial 1, 3) := by decide +kernel
theorem d4 : decode yB 4 = .ok (.iload_n 3, 1) := by decide +kernel
theorem d5 : decode yB 5 = .ok (.ifCond (.ne) 22, 3) := by decide +kernel
theorem d27 : decode yB 27 = .ok (.getstatic 38, 3) := by decide +kernel
theorem d30 : decode yB 30 = .ok (.ifCond (.eq) 28, 3) := by decide +kernel
theorem d33 : decode yB 33 = .ok (.aload_n 1, 1) := by decide +kernel
theorem d34 : decode yB 34 = .ok (.iload_n 2, 1) := by decide +kernel
theorem d35 : decode yB 35 = .ok (.iload_n 3, 1) := by decide +kernel
theorem d36 : decode yB 36 = .ok (.invokestatic 177, 3) := by decide +kernel
theorem d39 : decode yB 39 = .ok (.astore 5, 2) := by decide +kernel
theorem d41 : decode yB 41 = .ok (.aload_n 0, 1) := by decide +kernel
theorem d42 : decode yB 42 = .ok (.aload 5, 2) := by decide +kernel
theorem d44 : decode yB 44 = .ok (.iload_n 3, 1) := by decide +kernel
theorem d45 : decode yB 45 = .ok (.invokestatic 47, 3) := by decide +kernel
theorem d48 : decode yB 48 = .ok (.putfield 15, 3) := by decide +kernel
theorem d51 : decode yB 51 = .ok (.aload_n 0, 1) := by decide +kernel
theorem d52 : decode yB 52 = .ok (.aload 5, 2) := by decide +kernel
theorem d54 : decode yB 54 = .ok (.putfield 9, 3) := by decide +kernel
theorem d57 : decode yB 57 = .ok (.return_, 1) := by decide +kernel
def site : List Cond := [.fieldLink "java/lang/String" 38 "java/lang/String" "COMPACT_STRINGS" "Z", Cmp3.tab, CodL.tab, .laysFinal "java/lang/String" "java/lang/String" "value" "[B", .fieldLink "java/lang/String" 9 "java/lang/String" "value" "[B", .laysFinal "java/lang/String" "java/lang/String" "coder" "B", .fieldLink "java/lang/String" 15 "java/lang/String" "coder" "B"] ++ objW "java/lang/String" 1 ++ staticW "java/lang/String" 177 Cmp3.yN ++ staticW "java/lang/String" 47 CodL.yN
def tab : Cond := tabOf yN yB 6 none site
def P (a : Addr) (D : Cell) (fV fC : Field) (b : Addr) (A : Cell) (z : Int32) (o len : Nat) (args : Array Value) (s : State) : Prop := args = #[.ref a, .ref b, .int (Int32.ofNat o), .int (Int32.ofNat len), .null] ∧ Blank "java/lang/String" a D s ∧ Found "java/lang/String" "value" "[B" fV s ∧ Found "java/lang/String" "coder" "B" fC s ∧ Ch b A s ∧ StaticIs s "java/lang/String" "COMPACT_STRINGS" "Z" (.int z) ∧ ¬ z = 0 ∧ 0 < len ∧ o + len ≤ A.slots.size ∧ len ≤ 536870912 ∧ ∀ i, i < len → ¬ 255 < cv A (o + i)
def E (a : Addr) (D : Cell) (fV fC : Field) (A : Cell) (o len : Nat) (r : Option Value) (s u : State) : Prop := Got a D fV fC A o len r s u
/-- len > 0, no char of the range above 255: a Latin-1 String of their low bytes -/
theorem law (l : Launch) (a : Addr) (D : Cell) (fV fC : Field) (b : Addr) (A : Cell) (z : Int32) (o len : Nat) : Law l yN 5 4 2 35 yB 6 none site (P a D fV fC b A z o len) (E a D fV fC A o len) [⟨a, fC.slot⟩, ⟨a, fV.slot⟩] 1 len := by
  refine Law.of_walk (plainFor_of_name (by decide +kernel)) (by decide +kernel) (by decide +kernel) (by decide) (fun _ _ h => by rw [h.1]; rfl) (fun _ U U' hal hh h => ⟨h.1, h.2.1.mv hal hh, h.2.2.1.al hal, h.2.2.2.1.al hal, h.2.2.2.2.1.mv hal hh, h.2.2.2.2.2.1.there hal hh, h.2.2.2.2.2.2⟩) (fun r U U' V V' h1 hal h2 h => Got.mv r U U' V V' h1 hal h2 h) ?_
  intro p e s m args below meth c s₁ X0 hexec hbytes hml hret hlk hnm hown hh0 W hP
  obtain ⟨rfl, hB, f1, f2, hA, s1, hz, l0, l1, l2, hp⟩ := hP
  have a31 := hA.1.2.2.2
  have c1 : Steps p.tables e below (s₁.setTop (entryFrame m #[.ref a, .ref b, .int (Int32.ofNat o), .int (Int32.ofNat len), .null] 6)) (s₁.setTop (mkF m 0 #[.val (.ref a), .val (.ref b), .val (.int (Int32.ofNat o)), .val (.int (Int32.ofNat len)), .val .null, .unset] [])) := entry rfl
  have c2 : Steps p.tables e below (s₁.setTop (entryFrame m #[.ref a, .ref b, .int (Int32.ofNat o), .int (Int32.ofNat len), .null] 6)) (s₁.setTop (mkF m 1 #[.val (.ref a), .val (.ref b), .val (.int (Int32.ofNat o)), .val (.int (Int32.ofNat len)), .val .null, .unset] [.ref a])) := c1.trans (by
    refine XS.aloadN X0.here hexec rfl (hb hbytes d0) rfl rfl ?_
    exact Steps.refl _)
  obtain ⟨T3, X3, q3, st3⟩ := X0.oinit hexec hown (wks W (objW "java/lang/String" 1)) (g := (mkF m 1 #[.val (.ref a), .val (.ref b), .val (.int (Int32.ofNat o)), .val (.int (Int32.ofNat len)), .val .null, .unset] [.ref a])) rfl (by rw [hml]; rfl) (rest := []) rfl (hb hbytes d1) (W := 0) (by show 2 * 0 + 0 ≤ _; decide) (Nat.le_of_ble_eq_true rfl) (Nat.le_of_ble_eq_true rfl)
  have hh3 := q3.trans hh0
  have c4 : Steps p.tables e below (s₁.setTop (entryFrame m #[.ref a, .ref b, .int (Int32.ofNat o), .int (Int32.ofNat len), .null] 6)) (T3.setTop (mkF m 27 #[.val (.ref a), .val (.ref b), .val (.int (Int32.ofNat o)), .val (.int (Int32.ofNat len)), .val .null, .unset] [])) := (c2.trans (st3 _ (Steps.refl _))).trans (by
    refine XS.iloadN X3.here hexec rfl (hb hbytes d4) rfl ?_
    refine XS.ifYes X3.here hexec rfl (pc0 := 5) rfl (hb hbytes d5) rfl (i0_ne_t (nz32 (by omega) l0)) (by decide) rfl ?_
    exact Steps.refl _)
  obtain ⟨T5, X5, q5, st5⟩ := X3.sget hexec hown (wk W (.fieldLink "java/lang/String" 38 "java/lang/String" "COMPACT_STRINGS" "Z")) s1 (fun _ _ h => by rw [hh3]; exact h) (g := (mkF m 27 #[.val (.ref a), .val (.ref b), .val (.int (Int32.ofNat o)), .val (.int (Int32.ofNat len)), .val .null, .unset] [])) rfl (hb hbytes d27)
  have hh5 := q5.trans hh3
  have c6 : Steps p.tables e below (s₁.setTop (entryFrame m #[.ref a, .ref b, .int (Int32.ofNat o), .int (Int32.ofNat len), .null] 6)) (T5.setTop (mkF m 30 #[.val (.ref a), .val (.ref b), .val (.int (Int32.ofNat o)), .val (.int (Int32.ofNat len)), .val .null, .unset] [.int z])) := c4.trans (st5 _ (Steps.refl _))
  have c7 : Steps p.tables e below (s₁.setTop (entryFrame m #[.ref a, .ref b, .int (Int32.ofNat o), .int (Int32.ofNat len), .null] 6)) (T5.setTop (mkF m 36 #[.val (.ref a), .val (.ref b), .val (.int (Int32.ofNat o)), .val (.int (Int32.ofNat len)), .val .null, .unset] [.int (Int32.ofNat len), .int (Int32.ofNat o), .ref b])) := c6.trans (by
    refine XS.ifNo X5.here hexec rfl (hb hbytes d30) rfl (i0_eq_f hz) ?_
    refine XS.aloadN X5.here hexec rfl (hb hbytes d33) rfl rfl ?_
    refine XS.iloadN X5.here hexec rfl (hb hbytes d34) rfl ?_
    refine XS.iloadN X5.here hexec rfl (hb hbytes d35) rfl ?_
    exact Steps.refl _)
  obtain ⟨v8, T8, X8, E8, g8⟩ := X5.callS hexec (Cmp3.law l b A o len) hown (wks W (staticW "java/lang/String" 177 Cmp3.yN)) (wk W Cmp3.tab) (W := 0) (Nat.le_of_ble_eq_true rfl) (Nat.le_of_ble_eq_true rfl) (Nat.le_refl _) (by show 0 + len ≤ len; omega) (g := (mkF m 36 #[.val (.ref a), .val (.ref b), .val (.int (Int32.ofNat o)), .val (.int (Int32.ofNat len)), .val .null, .unset] [.int (Int32.ofNat len), .int (Int32.ofNat o), .ref b])) rfl (by rw [hml]; rfl) c7 (argsL := [.ref b, .int (Int32.ofNat o), .int (Int32.ofNat len)]) (rest := []) rfl rfl (by show 2 * 0 + 0 ≤ _; decide) (hb hbytes d36) (⟨rfl, hA.mv X5.warmed.alike hh5, l1, l2, hp⟩)
  obtain ⟨e8, z8⟩ := E8
  obtain ⟨rfl, N, n1, n2, n3, n4, n5, n6⟩ := NewArr.mv _ T5 s _ _ hh5.symm (Vm.Alike.refl _) rfl e8
  rw [hh5] at z8
  have hB1 := hB.keep X8.warmed.alike (n6 _ _ hB.1)
  have hne : s.heap.size ≠ a := (Nat.ne_of_lt (Array.getElem?_eq_some_iff.mp hB.1).1).symm
  have c9 : Steps p.tables e below (s₁.setTop (entryFrame m #[.ref a, .ref b, .int (Int32.ofNat o), .int (Int32.ofNat len), .null] 6)) (T8.setTop (mkF m 39 #[.val (.ref a), .val (.ref b), .val (.int (Int32.ofNat o)), .val (.int (Int32.ofNat len)), .val .null, .unset] [.ref s.heap.size])) := g8
  have c10 : Steps p.tables e below (s₁.setTop (entryFrame m #[.ref a, .ref b, .int (Int32.ofNat o), .int (Int32.ofNat len), .null] 6)) (T8.setTop (mkF m 45 #[.val (.ref a), .val (.ref b), .val (.int (Int32.ofNat o)), .val (.int (Int32.ofNat len)), .val .null, .val (.ref s.heap.size)] [.int (Int32.ofNat N.slots.size), .ref s.heap.size, .ref a])) := by
    have hc : Steps p.tables e below (s₁.setTop (entryFrame m #[.ref a, .ref b, .int (Int32.ofNat o), .int (Int32.ofNat len), .null] 6)) (T8.setTop (mkF m 45 #[.val (.ref a), .val (.ref b), .val (.int (Int32.ofNat o)), .val (.int (Int32.ofNat len)), .val .null, .val (.ref s.heap.size)] [.int (Int32.ofNat len), .ref s.heap.size, .ref a])) := c9.trans (by
      refine XS.astore X8.here hexec rfl (hb hbytes d39) rfl rfl rfl ?_
      refine XS.aloadN X8.here hexec rfl (hb hbytes d41) rfl rfl ?_
      refine XS.aload X8.here hexec rfl (hb hbytes d42) rfl rfl ?_
      refine XS.iloadN X8.here hexec rfl (hb hbytes d44) rfl ?_
      exact Steps.refl _)
    rw [n4]; exact hc
  obtain ⟨v11, T11, X11, E11, g11⟩ := X8.callS hexec (CodL.law l s.heap.size N) hown (wks W (staticW "java/lang/String" 47 CodL.yN)) (wk W CodL.tab) (W := 1) (Nat.le_of_ble_eq_true rfl) (Nat.le_of_ble_eq_true rfl) (Nat.le_refl _) (by show 0 + len + 0 ≤ len; omega) (g := (mkF m 45 #[.val (.ref a), .val (.ref b), .val (.int (Int32.ofNat o)), .val (.int (Int32.ofNat len)), .val .null, .val (.ref s.heap.size)] [.int (Int32.ofNat N.slots.size), .ref s.heap.size, .ref a])) rfl (by rw [hml]; rfl) c10 (argsL := [.ref s.heap.size, .int (Int32.ofNat N.slots.size)]) (rest := [.ref a]) rfl rfl (by show 2 * 0 + (1 + 0) ≤ _; decide) (hb hbytes d45) (⟨rfl, n1⟩)
  obtain ⟨rfl, q11⟩ := E11
  have hB11 := hB1.mv (X8.warmed.alike.symm.trans X11.warmed.alike) q11
  have c12 : Steps p.tables e below (s₁.setTop (entryFrame m #[.ref a, .ref b, .int (Int32.ofNat o), .int (Int32.ofNat len), .null] 6)) (T11.setTop (mkF m 48 #[.val (.ref a), .val (.ref b), .val (.int (Int32.ofNat o)), .val (.int (Int32.ofNat len)), .val .null, .val (.ref s.heap.size)] [.int 0, .ref a])) := g11
  obtain ⟨T13, X13, p13, bl13, sl13, st13⟩ := X11.finit hexec hown (wk W (.fieldLink "java/lang/String" 15 "java/lang/String" "coder" "B")) (Or.inr ⟨_, (wk W (.laysFinal "java/lang/String" "java/lang/String" "coder" "B"))⟩) (Or.inl ⟨rfl, hnm⟩) f2 (Or.inl rfl) hB11 (t := .byte) (by decide +kernel) rfl (g := (mkF m 48 #[.val (.ref a), .val (.ref b), .val (.int (Int32.ofNat o)), .val (.int (Int32.ofNat len)), .val .null, .val (.ref s.heap.size)] [.int 0, .ref a])) rfl (rest := []) rfl (hb hbytes d48)
  have c14 : Steps p.tables e below (s₁.setTop (entryFrame m #[.ref a, .ref b, .int (Int32.ofNat o), .int (Int32.ofNat len), .null] 6)) (T13.setTop (mkF m 54 #[.val (.ref a), .val (.ref b), .val (.int (Int32.ofNat o)), .val (.int (Int32.ofNat len)), .val .null, .val (.ref s.heap.size)] [.ref s.heap.size, .ref a])) := (c12.trans (st13 _ (Steps.refl _))).trans (by
    refine XS.aloadN X13.here hexec rfl (hb hbytes d51) rfl rfl ?_
    refine XS.aload X13.here hexec rfl (hb hbytes d52) rfl rfl ?_
    exact Steps.refl _)
  obtain ⟨T15, X15, p15, bl15, sl15, st15⟩ := X13.finit hexec hown (wk W (.fieldLink "java/lang/String" 9 "java/lang/String" "value" "[B")) (Or.inr ⟨_, (wk W (.laysFinal "java/lang/String" "java/lang/String" "value" "[B"))⟩) (Or.inl ⟨rfl, hnm⟩) f1 (Or.inl rfl) bl13 (t := (.array .byte)) (by decide +kernel) rfl (g := (mkF m 54 #[.val (.ref a), .val (.ref b), .val (.int (Int32.ofNat o)), .val (.int (Int32.ofNat len)), .val .null, .val (.ref s.heap.size)] [.ref s.heap.size, .ref a])) rfl (rest := []) rfl (hb hbytes d54)
  have c16 : Steps p.tables e below (s₁.setTop (entryFrame m #[.ref a, .ref b, .int (Int32.ofNat o), .int (Int32.ofNat len), .null] 6)) (T15.setTop (mkF m 57 #[.val (.ref a), .val (.ref b), .val (.int (Int32.ofNat o)), .val (.int (Int32.ofNat len)), .val .null, .val (.ref s.heap.size)] [])) := c14.trans (st15 _ (Steps.refl _))
  have ap := apart (Or.inr ⟨_, (wk W (.laysFinal "java/lang/String" "java/lang/String" "value" "[B"))⟩) (Or.inr ⟨_, (wk W (.laysFinal "java/lang/String" "java/lang/String" "coder" "B"))⟩) f1 f2 (t₁ := .array .byte) (t₂ := .byte) (by decide +kernel) (by decide +kernel) (by decide)
  have al := X8.warmed.alike.symm.trans X15.warmed.alike
  have n7 : T11.heap[s.heap.size]? = some N := by rw [q11]; exact n1.1
  exact ⟨T15, none, _, _, _, X15, by simp, rfl, by omega, (fun _ => rfl), ⟨rfl, _, N, bl15, ((Same.refl D _).set _ (by simp)).set _ (by simp), sl15, (Cell.slots_setSlot_ne _ ap).trans sl13, n1.keep al (p15.other hne (p13.other hne n7)), n2, by rw [al.findClass]; exact n3, n4, n5, fun y c h1 h2 => p15.other h1 (p13.other h1 (by rw [q11]; exact n6 y c h2)), by rw [p15.2.2, p13.2.2, q11]; exact z8⟩, fun fs hl => c16.trans (X15.returnOut hexec hret (hb hbytes d57) hl)⟩
end New4
namespace New1
def yN : MethodName := ⟨"java/lang/String", "<init>", "([C)V"⟩
abbrev yB : ByteArray := jdk_42_method_3_code
theorem d0 : decode yB 0 = .ok (.aload_n 0, 1) := by decide +kernel
theorem d1 : decode yB 1 = .ok (.aload_n 1, 1) := by decide +kernel
theorem d2 : decode yB 2 = .ok (.iconst 0, 1) := by decide +kernel
theorem d3 : decode yB 3 = .ok (.aload_n 1, 1) := by decide +kernel
theorem d4 : decode yB 4 = .ok (.arraylength, 1) := by decide +kernel
theorem d5 : decode yB 5 = .ok (.aconst_null, 1) := by decide +kernel
theorem d6 : decode yB 6 = .ok (.invokespecial 27, 3) := by decide +kernel
theorem d9 : decode yB 9 = .ok (.return_, 1) := by decide +kernel
def site : List Cond := [New4.tab] ++ initW "java/lang/String" 27 New4.yN
def tab : Cond := tabOf yN yB 2 none site
def P (a : Addr) (D : Cell) (fV fC : Field) (b : Addr) (A : Cell) (z : Int32) (args : Array Value) (s : State) : Prop := args = #[.ref a, .ref b] ∧ Blank "java/lang/String" a D s ∧ Found "java/lang/String" "value" "[B" fV s ∧ Found "java/lang/String" "coder" "B" fC s ∧ Ch b A s ∧ StaticIs s "java/lang/String" "COMPACT_STRINGS" "Z" (.int z) ∧ ¬ z = 0 ∧ 0 < A.slots.size ∧ A.slots.size ≤ 536870912 ∧ ∀ i, i < A.slots.size → ¬ 255 < cv A i
def E (a : Addr) (D : Cell) (fV fC : Field) (A : Cell) (r : Option Value) (s u : State) : Prop := Got a D fV fC A 0 A.slots.size r s u
/-- new String(chars), not empty, no char above 255: a Latin-1 String of their low bytes -/
theorem law (l : Launch) (a : Addr) (D : Cell) (fV fC : Field) (b : Addr) (A : Cell) (z : Int32) : Law l yN 2 1 3 52 yB 2 none site (P a D fV fC b A z) (E a D fV fC A) [⟨a, fC.slot⟩, ⟨a, fV.slot⟩] 1 A.slots.size := by
  refine Law.of_walk (plainFor_of_name (by decide +kernel)) (by decide +kernel) (by decide +kernel) (by decide) (fun _ _ h => by rw [h.1]; rfl) (fun _ U U' hal hh h => ⟨h.1, h.2.1.mv hal hh, h.2.2.1.al hal, h.2.2.2.1.al hal, h.2.2.2.2.1.mv hal hh, h.2.2.2.2.2.1.there hal hh, h.2.2.2.2.2.2⟩) (fun r U U' V V' h1 hal h2 h => Got.mv r U U' V V' h1 hal h2 h) ?_
  intro p e s m args below meth c s₁ X0 hexec hbytes hml hret hlk hnm hown hh0 W hP
  obtain ⟨rfl, hB, f1, f2, hA, s1, hz, l0, l2, hp⟩ := hP
  have c1 : Steps p.tables e below (s₁.setTop (entryFrame m #[.ref a, .ref b] 2)) (s₁.setTop (mkF m 0 #[.val (.ref a), .val (.ref b)] [])) := entry rfl
  have c2 : Steps p.tables e below (s₁.setTop (entryFrame m #[.ref a, .ref b] 2)) (s₁.setTop (mkF m 6 #[.val (.ref a), .val (.ref b)] [.null, .int (Int32.ofNat A.slots.size), .int 0, .ref b, .ref a])) := c1.trans (by
    refine XS.aloadN X0.here hexec rfl (hb hbytes d0) rfl rfl ?_
    refine XS.aloadN X0.here hexec rfl (hb hbytes d1) rfl rfl ?_
    refine iconstV X0.here hexec rfl 0 (hb hbytes d2) (by decide) ?_
    refine XS.aloadN X0.here hexec rfl (hb hbytes d3) rfl rfl ?_
    refine X0.alen hexec (hA.1.mv X0.warmed.alike hh0) rfl rfl (hb hbytes d4) ?_
    refine XS.aconstNull X0.here hexec rfl (hb hbytes d5) ?_
    exact Steps.refl _)
  obtain ⟨v3, T3, X3, E3, g3⟩ := X0.callN hexec (New4.law l a D fV fC b A z 0 A.slots.size) rfl hown (wks W (initW "java/lang/String" 27 New4.yN)) (W New4.tab (by simp only [site, List.mem_cons, List.mem_append, true_or, or_true])) (W := 0) (Nat.le_of_ble_eq_true rfl) (Nat.le_of_ble_eq_true rfl) (Nat.le_refl _) (by show 0 + A.slots.size ≤ A.slots.size; omega) (g := (mkF m 6 #[.val (.ref a), .val (.ref b)] [.null, .int (Int32.ofNat A.slots.size), .int (Int32.ofNat 0), .ref b, .ref a])) rfl (by rw [hml]; rfl) c2 (argsL := [.ref b, .int (Int32.ofNat 0), .int (Int32.ofNat A.slots.size), .null]) (rest := []) rfl rfl (by show 2 * 0 + 0 ≤ _; decide) (hb hbytes d6) (⟨rfl, hB.mv X0.warmed.alike hh0, f1.al X0.warmed.alike, f2.al X0.warmed.alike, hA.mv X0.warmed.alike hh0, s1.there X0.warmed.alike hh0, hz, l0, by omega, l2, fun i hi => by rw [Nat.zero_add]; exact hp i hi⟩)
  have e0 := Got.mv _ s₁ s _ _ hh0.symm (Vm.Alike.refl _) rfl E3
  obtain rfl := e0.1
  have c4 : Steps p.tables e below (s₁.setTop (entryFrame m #[.ref a, .ref b] 2)) (T3.setTop (mkF m 9 #[.val (.ref a), .val (.ref b)] [])) := g3
  exact ⟨T3, none, _, _, _, X3, by simp, rfl, by omega, (fun _ => rfl), e0, fun fs hl => c4.trans (X3.returnOut hexec hret (hb hbytes d9) hl)⟩
theorem pays {l : Launch} {R : Room} {p : Program} {e : Env} {below : List Frame} {s : State} {sargs : Array Value} {len W : Nat} (a : Addr) (D : Cell) (fV fC : Field) (b : Addr) (A : Cell) (z : Int32) (htab : tab.before sargs s = true) (hfr : 4 ≤ R.frames) (hlo : W + 65 ≤ R.locals) :
    Back l R p e below s sargs yN len W (fun A₁ a₁ => A₁.cells + 1 ≤ R.cells ∧ A₁.slots + A.slots.size ≤ R.slots ∧ P a D fV fC b A z a₁ A₁.U) (fun A₁ _ v₁ B₁ => E a D fV fC A v₁ A₁.U B₁.U ∧ B₁.locs = A₁.locs ++ [⟨a, fC.slot⟩, ⟨a, fV.slot⟩] ∧ B₁.cells = A₁.cells + 1 ∧ B₁.slots = A₁.slots + A.slots.size) :=
  (law l a D fV fC b A z).pays htab hfr (by omega)
end New1
/-- the byte, read back as charAt reads it, is the char -/
theorem lo8_mask {x : Int32} (h0 : ¬ x < 0) (h1 : ¬ 255 < x) : lo8 x &&& 255 = x := by
  have t : ∀ k : Fin 256, lo8 (Int32.ofNat k.val) &&& 255 = Int32.ofNat k.val := by decide +kernel
  rw [Int32.lt_iff_toInt_lt] at h0 h1
  have e0 : (0 : Int32).toInt = 0 := rfl
  have e1 : (255 : Int32).toInt = 255 := rfl
  obtain ⟨k, hk⟩ : ∃ k : Nat, x.toInt = k := ⟨x.toInt.toNat, by omega⟩
  have hx : x = Int32.ofNat k := Int32.toInt_inj.mp (by rw [hk, Int32.toInt_ofNat_small (by omega)])
  rw [hx]
  exact t ⟨k, by omega⟩
end StrChars
namespace StrChars.Road
open Jvm Sem ClassFile Op Lib Jvm.Stand Jvm.Free Jvm.Free.XT
open Jvm.Lib.Cold (StaticIs)
abbrev ST : String := "java/lang/String"
/-- every table word that New1's law asks, flat -/
abbrev words : List Jvm.Cond := [.code New1.yN New1.yB 2 none, .initialized ST, .methodLink ST 27 New4.yN, .instanceMethod New4.yN,
  .code New4.yN New4.yB 6 none, .fieldLink ST 38 ST "COMPACT_STRINGS" "Z", .laysFinal ST ST "value" "[B", .fieldLink ST 9 ST "value" "[B", .laysFinal ST ST "coder" "B", .fieldLink ST 15 ST "coder" "B",
  .methodLink ST 1 Lib.objectInit, .instanceMethod Lib.objectInit, .code Lib.objectInit ⟨#[0xb1]⟩ 1 none, .methodLink ST 177 Cmp3.yN, .static Cmp3.yN, .methodLink ST 47 CodL.yN, .static CodL.yN,
  .code Cmp3.yN Cmp3.yB 6 (some (.array .byte)), .initialized U16, .arrayClass .byte, .methodLink U16 115 Cmp5.yN, .static Cmp5.yN, .code Cmp5.yN Cmp5.yB 7 (some .int), .code CodL.yN CodL.yB 2 (some .byte)]
theorem tab_of {a : Array Value} {s : State} (h : ∀ w ∈ words, w.before a s = true) : New1.tab.before a s = true := by
  have h5 : Cmp5.tab.before a s = true := unparts (wk h (.code Cmp5.yN Cmp5.yB 7 (some .int))) (wks h (.initialized Cmp5.yN.cls :: Cmp5.site))
  have hc : CodL.tab.before a s = true := unparts (wk h (.code CodL.yN CodL.yB 2 (some .byte))) (wks h (.initialized CodL.yN.cls :: CodL.site))
  have q5 : ∀ w ∈ Cmp5.tab :: words, w.before a s = true := fun w hw => (List.mem_cons.mp hw).elim (fun e => e ▸ h5) (h w)
  have h3 : Cmp3.tab.before a s = true := unparts (wk q5 (.code Cmp3.yN Cmp3.yB 6 (some (.array .byte)))) (wks q5 (.initialized Cmp3.yN.cls :: Cmp3.site))
  have q3 : ∀ w ∈ Cmp3.tab :: CodL.tab :: words, w.before a s = true := fun w hw => (List.mem_cons.mp hw).elim (fun e => e ▸ h3) fun hw => (List.mem_cons.mp hw).elim (fun e => e ▸ hc) (h w)
  have h4 : New4.tab.before a s = true := unparts (wk q3 (.code New4.yN New4.yB 6 none)) (wks q3 (.initialized New4.yN.cls :: New4.site))
  have q4 : ∀ w ∈ New4.tab :: words, w.before a s = true := fun w hw => (List.mem_cons.mp hw).elim (fun e => e ▸ h4) (h w)
  exact unparts (wk q4 (.code New1.yN New1.yB 2 none)) (wks q4 (.initialized New1.yN.cls :: New1.site))
/-- the words ride from the start Z to the walk's own state -/
theorem moved {Z s : State} {a0 args : Array Value} (hZ : Z.Warmed39 s.vm) (hw : ∀ d ∈ words, d.before a0 Z = true) : ∀ d ∈ words, d.before args s = true := fun d hd => by
  have q := hw d hd
  have t : ∀ d ∈ words, d = .arrayClass .byte ∨ (d.onTables && d.keepsFace) = true := by decide +kernel
  rcases t d hd with rfl | t
  · exact RoadKit.mvA hZ q
  · exact RoadKit.mv hZ q t
/-- WHAT COMES BACK, over the tables of the start Z: h the heap at the call, h' behind it -/
def Q (Z : State) (x : Addr) (A : Cell) (h : Heap) (v : Option Value) (h' : Heap) (L : List Loc) : Prop := v = none ∧ (∀ y ∈ L, y.base = x) ∧ RoadKit.Keep h h' [x] ∧ h'.size = h.size + 1 ∧ RoadKit.Exa Z h' x ST ∧ RoadKit.Fld Z h' x ST "value" "[B" (.ref h.size) ∧ RoadKit.Fld Z h' x ST "coder" "B" (.int 0) ∧
  (∃ V : Cell, RoadKit.Arr Z h' h.size V .byte ∧ V.vm = .none ∧ Z.vm.findClass "[B" = some V.cls ∧ V.slots.size = A.slots.size ∧ ∀ j, j < A.slots.size → V.slots[j]? = some (.int (lo8 (cv A j)))) ∧
  ∀ (O n d : String) (w : Value), RoadKit.Fld Z h x O n d w → RoadKit.slotOf Z O n d ≠ RoadKit.slotOf Z ST "value" "[B" → RoadKit.slotOf Z O n d ≠ RoadKit.slotOf Z ST "coder" "B" → RoadKit.Fld Z h' x O n d w
/-- **new String(chars) AT A CALL, IN THE ROAD'S FORM**: for specialBack behind newO: x the fresh String, b the char[] with the cell A -/
theorem back {p : Program} {l : Launch} {e : Env} {R : Room} {s : State} {args : Array Value} {below : List Frame} {len W : Nat} {Z : State} {a0 : Array Value} {h : Heap} (hZ : Z.Warmed39 s.vm) (hw : ∀ d ∈ words, d.before a0 Z = true) {kI : Nat} (wi : (Jvm.Cond.instantiable ST kI).before a0 Z = true)
    {x b : Addr} {A : Cell} {z : Int32} {v0 c0 : Value} (E : RoadKit.Exa Z h x ST) (V : RoadKit.Fld Z h x ST "value" "[B" v0) (C : RoadKit.Fld Z h x ST "coder" "B" c0) (K : RoadKit.Arr Z h b A .char) (hty : Typed .char A) (S : RoadKit.Sta Z h ST "COMPACT_STRINGS" "Z" (.int z)) (hz : ¬ z = 0)
    (l0 : 0 < A.slots.size) (l2 : A.slots.size ≤ 536870912) (hp : ∀ i, i < A.slots.size → ¬ 255 < cv A i) (hfr : 4 ≤ R.frames) (hlo : W + 65 ≤ R.locals) :
    Back l R p e below s args New1.yN len W (fun P a => a = #[.ref x, .ref b] ∧ P.U.heap = h ∧ P.cells + 1 ≤ R.cells ∧ P.slots + A.slots.size ≤ R.slots)
      (fun P _ v B => ∃ L, Q Z x A h v B.U.heap L ∧ B.locs = P.locs ++ L ∧ B.cells = P.cells + 1 ∧ B.slots = P.slots + A.slots.size) := by
  intro m meth c P g ig mk a X hg hsize hdg hW hn hp'
  obtain ⟨rfl, rfl, r1, r2⟩ := hp'
  have al : Z.vm.Alike P.U.vm := hZ.alike.trans X.warmed.alike
  obtain ⟨D, cfV, kV, iV, fV, hD, gV, stV, knV, obV, asV, slV⟩ := id V
  obtain ⟨D', cfC, kC, iC, fC, hD', gC, stC, -, -, asC, slC⟩ := id C
  cases hD.symm.trans hD'
  obtain ⟨D2, kD, e1, e2, e3, e4, e5⟩ := id E
  cases hD.symm.trans e1
  obtain ⟨c2, k2, i1, i2, i3, -⟩ := Cond.instantiable_spec wi
  cases e2.symm.trans i1
  cases e3.symm.trans i2
  obtain ⟨kU, u1, u2⟩ := al.2.2 _ _ e3
  have hB : Blank ST x D P.U := ⟨hD, ⟨knV, fun q hq => by rw [hq] at obV; cases obV⟩, by rw [al.findClass]; exact e2, kU, u1, by rw [u2]; exact i3, by rw [u2]; exact e5 i3⟩
  have F1 : Found ST "value" "[B" fV P.U := ⟨SBG.found_only al ⟨cfV, kV, iV, gV⟩, stV⟩
  have F2 : Found ST "coder" "B" fC P.U := ⟨SBG.found_only al ⟨cfC, kC, iC, gC⟩, stC⟩
  have hA : Ch b A P.U := ⟨⟨K.1, State.isArrayOf_alike al K.2.1, K.2.2, by omega⟩, hty⟩
  have hS : StaticIs P.U ST "COMPACT_STRINGS" "Z" (.int z) := by
    obtain ⟨cfS, iS, kS, fS, st, cS, t1, t2, t3, t4, t5, t6, t7⟩ := S
    exact StaticIs.there (s := { Z with heap := P.U.heap }) ⟨cfS, iS, kS, fS, st, cS, t1, t2, t3, t4, t5, (fun q => by rw [q] at t6; cases t6), t7⟩ al rfl
  obtain ⟨v, B, X', ⟨⟨hv, E', V', q1, q2, q3, q4, q5, q6, q7, q8, q9, q10, q11⟩, hl, hc, hs⟩, st⟩ := New1.pays x D fV fC b A z (tab_of (moved hZ hw)) hfr hlo m meth c P g ig mk _ X hg hsize hdg hW hn ⟨r1, r2, rfl, hB, F1, F2, hA, hS, hz, l0, l2, hp⟩
  have al' : Z.vm.Alike B.U.vm := hZ.alike.trans X'.warmed.alike
  have hsz : E'.slots.size = D.slots.size := by
    obtain ⟨-, -, -, kB, w1, w2, w3⟩ := q1
    obtain ⟨kB', y1, y2⟩ := al'.2.2 _ _ e3
    rw [q2.2.1] at w1
    cases w1.symm.trans y1
    rw [w3, e5 i3, y2]
  refine ⟨v, B, X', ⟨_, ⟨hv, ?_, ⟨by omega, fun y cy hy hn' => q10 y cy (by simpa using hn') hy, fun y cy hy => ?_⟩, q11, ⟨E', _, q1.1, by rw [q2.2.1]; exact e2, by rw [q2.2.1]; exact e3, by rw [q2.1]; exact obV, fun _ => by rw [hsz]; exact e5 i3⟩,
    ⟨E', cfV, kV, iV, fV, q1.1, gV, stV, by rw [q2.1]; exact knV, by rw [q2.1]; exact obV, by rw [q2.2.1]; exact asV, q3⟩, ⟨E', cfC, kC, iC, fC, q1.1, gC, stC, by rw [q2.1]; exact knV, by rw [q2.1]; exact obV, by rw [q2.2.1]; exact asC, q4⟩,
    ⟨V', ⟨q5.1, State.isArrayOf_alike al'.symm q5.2.1, q5.2.2.1⟩, q6, by rw [← al'.findClass]; exact q7, q8, fun j hj => by have := q9 j hj; rwa [Nat.zero_add] at this⟩, fun O n d w F n1 n2 => ?_⟩, hl, hc, hs⟩, st⟩
  · intro y hy
    simp only [List.mem_cons, List.not_mem_nil, or_false] at hy
    rcases hy with rfl | rfl <;> rfl
  · by_cases q : y = x
    · subst q
      cases hD.symm.trans hy
      exact ⟨E', q1.1, q2.2.1, q2.1, hsz⟩
    · exact ⟨cy, q10 y cy q hy, rfl, rfl, rfl⟩
  · obtain ⟨D3, cf, k, i, f, g1, g2, g3, g4, g5, g6, g7⟩ := F
    cases hD.symm.trans g1
    simp only [RoadKit.slotOf, g2, gV, gC, Option.map_some, Option.getD_some] at n1 n2
    exact ⟨E', cf, k, i, f, q1.1, g2, g3, by rw [q2.1]; exact g4, by rw [q2.1]; exact g5, by rw [q2.2.1]; exact g6, by rw [q2.2.2 f.slot (by simp [n1, n2])]; exact g7⟩
end StrChars.Road
namespace StrChars.Road
open Jvm Sem ClassFile Op Lib Jvm.Stand Jvm.Free Jvm.Free.XT
/-- WHAT COMES BACK, the byte[] as a list of values -/
def QA (Z : State) (x : Addr) (zn : Int32) (cs : List Int32) (h : Heap) (v : Option Value) (h' : Heap) (L : List Loc) : Prop := v = none ∧ (∀ y ∈ L, y.base = x) ∧ RoadKit.Keep h h' [x] ∧ h'.size = h.size + 1 ∧ RoadKit.Exa Z h' x ST ∧ RoadKit.Fld Z h' x ST "value" "[B" (.ref h.size) ∧ RoadKit.Fld Z h' x ST "coder" "B" (.int 0) ∧
  (∃ kb, Z.vm.findClass "[B" = some kb ∧ RoadKit.Arv Z h' h.size kb .byte zn (cs.map fun c => .int (lo8 c)) (.int 0)) ∧
  ∀ (O n d : String) (w : Value), RoadKit.Fld Z h x O n d w → RoadKit.slotOf Z O n d ≠ RoadKit.slotOf Z ST "value" "[B" → RoadKit.slotOf Z O n d ≠ RoadKit.slotOf Z ST "coder" "B" → RoadKit.Fld Z h' x O n d w
/-- **new String(chars) AT A CALL, THE ARRAYS AS LISTS**: the char[] at b holds cs, not empty, no char above 255 -/
theorem backArv {p : Program} {l : Launch} {e : Env} {R : Room} {s : State} {args : Array Value} {below : List Frame} {len W : Nat} {Z : State} {a0 : Array Value} {h : Heap} (hZ : Z.Warmed39 s.vm) (hw : ∀ d ∈ words, d.before a0 Z = true) {kI : Nat} (wi : (Jvm.Cond.instantiable ST kI).before a0 Z = true)
    {x b : Addr} {k : ClassId} {zn z : Int32} {cs : List Int32} {dv v0 c0 : Value} (E : RoadKit.Exa Z h x ST) (V : RoadKit.Fld Z h x ST "value" "[B" v0) (C : RoadKit.Fld Z h x ST "coder" "B" c0) (K : RoadKit.Arv Z h b k .char zn (cs.map Value.int) dv) (S : RoadKit.Sta Z h ST "COMPACT_STRINGS" "Z" (.int z)) (hz : ¬ z = 0)
    (hlen : zn.toNatClampNeg = cs.length) (h0 : 0 < cs.length) (hbig : cs.length ≤ 536870912) (hall : ∀ c ∈ cs, ¬ 255 < c) (hfr : 4 ≤ R.frames) (hlo : W + 65 ≤ R.locals) :
    Back l R p e below s args New1.yN len W (fun P a => a = #[.ref x, .ref b] ∧ P.U.heap = h ∧ P.cells + 1 ≤ R.cells ∧ P.slots + cs.length ≤ R.slots)
      (fun P _ v B => ∃ L, QA Z x zn cs h v B.U.heap L ∧ B.locs = P.locs ++ L ∧ B.cells = P.cells + 1 ∧ B.slots = P.slots + cs.length) := by
  obtain ⟨A, K1, K2, K3, K4, K5, K6⟩ := K
  have e : A.slots.size = cs.length := K3.trans hlen
  have hat : ∀ (i : Nat) (hi : i < cs.length), A.slots[i]? = some (.int cs[i]) := fun i hi => by rw [K5 i (by omega)]; simp [List.getD_eq_getElem?_getD, hi]
  have hcv : ∀ (i : Nat) (hi : i < cs.length), cv A i = cs[i] := fun i hi => by unfold cv; rw [hat i hi]
  have hty : Typed .char A := fun i v hv => by
    have hi : i < A.slots.size := (Array.getElem?_eq_some_iff.mp hv).1
    have q := K5 i hi
    rw [hv] at q
    rw [Option.some.inj q]
    exact K6 i hi
  refine Back.mono (back hZ hw wi E V C K1 hty S hz (by omega) (by omega) (fun i hi => by rw [hcv i (by omega)]; exact hall _ (List.getElem_mem _)) hfr hlo) (fun P a hp => ⟨hp.1, hp.2.1, hp.2.2.1, by rw [e]; exact hp.2.2.2⟩) (fun P a v B hp hq => ?_)
  obtain ⟨L, ⟨q1, q2, q3, q4, q5, q6, q7, ⟨V', v1, v2, v3, v4, v5⟩, q9⟩, hl, hc, hs⟩ := hq
  refine ⟨L, ⟨q1, q2, q3, q4, q5, q6, q7, ⟨V'.cls, v3, V', v1, rfl, by rw [v4, e, hlen], K4, fun i hi => ?_, fun i hi => ?_⟩, q9⟩, hl, hc, by rw [hs, e]⟩
  · have hi' : i < cs.length := by omega
    rw [v5 i (by omega), hcv i hi']; simp [List.getD_eq_getElem?_getD, hi']
  · have hi' : i < cs.length := by omega
    simp only [List.getD_eq_getElem?_getD, List.getElem?_map, List.getElem?_eq_getElem hi', Option.map_some, Option.getD_some]
    exact fits_lo8 _
end StrChars.Road
namespace StrChars.Road
open Jvm Sem ClassFile Op Lib Jvm.Stand Jvm.Free Jvm.Free.XT
/-- WHAT COMES BACK, in the writer's own shape -/
def QV (Z : State) (x : Addr) (N : Int32) (bs : List Int32) (h : Heap) (n0 : Nat) (v : Option Value) (h' : Heap) (L : List Loc) : Prop := v = none ∧ RoadKit.Fr n0 L ∧ RoadKit.Keep h h' [x] ∧ RoadKit.Exa Z h' x ST ∧ RoadKit.Fld Z h' x ST "coder" "B" (.int 0) ∧
  ∃ (t : Addr) (kb : ClassId), n0 ≤ t ∧ h.size ≤ t ∧ ¬ t = x ∧ RoadKit.Fld Z h' x ST "value" "[B" (.ref t) ∧ RoadKit.Arv Z h' t kb .byte N (bs.map Value.int) (.int 0)
/-- **new String(chars) AT A CALL, FOR THE WRITER**: a char[] of n known ints, each 0 to 255 -/
theorem backV {p : Program} {l : Launch} {e : Env} {R : Room} {s : State} {args : Array Value} {below : List Frame} {len W : Nat} {Z : State} {a0 : Array Value} {h : Heap} (hZ : Z.Warmed39 s.vm) (hw : ∀ d ∈ words, d.before a0 Z = true) {kI : Nat} (wi : (Jvm.Cond.instantiable ST kI).before a0 Z = true)
    {x b : Addr} {kC : ClassId} {cs bs : List Int32} {d v0 c0 : Value} {z N : Int32} {n n0 : Nat} (hx0 : n0 ≤ x) (hh0 : n0 ≤ h.size) (E : RoadKit.Exa Z h x ST) (V : RoadKit.Fld Z h x ST "value" "[B" v0) (C : RoadKit.Fld Z h x ST "coder" "B" c0) (K : RoadKit.Arv Z h b kC .char N (cs.map Value.int) d) (S : RoadKit.Sta Z h ST "COMPACT_STRINGS" "Z" (.int z)) (hz : ¬ z = 0)
    (hn : cs.length = n) (hN : N = Int32.ofNat n) (l0 : 0 < n) (l2 : n ≤ 4000) (hp : ∀ c ∈ cs, ¬ c < 0 ∧ ¬ (255 : Int32) < c) (hb : bs = cs.map (fun c => c.toInt8.toInt32)) (hfr : 4 ≤ R.frames) (hlo : W + 65 ≤ R.locals) :
    Back l R p e below s args (⟨"java/lang/String", "<init>", "([C)V"⟩ : MethodName) len W (fun P a => a = #[.ref x, .ref b] ∧ P.U.heap = h ∧ P.cells + 1 ≤ R.cells ∧ P.slots + n ≤ R.slots)
      (fun P _ v B => ∃ L, QV Z x N bs h n0 v B.U.heap L ∧ B.locs = P.locs ++ L ∧ B.cells = P.cells + 1 ∧ B.slots = P.slots + n) := by
  subst hn hN hb
  refine Back.mono (backArv hZ hw wi E V C K S hz (n32 (by omega)) l0 (by omega) (fun c hc => (hp c hc).2) hfr hlo) (fun P a hp => hp) (fun P a v B hp hq => ?_)
  obtain ⟨L, ⟨q1, q2, q3, q4, q5, q6, q7, ⟨kb, v1, v2⟩, q9⟩, hl, hc, hs⟩ := hq
  exact ⟨L, ⟨q1, fun y hy => by rw [q2 y hy]; exact hx0, q3, q5, q7, h.size, kb, hh0, Nat.le_refl _, Nat.ne_of_gt E.lt, q6, by rw [List.map_map]; exact v2⟩, hl, hc, hs⟩
end StrChars.Road
namespace StrChars
open Jvm Sem ClassFile Op Lib Jvm.Stand Jvm.Free.XT Jvm.Free.ALB Jvm.Free.JM Jvm.Free
open Jvm.Lib.Cold (StaticIs)
def hi8 (x : Int32) : Int32 := lo8 (x >>> ((8 : Int32) &&& 31))
/-- what StringUTF16.getChar makes of two bytes -/
def pairCh (u v : Int32) : Int32 := (((u &&& 255) <<< ((0 : Int32) &&& 31)) ||| ((v &&& 255) <<< ((8 : Int32) &&& 31))).toUInt32.toUInt16.toUInt32.toInt32
theorem shr0 (c : Int32) : c >>> ((0 : Int32) &&& 31) = c := by
  have e : ((0 : Int32) &&& 31) = 0 := by decide
  rw [e]
  apply Int32.toBitVec_inj.mp
  rw [Int32.toBitVec_shiftRight]
  have e1 : ((0 : Int32).toBitVec.smod 32) = 0#32 := by decide
  rw [e1, BitVec.sshiftRight_eq']
  exact BitVec.sshiftRight_zero
theorem lo8_and (x : Int32) : (lo8 x &&& 255).toBitVec.toNat = x.toBitVec.toNat % 256 := by
  have h : (lo8 x).toBitVec = (x.toBitVec.signExtend 8).signExtend 32 := by rw [lo8, Int8.toBitVec_toInt32, Int32.toBitVec_toInt8]
  rw [Int32.toBitVec_and, BitVec.toNat_and, h]
  have e : ((x.toBitVec.signExtend 8).signExtend 32).toNat % 256 = x.toBitVec.toNat % 256 := by
    rw [BitVec.toNat_signExtend]
    have hlt := x.toBitVec.isLt
    simp only [BitVec.toNat_setWidth, BitVec.toNat_signExtend]
    split <;> split <;> omega
  rw [← e]
  exact Nat.and_two_pow_sub_one_eq_mod _ 8
theorem pair_says {c : Int32} (h0 : ¬ c < 0) (h1 : ¬ 65535 < c) : pairCh (lo8 c) (hi8 c) = c := by
  rw [Int32.lt_iff_toInt_lt] at h0 h1
  have e0 : (0 : Int32).toInt = 0 := rfl
  have e1 : (65535 : Int32).toInt = 65535 := rfl
  have hc : c.toInt = c.toBitVec.toNat := by
    have := c.toBitVec.isLt
    have e : c.toInt = c.toBitVec.toInt := rfl
    rw [e] at h0 h1
    rw [e]
    rw [BitVec.toInt_eq_toNat_cond] at h0 h1 ⊢
    split at h0 <;> split <;> omega
  have hn : c.toBitVec.toNat < 65536 := by omega
  have a1 := lo8_and c
  have a2 : (hi8 c &&& 255).toBitVec.toNat = c.toBitVec.toNat / 256 := by
    rw [hi8, lo8_and]
    have e : ((8 : Int32) &&& 31) = 8 := by decide
    rw [e, Int32.toBitVec_shiftRight]
    have e2 : ((8 : Int32).toBitVec.smod 32) = 8#32 := by decide
    rw [e2, BitVec.sshiftRight_eq', BitVec.toNat_sshiftRight_of_msb_false (by rw [BitVec.msb_eq_false_iff_two_mul_lt]; omega)]
    show c.toBitVec.toNat >>> 8 % 256 = _
    rw [Nat.shiftRight_eq_div_pow]
    omega
  unfold pairCh
  apply Int32.toBitVec_inj.mp
  apply BitVec.eq_of_toNat_eq
  have f0 : ((0 : Int32) &&& 31) = 0 := by decide
  have f8 : ((8 : Int32) &&& 31) = 8 := by decide
  rw [f0, f8]
  have g : (((lo8 c &&& 255) <<< (0 : Int32)) ||| ((hi8 c &&& 255) <<< (8 : Int32))).toBitVec.toNat = c.toBitVec.toNat := by
    rw [Int32.toBitVec_or, Int32.toBitVec_shiftLeft, Int32.toBitVec_shiftLeft]
    have s0 : ((0 : Int32).toBitVec.smod 32) = 0#32 := by decide
    have s8 : ((8 : Int32).toBitVec.smod 32) = 8#32 := by decide
    rw [s0, s8, BitVec.toNat_or]
    simp only [BitVec.shiftLeft_eq', BitVec.toNat_shiftLeft, a1, a2]
    show (c.toBitVec.toNat % 256) <<< 0 % 2 ^ 32 ||| (c.toBitVec.toNat / 256) <<< 8 % 2 ^ 32 = _
    rw [Nat.shiftLeft_zero, Nat.mod_eq_of_lt (show c.toBitVec.toNat % 256 < 2 ^ 32 by omega), Nat.mod_eq_of_lt (show (c.toBitVec.toNat / 256) <<< 8 < 2 ^ 32 by rw [Nat.shiftLeft_eq]; omega), Nat.or_comm, ← Nat.shiftLeft_add_eq_or_of_lt (by omega), Nat.shiftLeft_eq]
    omega
  show BitVec.toNat (((((lo8 c &&& 255) <<< (0 : Int32)) ||| ((hi8 c &&& 255) <<< (8 : Int32))).toBitVec.setWidth 16).setWidth 32) = _
  rw [BitVec.toNat_setWidth, BitVec.toNat_setWidth, g]
  omega
end StrChars
namespace StrChars
open Jvm Sem ClassFile Op Lib Jvm.Stand Jvm.Free.XT Jvm.Free.ALB Jvm.Free.JM Jvm.Free
open Jvm.Lib.Cold (StaticIs)
theorem shr1 {n : Nat} (h : 2 * n < 2 ^ 31) : Int32.ofNat (2 * n) >>> ((1 : Int32) &&& 31) = Int32.ofNat n := by
  have e : ((1 : Int32) &&& 31) = 1 := by decide
  rw [e]
  apply Int32.toBitVec_inj.mp
  rw [Int32.toBitVec_shiftRight]
  have e1 : ((1 : Int32).toBitVec.smod 32) = 1#32 := by decide
  have hm : (BitVec.ofNat 32 (2 * n)).toNat = 2 * n := by rw [BitVec.toNat_ofNat, Nat.mod_eq_of_lt (by omega)]
  rw [e1, BitVec.sshiftRight_eq']
  apply BitVec.eq_of_toNat_eq
  show ((BitVec.ofNat 32 (2 * n)).sshiftRight 1).toNat = (BitVec.ofNat 32 n).toNat
  rw [BitVec.toNat_sshiftRight_of_msb_false (by rw [BitVec.msb_eq_false_iff_two_mul_lt, hm]; omega), hm, BitVec.toNat_ofNat, Nat.shiftRight_eq_div_pow]
  omega
/-- charAt's cast of a byte read back -/
def chr8 (u : Int32) : Int32 := (u &&& 255).toUInt32.toUInt16.toUInt32.toInt32
theorem chr8_lo8 {c : Int32} (h0 : ¬ c < 0) (h1 : ¬ 255 < c) : chr8 (lo8 c) = c := by
  have t : ∀ k : Fin 256, (Int32.ofNat k.val).toUInt32.toUInt16.toUInt32.toInt32 = Int32.ofNat k.val := by decide +kernel
  unfold chr8
  rw [lo8_mask h0 h1]
  rw [Int32.lt_iff_toInt_lt] at h0 h1
  have e0 : (0 : Int32).toInt = 0 := rfl
  have e1 : (255 : Int32).toInt = 255 := rfl
  obtain ⟨k, hk⟩ : ∃ k : Nat, c.toInt = k := ⟨c.toInt.toNat, by omega⟩
  have hx : c = Int32.ofNat k := Int32.toInt_inj.mp (by rw [hk, Int32.toInt_ofNat_small (by omega)])
  rw [hx]
  exact t ⟨k, by omega⟩
theorem narrow_ch {c : Int32} (h0 : ¬ c < 0) (h1 : ¬ 65535 < c) : narrow .char (.int c) = .int c := by
  have q : narrow .char (.int (pairCh (lo8 c) (hi8 c))) = .int (pairCh (lo8 c) (hi8 c)) := narrow_c _
  rwa [pair_says h0 h1] at q
/-- the array's cell V codes the n chars f 0 .. f (n - 1) by the coder cd, as the JDK does: coder 1 just where some char is above 255 -/
def Cod (cd : Int32) (n : Nat) (f : Nat → Int32) (V : Cell) : Prop := (cd = 0 ∧ V.slots.size = n ∧ ∀ j, j < n → V.slots[j]? = some (.int (lo8 (f j))) ∧ ¬ 255 < f j) ∨ (cd = 1 ∧ V.slots.size = 2 * n ∧ (∀ j, j < n → V.slots[2 * j]? = some (.int (lo8 (f j))) ∧ V.slots[2 * j + 1]? = some (.int (hi8 (f j)))) ∧ ∃ j, j < n ∧ 255 < f j)
theorem Cod.cd {cd : Int32} {n : Nat} {f : Nat → Int32} {V : Cell} (h : Cod cd n f V) : cd = 0 ∨ cd = 1 := h.imp (fun q => q.1) fun q => q.1
theorem Cod.len {cd : Int32} {n : Nat} {f : Nat → Int32} {V : Cell} (h : Cod cd n f V) (hs : V.slots.size < 2 ^ 31) : Int32.ofNat V.slots.size >>> (cd &&& 31) = Int32.ofNat n := by
  rcases h with ⟨rfl, h, -⟩ | ⟨rfl, h, -⟩
  · rw [shr0, h]
  · rw [h, shr1 (by omega)]
/-- **x is a String of the n chars f 0 .. f (n - 1)**, Latin-1 or UTF-16; its array at t has the cell V -/
def Txt (x t : Addr) (V : Cell) (cd : Int32) (n : Nat) (f : Nat → Int32) (U : State) : Prop := Exact "java/lang/String" x U ∧ Has x "java/lang/String" "value" "[B" (.ref t) U ∧ Has x "java/lang/String" "coder" "B" (.int cd) U ∧ XT.Arr .byte t V U ∧ Cod cd n f V ∧ ∀ j, j < n → ¬ f j < 0 ∧ ¬ 65535 < f j
theorem Txt.mv {x t : Addr} {V : Cell} {cd : Int32} {n : Nat} {f : Nat → Int32} {U U' : State} (h : Txt x t V cd n f U) (hal : U.vm.Alike U'.vm) (hh : U'.heap = U.heap) : Txt x t V cd n f U' := ⟨h.1.mv hal hh, h.2.1.mv hal hh, h.2.2.1.mv hal hh, h.2.2.2.1.mv hal hh, h.2.2.2.2⟩
namespace Cdr
def yN : MethodName := ⟨"java/lang/String", "coder", "()B"⟩
abbrev yB : ByteArray := jdk_42_method_152_code
theorem d0 : decode yB 0 = .ok (.getstatic 38, 3) := by decide +kernel
theorem d3 : decode yB 3 = .ok (.ifCond (.eq) 10, 3) := by decide +kernel
theorem d6 : decode yB 6 = .ok (.aload_n 0, 1) := by decide +kernel
theorem d7 : decode yB 7 = .ok (.getfield 15, 3) := by decide +kernel
theorem d10 : decode yB 10 = .ok (.goto 4, 3) := by decide +kernel
theorem d14 : decode yB 14 = .ok (.ireturn, 1) := by decide +kernel
def site : List Cond := [.fieldLink "java/lang/String" 38 "java/lang/String" "COMPACT_STRINGS" "Z", .fieldLink "java/lang/String" 15 "java/lang/String" "coder" "B"]
def tab : Cond := tabOf yN yB 1 (some .byte) site
def P (x : Addr) (cd z : Int32) (args : Array Value) (s : State) : Prop := args = #[.ref x] ∧ Has x "java/lang/String" "coder" "B" (.int cd) s ∧ (cd = 0 ∨ cd = 1) ∧ StaticIs s "java/lang/String" "COMPACT_STRINGS" "Z" (.int z) ∧ ¬ z = 0
def E (cd : Int32) (r : Option Value) (s u : State) : Prop := XT.PureE (some (.int cd)) r s u
theorem law (l : Launch) (x : Addr) (cd z : Int32) : Law l yN 1 0 0 0 yB 1 (some .byte) site (P x cd z) (E cd) [] 0 0 := by
  refine Law.of_walk (plainFor_of_name (by decide +kernel)) (by decide +kernel) (by decide +kernel) (by decide) (fun _ _ h => by rw [h.1]; rfl) (fun _ U U' hal hh h => ⟨h.1, h.2.1.mv hal hh, h.2.2.1, h.2.2.2.1.there hal hh, h.2.2.2.2⟩) (fun r U U' V V' h1 hal h2 h => XT.PureE.mv r U U' V V' h1 hal h2 h) ?_
  intro p e s m args below meth c s₁ X0 hexec hbytes hml hret hlk hnm hown hh0 W hP
  obtain ⟨rfl, hx, hc, s1, hz⟩ := hP
  have c1 : Steps p.tables e below (s₁.setTop (entryFrame m #[.ref x] 1)) (s₁.setTop (mkF m 0 #[.val (.ref x)] [])) := entry rfl
  obtain ⟨T2, X2, q2, st2⟩ := X0.sget hexec hown (wk W (.fieldLink "java/lang/String" 38 "java/lang/String" "COMPACT_STRINGS" "Z")) s1 (fun _ _ h => by rw [hh0]; exact h) (g := (mkF m 0 #[.val (.ref x)] [])) rfl (hb hbytes d0)
  have hh2 := q2.trans hh0
  have c3 : Steps p.tables e below (s₁.setTop (entryFrame m #[.ref x] 1)) (T2.setTop (mkF m 7 #[.val (.ref x)] [.ref x])) := (c1.trans (st2 _ (Steps.refl _))).trans (by
    refine XS.ifNo X2.here hexec rfl (hb hbytes d3) rfl (i0_eq_f hz) ?_
    refine XS.aloadN X2.here hexec rfl (hb hbytes d6) rfl rfl ?_
    exact Steps.refl _)
  obtain ⟨T4, X4, q4, st4⟩ := X2.hget hexec hown (wk W (.fieldLink "java/lang/String" 15 "java/lang/String" "coder" "B")) (hx.mv X2.warmed.alike hh2) (g := (mkF m 7 #[.val (.ref x)] [.ref x])) rfl (rest := []) rfl (hb hbytes d7)
  have c5 : Steps p.tables e below (s₁.setTop (entryFrame m #[.ref x] 1)) (T4.setTop (mkF m 14 #[.val (.ref x)] [.int cd])) := (c3.trans (st4 _ (Steps.refl _))).trans (by
    refine XS.goto X4.here hexec rfl (pc0 := 10) rfl (hb hbytes d10) (by decide) rfl ?_
    exact Steps.refl _)
  exact ⟨T4, some (.int cd), _, _, _, X4, rfl, rfl, rfl, (fun h => by cases h), ⟨rfl, q4.trans hh2⟩, fun fs hl => c5.trans (X4.ireturnOut hexec hret (by rcases hc with rfl | rfl <;> rfl) (Or.inr (Or.inr (Or.inl rfl))) (hb hbytes d14) hl)⟩
end Cdr
namespace Len
def yN : MethodName := ⟨"java/lang/String", "length", "()I"⟩
abbrev yB : ByteArray := jdk_42_method_54_code
theorem d0 : decode yB 0 = .ok (.aload_n 0, 1) := by decide +kernel
theorem d1 : decode yB 1 = .ok (.getfield 9, 3) := by decide +kernel
theorem d4 : decode yB 4 = .ok (.arraylength, 1) := by decide +kernel
theorem d5 : decode yB 5 = .ok (.aload_n 0, 1) := by decide +kernel
theorem d6 : decode yB 6 = .ok (.invokevirtual 335, 3) := by decide +kernel
theorem d9 : decode yB 9 = .ok (.ishr, 1) := by decide +kernel
theorem d10 : decode yB 10 = .ok (.ireturn, 1) := by decide +kernel
def site : List Cond := [.fieldLink "java/lang/String" 9 "java/lang/String" "value" "[B", Cdr.tab] ++ virtW "java/lang/String" 335 "java/lang/String" Cdr.yN Cdr.yN
def tab : Cond := tabOf yN yB 1 (some .int) site
def P (x t : Addr) (V : Cell) (cd : Int32) (n : Nat) (f : Nat → Int32) (z : Int32) (args : Array Value) (s : State) : Prop := args = #[.ref x] ∧ Txt x t V cd n f s ∧ StaticIs s "java/lang/String" "COMPACT_STRINGS" "Z" (.int z) ∧ ¬ z = 0
def E (n : Nat) (r : Option Value) (s u : State) : Prop := XT.PureE (some (.int (Int32.ofNat n))) r s u
/-- length() of a String of n chars, in either coding -/
theorem law (l : Launch) (x t : Addr) (V : Cell) (cd : Int32) (n : Nat) (f : Nat → Int32) (z : Int32) : Law l yN 1 0 1 13 yB 1 (some .int) site (P x t V cd n f z) (E n) [] 0 0 := by
  refine Law.of_walk (plainFor_of_name (by decide +kernel)) (by decide +kernel) (by decide +kernel) (by decide) (fun _ _ h => by rw [h.1]; rfl) (fun _ U U' hal hh h => ⟨h.1, h.2.1.mv hal hh, h.2.2.1.there hal hh, h.2.2.2⟩) (fun r U U' V V' h1 hal h2 h => XT.PureE.mv r U U' V V' h1 hal h2 h) ?_
  intro p e s m args below meth c s₁ X0 hexec hbytes hml hret hlk hnm hown hh0 W hP
  obtain ⟨rfl, hx, s1, hz⟩ := hP
  have v31 := hx.2.2.2.1.2.2.2
  have c1 : Steps p.tables e below (s₁.setTop (entryFrame m #[.ref x] 1)) (s₁.setTop (mkF m 1 #[.val (.ref x)] [.ref x])) := Steps.trans (entry rfl) (by
    show Steps p.tables e below (s₁.setTop (mkF m 0 #[.val (.ref x)] [])) _
    refine XS.aloadN X0.here hexec rfl (hb hbytes d0) rfl rfl ?_
    exact Steps.refl _)
  obtain ⟨T2, X2, q2, st2⟩ := X0.hget hexec hown (wk W (.fieldLink "java/lang/String" 9 "java/lang/String" "value" "[B")) (hx.mv X0.warmed.alike hh0).2.1 (g := (mkF m 1 #[.val (.ref x)] [.ref x])) rfl (rest := []) rfl (hb hbytes d1)
  have hh2 := q2.trans hh0
  have hx2 := hx.mv X2.warmed.alike hh2
  have c3 : Steps p.tables e below (s₁.setTop (entryFrame m #[.ref x] 1)) (T2.setTop (mkF m 6 #[.val (.ref x)] [.ref x, .int (Int32.ofNat V.slots.size)])) := (c1.trans (st2 _ (Steps.refl _))).trans (by
    refine X2.alen hexec hx2.2.2.2.1 rfl rfl (hb hbytes d4) ?_
    refine XS.aloadN X2.here hexec rfl (hb hbytes d5) rfl rfl ?_
    exact Steps.refl _)
  obtain ⟨v4, T4, X4, E4, g4⟩ := X2.callV hexec (Cdr.law l x cd z) hown (wks W (virtW "java/lang/String" 335 "java/lang/String" Cdr.yN Cdr.yN)) rfl (by decide) (wk W Cdr.tab) (W := 1) (Nat.le_of_ble_eq_true rfl) (Nat.le_of_ble_eq_true rfl) (Nat.le_refl _) (Nat.le_refl _) (hx2.1.fc X2.warmed.alike) hx2.1.is (g := (mkF m 6 #[.val (.ref x)] [.ref x, .int (Int32.ofNat V.slots.size)])) rfl (by rw [hml]; rfl) c3 (argsL := []) (rest := [.int (Int32.ofNat V.slots.size)]) rfl rfl (by show 2 * 0 + (1 + 0) ≤ _; decide) (hb hbytes d6) (⟨rfl, hx2.2.2.1, hx.2.2.2.2.1.cd, s1.there X2.warmed.alike hh2, hz⟩)
  obtain ⟨rfl, q4⟩ := E4
  have c5 : Steps p.tables e below (s₁.setTop (entryFrame m #[.ref x] 1)) (T4.setTop (mkF m 10 #[.val (.ref x)] [.int (Int32.ofNat V.slots.size >>> (cd &&& 31))])) := Steps.trans g4 (by
    refine ishr X4.here hexec rfl (hb hbytes d9) rfl ?_
    exact Steps.refl _)
  rw [hx.2.2.2.2.1.len v31] at c5
  exact ⟨T4, some (.int (Int32.ofNat n)), _, _, _, X4, rfl, rfl, rfl, (fun h => by cases h), ⟨rfl, q4.trans hh2⟩, fun fs hl => c5.trans (X4.ireturnOut hexec hret rfl (Or.inl rfl) (hb hbytes d10) hl)⟩
theorem pays {l : Launch} {R : Room} {p : Program} {e : Env} {below : List Frame} {s : State} {sargs : Array Value} {len W : Nat} (x t : Addr) (V : Cell) (cd : Int32) (n : Nat) (f : Nat → Int32) (z : Int32) (htab : tab.before sargs s = true) (hfr : 2 ≤ R.frames) (hlo : W + 25 ≤ R.locals) :
    Back l R p e below s sargs yN len W (fun A₁ a₁ => A₁.cells + 0 ≤ R.cells ∧ A₁.slots + 0 ≤ R.slots ∧ P x t V cd n f z a₁ A₁.U) (fun A₁ _ v₁ B₁ => E n v₁ A₁.U B₁.U ∧ B₁.locs = A₁.locs ++ [] ∧ B₁.cells = A₁.cells + 0 ∧ B₁.slots = A₁.slots + 0) :=
  (law l x t V cd n f z).pays htab hfr (by omega)
end Len
namespace IsL
def yN : MethodName := ⟨"java/lang/String", "isLatin1", "()Z"⟩
abbrev yB : ByteArray := jdk_42_method_154_code
theorem d0 : decode yB 0 = .ok (.getstatic 38, 3) := by decide +kernel
theorem d3 : decode yB 3 = .ok (.ifCond (.eq) 14, 3) := by decide +kernel
theorem d6 : decode yB 6 = .ok (.aload_n 0, 1) := by decide +kernel
theorem d7 : decode yB 7 = .ok (.getfield 15, 3) := by decide +kernel
theorem d10 : decode yB 10 = .ok (.ifCond (.ne) 7, 3) := by decide +kernel
theorem d13 : decode yB 13 = .ok (.iconst 1, 1) := by decide +kernel
theorem d14 : decode yB 14 = .ok (.goto 4, 3) := by decide +kernel
theorem d17 : decode yB 17 = .ok (.iconst 0, 1) := by decide +kernel
theorem d18 : decode yB 18 = .ok (.ireturn, 1) := by decide +kernel
def site : List Cond := [.fieldLink "java/lang/String" 38 "java/lang/String" "COMPACT_STRINGS" "Z", .fieldLink "java/lang/String" 15 "java/lang/String" "coder" "B"]
def tab : Cond := tabOf yN yB 1 (some .boolean) site
def P (x : Addr) (cd z : Int32) (args : Array Value) (s : State) : Prop := args = #[.ref x] ∧ Has x "java/lang/String" "coder" "B" (.int cd) s ∧ (cd = 0 ∨ cd = 1) ∧ StaticIs s "java/lang/String" "COMPACT_STRINGS" "Z" (.int z) ∧ ¬ z = 0
def E (cd : Int32) (r : Option Value) (s u : State) : Prop := XT.PureE (some (.int (1 - cd))) r s u
theorem law (l : Launch) (x : Addr) (cd z : Int32) : Law l yN 1 0 0 0 yB 1 (some .boolean) site (P x cd z) (E cd) [] 0 0 := by
  refine Law.of_walk (plainFor_of_name (by decide +kernel)) (by decide +kernel) (by decide +kernel) (by decide) (fun _ _ h => by rw [h.1]; rfl) (fun _ U U' hal hh h => ⟨h.1, h.2.1.mv hal hh, h.2.2.1, h.2.2.2.1.there hal hh, h.2.2.2.2⟩) (fun r U U' V V' h1 hal h2 h => XT.PureE.mv r U U' V V' h1 hal h2 h) ?_
  intro p e s m args below meth c s₁ X0 hexec hbytes hml hret hlk hnm hown hh0 W hP
  obtain ⟨rfl, hx, hc, s1, hz⟩ := hP
  have c1 : Steps p.tables e below (s₁.setTop (entryFrame m #[.ref x] 1)) (s₁.setTop (mkF m 0 #[.val (.ref x)] [])) := entry rfl
  obtain ⟨T2, X2, q2, st2⟩ := X0.sget hexec hown (wk W (.fieldLink "java/lang/String" 38 "java/lang/String" "COMPACT_STRINGS" "Z")) s1 (fun _ _ h => by rw [hh0]; exact h) (g := (mkF m 0 #[.val (.ref x)] [])) rfl (hb hbytes d0)
  have hh2 := q2.trans hh0
  have c3 : Steps p.tables e below (s₁.setTop (entryFrame m #[.ref x] 1)) (T2.setTop (mkF m 7 #[.val (.ref x)] [.ref x])) := (c1.trans (st2 _ (Steps.refl _))).trans (by
    refine XS.ifNo X2.here hexec rfl (hb hbytes d3) rfl (i0_eq_f hz) ?_
    refine XS.aloadN X2.here hexec rfl (hb hbytes d6) rfl rfl ?_
    exact Steps.refl _)
  obtain ⟨T4, X4, q4, st4⟩ := X2.hget hexec hown (wk W (.fieldLink "java/lang/String" 15 "java/lang/String" "coder" "B")) (hx.mv X2.warmed.alike hh2) (g := (mkF m 7 #[.val (.ref x)] [.ref x])) rfl (rest := []) rfl (hb hbytes d7)
  have c5 : Steps p.tables e below (s₁.setTop (entryFrame m #[.ref x] 1)) (T4.setTop (mkF m 10 #[.val (.ref x)] [.int cd])) := c3.trans (st4 _ (Steps.refl _))
  have c6 : Steps p.tables e below (s₁.setTop (entryFrame m #[.ref x] 1)) (T4.setTop (mkF m 18 #[.val (.ref x)] [.int (1 - cd)])) := by
    rcases hc with rfl | rfl
    · exact c5.trans (by
        refine XS.ifNo X4.here hexec rfl (hb hbytes d10) rfl (i0_ne_f rfl) ?_
        refine iconstV X4.here hexec rfl 1 (hb hbytes d13) (by decide) ?_
        refine XS.goto X4.here hexec rfl (pc0 := 14) rfl (hb hbytes d14) (by decide) rfl ?_
        exact Steps.refl _)
    · exact c5.trans (by
        refine XS.ifYes X4.here hexec rfl (pc0 := 10) rfl (hb hbytes d10) rfl (i0_ne_t (by decide)) (by decide) rfl ?_
        refine iconstV X4.here hexec rfl 0 (hb hbytes d17) (by decide) ?_
        exact Steps.refl _)
  exact ⟨T4, some (.int (1 - cd)), _, _, _, X4, rfl, rfl, rfl, (fun h => by cases h), ⟨rfl, q4.trans hh2⟩, fun fs hl => c6.trans (X4.ireturnOut hexec hret (by rcases hc with rfl | rfl <;> rfl) (Or.inr (Or.inl rfl)) (hb hbytes d18) hl)⟩
end IsL
namespace LChA
def yN : MethodName := ⟨"java/lang/StringLatin1", "charAt", "([BI)C"⟩
abbrev yB : ByteArray := jdk_43_method_2_code
theorem d0 : decode yB 0 = .ok (.iload_n 1, 1) := by decide +kernel
theorem d1 : decode yB 1 = .ok (.aload_n 0, 1) := by decide +kernel
theorem d2 : decode yB 2 = .ok (.arraylength, 1) := by decide +kernel
theorem d3 : decode yB 3 = .ok (.invokestatic 9, 3) := by decide +kernel
theorem d6 : decode yB 6 = .ok (.aload_n 0, 1) := by decide +kernel
theorem d7 : decode yB 7 = .ok (.iload_n 1, 1) := by decide +kernel
theorem d8 : decode yB 8 = .ok (.baload, 1) := by decide +kernel
theorem d9 : decode yB 9 = .ok (.sipush 255, 3) := by decide +kernel
theorem d12 : decode yB 12 = .ok (.iand, 1) := by decide +kernel
theorem d13 : decode yB 13 = .ok (.i2c, 1) := by decide +kernel
theorem d14 : decode yB 14 = .ok (.ireturn, 1) := by decide +kernel
def site : List Cond := [JO.Str_checkIndex.tab] ++ staticW "java/lang/StringLatin1" 9 JO.Str_checkIndex.yN
def tab : Cond := tabOf yN yB 2 (some .char) site
def P (t : Addr) (V : Cell) (i : Nat) (u : Int32) (fm : Value) (args : Array Value) (s : State) : Prop := args = #[.ref t, .int (Int32.ofNat i)] ∧ XT.Arr .byte t V s ∧ V.slots[i]? = some (.int u) ∧ (StaticIs s "jdk/internal/util/Preconditions" "SIOOBE_FORMATTER" "Ljava/util/function/BiFunction;" fm ∧ fm.isRef = true)
def E (u : Int32) (r : Option Value) (s w : State) : Prop := XT.PureE (some (.int (chr8 u))) r s w
theorem law (l : Launch) (t : Addr) (V : Cell) (i : Nat) (u : Int32) (fm : Value) : Law l yN 2 2 2 27 yB 2 (some .char) site (P t V i u fm) (E u) [] 0 0 := by
  refine Law.of_walk (plainFor_of_name (by decide +kernel)) (by decide +kernel) (by decide +kernel) (by decide) (fun _ _ h => by rw [h.1]; rfl) (fun _ U U' hal hh h => ⟨h.1, h.2.1.mv hal hh, h.2.2.1, h.2.2.2.1.there hal hh, h.2.2.2.2⟩) (fun r U U' V V' h1 hal h2 h => XT.PureE.mv r U U' V V' h1 hal h2 h) ?_
  intro p e s m args below meth c s₁ X0 hexec hbytes hml hret hlk hnm hown hh0 W hP
  obtain ⟨rfl, hV, hu, s1, rf⟩ := hP
  have v31 := hV.2.2.2
  have hi : i < V.slots.size := (Array.getElem?_eq_some_iff.mp hu).1
  have c1 : Steps p.tables e below (s₁.setTop (entryFrame m #[.ref t, .int (Int32.ofNat i)] 2)) (s₁.setTop (mkF m 0 #[.val (.ref t), .val (.int (Int32.ofNat i))] [])) := entry rfl
  have c2 : Steps p.tables e below (s₁.setTop (entryFrame m #[.ref t, .int (Int32.ofNat i)] 2)) (s₁.setTop (mkF m 3 #[.val (.ref t), .val (.int (Int32.ofNat i))] [.int (Int32.ofNat V.slots.size), .int (Int32.ofNat i)])) := c1.trans (by
    refine XS.iloadN X0.here hexec rfl (hb hbytes d0) rfl ?_
    refine XS.aloadN X0.here hexec rfl (hb hbytes d1) rfl rfl ?_
    refine X0.alen hexec (hV.mv X0.warmed.alike hh0) rfl rfl (hb hbytes d2) ?_
    exact Steps.refl _)
  obtain ⟨v3, T3, X3, E3, g3⟩ := X0.callS hexec (JO.Str_checkIndex.law l (Int32.ofNat i) (Int32.ofNat V.slots.size) fm) hown (wks W (staticW "java/lang/StringLatin1" 9 JO.Str_checkIndex.yN)) (wk W JO.Str_checkIndex.tab) (W := 0) (Nat.le_of_ble_eq_true rfl) (Nat.le_of_ble_eq_true rfl) (Nat.le_refl _) (Nat.le_refl _) (g := (mkF m 3 #[.val (.ref t), .val (.int (Int32.ofNat i))] [.int (Int32.ofNat V.slots.size), .int (Int32.ofNat i)])) rfl (by rw [hml]; rfl) c2 (argsL := [.int (Int32.ofNat i), .int (Int32.ofNat V.slots.size)]) (rest := []) rfl rfl (by show 2 * 0 + 0 ≤ _; decide) (hb hbytes d3) (⟨rfl, rf, s1.there X0.warmed.alike hh0, Int32.ofNat_not_neg (by omega), lt32 v31 hi⟩)
  obtain ⟨rfl, q3⟩ := E3
  have hh3 := q3.trans hh0
  have c4 : Steps p.tables e below (s₁.setTop (entryFrame m #[.ref t, .int (Int32.ofNat i)] 2)) (T3.setTop (mkF m 14 #[.val (.ref t), .val (.int (Int32.ofNat i))] [.int (chr8 u)])) := Steps.trans g3 (by
    refine XS.aloadN X3.here hexec rfl (hb hbytes d6) rfl rfl ?_
    refine XS.iloadN X3.here hexec rfl (hb hbytes d7) rfl ?_
    refine X3.aget hexec (hV.mv X3.warmed.alike hh3) rfl hu rfl rfl (hb hbytes d8) ?_
    refine sipushV X3.here hexec rfl 255 (hb hbytes d9) (by decide) ?_
    refine XS.iand X3.here hexec rfl (hb hbytes d12) rfl ?_
    refine i2c X3.here hexec rfl (hb hbytes d13) rfl ?_
    exact Steps.refl _)
  exact ⟨T3, some (.int (chr8 u)), _, _, _, X3, rfl, rfl, rfl, (fun h => by cases h), ⟨rfl, hh3⟩, fun fs hl => c4.trans (X3.ireturnOut hexec hret (narrow_c _) (Or.inr (Or.inr (Or.inr (Or.inl rfl)))) (hb hbytes d14) hl)⟩
end LChA
end StrChars
namespace StrChars.Road
open Jvm Sem ClassFile Op Lib Jvm.Stand Jvm.Free Jvm.Free.XT
open Jvm.Lib.Cold (StaticIs)
theorem consq {a : Array Value} {s : State} {c : Jvm.Cond} {L : List Jvm.Cond} (h0 : c.before a s = true) (h : ∀ w ∈ L, w.before a s = true) : ∀ w ∈ c :: L, w.before a s = true := fun w hw => (List.mem_cons.mp hw).elim (fun e => e ▸ h0) (h w)
/-- the words of String.length(), either coding -/
abbrev wordsLen : List Jvm.Cond := [.code Len.yN Len.yB 1 (some .int), .initialized ST, .fieldLink ST 9 ST "value" "[B", .fieldLink ST 38 ST "COMPACT_STRINGS" "Z", .fieldLink ST 15 ST "coder" "B", .code Cdr.yN Cdr.yB 1 (some .byte), .methodLink ST 335 Cdr.yN, .declares Cdr.yN, .selects ST Cdr.yN Cdr.yN, .instanceMethod Cdr.yN]
theorem tabLen_of {a : Array Value} {s : State} (h : ∀ w ∈ wordsLen, w.before a s = true) : Len.tab.before a s = true := by
  have hc : Cdr.tab.before a s = true := unparts (wk h (.code Cdr.yN Cdr.yB 1 (some .byte))) (wks h (.initialized Cdr.yN.cls :: Cdr.site))
  have q := consq hc h
  exact unparts (wk q (.code Len.yN Len.yB 1 (some .int))) (wks q (.initialized Len.yN.cls :: Len.site))
theorem movedLen {Z s : State} {a0 args : Array Value} (hZ : Z.Warmed39 s.vm) (hw : ∀ d ∈ wordsLen, d.before a0 Z = true) : ∀ d ∈ wordsLen, d.before args s = true := fun d hd => by
  have q := hw d hd
  have t : ∀ d ∈ wordsLen, d = .arrayClass .byte ∨ (d.onTables && d.keepsFace) = true := by decide +kernel
  rcases t d hd with rfl | t
  · exact RoadKit.mvA hZ q
  · exact RoadKit.mv hZ q t
/-- the bytes of the chars cs, low before high -/
def wideBytes : List Int32 → List Value
  | [] => []
  | c :: cs => .int (lo8 c) :: .int (hi8 c) :: wideBytes cs
theorem wide_lo (d : Value) : ∀ (cs : List Int32) (j : Nat), j < cs.length → (wideBytes cs).getD (2 * j) d = .int (lo8 (cs.getD j 0))
  | [], j, h => absurd h (Nat.not_lt_zero j)
  | c :: cs, 0, _ => rfl
  | c :: cs, j + 1, h => by
    have q := wide_lo d cs j (by simpa using h)
    rw [show 2 * (j + 1) = 2 * j + 1 + 1 from by omega]
    simpa [wideBytes] using q
theorem wide_hi (d : Value) : ∀ (cs : List Int32) (j : Nat), j < cs.length → (wideBytes cs).getD (2 * j + 1) d = .int (hi8 (cs.getD j 0))
  | [], j, h => absurd h (Nat.not_lt_zero j)
  | c :: cs, 0, _ => rfl
  | c :: cs, j + 1, h => by
    have q := wide_hi d cs j (by simpa using h)
    rw [show 2 * (j + 1) + 1 = 2 * j + 1 + 1 + 1 from by omega]
    simpa [wideBytes] using q
theorem low_at (d : Value) (cs : List Int32) (j : Nat) (h : j < cs.length) : (cs.map fun c => Value.int (lo8 c)).getD j d = .int (lo8 (cs.getD j 0)) := by
  simp [List.getD_eq_getElem?_getD, h]
/-- an array of N2 bytes vs codes the chars cs by the coder cd -/
def CodA (cs : List Int32) (cd N2 : Int32) (vs : List Value) : Prop := (cd = 0 ∧ N2 = Int32.ofNat cs.length ∧ vs = (cs.map fun c => Value.int (lo8 c)) ∧ ∀ c ∈ cs, ¬ 255 < c) ∨ (cd = 1 ∧ N2 = Int32.ofNat (2 * cs.length) ∧ vs = wideBytes cs ∧ ∃ c ∈ cs, 255 < c)
theorem CodA.cod {cs : List Int32} {cd N2 : Int32} {vs : List Value} {V : Cell} (h : CodA cs cd N2 vs) (hn : 2 * cs.length < 2 ^ 31) (hs : V.slots.size = N2.toNatClampNeg) (hv : RoadKit.Has V vs (.int 0)) : Cod cd cs.length (fun j => cs.getD j 0) V := by
  rcases h with ⟨rfl, rfl, rfl, h⟩ | ⟨rfl, rfl, rfl, c, hc, hw⟩
  · rw [n32 (by omega)] at hs
    exact Or.inl ⟨rfl, hs, fun j hj => ⟨by rw [hv j (by omega), low_at _ _ _ hj], by
      have e : cs.getD j 0 = cs[j] := by simp [List.getD_eq_getElem?_getD, hj]
      show ¬ 255 < cs.getD j 0
      rw [e]; exact h _ (List.getElem_mem _)⟩⟩
  · rw [n32 (by omega)] at hs
    obtain ⟨j, hj, rfl⟩ := List.getElem_of_mem hc
    exact Or.inr ⟨rfl, hs, fun j hj => ⟨by rw [hv _ (by omega), wide_lo _ _ _ hj], by rw [hv _ (by omega), wide_hi _ _ _ hj]⟩, j, hj, by
      have e : cs.getD j 0 = cs[j] := by simp [List.getD_eq_getElem?_getD, hj]
      show 255 < cs.getD j 0
      rw [e]; exact hw⟩
/-- an object of exactly java/lang/String, its two fields found: as the laws ask it -/
theorem strObj {Z U : State} {a0 : Array Value} {kI : Nat} (wi : (Jvm.Cond.instantiable ST kI).before a0 Z = true) (al : Z.vm.Alike U.vm) {x : Addr} {v0 c0 : Value} (E : RoadKit.Exa Z U.heap x ST) (V : RoadKit.Fld Z U.heap x ST "value" "[B" v0) (C : RoadKit.Fld Z U.heap x ST "coder" "B" c0) :
    ∃ (D : Cell) (fV fC : Field), Blank ST x D U ∧ Found ST "value" "[B" fV U ∧ Found ST "coder" "B" fC U ∧ D.slots[fV.slot]? = some v0 ∧ D.slots[fC.slot]? = some c0 ∧ RoadKit.slotOf Z ST "value" "[B" = fV.slot ∧ RoadKit.slotOf Z ST "coder" "B" = fC.slot := by
  obtain ⟨D, cfV, kV, iV, fV, hD, gV, stV, knV, obV, asV, slV⟩ := V
  obtain ⟨D', cfC, kC, iC, fC, hD', gC, stC, -, -, asC, slC⟩ := C
  cases hD.symm.trans hD'
  obtain ⟨D2, kD, e1, e2, e3, e4, e5⟩ := E
  cases hD.symm.trans e1
  obtain ⟨c2, k2, i1, i2, i3, -⟩ := Cond.instantiable_spec wi
  cases e2.symm.trans i1
  cases e3.symm.trans i2
  obtain ⟨kU, u1, u2⟩ := al.2.2 _ _ e3
  exact ⟨D, fV, fC, ⟨hD, ⟨knV, fun q hq => by rw [hq] at obV; cases obV⟩, by rw [al.findClass]; exact e2, kU, u1, by rw [u2]; exact i3, by rw [u2]; exact e5 i3⟩, ⟨SBG.found_only al ⟨cfV, kV, iV, gV⟩, stV⟩, ⟨SBG.found_only al ⟨cfC, kC, iC, gC⟩, stC⟩, slV, slC, by simp [RoadKit.slotOf, gV], by simp [RoadKit.slotOf, gC]⟩
theorem sta_is {Z U : State} (al : Z.vm.Alike U.vm) {C n d : String} {v : Value} (S : RoadKit.Sta Z U.heap C n d v) : StaticIs U C n d v := by
  obtain ⟨cfS, iS, kS, fS, st, cS, t1, t2, t3, t4, t5, t6, t7⟩ := S
  exact StaticIs.there (s := { Z with heap := U.heap }) ⟨cfS, iS, kS, fS, st, cS, t1, t2, t3, t4, t5, (fun q => by rw [q] at t6; cases t6), t7⟩ al rfl
/-- **length() OF SUCH A STRING** -/
theorem lenW {p : Program} {l : Launch} {e : Env} {R : Room} {s : State} {args : Array Value} {below : List Frame} {len W : Nat} {Z : State} {a0 : Array Value} {h : Heap} (hZ : Z.Warmed39 s.vm) (hw : ∀ d ∈ wordsLen, d.before a0 Z = true) {kI : Nat} (wi : (Jvm.Cond.instantiable ST kI).before a0 Z = true)
    {x t : Addr} {kb : ClassId} {cs : List Int32} {cd N2 z : Int32} {vs : List Value} (E : RoadKit.Exa Z h x ST) (V : RoadKit.Fld Z h x ST "value" "[B" (.ref t)) (C : RoadKit.Fld Z h x ST "coder" "B" (.int cd)) (K : RoadKit.Arv Z h t kb .byte N2 vs (.int 0)) (hc : CodA cs cd N2 vs) (hb : ∀ c ∈ cs, ¬ c < 0 ∧ ¬ (65535 : Int32) < c)
    (S : RoadKit.Sta Z h ST "COMPACT_STRINGS" "Z" (.int z)) (hz : ¬ z = 0) (l2 : cs.length ≤ 4000) (hfr : 2 ≤ R.frames) (hlo : W + 25 ≤ R.locals) :
    Back l R p e below s args (⟨"java/lang/String", "length", "()I"⟩ : MethodName) len W (fun P a => a = #[.ref x] ∧ P.U.heap = h ∧ P.cells + 0 ≤ R.cells ∧ P.slots + 0 ≤ R.slots)
      (fun P _ v B => ∃ L, (v = some (.int (Int32.ofNat cs.length)) ∧ L = [] ∧ B.U.heap = h) ∧ B.locs = P.locs ++ L ∧ B.cells = P.cells + 0 ∧ B.slots = P.slots + 0) := by
  obtain ⟨A, K1, K2, K3, K4, K5, K6⟩ := K
  have hcod := hc.cod (by omega) K3 K5
  intro m meth c P g ig mk a X hg hsize hdg hW hn hp'
  obtain ⟨rfl, rfl, r1, r2⟩ := hp'
  have al : Z.vm.Alike P.U.vm := hZ.alike.trans X.warmed.alike
  obtain ⟨D, fV, fC, hB, F1, F2, g1, g2, -, -⟩ := strObj wi al E V C
  have hx : Txt x t A cd cs.length (fun j => cs.getD j 0) P.U := ⟨⟨_, hB.2.2.1, D, hB.1, rfl, by cases q : D.vm <;> first | rfl | exact absurd q (hB.2.1.2 _)⟩, Has.of hB F1 g1, Has.of hB F2 g2, ⟨K1.1, State.isArrayOf_alike al K1.2.1, K1.2.2, by rcases hcod with ⟨-, q, -⟩ | ⟨-, q, -⟩ <;> omega⟩, hcod, fun j hj => by
    have e : cs.getD j 0 = cs[j] := by simp [List.getD_eq_getElem?_getD, hj]
    show ¬ cs.getD j 0 < 0 ∧ ¬ 65535 < cs.getD j 0
    rw [e]; exact hb _ (List.getElem_mem _)⟩
  obtain ⟨v, B, X', ⟨⟨hv, hh⟩, hl, hk, hs⟩, st⟩ := Len.pays x t A cd cs.length (fun j => cs.getD j 0) z (tabLen_of (movedLen hZ hw)) hfr hlo m meth c P g ig mk _ X hg hsize hdg hW hn ⟨r1, r2, rfl, hx, sta_is al S, hz⟩
  exact ⟨v, B, X', ⟨[], ⟨hv, rfl, hh⟩, hl, hk, hs⟩, st⟩
end StrChars.Road
namespace StrChars.Road
open Jvm Sem ClassFile Op Lib Jvm.Stand Jvm.Free Jvm.Free.XT
open Jvm.Lib.Cold (StaticIs)
/-- the road's facts of a String, as the laws ask it -/
theorem txt_of {Z U : State} {a0 : Array Value} {kI : Nat} (wi : (Jvm.Cond.instantiable ST kI).before a0 Z = true) (al : Z.vm.Alike U.vm) {x t : Addr} {kb : ClassId} {cs : List Int32} {cd N2 : Int32} {vs : List Value} (E : RoadKit.Exa Z U.heap x ST) (V : RoadKit.Fld Z U.heap x ST "value" "[B" (.ref t)) (C : RoadKit.Fld Z U.heap x ST "coder" "B" (.int cd)) (K : RoadKit.Arv Z U.heap t kb .byte N2 vs (.int 0)) (hc : CodA cs cd N2 vs) (hb : ∀ c ∈ cs, ¬ c < 0 ∧ ¬ (65535 : Int32) < c) (l2 : cs.length ≤ 4000) :
    ∃ A, Txt x t A cd cs.length (fun j => cs.getD j 0) U := by
  obtain ⟨A, K1, K2, K3, K4, K5, K6⟩ := K
  have hcod := hc.cod (by omega) K3 K5
  obtain ⟨D, fV, fC, hB, F1, F2, g1, g2, -, -⟩ := strObj wi al E V C
  exact ⟨A, ⟨_, hB.2.2.1, D, hB.1, rfl, by cases q : D.vm <;> first | rfl | exact absurd q (hB.2.1.2 _)⟩, Has.of hB F1 g1, Has.of hB F2 g2, ⟨K1.1, State.isArrayOf_alike al K1.2.1, K1.2.2, by rcases hcod with ⟨-, q, -⟩ | ⟨-, q, -⟩ <;> omega⟩, hcod, fun j hj => by
    have e : cs.getD j 0 = cs[j] := by simp [List.getD_eq_getElem?_getD, hj]
    show ¬ cs.getD j 0 < 0 ∧ ¬ 65535 < cs.getD j 0
    rw [e]; exact hb _ (List.getElem_mem _)⟩
end StrChars.Road
namespace StrChars
open Jvm Sem ClassFile Op Lib Jvm.Stand Jvm.Free.XT Jvm.Free.ALB Jvm.Free.JM Jvm.Free
open Jvm.Lib.Cold (StaticIs)
namespace ChN
def yN : MethodName := ⟨"java/lang/String", "charAt", "(I)C"⟩
abbrev yB : ByteArray := jdk_42_method_56_code
theorem d0 : decode yB 0 = .ok (.aload_n 0, 1) := by decide +kernel
theorem d1 : decode yB 1 = .ok (.invokevirtual 492, 3) := by decide +kernel
theorem d4 : decode yB 4 = .ok (.ifCond (.eq) 12, 3) := by decide +kernel
theorem d7 : decode yB 7 = .ok (.aload_n 0, 1) := by decide +kernel
theorem d8 : decode yB 8 = .ok (.getfield 9, 3) := by decide +kernel
theorem d11 : decode yB 11 = .ok (.iload_n 1, 1) := by decide +kernel
theorem d12 : decode yB 12 = .ok (.invokestatic 495, 3) := by decide +kernel
theorem d15 : decode yB 15 = .ok (.ireturn, 1) := by decide +kernel
def site : List Cond := [.fieldLink "java/lang/String" 9 "java/lang/String" "value" "[B", IsL.tab, LChA.tab] ++ virtW "java/lang/String" 492 "java/lang/String" IsL.yN IsL.yN ++ staticW "java/lang/String" 495 LChA.yN
def tab : Cond := tabOf yN yB 2 (some .char) site
def P (x t : Addr) (V : Cell) (n : Nat) (f : Nat → Int32) (z : Int32) (fm : Value) (i : Nat) (args : Array Value) (s : State) : Prop := args = #[.ref x, .int (Int32.ofNat i)] ∧ Txt x t V 0 n f s ∧ i < n ∧ StaticIs s "java/lang/String" "COMPACT_STRINGS" "Z" (.int z) ∧ ¬ z = 0 ∧ StaticIs s "jdk/internal/util/Preconditions" "SIOOBE_FORMATTER" "Ljava/util/function/BiFunction;" fm ∧ fm.isRef = true
def E (f : Nat → Int32) (i : Nat) (r : Option Value) (s u : State) : Prop := XT.PureE (some (.int (f i))) r s u
/-- charAt(i) of a Latin-1 String of n chars, i < n: f i -/
theorem law (l : Launch) (x t : Addr) (V : Cell) (n : Nat) (f : Nat → Int32) (z : Int32) (fm : Value) (i : Nat) : Law l yN 2 1 3 40 yB 2 (some .char) site (P x t V n f z fm i) (E f i) [] 0 0 := by
  refine Law.of_walk (plainFor_of_name (by decide +kernel)) (by decide +kernel) (by decide +kernel) (by decide) (fun _ _ h => by rw [h.1]; rfl) (fun _ U U' hal hh h => ⟨h.1, h.2.1.mv hal hh, h.2.2.1, h.2.2.2.1.there hal hh, h.2.2.2.2.1, h.2.2.2.2.2.1.there hal hh, h.2.2.2.2.2.2⟩) (fun r U U' V V' h1 hal h2 h => XT.PureE.mv r U U' V V' h1 hal h2 h) ?_
  intro p e s m args below meth c s₁ X0 hexec hbytes hml hret hlk hnm hown hh0 W hP
  obtain ⟨rfl, hx, hi, s1, hz, s3, rf⟩ := hP
  have v31 := hx.2.2.2.1.2.2.2
  have hr := hx.2.2.2.2.2 i hi
  have hx0 := hx.mv X0.warmed.alike hh0
  have c1 : Steps p.tables e below (s₁.setTop (entryFrame m #[.ref x, .int (Int32.ofNat i)] 2)) (s₁.setTop (mkF m 1 #[.val (.ref x), .val (.int (Int32.ofNat i))] [.ref x])) := Steps.trans (entry rfl) (by
    show Steps p.tables e below (s₁.setTop (mkF m 0 #[.val (.ref x), .val (.int (Int32.ofNat i))] [])) _
    refine XS.aloadN X0.here hexec rfl (hb hbytes d0) rfl rfl ?_
    exact Steps.refl _)
  obtain ⟨v2, T2, X2, E2, g2⟩ := X0.callV hexec (IsL.law l x 0 z) hown (wks W (virtW "java/lang/String" 492 "java/lang/String" IsL.yN IsL.yN)) rfl (by decide) (wk W IsL.tab) (W := 0) (Nat.le_of_ble_eq_true rfl) (Nat.le_of_ble_eq_true rfl) (Nat.le_refl _) (Nat.le_refl _) (hx0.1.fc X0.warmed.alike) hx0.1.is (g := (mkF m 1 #[.val (.ref x), .val (.int (Int32.ofNat i))] [.ref x])) rfl (by rw [hml]; rfl) c1 (argsL := []) (rest := []) rfl rfl (by show 2 * 0 + 0 ≤ _; decide) (hb hbytes d1) (⟨rfl, hx0.2.2.1, hx.2.2.2.2.1.cd, s1.there X0.warmed.alike hh0, hz⟩)
  obtain ⟨rfl, q2⟩ := E2
  have hh2 := q2.trans hh0
  have hx2 := hx.mv X2.warmed.alike hh2
  obtain ⟨-, k1, k2⟩ | ⟨k0, -⟩ := hx.2.2.2.2.1
  · have c3 : Steps p.tables e below (s₁.setTop (entryFrame m #[.ref x, .int (Int32.ofNat i)] 2)) (T2.setTop (mkF m 8 #[.val (.ref x), .val (.int (Int32.ofNat i))] [.ref x])) := Steps.trans g2 (by
      refine XS.ifNo X2.here hexec rfl (hb hbytes d4) rfl (i0_eq_f (by decide)) ?_
      refine XS.aloadN X2.here hexec rfl (hb hbytes d7) rfl rfl ?_
      exact Steps.refl _)
    obtain ⟨T4, X4, q4, st4⟩ := X2.hget hexec hown (wk W (.fieldLink "java/lang/String" 9 "java/lang/String" "value" "[B")) hx2.2.1 (g := (mkF m 8 #[.val (.ref x), .val (.int (Int32.ofNat i))] [.ref x])) rfl (rest := []) rfl (hb hbytes d8)
    have hh4 := q4.trans hh2
    have c5 : Steps p.tables e below (s₁.setTop (entryFrame m #[.ref x, .int (Int32.ofNat i)] 2)) (T4.setTop (mkF m 12 #[.val (.ref x), .val (.int (Int32.ofNat i))] [.int (Int32.ofNat i), .ref t])) := (c3.trans (st4 _ (Steps.refl _))).trans (by
      refine XS.iloadN X4.here hexec rfl (hb hbytes d11) rfl ?_
      exact Steps.refl _)
    obtain ⟨v6, T6, X6, E6, g6⟩ := X4.callS hexec (LChA.law l t V i (lo8 (f i)) fm) hown (wks W (staticW "java/lang/String" 495 LChA.yN)) (wk W LChA.tab) (W := 0) (Nat.le_of_ble_eq_true rfl) (Nat.le_of_ble_eq_true rfl) (Nat.le_refl _) (Nat.le_refl _) (g := (mkF m 12 #[.val (.ref x), .val (.int (Int32.ofNat i))] [.int (Int32.ofNat i), .ref t])) rfl (by rw [hml]; rfl) c5 (argsL := [.ref t, .int (Int32.ofNat i)]) (rest := []) rfl rfl (by show 2 * 0 + 0 ≤ _; decide) (hb hbytes d12) (⟨rfl, hx.2.2.2.1.mv X4.warmed.alike hh4, (k2 i hi).1, s3.there X4.warmed.alike hh4, rf⟩)
    obtain ⟨rfl, q6⟩ := E6
    rw [chr8_lo8 hr.1 (k2 i hi).2] at g6
    exact ⟨T6, some (.int (f i)), _, _, _, X6, rfl, rfl, rfl, (fun h => by cases h), ⟨rfl, q6.trans hh4⟩, fun fs hl => Steps.trans g6 (X6.ireturnOut hexec hret (narrow_ch hr.1 hr.2) (Or.inr (Or.inr (Or.inr (Or.inl rfl)))) (hb hbytes d15) hl)⟩
  · exact absurd k0 (by decide)
theorem pays {l : Launch} {R : Room} {p : Program} {e : Env} {below : List Frame} {s : State} {sargs : Array Value} {len W : Nat} (x t : Addr) (V : Cell) (n : Nat) (f : Nat → Int32) (z : Int32) (fm : Value) (i : Nat) (htab : tab.before sargs s = true) (hfr : 4 ≤ R.frames) (hlo : W + 53 ≤ R.locals) :
    Back l R p e below s sargs yN len W (fun A₁ a₁ => A₁.cells + 0 ≤ R.cells ∧ A₁.slots + 0 ≤ R.slots ∧ P x t V n f z fm i a₁ A₁.U) (fun A₁ _ v₁ B₁ => E f i v₁ A₁.U B₁.U ∧ B₁.locs = A₁.locs ++ [] ∧ B₁.cells = A₁.cells + 0 ∧ B₁.slots = A₁.slots + 0) :=
  (law l x t V n f z fm i).pays htab hfr (by omega)
end ChN
end StrChars
namespace StrChars.Road
open Jvm Sem ClassFile Op Lib Jvm.Stand Jvm.Free Jvm.Free.XT
open Jvm.Lib.Cold (StaticIs)
/-- the words of String.charAt(int), the Latin-1 road alone -/
abbrev wordsChN : List Jvm.Cond := [.code ChN.yN ChN.yB 2 (some .char), .initialized ST, .fieldLink ST 9 ST "value" "[B", .fieldLink ST 38 ST "COMPACT_STRINGS" "Z", .fieldLink ST 15 ST "coder" "B", .code IsL.yN IsL.yB 1 (some .boolean), .methodLink ST 492 IsL.yN, .declares IsL.yN, .selects ST IsL.yN IsL.yN, .instanceMethod IsL.yN,
  .methodLink ST 495 LChA.yN, .static LChA.yN, .code LChA.yN LChA.yB 2 (some .char), .initialized "java/lang/StringLatin1", .methodLink "java/lang/StringLatin1" 9 JO.Str_checkIndex.yN, .static JO.Str_checkIndex.yN, .code JO.Str_checkIndex.yN JO.Str_checkIndex.yB 2 none,
  .fieldLink ST 1053 "jdk/internal/util/Preconditions" "SIOOBE_FORMATTER" "Ljava/util/function/BiFunction;", .methodLink ST 1059 JC.PreCheck.yN, .static JC.PreCheck.yN, .code JC.PreCheck.yN JC.PreCheck.yB 3 (some .int), .initialized "jdk/internal/util/Preconditions"]
theorem tabChN_of {a : Array Value} {s : State} (h : ∀ w ∈ wordsChN, w.before a s = true) : ChN.tab.before a s = true := by
  have hp : JC.PreCheck.tab.before a s = true := unparts (wk h (.code JC.PreCheck.yN JC.PreCheck.yB 3 (some .int))) (wks h (.initialized JC.PreCheck.yN.cls :: JC.PreCheck.site))
  have qk := consq hp h
  have hk : JO.Str_checkIndex.tab.before a s = true := unparts (wk qk (.code JO.Str_checkIndex.yN JO.Str_checkIndex.yB 2 none)) (wks qk (.initialized JO.Str_checkIndex.yN.cls :: JO.Str_checkIndex.site))
  have ql := consq hk h
  have hl : LChA.tab.before a s = true := unparts (wk ql (.code LChA.yN LChA.yB 2 (some .char))) (wks ql (.initialized LChA.yN.cls :: LChA.site))
  have hi : IsL.tab.before a s = true := unparts (wk h (.code IsL.yN IsL.yB 1 (some .boolean))) (wks h (.initialized IsL.yN.cls :: IsL.site))
  have q := consq hi (consq hl h)
  exact unparts (wk q (.code ChN.yN ChN.yB 2 (some .char))) (wks q (.initialized ChN.yN.cls :: ChN.site))
theorem movedChN {Z s : State} {a0 args : Array Value} (hZ : Z.Warmed39 s.vm) (hw : ∀ d ∈ wordsChN, d.before a0 Z = true) : ∀ d ∈ wordsChN, d.before args s = true := fun d hd => by
  have t : ∀ d ∈ wordsChN, (d.onTables && d.keepsFace) = true := by decide +kernel
  exact RoadKit.mv hZ (hw d hd) (t d hd)
/-- **charAt(i) OF A LATIN-1 STRING**, i < n: the char -/
theorem chN {p : Program} {l : Launch} {e : Env} {R : Room} {s : State} {args : Array Value} {below : List Frame} {len W : Nat} {Z : State} {a0 : Array Value} {h : Heap} (hZ : Z.Warmed39 s.vm) (hw : ∀ d ∈ wordsChN, d.before a0 Z = true) {kI : Nat} (wi : (Jvm.Cond.instantiable ST kI).before a0 Z = true)
    {x t : Addr} {kb : ClassId} {cs : List Int32} {N2 z : Int32} {vs : List Value} {fm : Value} {i : Nat} {j : Int32} (E : RoadKit.Exa Z h x ST) (V : RoadKit.Fld Z h x ST "value" "[B" (.ref t)) (C : RoadKit.Fld Z h x ST "coder" "B" (.int 0)) (K : RoadKit.Arv Z h t kb .byte N2 vs (.int 0)) (hc : CodA cs 0 N2 vs) (hb : ∀ c ∈ cs, ¬ c < 0 ∧ ¬ (65535 : Int32) < c)
    (S : RoadKit.Sta Z h ST "COMPACT_STRINGS" "Z" (.int z)) (hz : ¬ z = 0) (F : RoadKit.Sta Z h "jdk/internal/util/Preconditions" "SIOOBE_FORMATTER" "Ljava/util/function/BiFunction;" fm) (rf : fm.isRef = true) (l2 : cs.length ≤ 4000) (hi : i < cs.length) (hj : j = Int32.ofNat i) (hfr : 4 ≤ R.frames) (hlo : W + 53 ≤ R.locals) :
    Back l R p e below s args (⟨"java/lang/String", "charAt", "(I)C"⟩ : MethodName) len W (fun P a => a = #[.ref x, .int j] ∧ P.U.heap = h ∧ P.cells + 0 ≤ R.cells ∧ P.slots + 0 ≤ R.slots)
      (fun P _ v B => ∃ L, (v = some (.int (cs.getD i 0)) ∧ L = [] ∧ B.U.heap = h) ∧ B.locs = P.locs ++ L ∧ B.cells = P.cells + 0 ∧ B.slots = P.slots + 0) := by
  subst hj
  intro m meth c P g ig mk a X hg hsize hdg hW hn hp'
  obtain ⟨rfl, rfl, r1, r2⟩ := hp'
  have al : Z.vm.Alike P.U.vm := hZ.alike.trans X.warmed.alike
  obtain ⟨A, hx⟩ := txt_of wi al E V C K hc hb l2
  obtain ⟨v, B, X', ⟨⟨hv, hh⟩, hl, hk, hs⟩, st⟩ := ChN.pays x t A cs.length (fun j => cs.getD j 0) z fm i (tabChN_of (movedChN hZ hw)) hfr hlo m meth c P g ig mk _ X hg hsize hdg hW hn ⟨r1, r2, rfl, hx, hi, sta_is al S, hz, sta_is al F, rf⟩
  exact ⟨v, B, X', ⟨[], ⟨hv, rfl, hh⟩, hl, hk, hs⟩, st⟩
/-- what backV says of its String, as the contracts of this text ask it: cs's low bytes, coder 0 -/
theorem codOf {cs : List Int32} {n : Nat} (hn : cs.length = n) (hb : ∀ c ∈ cs, ¬ 255 < c) : CodA cs 0 (Int32.ofNat n) ((cs.map lo8).map Value.int) := Or.inl ⟨rfl, by rw [hn], by simp [List.map_map, Function.comp_def], hb⟩
end StrChars.Road
end Jvm.Pilot.@@N@@
namespace Jvm.Pilot.@@N@@
open Jvm Jvm.ClassFile Sem Op Lib Jvm.Free Jvm.Stand Jvm.LawKit Jvm.RoadKit Bundle Jvm.Pilot.@@N@@.Jvm.D
section OwnKit
variable {Z : State} {a0 : Array Value} {EL : List (String × Nat)} {own : String} {p : Program} {l : Launch} {e : Env} {R : Room} {s : State} {m : MethodId} {args : Array Value} {below : List Frame} {meth : Method} {c : Code} {vm : Vm} {T : State} {h : Heap} {cells slots : Nat}
theorem nle {a b : Nat} (h : Nat.ble a b = true) : a ≤ b := Nat.le_of_ble_eq_true h
theorem olt {x : Addr} {n : Nat} (h : @LT.lt Nat _ x n) : x < n := h
theorem one {x y : Addr} (h : @Ne Nat x y) : x ≠ y := h
theorem own_xr (h1 : Heap) : Ext h1 h1 := ⟨Nat.le_refl _, fun _ _ q => q⟩
theorem own_xt {h1 h2 h3 : Heap} (A : Ext h1 h2) (B : Ext h2 h3) : Ext h1 h3 := ⟨Nat.le_trans A.1 B.1, fun a c q => B.2 a c (A.2 a c q)⟩
theorem own_xk {h1 h2 h3 : Heap} {ws : List Addr} (A : Ext h1 h2) (K : Keep h2 h3 ws) (q : ∀ x ∈ ws, h1.size ≤ x) : Ext h1 h3 :=
  ⟨Nat.le_trans A.1 K.1, fun a c r => K.2.1 a c (A.2 a c r) fun z => absurd (Array.getElem?_eq_some_iff.mp r).1 (Nat.not_lt.mpr (q a z))⟩
theorem own_xw {h1 h2 h3 : Heap} {a : Addr} {sl : Nat} {v : Value} (A : Ext h1 h2) (W : Wr h2 h3 a sl v) (q : h1.size ≤ a) : Ext h1 h3 := own_xk A (Keep.of_wr W) (allS q all0)
/-- the walk stands: over the start with the tables at hand; its heap; the literals' word; all that it wrote is new -/
def Wk (Z : State) (a0 : Array Value) (EL : List (String × Nat)) (own : String) (p : Program) (l : Launch) (e : Env) (R : Room) (s : State) (m : MethodId) (args : Array Value) (below : List Frame) (meth : Method) (c : Code) (vm : Vm) (T : State) (h : Heap) (cells slots : Nat) : Prop :=
  ∃ (locs : List Loc) (k : Nat), Stand p l e R (s.setVm vm) m args below meth c T locs cells slots ∧ T.heap = h ∧ s.Since vm k ∧ k ≤ h.size ∧ Z.Warmed39 vm ∧ vm.findClass own = some m.cls ∧ EW Z a0 EL ∧ CHr Z EL s.vm s.heap vm h ∧ Fr Z.heap.size locs ∧ Ext Z.heap h
theorem Wk.here (W : Wk Z a0 EL own p l e R s m args below meth c vm T h cells slots) : At T m c below := by obtain ⟨_, _, X, -⟩ := W; exact X.here
theorem Wk.al (W : Wk Z a0 EL own p l e R s m args below meth c vm T h cells slots) : Z.vm.Alike vm := by obtain ⟨_, _, -, -, -, -, hZ, -⟩ := W; exact hZ.alike
theorem Wk.old (W : Wk Z a0 EL own p l e R s m args below meth c vm T h cells slots) : Ext Z.heap h := by obtain ⟨_, _, -, -, -, -, -, -, -, -, -, q⟩ := W; exact q
theorem Wk.ch (W : Wk Z a0 EL own p l e R s m args below meth c vm T h cells slots) : CHv Z EL vm h := by obtain ⟨_, _, -, -, -, -, -, -, -, q, -⟩ := W; exact q.1
theorem Wk.sz (W : Wk Z a0 EL own p l e R s m args below meth c vm T h cells slots) : Z.heap.size ≤ h.size := W.old.1
theorem own_safeB {h' : Heap} {x : Addr} (W : Wk Z a0 EL own p l e R s m args below meth c vm T h cells slots) (E : Ext h h') (q : h.size ≤ x) : Safe Z EL vm h' x := Safe.ext E W.ch (Safe.new q)
theorem own_safeE {x : Addr} {C : String} (W : Wk Z a0 EL own p l e R s m args below meth c vm T h cells slots) (E : Exa Z h x C) (h1 : C ≠ "java/lang/String") (h2 : C ≠ "[B") : Safe Z EL vm h x := Safe.exa W.al E h1 h2
/-- a step that grows the heap at its end and leaves the tables -/
theorem own_mkE {T' : State} {h' : Heap} {cells' slots' : Nat} {locs' : List Loc} {k : Nat} (X : Stand p l e R (s.setVm vm) m args below meth c T' locs' cells' slots') (e' : T'.heap = h') (hS : s.Since vm k) (hk : k ≤ h.size) (hZ : Z.Warmed39 vm) (ho : vm.findClass own = some m.cls) (hEW : EW Z a0 EL) (hC : CHr Z EL s.vm s.heap vm h) (N : Fr Z.heap.size locs') (O : Ext Z.heap h) (E : Ext h h') :
    Wk Z a0 EL own p l e R s m args below meth c vm T' h' cells' slots' :=
  ⟨locs', k, X, e', hS, Nat.le_trans hk E.1, hZ, ho, hEW, hC.trans (CHr.ext E hC.1), N, own_xt O E⟩
theorem own_new (W : Wk Z a0 EL own p l e R s m args below meth c vm T h cells slots) (hx : p.tables.exec = Jvm.exec) {C : String} {index n : Nat} (w : (Cond.classLink own index C).before a0 Z = true) (wi : (Cond.instantiable C n).before a0 Z = true) (wz : (Cond.initialized C).before a0 Z = true)
    {g : JFrame} (hg : g.method = m) (hd : decode c.code g.pc = .ok (.new index, 3)) (hc : cells + 1 ≤ R.cells) (hl : slots + n ≤ R.slots) :
    ∃ (x : Addr) (T' : State) (h' : Heap), h.size ≤ x ∧ Wk Z a0 EL own p l e R s m args below meth c vm T' h' (cells + 1) (slots + n) ∧ Ext h h' ∧ Exa Z h' x C ∧ (∀ {O nm d : String} {ty : FieldType}, Laid Z a0 C O nm d → parseFieldDescriptor d = some ty → Fld Z h' x O nm d (defaultValue ty)) ∧ Unt h' x ∧
      ∀ target, Steps p.tables e below (T'.setTop { g with pc := g.pc + 3, stack := .ref x :: g.stack }) target → Steps p.tables e below (T.setTop g) target := by
  obtain ⟨locs, k, X, eT, hS, hk, hZ, ho, hEW, hC, N, O⟩ := W
  obtain ⟨T', h', X', e', E, A, D, U, st⟩ := newO X hx hZ ho w wi wz eT hg hd hc hl
  exact ⟨_, T', h', Nat.le_refl _, own_mkE X' e' hS hk hZ ho hEW hC N O E, E, A, D, U, st⟩
theorem own_newP (W : Wk Z a0 EL own p l e R s m args below meth c vm T h cells slots) (hx : p.tables.exec = Jvm.exec) {aty : ArrayType} (w : (Cond.arrayClass (newarray.typeOf aty)).before a0 Z = true) {g : JFrame} (hg : g.method = m) (hd : decode c.code g.pc = .ok (.newarray aty, 2)) {n : Int32} {rest : List Value} (hs : g.stack = .int n :: rest)
    (hn : ¬ n < 0) {cap : Nat} (hcap : n.toNatClampNeg ≤ cap) (hb : cap * 8 ≤ 536870912) (hc : cells + 1 ≤ R.cells) (hl : slots + cap ≤ R.slots) :
    ∃ (x : Addr) (T' : State) (h' : Heap) (k : ClassId), h.size ≤ x ∧ Wk Z a0 EL own p l e R s m args below meth c vm T' h' (cells + 1) (slots + cap) ∧ Ext h h' ∧ Arv Z h' x k (newarray.typeOf aty) n [] (defaultValue (newarray.typeOf aty)) ∧
      ∀ target, Steps p.tables e below (T'.setTop { g with pc := g.pc + 2, stack := .ref x :: rest }) target → Steps p.tables e below (T.setTop g) target := by
  obtain ⟨locs, k, X, eT, hS, hk, hZ, ho, hEW, hC, N, O⟩ := W
  obtain ⟨T', h', cA, X', e', E, A, st⟩ := newP X hx hZ w eT hg hd hs hn hcap hb hc hl
  exact ⟨_, T', h', cA, Nat.le_refl _, own_mkE X' e' hS hk hZ ho hEW hC N O E, E, Arv.new A hn, st⟩
theorem own_mkW {T' : State} {h' : Heap} {cells' slots' : Nat} {locs' : List Loc} {k : Nat} {a : Addr} {sl : Nat} {v : Value} (X : Stand p l e R (s.setVm vm) m args below meth c T' (locs' ++ [⟨a, sl⟩]) cells' slots') (e' : T'.heap = h') (hS : s.Since vm k) (hk : k ≤ h.size) (hZ : Z.Warmed39 vm) (ho : vm.findClass own = some m.cls) (hEW : EW Z a0 EL) (hC : CHr Z EL s.vm s.heap vm h) (N : Fr Z.heap.size locs') (O : Ext Z.heap h) (W : Wr h h' a sl v) (S : Safe Z EL vm h a) (q : Z.heap.size ≤ a) :
    Wk Z a0 EL own p l e R s m args below meth c vm T' h' cells' slots' :=
  ⟨_, k, X, e', hS, by rw [W.size]; exact hk, hZ, ho, hEW, hC.trans (CHr.wr W S hC.1), N.app fun y hy => by cases List.mem_singleton.mp hy; exact q, own_xw O W q⟩
theorem own_nc {x : Int32} (h : ¬ x < 0 ∧ ¬ 65535 < x) : nar .char x = x := by
  show x.toUInt32.toUInt16.toUInt32.toInt32 = x
  obtain ⟨h1, h2⟩ := h
  rw [Int32.lt_iff_toInt_lt] at h1 h2
  have e1 : (0 : Int32).toInt = 0 := rfl
  have e2 : (65535 : Int32).toInt = 65535 := rfl
  rw [e1] at h1; rw [e2] at h2
  apply Int32.toBitVec_inj.mp
  apply BitVec.eq_of_toNat_eq
  have hx : x.toInt = x.toBitVec.toInt := rfl
  rw [hx, BitVec.toInt_eq_toNat_cond] at h1 h2
  have hlt := x.toBitVec.isLt
  have hn : x.toBitVec.toNat < 65536 := by split at h1 <;> split at h2 <;> omega
  show ((x.toUInt32.toUInt16.toUInt32)).toBitVec.toNat = _
  have e3 : (x.toUInt32.toUInt16.toUInt32).toNat = x.toUInt32.toNat % 65536 := by simp
  have e4 : x.toUInt32.toNat = x.toBitVec.toNat := rfl
  show (x.toUInt32.toUInt16.toUInt32).toNat = _
  rw [e3, e4]; omega
theorem own_stC (W : Wk Z a0 EL own p l e R s m args below meth c vm T h cells slots) (hx : p.tables.exec = Jvm.exec) {a : Addr} {k : ClassId} {z : Int32} {vs : List Value} {dv : Value} (F : Arv Z h a k .char z vs dv) (q : Z.heap.size ≤ a) {j x : Int32} {i : Nat} (hj : ¬ j < 0 ∧ j < z) (hi : j.toNatClampNeg = i) (hl : i < vs.length) (hr : ¬ x < 0 ∧ ¬ 65535 < x)
    {g : JFrame} (hg : g.method = m) {rest : List Value} (hs : g.stack = .int x :: .int j :: .ref a :: rest) (hd : decode c.code g.pc = .ok (.castore, 1)) :
    ∃ (T' : State) (h' : Heap), Wk Z a0 EL own p l e R s m args below meth c vm T' h' cells slots ∧ Wr h h' a i (.int x) ∧ Arv Z h' a k .char z (vs.set i (.int x)) dv ∧
      ∀ target, Steps p.tables e below (T'.setTop { g with pc := g.pc + 1, stack := rest }) target → Steps p.tables e below (T.setTop g) target := by
  obtain ⟨locs, k1, X, eT, hS, hk, hZ, ho, hEW, hC, N, O⟩ := W
  obtain ⟨cl, A, q1, S, q3, H, U⟩ := id F
  obtain ⟨T', h', X', e', Wr', st⟩ := stC X hx hZ eT A (inb_of S hj) hg hs hd
  rw [own_nc hr, hi] at Wr'
  rw [hi] at X'
  have fx : fits .char (.int x) = true := by have := fits_nar_char x; rw [own_nc hr] at this; exact this
  refine ⟨T', h', own_mkW X' e' hS hk hZ ho hEW hC N O Wr' (Safe.arr hZ.alike A (by decide)) q, Wr', ?_, st⟩
  exact Arv.set A q1 S q3 H U fx (by rw [hi]; exact Wr') i hi hl
theorem own_stB (W : Wk Z a0 EL own p l e R s m args below meth c vm T h cells slots) (hx : p.tables.exec = Jvm.exec) {a : Addr} {k : ClassId} {z : Int32} {vs : List Value} {dv : Value} (F : Arv Z h a k .byte z vs dv) (q : Z.heap.size ≤ a) (Sf : Safe Z EL vm h a) {j x : Int32} {i : Nat} (hj : ¬ j < 0 ∧ j < z) (hi : j.toNatClampNeg = i) (hl : i < vs.length)
    {g : JFrame} (hg : g.method = m) {rest : List Value} (hs : g.stack = .int x :: .int j :: .ref a :: rest) (hd : decode c.code g.pc = .ok (.bastore, 1)) :
    ∃ (T' : State) (h' : Heap), Wk Z a0 EL own p l e R s m args below meth c vm T' h' cells slots ∧ Wr h h' a i (.int x.toInt8.toInt32) ∧ Arv Z h' a k .byte z (vs.set i (.int x.toInt8.toInt32)) dv ∧
      ∀ target, Steps p.tables e below (T'.setTop { g with pc := g.pc + 1, stack := rest }) target → Steps p.tables e below (T.setTop g) target := by
  obtain ⟨locs, k1, X, eT, hS, hk, hZ, ho, hEW, hC, N, O⟩ := W
  obtain ⟨cl, A, q1, S, q3, H, U⟩ := id F
  obtain ⟨T', h', X', e', Wr', st⟩ := stB X hx hZ eT A (inb_of S hj) hg hs hd
  have Wr2 : Wr h h' a i (.int x.toInt8.toInt32) := by rw [← hi]; exact Wr'
  rw [hi] at X'
  refine ⟨T', h', own_mkW X' e' hS hk hZ ho hEW hC N O Wr2 Sf q, Wr2, ?_, st⟩
  exact Arv.set A q1 S q3 H U (fits_nar_byte x) Wr' i hi hl
theorem own_put (W : Wk Z a0 EL own p l e R s m args below meth c vm T h cells slots) (hx : p.tables.exec = Jvm.exec) {R0 O n d host C : String} {index kk : Nat} {ty : FieldType} (w : (Cond.fieldLink own index R0 n d).before a0 Z = true ∨ (Cond.fieldLinkNest own index R0 n d host).before a0 Z = true) (via : Via Z R0 O n d)
    {a : Addr} {v old : Value} (F : Fld Z h a O n d old) (E : Exa Z h a C) (L : (Cond.lays C O n d).before a0 Z = true ∨ ((Cond.laysFinal C O n d).before a0 Z = true ∧ own = O ∧ meth.name = "<init>")) (wi : (Cond.instantiable C kk).before a0 Z = true)
    (hty : parseFieldDescriptor d = some ty) (hn : narrow ty v = v) (hf : fits ty v = true) (S : Safe Z EL vm h a) (q : Z.heap.size ≤ a) {g : JFrame} (hg : g.method = m) {rest : List Value} (hs : g.stack = v :: .ref a :: rest) (hd : decode c.code g.pc = .ok (.putfield index, 3)) :
    ∃ (T' : State) (h' : Heap), Wk Z a0 EL own p l e R s m args below meth c vm T' h' cells slots ∧ Wr h h' a (RoadKit.slotOf Z O n d) v ∧ Fld Z h' a O n d v ∧
      ∀ target, Steps p.tables e below (T'.setTop { g with pc := g.pc + 3, stack := rest }) target → Steps p.tables e below (T.setTop g) target := by
  obtain ⟨locs, k1, X, eT, hS, hk, hZ, ho, hEW, hC, N, O'⟩ := W
  obtain ⟨T', h', X', e', W', st⟩ := putF X hx hZ ho w via eT F E L wi hty hn hf hg hs hd
  exact ⟨T', h', own_mkW X' e' hS hk hZ ho hEW hC N O' W' S q, W', F.same W', st⟩
theorem own_get (W : Wk Z a0 EL own p l e R s m args below meth c vm T h cells slots) (hx : p.tables.exec = Jvm.exec) {R0 O n d host : String} {index : Nat} (w : (Cond.fieldLink own index R0 n d).before a0 Z = true ∨ (Cond.fieldLinkNest own index R0 n d host).before a0 Z = true) (via : Via Z R0 O n d)
    {a : Addr} {v : Value} (F : Fld Z h a O n d v) {g : JFrame} (hg : g.method = m) {rest : List Value} (hs : g.stack = .ref a :: rest) (hd : decode c.code g.pc = .ok (.getfield index, 3)) :
    ∃ T' : State, Wk Z a0 EL own p l e R s m args below meth c vm T' h cells slots ∧
      ∀ target, Steps p.tables e below (T'.setTop { g with pc := g.pc + 3, stack := v :: rest }) target → Steps p.tables e below (T.setTop g) target := by
  obtain ⟨locs, k1, X, eT, hS, hk, hZ, ho, hEW, hC, N, O'⟩ := W
  obtain ⟨T', X', e', st⟩ := getF X hx hZ ho w via eT F hg hs hd
  exact ⟨T', ⟨locs, k1, X', e', hS, hk, hZ, ho, hEW, hC, N, O'⟩, st⟩
theorem own_getS (W : Wk Z a0 EL own p l e R s m args below meth c vm T h cells slots) (hx : p.tables.exec = Jvm.exec) {R0 O n d host : String} {index : Nat} (w : (Cond.fieldLink own index R0 n d).before a0 Z = true ∨ (Cond.fieldLinkNest own index R0 n d host).before a0 Z = true) (via : Via Z R0 O n d)
    {v : Value} (F : Sta Z Z.heap O n d v) {g : JFrame} (hg : g.method = m) (hd : decode c.code g.pc = .ok (.getstatic index, 3)) :
    ∃ T' : State, Wk Z a0 EL own p l e R s m args below meth c vm T' h cells slots ∧
      ∀ target, Steps p.tables e below (T'.setTop { g with pc := g.pc + 3, stack := v :: g.stack }) target → Steps p.tables e below (T.setTop g) target := by
  obtain ⟨locs, k1, X, eT, hS, hk, hZ, ho, hEW, hC, N, O'⟩ := W
  obtain ⟨T', X', e', st⟩ := getS2 X hx hZ ho w via eT (F.ext O') hg hd
  exact ⟨T', ⟨locs, k1, X', e', hS, hk, hZ, ho, hEW, hC, N, O'⟩, st⟩
theorem own_initO (W : Wk Z a0 EL own p l e R s m args below meth c vm T h cells slots) (hx : p.tables.exec = Jvm.exec) {idx : Nat} (w1 : (Cond.methodLink own idx Lib.objectInit).before a0 Z = true) (w2 : (Cond.instanceMethod Lib.objectInit).before a0 Z = true)
    (w3 : (Cond.code Lib.objectInit ⟨#[0xb1]⟩ 1 none).before a0 Z = true) {g : JFrame} (hg : g.method = m) (hsize : g.locals.size = c.maxLocals) {a : Addr} {rest : List Value} (hs : g.stack = .ref a :: rest) (hd : decode c.code g.pc = .ok (.invokespecial idx, 3))
    (hf : 1 ≤ R.frames) {Wd : Nat} (hW : 2 * g.monitorRoom + (rest.map fun v => v.category).sum ≤ Wd) (hl : Wd + 12 ≤ R.locals) :
    ∃ T' : State, Wk Z a0 EL own p l e R s m args below meth c vm T' h cells slots ∧ ∀ target, Steps p.tables e below (T'.setTop { g with pc := g.pc + 3, stack := rest }) target → Steps p.tables e below (T.setTop g) target := by
  obtain ⟨locs, k1, X, eT, hS, hk, hZ, ho, hEW, hC, N, O'⟩ := W
  obtain ⟨T', X', e', st⟩ := initO X hx hZ ho w1 w2 w3 eT hg hsize hs hd hf hW hl
  exact ⟨T', ⟨locs, k1, X', e', hS, hk, hZ, ho, hEW, hC, N, O'⟩, st⟩
theorem own_ldcI (W : Wk Z a0 EL own p l e R s m args below meth c vm T h cells slots) (hx : p.tables.exec = Jvm.exec) {index : Nat} {v : Int32} (w : (Cond.constant own index v).before a0 Z = true) {g : JFrame} (hg : g.method = m) (hd : decode c.code g.pc = .ok (.ldc index, 2)) :
    ∀ target, Steps p.tables e below (T.setTop { g with pc := g.pc + 2, stack := .int v :: g.stack }) target → Steps p.tables e below (T.setTop g) target := by
  obtain ⟨locs, k1, X, eT, hS, hk, hZ, ho, hEW, hC, N, O'⟩ := W
  exact X.ldcInt hx ho (mv (s := s.setVm vm) hZ w) hg hd
theorem own_alen (W : Wk Z a0 EL own p l e R s m args below meth c vm T h cells slots) (hx : p.tables.exec = Jvm.exec) {a : Addr} {k : ClassId} {ty : FieldType} {z : Int32} {vs : List Value} {dv : Value} (F : Arv Z h a k ty z vs dv) {g : JFrame} (hg : g.method = m) {rest : List Value} (hs : g.stack = .ref a :: rest) (hd : decode c.code g.pc = .ok (.arraylength, 1)) :
    ∀ target, Steps p.tables e below (T.setTop { g with pc := g.pc + 1, stack := .int z :: rest }) target → Steps p.tables e below (T.setTop g) target := by
  obtain ⟨locs, k1, X, eT, hS, hk, hZ, ho, hEW, hC, N, O'⟩ := W
  obtain ⟨cl, A, q1, S, q3, H, U⟩ := F
  intro target q
  have e1 := len_of S q3
  refine X.arraylength hx (by rw [eT]; exact A.1) (State.isArrayOf_alike (T := s.setVm vm) hZ.alike A.2.1) hg hs hd _ ?_
  rw [e1]; exact q
theorem own_cal (W : Wk Z a0 EL own p l e R s m args below meth c vm T h cells slots) (hx : p.tables.exec = Jvm.exec) {a : Addr} {k : ClassId} {z : Int32} {vs : List Value} {dv : Value} (F : Arv Z h a k .char z vs dv) {j x : Int32} (hj : ¬ j < 0 ∧ j < z) (hv : vs.getD j.toNatClampNeg dv = .int x) {g : JFrame} (hg : g.method = m) {rest : List Value} (hs : g.stack = .int j :: .ref a :: rest) (hd : decode c.code g.pc = .ok (.caload, 1)) :
    ∀ target, Steps p.tables e below (T.setTop { g with pc := g.pc + 1, stack := .int x :: rest }) target → Steps p.tables e below (T.setTop g) target := by
  obtain ⟨locs, k1, X, eT, hS, hk, hZ, ho, hEW, hC, N, O'⟩ := W
  obtain ⟨cl, A, q1, S, q3, H, U⟩ := F
  exact X.caload hx (by rw [eT]; exact A.1) (State.isArrayOf_alike (T := s.setVm vm) hZ.alike A.2.1) A.2.2 (inb_of S hj) (H.at (inb_of S hj) hv) hg hs hd
theorem own_bal (W : Wk Z a0 EL own p l e R s m args below meth c vm T h cells slots) (hx : p.tables.exec = Jvm.exec) {a : Addr} {k : ClassId} {z : Int32} {vs : List Value} {dv : Value} (F : Arv Z h a k .byte z vs dv) {j x : Int32} (hj : ¬ j < 0 ∧ j < z) (hv : vs.getD j.toNatClampNeg dv = .int x) {g : JFrame} (hg : g.method = m) {rest : List Value} (hs : g.stack = .int j :: .ref a :: rest) (hd : decode c.code g.pc = .ok (.baload, 1)) :
    ∀ target, Steps p.tables e below (T.setTop { g with pc := g.pc + 1, stack := .int x :: rest }) target → Steps p.tables e below (T.setTop g) target := by
  obtain ⟨locs, k1, X, eT, hS, hk, hZ, ho, hEW, hC, N, O'⟩ := W
  obtain ⟨cl, A, q1, S, q3, H, U⟩ := F
  exact X.baloadBytes hx (by rw [eT]; exact A.1) (State.isArrayOf_alike (T := s.setVm vm) hZ.alike A.2.1) A.2.2 (inb_of S hj) (H.at (inb_of S hj) hv) hg hs hd
theorem own_irem (W : Wk Z a0 EL own p l e R s m args below meth c vm T h cells slots) (hx : p.tables.exec = Jvm.exec) {g : JFrame} (hg : g.method = m) {x y : Int32} {rest : List Value} (hd : decode c.code g.pc = .ok (.irem, 1)) (hs : g.stack = .int y :: .int x :: rest) (hy : y ≠ 0) :
    ∀ target, Steps p.tables e below (T.setTop { g with pc := g.pc + 1, stack := .int (x % y) :: rest }) target → Steps p.tables e below (T.setTop g) target := by
  obtain ⟨locs, k1, X, -⟩ := W
  exact fun _ q => iremM X hx hg hd hs hy q
theorem own_acmp (W : Wk Z a0 EL own p l e R s m args below meth c vm T h cells slots) (hx : p.tables.exec = Jvm.exec) {g : JFrame} (hg : g.method = m) {cd : ACond} {x y : Value} (h1 : x.isRef = true) (h2 : y.isRef = true) {rest : List Value} {o : Int} {pc0 pc' : Nat} {same : Bool} (hpc : g.pc = pc0)
    (hd : decode c.code g.pc = .ok (.if_acmp cd o, 3)) (hs : g.stack = y :: x :: rest) (hq : decide (x = y) = same) (ho : 0 ≤ (pc0 : Int) + o) (hp : pc' = if acV cd same = true then ((pc0 : Int) + o).toNat else pc0 + 3) :
    ∀ target, Steps p.tables e below (T.setTop { g with pc := pc', stack := rest }) target → Steps p.tables e below (T.setTop g) target := by
  obtain ⟨locs, k1, X, -⟩ := W
  exact fun _ q => Jvm.RoadKit.acmp X hx hg h1 h2 hpc hd hs hq ho hp q
theorem own_cast (W : Wk Z a0 EL own p l e R s m args below meth c vm T h cells slots) (hx : p.tables.exec = Jvm.exec) {K : String} {index : Nat} (w : (Cond.classLink own index K).before a0 Z = true) {a : Addr} (F : Ins Z h a K true) {g : JFrame} (hg : g.method = m) {rest : List Value} (hs : g.stack = .ref a :: rest) (hd : decode c.code g.pc = .ok (.checkcast index, 3)) :
    ∃ T' : State, Wk Z a0 EL own p l e R s m args below meth c vm T' h cells slots ∧ ∀ target, Steps p.tables e below (T'.setTop { g with pc := g.pc + 3 }) target → Steps p.tables e below (T.setTop g) target := by
  obtain ⟨locs, k1, X, eT, hS, hk, hZ, ho, hEW, hC, N, O'⟩ := W
  obtain ⟨T', X', e', st⟩ := castY X hx hZ ho w eT F hg hs hd
  exact ⟨T', ⟨locs, k1, X', e', hS, hk, hZ, ho, hEW, hC, N, O'⟩, st⟩
/-- ldc of a String constant, its text read -/
theorem own_ldcR (W : Wk Z a0 EL own p l e R s m args below meth c vm T h cells slots) (hx : p.tables.exec = Jvm.exec) {text : String} {index : Nat} (w : (Cond.stringLink own index text).before a0 Z = true) (wS : ∀ a ∈ Bundle.stringAtoms, a.before a0 Z = true) (hmem : (own, index) ∈ EL)
    {vs : List Value} {z : Int32} (ht : (∀ c ∈ text.toList, c.toNat < 256) ∧ text.toList.map (fun c => Value.int (Jvm.Lit.byteI c.toNat.toUInt16)) = vs) (hz : ¬ z < 0) (hl : z.toNatClampNeg = vs.length)
    {g : JFrame} (hg : g.method = m) (hd : decode c.code g.pc = .ok (.ldc index, 2)) {n : Nat} (hn : 4 * text.toList.length ≤ n) (hbig : n ≤ 536870912) (hc : cells + 2 ≤ R.cells) (hl' : slots + (n + 4) ≤ R.slots) :
    ∃ (a : Addr) (b : Addr) (k : ClassId) (vm' : Vm) (T' : State) (h' : Heap), Wk Z a0 EL own p l e R s m args below meth c vm' T' h' (cells + 2) (slots + (n + 4)) ∧ Ext h h' ∧ CHr Z EL vm h vm' h' ∧
      Exa Z h' a "java/lang/String" ∧ Fld Z h' a "java/lang/String" "coder" "B" (.int 0) ∧ Fld Z h' a "java/lang/String" "value" "[B" (.ref b) ∧ Arv Z h' b k .byte z vs (.int 0) ∧ (∀ x, Safe Z EL vm' h' x → x ≠ a ∧ x ≠ b) ∧
      ∀ target, Steps p.tables e below (T'.setTop { g with pc := g.pc + 2, stack := .ref a :: g.stack }) target → Steps p.tables e below (T.setTop g) target := by
  obtain ⟨locs, k1, X, eT, hS, hk, hZ, ho, hEW, hC, N, O'⟩ := W
  obtain ⟨a, T', h', k2, b, k, X', e', E, hS', hk', hZ', ho', f1, f2, f3, f4, -, -, hC', -, hne, st⟩ := ldcCH X hx hZ ho w wS eT hS hk hEW hmem hC.1 ht hz hl hg hd hn hbig hc hl'
  exact ⟨a, b, k, T'.vm, T', h', ⟨locs, k2, X', e', hS', hk', hZ', ho', hEW, hC.trans hC', N, own_xt O' E⟩, E, hC', f1, f2, f3, f4, hne, st⟩
/-- ldc of a String constant, unread -/
theorem own_ldcO (W : Wk Z a0 EL own p l e R s m args below meth c vm T h cells slots) (hx : p.tables.exec = Jvm.exec) {text : String} {index : Nat} (w : (Cond.stringLink own index text).before a0 Z = true) (wS : ∀ a ∈ Bundle.stringAtoms, a.before a0 Z = true)
    {g : JFrame} (hg : g.method = m) (hd : decode c.code g.pc = .ok (.ldc index, 2)) {n : Nat} (hn : 4 * text.toList.length ≤ n) (hbig : n ≤ 536870912) (hc : cells + 2 ≤ R.cells) (hl' : slots + (n + 4) ≤ R.slots) :
    ∃ (a : Addr) (vm' : Vm) (T' : State) (h' : Heap), Wk Z a0 EL own p l e R s m args below meth c vm' T' h' (cells + 2) (slots + (n + 4)) ∧ Ext h h' ∧ CHr Z EL vm h vm' h' ∧
      ∀ target, Steps p.tables e below (T'.setTop { g with pc := g.pc + 2, stack := .ref a :: g.stack }) target → Steps p.tables e below (T.setTop g) target := by
  obtain ⟨locs, k1, X, eT, hS, hk, hZ, ho, hEW, hC, N, O'⟩ := W
  obtain ⟨a, T', h', k2, X', e', E, hS', hk', hZ', ho', hC', -, st⟩ := ldcOH X hx hZ ho w wS eT hS hk hEW hC.1 hg hd hn hbig hc hl'
  exact ⟨a, T'.vm, T', h', ⟨locs, k2, X', e', hS', hk', hZ', ho', hEW, hC.trans hC', N, own_xt O' E⟩, E, hC', st⟩
/-- a method's contract, at a heap -/
def Ct (l : Launch) (Z : State) (a0 : Array Value) (EL : List (String × Nat)) (y : MethodName) (bytes : ByteArray) (maxL : Nat) (ret : Option FieldType) (ws : List Jvm.Cond) (rm : Room) (as' : Array Value) (h : Heap) (sf : List Addr) (Q : Option Value → Heap → List Addr → Prop) : Prop :=
  Ext Z.heap h → MetFree l y (head1 (Cond.code y bytes maxL ret :: ws) rm) (fun a U => a = as' ∧ Z.Warmed39 U.vm ∧ U.heap = h ∧ CHv Z EL U.vm h ∧ ∀ x ∈ sf, Safe Z EL U.vm h x) (fun _ _ _ _ _ => True)
    (fun _ U o U' => ∃ v L so, o = .returned v ∧ Q v U'.heap so ∧ Fr Z.heap.size L ∧ Ext Z.heap U'.heap ∧ CHr Z EL U.vm U.heap U'.vm U'.heap ∧ (∀ x ∈ so, Safe Z EL U'.vm U'.heap x) ∧ ReturnedEndW U o U' L rm.cells rm.slots)
theorem own_safeAt {locs : List Loc} (Y : Stand p l e R (s.setVm vm) m args below meth c T locs cells slots) (hZ : Z.Warmed39 vm) (hEW : EW Z a0 EL) (H : CHv Z EL vm h) {x : Addr} (S : Safe Z EL vm h x) : Safe Z EL T.vm h x := fun B => by
  rcases (CHv.at Y hZ hEW H).2.2 x B with q | q
  · exact S q
  · obtain ⟨cell, r⟩ := B.there
    have := (Array.getElem?_eq_some_iff.mp r).1; omega
theorem own_backS {y : MethodName} {bytes : ByteArray} {maxL : Nat} {ret : Option FieldType} {rm : Room} {len Wd : Nat} {as' : Array Value} {sf : List Addr} {Q : Option Value → Heap → List Addr → Prop} (O : Ext Z.heap h)
    (hM : Ct l Z a0 EL y bytes maxL ret [] rm as' h sf Q)
    (hZ : Z.Warmed39 vm) (wc : (Cond.code y bytes maxL ret).before a0 Z = true) (wz : (Cond.initialized y.cls).before a0 Z = true) (hf : rm.frames + 1 ≤ R.frames) (hl : Wd + (maxL + 11) + rm.locals ≤ R.locals) (hEL : EW Z a0 EL) (H : CHv Z EL vm h) (hsf : ∀ x ∈ sf, Safe Z EL vm h x) :
    BackS l R p e below (s.setVm vm) args y len Wd (fun A a => a = as' ∧ A.U.heap = h ∧ A.cells + rm.cells ≤ R.cells ∧ A.slots + rm.slots ≤ R.slots)
      (fun A _ v B => ∃ L so, Q v B.U.heap so ∧ Fr Z.heap.size L ∧ Ext Z.heap B.U.heap ∧ B.locs = A.locs ++ L ∧ B.cells = A.cells + rm.cells ∧ B.slots = A.slots + rm.slots ∧ CHr Z EL vm h B.U.vm B.U.heap ∧ ∀ x ∈ so, Safe Z EL B.U.vm B.U.heap x) :=
  BackS.of_freeW (bytes := bytes) (maxL := maxL) (ret := ret) (E := fun _ first o t L k n => k = rm.cells ∧ n = rm.slots ∧ (∃ v so, o = .returned v ∧ Q v t.heap so ∧ Fr Z.heap.size L ∧ Ext Z.heap t.heap ∧ ∀ x ∈ so, Safe Z EL t.vm t.heap x) ∧ CHr Z EL first.vm first.heap t.vm t.heap) (hM O) hf hl
    (fun m meth c A a Y hp => have hU : Z.Warmed39 A.U.vm := wtrans (s := s.setVm vm) hZ Y.warmed
      ⟨by show (Cond.and _ .tt).before a A.U = true; rw [Cond.before_and, mv hU wc]; rfl, mv hU wc, mv hU wz, hp.2.2.1, hp.2.2.2⟩)
    (fun m meth c A a g mk Y hp => ⟨hp.1, wtrans (s := s.setVm vm) hZ Y.warmed, hp.2.1, (CHv.at Y hZ hEL H).1, fun x hx => own_safeAt Y hZ hEL H (hsf x hx)⟩) (fun _ _ _ _ _ _ _ _ _ => trivial)
    (fun _ _ _ _ ⟨v, L, so, h1, h2, h3, h4, h5, h7, h6⟩ => ⟨L, _, _, h6, rfl, rfl, ⟨v, so, h1, h2, h3, h4, h7⟩, h5⟩)
    (fun m meth c A a g mk v t L k n Y hp _ _ ⟨e1, e2, ⟨v', so, e3, e4, e5, e6, e8⟩, e7⟩ => by
      cases e3; subst e1 e2
      refine ⟨L, so, e4, e5, e6, rfl, rfl, rfl, (CHv.at Y hZ hEL H).trans ?_, e8⟩
      rw [← hp.2.1]; exact e7)
theorem own_mkB {B : Pt} {L locs : List Loc} {k : Nat} {kc ks : Nat} (X : Stand p l e R ((s.setVm vm).setVm B.U.vm) m args below meth c B.U B.locs B.cells B.slots) (h2 : (s.setVm vm).Since B.U.vm B.U.heap.size) (hg : h.size ≤ B.U.heap.size) (hS : s.Since vm k) (hk : k ≤ h.size) (hZ : Z.Warmed39 vm) (ho : vm.findClass own = some m.cls) (hEW : EW Z a0 EL) (hC : CHr Z EL s.vm s.heap vm h) (N : Fr Z.heap.size locs)
    (hL : Fr Z.heap.size L) (O' : Ext Z.heap B.U.heap) (e1 : B.locs = locs ++ L) (e2 : B.cells = kc) (e3 : B.slots = ks) (hC' : CHr Z EL vm h B.U.vm B.U.heap) :
    Wk Z a0 EL own p l e R s m args below meth c B.U.vm B.U B.U.heap kc ks := by
  obtain ⟨X', hS', hZ', ho'⟩ := rebS hS hk X h2 hg hZ ho
  subst e2 e3
  exact ⟨B.locs, _, X', rfl, hS', Nat.le_refl _, hZ', ho', hEW, hC.trans hC', by rw [e1]; exact N.app hL, O'⟩
theorem own_static (W : Wk Z a0 EL own p l e R s m args below meth c vm T h cells slots) (hx : p.tables.exec = Jvm.exec) {index : Nat} {y : MethodName} {bytes : ByteArray} {maxL : Nat} {ret : Option FieldType} {rm : Room} {as' : Array Value} {sf : List Addr} {Q : Option Value → Heap → List Addr → Prop}
    (w1 : (Cond.methodLink own index y).before a0 Z = true) (w2 : (Cond.static y).before a0 Z = true) (w3 : (Cond.initialized y.cls).before a0 Z = true) (w4 : (Cond.code y bytes maxL ret).before a0 Z = true) (hy : y.cls ≠ "java/lang/invoke/MethodHandle" ∧ y.cls ≠ "java/lang/invoke/VarHandle")
    (hM : Ct l Z a0 EL y bytes maxL ret [] rm as' h sf Q) (hsf : ∀ x ∈ sf, Safe Z EL vm h x) {Wd : Nat} (hf : rm.frames + 1 ≤ R.frames) (hlo : Wd + (maxL + 11) + rm.locals ≤ R.locals) (hce : cells + rm.cells ≤ R.cells) (hsl : slots + rm.slots ≤ R.slots)
    {g : JFrame} (hg : g.method = m) (hsize : g.locals.size = c.maxLocals) {argsL rest : List Value} (hlen : ∀ sig, parseMethodDescriptor y.desc = some sig → argsL.length = sig.parameters.length) (hstack : g.stack = argsL.reverse ++ rest) (has : argsL.toArray = as') (hW : 2 * g.monitorRoom + (rest.map fun v => v.category).sum ≤ Wd)
    (hdg : decode c.code g.pc = .ok (.invokestatic index, 3)) :
    ∃ (v : Option Value) (so : List Addr) (vm' : Vm) (T' : State) (h' : Heap), Wk Z a0 EL own p l e R s m args below meth c vm' T' h' (cells + rm.cells) (slots + rm.slots) ∧ CHr Z EL vm h vm' h' ∧ Q v h' so ∧ (∀ x ∈ so, Safe Z EL vm' h' x) ∧
      ∀ target, Steps p.tables e below (T'.setTop { g with pc := g.pc + 3, stack := v.toList ++ rest }) target → Steps p.tables e below (T.setTop g) target := by
  obtain ⟨locs, k1, X, eT, hS, hk, hZ, ho, hEW, hC, N, O'⟩ := W
  subst eT
  obtain ⟨v, vm1, B, -, X', h2, hg2, ⟨L, so, hQ, hL, O2, e1, e2, e3, hC', hso⟩, st⟩ := callSS X hx ho (mv (s := s.setVm vm) hZ w1) (mv (s := s.setVm vm) hZ w2) (mv (s := s.setVm vm) hZ w3) (mv (s := s.setVm vm) hZ w4) hy (own_backS O' hM hZ w4 w3 hf hlo hEW hC.1 hsf) hg hsize hlen hstack hW hdg (fun _ _ => ⟨has, rfl, hce, hsl⟩)
  exact ⟨v, so, _, B.U, _, own_mkB X' h2 hg2 hS hk hZ ho hEW hC N hL O2 e1 e2 e3 hC', hC', hQ, hso, fun _ q => st.trans q⟩
theorem own_special (W : Wk Z a0 EL own p l e R s m args below meth c vm T h cells slots) (hx : p.tables.exec = Jvm.exec) {index : Nat} {y : MethodName} {bytes : ByteArray} {maxL : Nat} {rm : Room} {as' : Array Value} {sf : List Addr} {Q : Option Value → Heap → List Addr → Prop} (hy1 : y.name = "<init>")
    (w1 : (Cond.methodLink own index y).before a0 Z = true) (w2 : (Cond.instanceMethod y).before a0 Z = true) (w3 : (Cond.initialized y.cls).before a0 Z = true) (w4 : (Cond.code y bytes maxL none).before a0 Z = true) (hy : y.cls ≠ "java/lang/invoke/MethodHandle" ∧ y.cls ≠ "java/lang/invoke/VarHandle")
    (hM : Ct l Z a0 EL y bytes maxL none [] rm as' h sf Q) (hsf : ∀ x ∈ sf, Safe Z EL vm h x) {Wd : Nat} (hf : rm.frames + 1 ≤ R.frames) (hlo : Wd + (maxL + 11) + rm.locals ≤ R.locals) (hce : cells + rm.cells ≤ R.cells) (hsl : slots + rm.slots ≤ R.slots)
    {g : JFrame} (hg : g.method = m) (hsize : g.locals.size = c.maxLocals) {a : Addr} {argsL rest : List Value} (hlen : ∀ sig, parseMethodDescriptor y.desc = some sig → argsL.length = sig.parameters.length) (hstack : g.stack = argsL.reverse ++ .ref a :: rest) (has : (.ref a :: argsL).toArray = as') (hW : 2 * g.monitorRoom + (rest.map fun v => v.category).sum ≤ Wd)
    (hdg : decode c.code g.pc = .ok (.invokespecial index, 3)) :
    ∃ (v : Option Value) (so : List Addr) (vm' : Vm) (T' : State) (h' : Heap), Wk Z a0 EL own p l e R s m args below meth c vm' T' h' (cells + rm.cells) (slots + rm.slots) ∧ CHr Z EL vm h vm' h' ∧ Q v h' so ∧ (∀ x ∈ so, Safe Z EL vm' h' x) ∧
      ∀ target, Steps p.tables e below (T'.setTop { g with pc := g.pc + 3, stack := v.toList ++ rest }) target → Steps p.tables e below (T.setTop g) target := by
  obtain ⟨locs, k1, X, eT, hS, hk, hZ, ho, hEW, hC, N, O'⟩ := W
  subst eT
  obtain ⟨v, vm1, B, -, X', h2, hg2, ⟨L, so, hQ, hL, O2, e1, e2, e3, hC', hso⟩, st⟩ := X.specialBackS hx hy1 ho (mv (s := s.setVm vm) hZ w1) (mv (s := s.setVm vm) hZ w2) (mv (s := s.setVm vm) hZ w4) hy (own_backS O' hM hZ w4 w3 hf hlo hEW hC.1 hsf) hg hsize (Steps.refl _) hlen hstack hW hdg (fun _ _ => ⟨has, rfl, hce, hsl⟩)
  exact ⟨v, so, _, B.U, _, own_mkB X' h2 hg2 hS hk hZ ho hEW hC N hL O2 e1 e2 e3 hC', hC', hQ, hso, fun _ q => st.trans q⟩
theorem own_virtual (W : Wk Z a0 EL own p l e R s m args below meth c vm T h cells slots) (hx : p.tables.exec = Jvm.exec) {index : Nat} {C : String} {y z : MethodName} {bytes : ByteArray} {maxL : Nat} {ret : Option FieldType} {rm : Room} {as' : Array Value} {sf : List Addr} {Q : Option Value → Heap → List Addr → Prop}
    (w1 : (Cond.methodLink own index y).before a0 Z = true) (w2 : (Cond.declares y).before a0 Z = true) (w5 : (Cond.selects C y z).before a0 Z = true) (w6 : (Cond.instanceMethod z).before a0 Z = true) (w3 : (Cond.initialized z.cls).before a0 Z = true) (w4 : (Cond.code z bytes maxL ret).before a0 Z = true) (hy : y.cls ≠ "java/lang/invoke/MethodHandle" ∧ y.cls ≠ "java/lang/invoke/VarHandle") (hnf : NotFace (s.setVm vm) y)
    {a : Addr} (E : Exa Z h a C)
    (hM : Ct l Z a0 EL z bytes maxL ret [] rm as' h sf Q) (hsf : ∀ x ∈ sf, Safe Z EL vm h x) {Wd : Nat} (hf : rm.frames + 1 ≤ R.frames) (hlo : Wd + (maxL + 11) + rm.locals ≤ R.locals) (hce : cells + rm.cells ≤ R.cells) (hsl : slots + rm.slots ≤ R.slots)
    {g : JFrame} (hg : g.method = m) (hsize : g.locals.size = c.maxLocals) {argsL rest : List Value} (hlen : ∀ sig, parseMethodDescriptor y.desc = some sig → argsL.length = sig.parameters.length) (hstack : g.stack = argsL.reverse ++ .ref a :: rest) (has : (.ref a :: argsL).toArray = as') (hW : 2 * g.monitorRoom + (rest.map fun v => v.category).sum ≤ Wd)
    (hdg : decode c.code g.pc = .ok (.invokevirtual index, 3)) :
    ∃ (v : Option Value) (so : List Addr) (vm' : Vm) (T' : State) (h' : Heap), Wk Z a0 EL own p l e R s m args below meth c vm' T' h' (cells + rm.cells) (slots + rm.slots) ∧ CHr Z EL vm h vm' h' ∧ Q v h' so ∧ (∀ x ∈ so, Safe Z EL vm' h' x) ∧
      ∀ target, Steps p.tables e below (T'.setTop { g with pc := g.pc + 3, stack := v.toList ++ rest }) target → Steps p.tables e below (T.setTop g) target := by
  obtain ⟨locs, k1, X, eT, hS, hk, hZ, ho, hEW, hC, N, O'⟩ := W
  obtain ⟨cB, kB, q1, q2, q3⟩ := isOf (s := s.setVm vm) hZ eT E
  subst eT
  obtain ⟨v, vm1, B, -, X', h2, hg2, ⟨L, so, hQ, hL, O2, e1, e2, e3, hC', hso⟩, st⟩ := X.virtualBackS hx ho (mv (s := s.setVm vm) hZ w1) (mv (s := s.setVm vm) hZ w2) hnf (mv (s := s.setVm vm) hZ w5) (mv (s := s.setVm vm) hZ w6) hy (own_backS O' hM hZ w4 w3 hf hlo hEW hC.1 hsf) q1 q3 hg hsize (Steps.refl _) hlen hstack hW hdg (fun _ _ => ⟨has, rfl, hce, hsl⟩)
  exact ⟨v, so, _, B.U, _, own_mkB X' h2 hg2 hS hk hZ ho hEW hC N hL O2 e1 e2 e3 hC', hC', hQ, hso, fun _ q => st.trans q⟩
/-- that the class of a method that its own class selects is no interface -/
theorem own_nf (W : Wk Z a0 EL own p l e R s m args below meth c vm T h cells slots) {C : String} {y : MethodName} (w : (Cond.selects C y y).before a0 Z = true) : NotFace (s.setVm vm) y := by
  obtain ⟨locs, k1, X, eT, hS, hk, hZ, ho, hEW, hC, N, O'⟩ := W
  exact notFace_of_selects (args := #[]) (mv (s := s.setVm vm) hZ w)
/-- a callee of the library that leaves the tables, as a Back -/
theorem own_mkK {B : Pt} {L locs : List Loc} {k : Nat} {kc ks : Nat} {ws : List Addr} (X : Stand p l e R (s.setVm vm) m args below meth c B.U B.locs B.cells B.slots) (hS : s.Since vm k) (hk : k ≤ h.size) (hZ : Z.Warmed39 vm) (ho : vm.findClass own = some m.cls) (hEW : EW Z a0 EL) (hC : CHr Z EL s.vm s.heap vm h) (N : Fr Z.heap.size locs) (O' : Ext Z.heap h)
    (hL : Fr Z.heap.size L) (K : Keep h B.U.heap ws) (hs : ∀ x ∈ ws, Safe Z EL vm h x) (hn : ∀ x ∈ ws, Z.heap.size ≤ x) (e1 : B.locs = locs ++ L) (e2 : B.cells = kc) (e3 : B.slots = ks) :
    Wk Z a0 EL own p l e R s m args below meth c vm B.U B.U.heap kc ks := by
  subst e2 e3
  exact ⟨B.locs, k, X, rfl, hS, Nat.le_trans hk K.1, hZ, ho, hEW, hC.trans (CHr.keep K hs hC.1), by rw [e1]; exact N.app hL, own_xk O' K hn⟩
/-- an instance method that the library pays by a Back -/
theorem own_virtB (W : Wk Z a0 EL own p l e R s m args below meth c vm T h cells slots) (hx : p.tables.exec = Jvm.exec) {index : Nat} {C : String} {y z : MethodName} {kc ks : Nat} {as' : Array Value} {ws : List Addr} {Q : Option Value → Heap → List Loc → Prop}
    (w1 : (Cond.methodLink own index y).before a0 Z = true) (w2 : (Cond.declares y).before a0 Z = true) (w5 : (Cond.selects C y z).before a0 Z = true) (w6 : (Cond.instanceMethod z).before a0 Z = true) (hy : y.cls ≠ "java/lang/invoke/MethodHandle" ∧ y.cls ≠ "java/lang/invoke/VarHandle") (hnf : NotFace (s.setVm vm) y)
    {a : Addr} (E : Exa Z h a C) {Wd : Nat}
    (hK : ∀ s' : State, Z.Warmed39 s'.vm → Back l R p e below s' args z 3 Wd (fun P a => a = as' ∧ P.U.heap = h ∧ P.cells + kc ≤ R.cells ∧ P.slots + ks ≤ R.slots) (fun P _ v B => ∃ L, Q v B.U.heap L ∧ B.locs = P.locs ++ L ∧ B.cells = P.cells + kc ∧ B.slots = P.slots + ks))
    (hQ : ∀ v h' L, Q v h' L → Fr Z.heap.size L ∧ Keep h h' ws) (hs : ∀ x ∈ ws, Safe Z EL vm h x) (hn : ∀ x ∈ ws, Z.heap.size ≤ x) (hce : cells + kc ≤ R.cells) (hsl : slots + ks ≤ R.slots)
    {g : JFrame} (hg : g.method = m) (hsize : g.locals.size = c.maxLocals) {argsL rest : List Value} (hlen : ∀ sig, parseMethodDescriptor y.desc = some sig → argsL.length = sig.parameters.length) (hstack : g.stack = argsL.reverse ++ .ref a :: rest) (has : (.ref a :: argsL).toArray = as') (hW : 2 * g.monitorRoom + (rest.map fun v => v.category).sum ≤ Wd)
    (hdg : decode c.code g.pc = .ok (.invokevirtual index, 3)) :
    ∃ (v : Option Value) (T' : State) (h' : Heap) (L : List Loc), Wk Z a0 EL own p l e R s m args below meth c vm T' h' (cells + kc) (slots + ks) ∧ Q v h' L ∧
      ∀ target, Steps p.tables e below (T'.setTop { g with pc := g.pc + 3, stack := v.toList ++ rest }) target → Steps p.tables e below (T.setTop g) target := by
  obtain ⟨locs, k1, X, eT, hS, hk, hZ, ho, hEW, hC, N, O'⟩ := W
  obtain ⟨cB, kB, q1, q2, q3⟩ := isOf (s := s.setVm vm) hZ eT E
  obtain ⟨v, vm1, B, -, X', ⟨L, hq, e1, e2, e3⟩, st⟩ := X.virtualBack hx ho (mv (s := s.setVm vm) hZ w1) (mv (s := s.setVm vm) hZ w2) hnf (mv (s := s.setVm vm) hZ w5) (mv (s := s.setVm vm) hZ w6) hy (hK _ hZ) q1 q3 hg hsize (Steps.refl _) hlen hstack hW hdg (fun _ _ => ⟨has, eT, hce, hsl⟩)
  obtain ⟨hL, K⟩ := hQ _ _ _ hq
  exact ⟨v, B.U, _, L, own_mkK X' hS hk hZ ho hEW hC N O' hL K hs hn e1 e2 e3, hq, fun _ q => st.trans q⟩
/-- a constructor that the library pays by a Back -/
theorem own_specB (W : Wk Z a0 EL own p l e R s m args below meth c vm T h cells slots) (hx : p.tables.exec = Jvm.exec) {index : Nat} {y : MethodName} {bytes : ByteArray} {maxL kc ks : Nat} {as' : Array Value} {ws : List Addr} {Q : Option Value → Heap → List Loc → Prop} (hy1 : y.name = "<init>")
    (w1 : (Cond.methodLink own index y).before a0 Z = true) (w2 : (Cond.instanceMethod y).before a0 Z = true) (w4 : (Cond.code y bytes maxL none).before a0 Z = true) (hy : y.cls ≠ "java/lang/invoke/MethodHandle" ∧ y.cls ≠ "java/lang/invoke/VarHandle") {Wd : Nat}
    (hK : ∀ s' : State, Z.Warmed39 s'.vm → Back l R p e below s' args y 3 Wd (fun P a => a = as' ∧ P.U.heap = h ∧ P.cells + kc ≤ R.cells ∧ P.slots + ks ≤ R.slots) (fun P _ v B => ∃ L, Q v B.U.heap L ∧ B.locs = P.locs ++ L ∧ B.cells = P.cells + kc ∧ B.slots = P.slots + ks))
    (hQ : ∀ v h' L, Q v h' L → Fr Z.heap.size L ∧ Keep h h' ws) (hs : ∀ x ∈ ws, Safe Z EL vm h x) (hn : ∀ x ∈ ws, Z.heap.size ≤ x) (hce : cells + kc ≤ R.cells) (hsl : slots + ks ≤ R.slots)
    {g : JFrame} (hg : g.method = m) (hsize : g.locals.size = c.maxLocals) {a : Addr} {argsL rest : List Value} (hlen : ∀ sig, parseMethodDescriptor y.desc = some sig → argsL.length = sig.parameters.length) (hstack : g.stack = argsL.reverse ++ .ref a :: rest) (has : (.ref a :: argsL).toArray = as') (hW : 2 * g.monitorRoom + (rest.map fun v => v.category).sum ≤ Wd)
    (hdg : decode c.code g.pc = .ok (.invokespecial index, 3)) :
    ∃ (v : Option Value) (T' : State) (h' : Heap) (L : List Loc), Wk Z a0 EL own p l e R s m args below meth c vm T' h' (cells + kc) (slots + ks) ∧ Q v h' L ∧
      ∀ target, Steps p.tables e below (T'.setTop { g with pc := g.pc + 3, stack := v.toList ++ rest }) target → Steps p.tables e below (T.setTop g) target := by
  obtain ⟨locs, k1, X, eT, hS, hk, hZ, ho, hEW, hC, N, O'⟩ := W
  obtain ⟨v, vm1, B, -, X', ⟨L, hq, e1, e2, e3⟩, st⟩ := X.specialBack hx hy1 ho (mv (s := s.setVm vm) hZ w1) (mv (s := s.setVm vm) hZ w2) (mv (s := s.setVm vm) hZ w4) hy (hK _ hZ) hg hsize (Steps.refl _) hlen hstack hW hdg (fun _ _ => ⟨has, eT, hce, hsl⟩)
  obtain ⟨hL, K⟩ := hQ _ _ _ hq
  exact ⟨v, B.U, _, L, own_mkK X' hS hk hZ ho hEW hC N O' hL K hs hn e1 e2 e3, hq, fun _ q => st.trans q⟩
/-- System.arraycopy between two primitive arrays -/
theorem own_cp (W : Wk Z a0 EL own p l e R s m args below meth c vm T h cells slots) (hx : p.tables.exec = Jvm.exec) {index : Nat} (w1 : (Cond.methodLink own index Jvm.Stand.acN).before a0 Z = true) (w2 : (Cond.native Jvm.Stand.acN).before a0 Z = true) (w3 : (Cond.static Jvm.Stand.acN).before a0 Z = true) (w4 : (Cond.initialized "java/lang/System").before a0 Z = true)
    {a b : Addr} {k k' : ClassId} {ty : FieldType} {z z' sp dp nn : Int32} {vs vd us : List Value} {dv dd : Value} (A : Arv Z h a k ty z vs dv) (B : Arv Z h b k' ty z' vd dd) (hty : refKind ty = false) (Sf : Safe Z EL vm h b)
    (h1 : ¬ sp < 0) (h2 : ¬ dp < 0) (h3 : ¬ nn < 0) (h4 : sp.toNatClampNeg + nn.toNatClampNeg ≤ z.toNatClampNeg) (h5 : dp.toNatClampNeg + nn.toNatClampNeg ≤ z'.toNatClampNeg)
    (hus : us = (List.range nn.toNatClampNeg).map fun i => vs.getD (sp.toNatClampNeg + i) dv) (hl : dp.toNatClampNeg + nn.toNatClampNeg ≤ vd.length) (ge : Z.heap.size ≤ b)
    {g : JFrame} (hg : g.method = m) (hsize : g.locals.size = c.maxLocals) {rest : List Value} (hs : g.stack = .int nn :: .int dp :: .ref b :: .int sp :: .ref a :: rest) (hd : decode c.code g.pc = .ok (.invokestatic index, 3))
    (hf : 1 ≤ R.frames) {Wd : Nat} (hW : 2 * g.monitorRoom + (rest.map fun v => v.category).sum ≤ Wd) (hlo : Wd + (nativeFrameWords "java/lang/System" "arraycopy" 5 + 11) ≤ R.locals) :
    ∃ (T' : State) (h' : Heap), Wk Z a0 EL own p l e R s m args below meth c vm T' h' cells slots ∧ Keep h h' [b] ∧ Arv Z h' b k' ty z' (vd.take dp.toNatClampNeg ++ us ++ vd.drop (dp.toNatClampNeg + nn.toNatClampNeg)) dd ∧
      ∀ target, Steps p.tables e below (T'.setTop { g with pc := g.pc + 3, stack := rest }) target → Steps p.tables e below (T.setTop g) target := by
  obtain ⟨locs, k1, X, eT, hS, hk, hZ, ho, hEW, hC, N, O'⟩ := W
  obtain ⟨T', h', L, X', e', N', K, V, st⟩ := cpA X hx hZ ho w1 w2 w3 w4 eT A B (Or.inl ⟨rfl, hty⟩) h1 h2 h3 h4 h5 hus hl N ge hg hsize hs hd hf hW hlo
  exact ⟨T', h', ⟨L, k1, X', e', hS, Nat.le_trans hk K.1, hZ, ho, hEW, hC.trans (CHr.keep K (allS Sf all0) hC.1), N', own_xk O' K (allS ge all0)⟩, K, V, st⟩
theorem own_cat {v : Value} (h : v.isRef = true) : v.category = 1 := by rcases ref_cases h with rfl | ⟨_, rfl⟩ <;> rfl
theorem own_nrR {v : Value} {t : FieldType} (h : v.isRef = true) (ht : t.isReference = true) : narrow t v = v := by rcases ref_cases h with rfl | ⟨_, rfl⟩ <;> cases t <;> first | rfl | cases ht
theorem own_ftR {v : Value} {t : FieldType} (h : v.isRef = true) (ht : t.isReference = true) : fits t v = true := by rcases ref_cases h with rfl | ⟨_, rfl⟩ <;> cases t <;> first | rfl | cases ht
theorem own_up {x : Int32} (h : ¬ x < 0 ∧ ¬ (255 : Int32) < x) : ¬ x < 0 ∧ ¬ (65535 : Int32) < x := ⟨h.1, fun q => h.2 (by rw [Int32.lt_iff_toInt_lt] at q ⊢; have e1 : (65535 : Int32).toInt = 65535 := rfl; have e2 : (255 : Int32).toInt = 255 := rfl; omega)⟩
theorem own_retV (W : Wk Z a0 EL own p l e R s m args below meth c vm T h cells slots) (hx : p.tables.exec = Jvm.exec) {pc : Nat} {Ls : Array Slot} (hret : meth.sig.returnType = none) (hd : decode c.code pc = .ok (.return_, 1)) :
    ∀ fs : List Frame, (∀ (f : JFrame) (acts : List Action), f.method = m → f.locked = none → f.entered = [] → (doReturn e (T.setTop f) acts none).1 = T.setFrames fs) → Steps p.tables e below (T.setTop (mkF m pc Ls [])) (T.setFrames fs) := by
  obtain ⟨locs, k1, X, -⟩ := W
  exact fun fs hr => X.returnOut hx hret hd hr
theorem own_retI (W : Wk Z a0 EL own p l e R s m args below meth c vm T h cells slots) (hx : p.tables.exec = Jvm.exec) {pc : Nat} {Ls : Array Slot} {z : Int32} {rest : List Value} {t : FieldType} (hret : meth.sig.returnType = some t) (ht : t = .int ∨ t = .boolean ∨ t = .byte ∨ t = .char ∨ t = .short) (hn : narrow t (.int z) = .int z) (hd : decode c.code pc = .ok (.ireturn, 1)) :
    ∀ fs : List Frame, (∀ (f : JFrame) (acts : List Action), f.method = m → f.locked = none → f.entered = [] → (doReturn e (T.setTop f) acts (some (.int z))).1 = T.setFrames fs) → Steps p.tables e below (T.setTop (mkF m pc Ls (.int z :: rest))) (T.setFrames fs) := by
  obtain ⟨locs, k1, X, -⟩ := W
  exact fun fs hr => retOut X hx hret hn (Or.inl ⟨rfl, ht, z, rfl⟩) hd hr
theorem own_retA (W : Wk Z a0 EL own p l e R s m args below meth c vm T h cells slots) (hx : p.tables.exec = Jvm.exec) {pc : Nat} {Ls : Array Slot} {w : Value} {rest : List Value} {t : FieldType} (hret : meth.sig.returnType = some t) (ht : t.isReference = true) (hw : w.isRef = true) (hn : narrow t w = w) (hd : decode c.code pc = .ok (.areturn, 1)) :
    ∀ fs : List Frame, (∀ (f : JFrame) (acts : List Action), f.method = m → f.locked = none → f.entered = [] → (doReturn e (T.setTop f) acts (some w)).1 = T.setFrames fs) → Steps p.tables e below (T.setTop (mkF m pc Ls (w :: rest))) (T.setFrames fs) := by
  obtain ⟨locs, k1, X, -⟩ := W
  exact fun fs hr => retOut X hx hret hn (Or.inr (Or.inr (Or.inr (Or.inr ⟨rfl, ht, hw⟩)))) hd hr
theorem own_enter {y : MethodName} {bytes : ByteArray} {maxL : Nat} {ret : Option FieldType} {ws : List Jvm.Cond} {rm : Room} {as' : Array Value} {sf : List Addr} {Q : Option Value → Heap → List Addr → Prop} {F0 : MethodId → JFrame} (hp : plainFor y = true) (hEW : EW Z a0 EL) (ef : ∀ m, entryFrame m as' maxL = F0 m)
    (body : ∀ (p : Program) (e : Env) (s : State) (m : MethodId) (below : List Frame) (meth : Method) (c : Code) (s₁ : State) (G : State → JFrame → Prop), p.tables.exec = Jvm.exec → c.code = bytes → c.maxLocals = maxL → meth.sig.returnType = ret → meth.name = y.name →
      Wk Z a0 EL y.cls p l e rm s m as' below meth c s.vm s₁ h 0 0 → (∀ x ∈ sf, Safe Z EL s.vm h x) →
      (∀ {T T' : State} {g g' : JFrame}, (∀ target, Steps p.tables e below (T'.setTop g') target → Steps p.tables e below (T.setTop g) target) → G T' g' → G T g) →
      (∀ {v : Option Value} {so : List Addr} {vm : Vm} {T : State} {h' : Heap} {cells slots : Nat} {g : JFrame}, Wk Z a0 EL y.cls p l e rm s m as' below meth c vm T h' cells slots → cells ≤ rm.cells → slots ≤ rm.slots → Q v h' so → (∀ x ∈ so, Safe Z EL vm h' x) → (ret = none → v = none) →
        (∀ fs : List Frame, (∀ (f : JFrame) (acts : List Action), f.method = m → f.locked = none → f.entered = [] → (doReturn e (T.setTop f) acts v).1 = T.setFrames fs) → Steps p.tables e below (T.setTop g) (T.setFrames fs)) → G T g) →
      G s₁ (F0 m)) : Ct l Z a0 EL y bytes maxL ret ws rm as' h sf Q := by
  intro hE
  refine MetFree.of_bodySF hp hisR ?_
  intro p e s m args below meth c s₁ Bd hml0 hP hK
  obtain ⟨rfl, hZ, hh, hC, hS⟩ := hP
  have X0 : Stand p l e rm s m args below meth c s₁ [] 0 0 := Stand.of_body Bd
  have e0 : s₁.heap = h := by rw [← hh, Bd.state]; rfl
  have W0 : Wk Z a0 EL y.cls p l e rm s m args below meth c s.vm s₁ h 0 0 :=
    ⟨[], h.size, X0, e0, (State.WarmedH.refl s).since _, Nat.le_refl _, hZ, findClass_of_methodNamed Bd.named, hEW, by rw [hh]; exact CHr.refl hC, Fr.nil _, hE⟩
  have key := body p e s m below meth c s₁
    (fun T g => ∃ (v : Option Value) (so : List Addr) (vm : Vm) (T' : State) (h' : Heap) (cells slots : Nat), Wk Z a0 EL y.cls p l e rm s m args below meth c vm T' h' cells slots ∧ cells ≤ rm.cells ∧ slots ≤ rm.slots ∧ Q v h' so ∧ (∀ x ∈ so, Safe Z EL vm h' x) ∧ (ret = none → v = none) ∧
      ∀ fs : List Frame, (∀ (f : JFrame) (acts : List Action), f.method = m → f.locked = none → f.entered = [] → (doReturn e (T'.setTop f) acts v).1 = T'.setFrames fs) → Steps p.tables e below (T.setTop g) (T'.setFrames fs))
    Bd.exec Bd.bytes hml0 Bd.returns (name_of_methodNamed Bd.named Bd.method).1 W0 hS
    (fun st ⟨v, so, vm1, T', h', k1, k2, q1, q2, q3, q4, q7, q5, q6⟩ => ⟨v, so, vm1, T', h', k1, k2, q1, q2, q3, q4, q7, q5, fun fs hr => st _ (q6 fs hr)⟩)
    (fun q1 q2 q3 q4 q7 q5 q6 => ⟨_, _, _, _, _, _, _, q1, q2, q3, q4, q7, q5, q6⟩)
  obtain ⟨v, so, vm, T', h', k1, k2, ⟨locs, k, X, rfl, hS', hk, hZ', ho, -, hC', N, O⟩, q2, q3, q4, q7, q5, q6⟩ := key
  obtain ⟨fs, hr, hrun, hended, g1, g2, g3, g4⟩ := X.leaveW hS' hk (v := v) (fun q => q5 (Bd.returns ▸ q))
  have hCf := CHv.at X hZ' hEW hC'.1
  have hSf := fun x hx => own_safeAt X hZ' hEW hC'.1 (q7 x hx)
  exact ⟨_, _, castTop (ef m) (q6 fs hr), hrun, hended, v, locs, so, rfl, q4, N, O, hC'.trans hCf, hSf, g1, g2, g3, g4.mono q2 q3⟩
end OwnKit
section OwnKitX
variable {Z : State} {a0 : Array Value} {EL : List (String × Nat)} {own : String} {p : Program} {l : Launch} {e : Env} {R : Room} {s : State} {m : MethodId} {args : Array Value} {below : List Frame} {meth : Method} {c : Code} {vm : Vm} {T : State} {h : Heap} {cells slots : Nat}
theorem own_decl {y : MethodName} {bytes : ByteArray} {maxL : Nat} {ret : Option FieldType} (wi : (Cond.instanceMethod y).before a0 Z = true) (wc : (Cond.code y bytes maxL ret).before a0 Z = true) : (Cond.declares y).before a0 Z = true := by
  obtain ⟨m, meth, hn, hm, hs, -⟩ := Cond.instanceMethod_spec wi
  obtain ⟨meth', c, hm', -, -, -, -, -, -, hsig⟩ := Cond.code_spec hn wc
  cases hm.symm.trans hm'
  simp [Cond.before, Cond.holds, Cond.value, hn, hm, hs, hsig]
theorem own_nf2 (W : Wk Z a0 EL own p l e R s m args below meth c vm T h cells slots) {C : String} {y y' : MethodName} (w : (Cond.selects C y' y').before a0 Z = true) (hy : y.cls = y'.cls) : NotFace (s.setVm vm) y := fun r0 h0 => by
  obtain ⟨locs, k1, X, eT, hS, hk, hZ, ho, hEW, hC, N, O'⟩ := W
  obtain ⟨_, _, m2, _, _, q3, _, kP, hkP, hkPi⟩ := Cond.selects_spec (mv (s := s.setVm vm) (args := #[]) hZ w)
  have e1 := findClass_of_methodNamed h0
  have e2 := findClass_of_methodNamed q3
  rw [hy] at e1
  exact ⟨kP, by rw [Option.some.inj (e1.symm.trans e2)]; exact hkP, hkPi⟩
theorem own_sameM {C : String} {y y' : MethodName} (wd : (Cond.declares y).before a0 Z = true) (ws : (Cond.selects C y' y').before a0 Z = true) (hy : y.cls = y'.cls) (hp : y.cls ≠ "java/lang/invoke/MethodHandle" ∧ y.cls ≠ "java/lang/invoke/VarHandle") : (Cond.sameMethod y.cls y.cls y.name y.desc).before a0 Z = true := by
  obtain ⟨m0, meth, hn, -⟩ := Cond.declares_spec wd
  have hf := State.methodFound?_of_named hn hp
  have e1 := findClass_of_methodNamed hn
  obtain ⟨_, _, m2, _, _, q3, _, kP, hkP, hkPi⟩ := Cond.selects_spec ws
  have e2 := findClass_of_methodNamed q3
  rw [← hy] at e2
  have e3 : m0.cls = m2.cls := Option.some.inj (e1.symm.trans e2)
  have hn' : Z.methodNamed? ⟨y.cls, y.name, y.desc⟩ = some m0 := hn
  rw [← e3] at hkP
  simp [Cond.before, Cond.holds, Cond.value, e1, hf, hn', hkP, hkPi]
theorem own_super (W : Wk Z a0 EL own p l e R s m args below meth c vm T h cells slots) (hx : p.tables.exec = Jvm.exec) {index : Nat} {K : String} {y : MethodName} {bytes : ByteArray} {maxL : Nat} {ret : Option FieldType} {rm : Room} {as' : Array Value} {sf : List Addr} {Q : Option Value → Heap → List Addr → Prop}
    (w1 : (Cond.methodLink own index y).before a0 Z = true) (w2 : (Cond.sameMethod y.cls y.cls y.name y.desc).before a0 Z = true) (w6 : (Cond.instanceMethod y).before a0 Z = true) (w7 : (Cond.superclass own y.cls).before a0 Z = true) (hn : y.name ≠ "<init>") (w3 : (Cond.initialized y.cls).before a0 Z = true) (w4 : (Cond.code y bytes maxL ret).before a0 Z = true)
    {a : Addr} (F : Ins Z h a K true)
    (hM : Ct l Z a0 EL y bytes maxL ret [] rm as' h sf Q) (hsf : ∀ x ∈ sf, Safe Z EL vm h x) {Wd : Nat} (hf : rm.frames + 1 ≤ R.frames) (hlo : Wd + (maxL + 11) + rm.locals ≤ R.locals) (hce : cells + rm.cells ≤ R.cells) (hsl : slots + rm.slots ≤ R.slots)
    {g : JFrame} (hg : g.method = m) (hsize : g.locals.size = c.maxLocals) {argsL rest : List Value} (hlen : ∀ sig, parseMethodDescriptor y.desc = some sig → argsL.length = sig.parameters.length) (hstack : g.stack = argsL.reverse ++ .ref a :: rest) (has : (.ref a :: argsL).toArray = as') (hW : 2 * g.monitorRoom + (rest.map fun v => v.category).sum ≤ Wd)
    (hdg : decode c.code g.pc = .ok (.invokespecial index, 3)) :
    ∃ (v : Option Value) (so : List Addr) (vm' : Vm) (T' : State) (h' : Heap), Wk Z a0 EL own p l e R s m args below meth c vm' T' h' (cells + rm.cells) (slots + rm.slots) ∧ CHr Z EL vm h vm' h' ∧ Q v h' so ∧ (∀ x ∈ so, Safe Z EL vm' h' x) ∧
      ∀ target, Steps p.tables e below (T'.setTop { g with pc := g.pc + 3, stack := v.toList ++ rest }) target → Steps p.tables e below (T.setTop g) target := by
  obtain ⟨locs, k1, X, eT, hS, hk, hZ, ho, hEW, hC, N, O'⟩ := W
  subst eT
  obtain ⟨v, vm1, B, -, X', h2, hg2, ⟨L, so, hQ, hL, O2, e1, e2, e3, hC', hso⟩, st⟩ := superBackS X hx hZ ho w1 w2 w6 w7 hn (own_backS O' hM hZ w4 w3 hf hlo hEW hC.1 hsf) rfl F hg hsize w4 hlen hstack hW hdg (fun _ _ => ⟨has, rfl, hce, hsl⟩)
  exact ⟨v, so, _, B.U, _, own_mkB X' h2 hg2 hS hk hZ ho hEW hC N hL O2 e1 e2 e3 hC', hC', hQ, hso, fun _ q => st.trans q⟩
theorem own_ldcF (W : Wk Z a0 EL own p l e R s m args below meth c vm T h cells slots) (hx : p.tables.exec = Jvm.exec) {index : Nat} {b : UInt32} (w : (Cond.constantFloat own index b).before a0 Z = true) {g : JFrame} (hg : g.method = m) (hd : decode c.code g.pc = .ok (.ldc index, 2)) :
    ∀ target, Steps p.tables e below (T.setTop { g with pc := g.pc + 2, stack := .float b :: g.stack }) target → Steps p.tables e below (T.setTop g) target := by
  obtain ⟨locs, k1, X, eT, hS, hk, hZ, ho, hEW, hC, N, O'⟩ := W
  exact X.ldcFloatC hx ho (mv (s := s.setVm vm) hZ w) hg hd
end OwnKitX
section OwnStr
variable {Z : State} {a0 : Array Value} {EL : List (String × Nat)} {own : String} {p : Program} {l : Launch} {e : Env} {R : Room} {s : State} {m : MethodId} {args : Array Value} {below : List Frame} {meth : Method} {c : Code} {vm : Vm} {T : State} {h : Heap} {cells slots : Nat}
/-- a String that spells cs, each sign 0 to 255 -/
def Str (Z : State) (h : Heap) (a : Addr) (cs : List Int32) : Prop := Exa Z h a "java/lang/String" ∧ Fld Z h a "java/lang/String" "coder" "B" (.int 0) ∧ (∀ c ∈ cs, ¬ c < 0 ∧ ¬ (255 : Int32) < c) ∧ ∃ (t : Addr) (kb : ClassId), Fld Z h a "java/lang/String" "value" "[B" (.ref t) ∧ Arv Z h t kb .byte (Int32.ofNat cs.length) ((cs.map fun c => c.toInt8.toInt32).map Value.int) (.int 0)
theorem Str.ext {h' : Heap} {a : Addr} {cs : List Int32} (S : Str Z h a cs) (X : Ext h h') : Str Z h' a cs := by
  obtain ⟨E, C, hp, t, kb, V, K⟩ := S; exact ⟨E.ext X, C.ext X, hp, t, kb, V.ext X, K.ext X⟩
theorem Str.lt {a : Addr} {cs : List Int32} (S : Str Z h a cs) : a < h.size := S.1.lt
theorem own_ups {cs : List Int32} (h : ∀ c ∈ cs, ¬ c < 0 ∧ ¬ (255 : Int32) < c) : ∀ c ∈ cs, ¬ c < 0 ∧ ¬ (65535 : Int32) < c := fun c hc => own_up (h c hc)
theorem own_strNew (W : Wk Z a0 EL own p l e R s m args below meth c vm T h cells slots) (hx : p.tables.exec = Jvm.exec) (hws : ∀ d ∈ StrChars.Road.words, d.before a0 Z = true) {index kI : Nat} {bytes : ByteArray} {maxL : Nat} (w1 : (Cond.methodLink own index ⟨"java/lang/String", "<init>", "([C)V"⟩).before a0 Z = true) (w2 : (Cond.instanceMethod ⟨"java/lang/String", "<init>", "([C)V"⟩).before a0 Z = true) (w4 : (Cond.code ⟨"java/lang/String", "<init>", "([C)V"⟩ bytes maxL none).before a0 Z = true) (wi : (Cond.instantiable "java/lang/String" kI).before a0 Z = true)
    {x b : Addr} {kC : ClassId} {cs : List Int32} {d v0 c0 : Value} {N : Int32} (E : Exa Z h x "java/lang/String") (V : Fld Z h x "java/lang/String" "value" "[B" v0) (C : Fld Z h x "java/lang/String" "coder" "B" c0) (K : Arv Z h b kC .char N (cs.map Value.int) d) (hN : N = Int32.ofNat cs.length) (cmp : ∃ z : Int32, Sta Z Z.heap "java/lang/String" "COMPACT_STRINGS" "Z" (.int z) ∧ ¬ z = 0)
    (l0 : 0 < cs.length) (l2 : cs.length ≤ 4000) (hp : ∀ c ∈ cs, ¬ c < 0 ∧ ¬ (255 : Int32) < c) (Sf : Safe Z EL vm h x) (hfr : Z.heap.size ≤ x) {Wd : Nat} (hf : 4 ≤ R.frames) (hlo : Wd + 65 ≤ R.locals) (hce : cells + 1 ≤ R.cells) (hsl : slots + cs.length ≤ R.slots)
    {g : JFrame} (hg : g.method = m) (hsize : g.locals.size = c.maxLocals) {rest : List Value} (hs : g.stack = .ref b :: .ref x :: rest) (hW : 2 * g.monitorRoom + (rest.map fun v => v.category).sum ≤ Wd) (hd : decode c.code g.pc = .ok (.invokespecial index, 3)) :
    ∃ (T' : State) (h' : Heap), Wk Z a0 EL own p l e R s m args below meth c vm T' h' (cells + 1) (slots + cs.length) ∧ Keep h h' [x] ∧ Str Z h' x cs ∧
      ∀ target, Steps p.tables e below (T'.setTop { g with pc := g.pc + 3, stack := rest }) target → Steps p.tables e below (T.setTop g) target := by
  obtain ⟨z, OS, hz⟩ := cmp
  obtain ⟨v, T', h', L, W', ⟨rfl, hL, hK, q1, q2, t, kb, -, -, -, q3, q4⟩, st⟩ := own_specB W hx (y := ⟨"java/lang/String", "<init>", "([C)V"⟩) (Q := fun v h' L => StrChars.Road.QV Z x N (cs.map fun c => c.toInt8.toInt32) h Z.heap.size v h' L) (kc := 1) (ks := cs.length) (ws := [x]) rfl w1 w2 w4 (by decide)
    (fun s' hZ' => StrChars.Road.backV hZ' hws wi hfr W.sz E V C K (OS.ext W.old) hz rfl hN l0 l2 hp rfl hf hlo)
    (fun v h' L q => ⟨q.2.1, q.2.2.1⟩) (allS Sf all0) (allS hfr all0) hce hsl hg hsize (a := x) (argsL := [.ref b]) (rest := rest) (lenOf (d := "([C)V") (ps := [.array .char]) (r := none) (by decide +kernel) rfl) hs rfl hW hd
  exact ⟨T', h', W', hK, ⟨q1, q2, hp, t, kb, q3, hN ▸ q4⟩, st⟩
theorem own_slen (W : Wk Z a0 EL own p l e R s m args below meth c vm T h cells slots) (hx : p.tables.exec = Jvm.exec) (hln : ∀ d ∈ StrChars.Road.wordsLen, d.before a0 Z = true) {index kI : Nat} (w1 : (Cond.methodLink own index ⟨"java/lang/String", "length", "()I"⟩).before a0 Z = true) (w2 : (Cond.declares ⟨"java/lang/String", "length", "()I"⟩).before a0 Z = true) (w5 : (Cond.selects "java/lang/String" ⟨"java/lang/String", "length", "()I"⟩ ⟨"java/lang/String", "length", "()I"⟩).before a0 Z = true) (w6 : (Cond.instanceMethod ⟨"java/lang/String", "length", "()I"⟩).before a0 Z = true) (wi : (Cond.instantiable "java/lang/String" kI).before a0 Z = true)
    {x : Addr} {cs : List Int32} (S : Str Z h x cs) (cmp : ∃ z : Int32, Sta Z Z.heap "java/lang/String" "COMPACT_STRINGS" "Z" (.int z) ∧ ¬ z = 0) (l2 : cs.length ≤ 4000) {Wd : Nat} (hf : 2 ≤ R.frames) (hlo : Wd + 25 ≤ R.locals) (hce : cells + 0 ≤ R.cells) (hsl : slots + 0 ≤ R.slots)
    {g : JFrame} (hg : g.method = m) (hsize : g.locals.size = c.maxLocals) {rest : List Value} (hs : g.stack = .ref x :: rest) (hW : 2 * g.monitorRoom + (rest.map fun v => v.category).sum ≤ Wd) (hd : decode c.code g.pc = .ok (.invokevirtual index, 3)) :
    ∃ T' : State, Wk Z a0 EL own p l e R s m args below meth c vm T' h cells slots ∧
      ∀ target, Steps p.tables e below (T'.setTop { g with pc := g.pc + 3, stack := .int (Int32.ofNat cs.length) :: rest }) target → Steps p.tables e below (T.setTop g) target := by
  obtain ⟨z, OS, hz⟩ := cmp
  obtain ⟨E, C, hp, t, kb, V, K⟩ := S
  obtain ⟨v, T', h', L, W', ⟨rfl, -, rfl⟩, st⟩ := own_virtB W hx (y := ⟨"java/lang/String", "length", "()I"⟩) (z := ⟨"java/lang/String", "length", "()I"⟩) (Q := fun v h' L => v = some (.int (Int32.ofNat cs.length)) ∧ L = [] ∧ h' = h) (kc := 0) (ks := 0) (ws := []) w1 w2 w5 w6 (by decide) (own_nf W w5) E
    (fun s' hZ' => StrChars.Road.lenW hZ' hln wi E V C K (StrChars.Road.codOf rfl (fun c hc => (hp c hc).2)) (own_ups hp) (OS.ext W.old) hz l2 hf hlo)
    (fun v h' L q => by obtain ⟨-, rfl, rfl⟩ := q; exact ⟨Fr.nil _, Keep.refl _ _⟩) all0 all0 hce hsl hg hsize (argsL := []) (rest := rest) (lenOf (d := "()I") (ps := []) (r := some .int) (by decide +kernel) rfl) hs rfl hW hd
  exact ⟨T', W', st⟩
theorem own_sch (W : Wk Z a0 EL own p l e R s m args below meth c vm T h cells slots) (hx : p.tables.exec = Jvm.exec) (hln : ∀ d ∈ StrChars.Road.wordsChN, d.before a0 Z = true) {index kI : Nat} (w1 : (Cond.methodLink own index ⟨"java/lang/String", "charAt", "(I)C"⟩).before a0 Z = true) (w2 : (Cond.declares ⟨"java/lang/String", "charAt", "(I)C"⟩).before a0 Z = true) (w5 : (Cond.selects "java/lang/String" ⟨"java/lang/String", "charAt", "(I)C"⟩ ⟨"java/lang/String", "charAt", "(I)C"⟩).before a0 Z = true) (w6 : (Cond.instanceMethod ⟨"java/lang/String", "charAt", "(I)C"⟩).before a0 Z = true) (wi : (Cond.instantiable "java/lang/String" kI).before a0 Z = true)
    {x : Addr} {cs : List Int32} (S : Str Z h x cs) (cmp : ∃ z : Int32, Sta Z Z.heap "java/lang/String" "COMPACT_STRINGS" "Z" (.int z) ∧ ¬ z = 0) (sfm : ∃ z : Value, Sta Z Z.heap "jdk/internal/util/Preconditions" "SIOOBE_FORMATTER" "Ljava/util/function/BiFunction;" z ∧ z.isRef = true) (l2 : cs.length ≤ 4000) {i : Nat} {j : Int32} (hi : i < cs.length) (hj : j = Int32.ofNat i) {Wd : Nat} (hf : 4 ≤ R.frames) (hlo : Wd + 53 ≤ R.locals) (hce : cells + 0 ≤ R.cells) (hsl : slots + 0 ≤ R.slots)
    {g : JFrame} (hg : g.method = m) (hsize : g.locals.size = c.maxLocals) {rest : List Value} (hs : g.stack = .int j :: .ref x :: rest) (hW : 2 * g.monitorRoom + (rest.map fun v => v.category).sum ≤ Wd) (hd : decode c.code g.pc = .ok (.invokevirtual index, 3)) :
    ∃ T' : State, Wk Z a0 EL own p l e R s m args below meth c vm T' h cells slots ∧
      ∀ target, Steps p.tables e below (T'.setTop { g with pc := g.pc + 3, stack := .int (cs.getD i 0) :: rest }) target → Steps p.tables e below (T.setTop g) target := by
  obtain ⟨z, OS, hz⟩ := cmp
  obtain ⟨fm, OF, hfm⟩ := sfm
  obtain ⟨E, C, hp, t, kb, V, K⟩ := S
  obtain ⟨v, T', h', L, W', ⟨rfl, -, rfl⟩, st⟩ := own_virtB W hx (y := ⟨"java/lang/String", "charAt", "(I)C"⟩) (z := ⟨"java/lang/String", "charAt", "(I)C"⟩) (Q := fun v h' L => v = some (.int (cs.getD i 0)) ∧ L = [] ∧ h' = h) (kc := 0) (ks := 0) (ws := []) w1 w2 w5 w6 (by decide) (own_nf W w5) E
    (fun s' hZ' => StrChars.Road.chN hZ' hln wi E V C K (StrChars.Road.codOf rfl (fun c hc => (hp c hc).2)) (own_ups hp) (OS.ext W.old) hz (OF.ext W.old) hfm l2 hi hj hf hlo)
    (fun v h' L q => by obtain ⟨-, rfl, rfl⟩ := q; exact ⟨Fr.nil _, Keep.refl _ _⟩) all0 all0 hce hsl hg hsize (argsL := [.int j]) (rest := rest) (lenOf (d := "(I)C") (ps := [.int]) (r := some .char) (by decide +kernel) rfl) hs rfl hW hd
  exact ⟨T', W', st⟩
end OwnStr
theorem own_al0 {α : Type} {P : α → Prop} : ∀ x ∈ ([] : List α), P x := fun _ q => nomatch q
theorem own_alS {α : Type} {P : α → Prop} {y : α} {L : List α} (q : P y) (r : ∀ x ∈ L, P x) : ∀ x ∈ y :: L, P x := fun x z => (List.mem_cons.mp z).elim (fun u => u ▸ q) (r x)
theorem own_c255 (x : Int32) : ¬ ((x &&& (255 : Int32)).toUInt32.toUInt16.toUInt32.toInt32) < 0 ∧ ¬ (255 : Int32) < ((x &&& (255 : Int32)).toUInt32.toUInt16.toUInt32.toInt32) := by
  have t : ∀ k : Fin 256, ¬ ((Int32.ofNat k.val).toUInt32.toUInt16.toUInt32.toInt32) < 0 ∧ ¬ (255 : Int32) < ((Int32.ofNat k.val).toUInt32.toUInt16.toUInt32.toInt32) := by decide +kernel
  have h : (x &&& 255).toBitVec.toNat < 256 := by
    simp only [Int32.toBitVec_and, BitVec.toNat_and]
    exact Nat.lt_succ_of_le Nat.and_le_right
  have e : (x &&& 255) = Int32.ofNat (x &&& 255).toBitVec.toNat := by
    apply Int32.toBitVec_inj.mp
    show _ = BitVec.ofNat 32 _
    rw [BitVec.ofNat_toNat]; simp
  rw [e]
  exact t ⟨_, h⟩
theorem own_bz {b : Int32} {P Q : Prop} (h : (b = 1 ∧ P) ∨ (b = 0 ∧ Q)) : narrow .boolean (.int b) = .int b ∧ fits .boolean (.int b) = true := by rcases h with ⟨rfl, -⟩ | ⟨rfl, -⟩ <;> exact ⟨rfl, by decide⟩
theorem own_oft {n : Nat} (h : n < 2147483648) : (Int32.ofNat n).toInt = n := Int32.toInt_ofNat_small h
theorem own_ltn {i n : Nat} (hi : i < 2147483648) (hn : n < 2147483648) : Int32.ofNat i < Int32.ofNat n ↔ i < n := by rw [Int32.lt_iff_toInt_lt, own_oft hi, own_oft hn]; omega
theorem own_inc (i : Nat) : Int32.ofNat i + (1 : Int32) = Int32.ofNat (i + 1) := by
  apply Int32.toBitVec_inj.mp
  show BitVec.ofNat 32 i + BitVec.ofNat 32 1 = BitVec.ofNat 32 (i + 1)
  rw [← BitVec.ofNat_add]
theorem own_gd {cs : List Int32} {P : Int32 → Prop} (h : ∀ c ∈ cs, P c) {i : Nat} (hi : i < cs.length) : P (cs.getD i 0) := by
  rw [List.getD_eq_getElem?_getD, List.getElem?_eq_getElem hi]; exact h _ (List.getElem_mem _)
theorem own_mask (x : Int32) : 0 ≤ (x &&& (2147483647 : Int32)).toInt := by
  have h : (x &&& 2147483647).toBitVec.toNat ≤ 2147483647 := by
    simp only [Int32.toBitVec_and, BitVec.toNat_and]
    exact Nat.and_le_right
  show 0 ≤ (x &&& 2147483647).toBitVec.toInt
  rw [BitVec.toInt_eq_toNat_cond]; split <;> omega
theorem own_modk (x k : Int32) (h : 0 < k.toInt) : 0 ≤ ((x &&& (2147483647 : Int32)) % k).toInt ∧ ((x &&& (2147483647 : Int32)) % k).toInt < k.toInt := by
  rw [Int32.toInt_mod]
  exact ⟨Int.tmod_nonneg _ (own_mask x), Int.tmod_lt_of_pos _ h⟩
theorem own_b8 (x : Int32) : (x.toInt8.toInt32).toInt8.toInt32 = x.toInt8.toInt32 := by simp
theorem own_narc (x : Int32) : narrow .char (.int x.toUInt32.toUInt16.toUInt32.toInt32) = .int x.toUInt32.toUInt16.toUInt32.toInt32 := by simp only [narrow, UInt32.toUInt32_toInt32, UInt16.toUInt16_toUInt32]
theorem own_pr {c : Int32} (h : ¬ c < (33 : Int32) ∧ ¬ (126 : Int32) < c) : ¬ c < 0 ∧ ¬ (255 : Int32) < c := by
  have e1 : (0 : Int32).toInt = 0 := rfl
  have e2 : (255 : Int32).toInt = 255 := rfl
  have e3 : (33 : Int32).toInt = 33 := rfl
  have e4 : (126 : Int32).toInt = 126 := rfl
  simp only [Int32.lt_iff_toInt_lt, e1, e2, e3, e4] at h ⊢; omega
theorem own_allowed (x : Int32) : ¬ (((33 : Int32) + ((x &&& (2147483647 : Int32)) % (94 : Int32))).toUInt32.toUInt16.toUInt32.toInt32) < (33 : Int32) ∧ ¬ (126 : Int32) < (((33 : Int32) + ((x &&& (2147483647 : Int32)) % (94 : Int32))).toUInt32.toUInt16.toUInt32.toInt32) := by
  obtain ⟨h1, h2⟩ := own_modk x 94 (by decide)
  generalize (x &&& (2147483647 : Int32)) % (94 : Int32) = z at h1 h2
  have e0 : (0 : Int32).toInt = 0 := rfl
  have e9 : (94 : Int32).toInt = 94 := rfl
  have e3 : (33 : Int32).toInt = 33 := rfl
  have e4 : (126 : Int32).toInt = 126 := rfl
  have e5 : (65535 : Int32).toInt = 65535 := rfl
  rw [e9] at h2
  have es : ((33 : Int32) + z).toInt = 33 + z.toInt := by
    rw [Int32.toInt_add, e3]; exact Int.bmod_eq_of_le (by omega) (by omega)
  have ec := own_nc (x := (33 : Int32) + z) (by simp only [Int32.lt_iff_toInt_lt, es, e0, e5]; omega)
  have ec' : ((33 : Int32) + z).toUInt32.toUInt16.toUInt32.toInt32 = (33 : Int32) + z := ec
  rw [ec']
  simp only [Int32.lt_iff_toInt_lt, es, e3, e4]; omega
theorem own_and_nat (x : Int32) (k : Nat) (hk : k < 2147483648) : ∃ j : Nat, j ≤ k ∧ (x &&& Int32.ofNat k) = Int32.ofNat j := by
  refine ⟨(x &&& Int32.ofNat k).toBitVec.toNat, ?_, ?_⟩
  · simp only [Int32.toBitVec_and, BitVec.toNat_and]
    refine Nat.le_trans Nat.and_le_right ?_
    show (BitVec.ofNat 32 k).toNat ≤ k
    rw [BitVec.toNat_ofNat]; exact Nat.mod_le _ _
  · apply Int32.toBitVec_inj.mp
    show _ = BitVec.ofNat 32 _
    rw [BitVec.ofNat_toNat]; simp
theorem own_n4 (x : Int32) : (1 : Int32) + (x &&& (3 : Int32)) = (1 : Int32) ∨ (1 : Int32) + (x &&& (3 : Int32)) = (2 : Int32) ∨ (1 : Int32) + (x &&& (3 : Int32)) = (3 : Int32) ∨ (1 : Int32) + (x &&& (3 : Int32)) = (4 : Int32) := by
  obtain ⟨j, hj, e⟩ := own_and_nat x 3 (by decide)
  have e' : (x &&& (3 : Int32)) = Int32.ofNat j := e
  rw [e']
  have : j = 0 ∨ j = 1 ∨ j = 2 ∨ j = 3 := by omega
  rcases this with rfl | rfl | rfl | rfl <;> decide
theorem own_cl {n : Nat} (h : n < 2147483648) : (Int32.ofNat n).toNatClampNeg = n := by
  show (Int32.ofNat n).toInt.toNat = n
  rw [own_oft h]; rfl
theorem own_addn (a b : Nat) : Int32.ofNat a + Int32.ofNat b = Int32.ofNat (a + b) := by
  apply Int32.toBitVec_inj.mp
  show BitVec.ofNat 32 a + BitVec.ofNat 32 b = BitVec.ofNat 32 (a + b)
  rw [← BitVec.ofNat_add]
theorem own_subn {a b : Nat} (h : b ≤ a) : Int32.ofNat a - Int32.ofNat b = Int32.ofNat (a - b) := by
  have q := own_addn (a - b) b
  rw [Nat.sub_add_cancel h] at q
  rw [← q, Int32.add_sub_cancel]
theorem own_nn {n : Nat} (h : n < 2147483648) : ¬ Int32.ofNat n < 0 := fun q => absurd ((own_ltn (n := 0) h (by decide)).mp q) (Nat.not_lt_zero _)
theorem own_eqn {i n : Nat} (hi : i < 2147483648) (hn : n < 2147483648) : Int32.ofNat i = Int32.ofNat n ↔ i = n := ⟨fun q => by have r := congrArg Int32.toInt q; rw [own_oft hi, own_oft hn] at r; omega, fun q => q ▸ rfl⟩
theorem own_inb {i n : Nat} (h : i < n) (hn : n < 2147483648) : ¬ Int32.ofNat i < 0 ∧ Int32.ofNat i < Int32.ofNat n := ⟨own_nn (by omega), (own_ltn (by omega) hn).mpr h⟩
theorem own_minx {a b : Nat} (h1 : b ≤ a) (h2 : a ≤ 4000) (k : ¬ Int32.ofNat b < Int32.ofNat a) : some (Value.int (Int32.ofNat a)) = some (Value.int (Int32.ofNat b)) := by
  have q : ¬ b < a := fun r => k ((own_ltn (by omega) (by omega)).mpr r)
  rw [show a = b by omega]
theorem own_rg (bs : List Int32) (lo n : Nat) (d : Value) (h : lo + n ≤ bs.length) : ((List.range n).map fun i => (bs.map Value.int).getD (lo + i) d) = ((bs.drop lo).take n).map Value.int := by
  apply List.ext_getElem
  · simp; omega
  · intro i h1 h2
    have hi : i < n := by simpa using h1
    simp only [List.getElem_map, List.getElem_range, List.getElem_take, List.getElem_drop, List.getD_eq_getElem?_getD]
    rw [List.getElem?_eq_getElem (by simp; omega)]
    simp
theorem own_cpz (us : List Value) (n : Nat) (d : Value) : (([] : List Value) ++ List.replicate n d).take 0 ++ us ++ ([] ++ List.replicate n d).drop (0 + n) = us := by simp
theorem own_more {Z : State} {a0 : Array Value} {EL : List (String × Nat)} {own : String} {p : Program} {l : Launch} {e : Env} {R : Room} {s : State} {m : MethodId} {args : Array Value} {below : List Frame} {meth : Method} {c : Code} {vm : Vm} {T : State} {h : Heap} {cells slots cells' slots' : Nat} (W : Wk Z a0 EL own p l e R s m args below meth c vm T h cells slots) (h1 : cells ≤ cells') (h2 : slots ≤ slots') : Wk Z a0 EL own p l e R s m args below meth c vm T h cells' slots' := by
  obtain ⟨locs, k, X, q⟩ := W
  exact ⟨locs, k, X.more h1 h2, q⟩
theorem own_shl1 (i : Nat) : Int32.ofNat i <<< ((1 : Int32) &&& 31) = Int32.ofNat (2 * i) := by
  have e : ((1 : Int32) &&& 31) = 1 := by decide
  rw [e]
  apply Int32.toBitVec_inj.mp
  rw [Int32.toBitVec_shiftLeft]
  have e1 : ((1 : Int32).toBitVec.smod 32) = 1#32 := by decide
  rw [e1]
  apply BitVec.eq_of_toNat_eq
  show (BitVec.ofNat 32 i <<< 1#32).toNat = (BitVec.ofNat 32 (2 * i)).toNat
  simp only [BitVec.shiftLeft_eq', BitVec.toNat_shiftLeft, BitVec.toNat_ofNat, Nat.shiftLeft_eq]
  have e2 : (2 : Nat) ^ (1 % 2 ^ 32) = 2 := by decide
  rw [e2]; omega
theorem own_shr0 (x : Int32) : x >>> ((0 : Int32) &&& 31) = x := by
  have e : ((0 : Int32) &&& 31) = 0 := by decide
  rw [e]; simp
def wb : List Int32 → List Value
  | [] => []
  | c :: cs => .int c.toInt8.toInt32 :: .int (StrChars.hi8 c) :: wb cs
def StrW (Z : State) (h : Heap) (a : Addr) (cs : List Int32) : Prop := Exa Z h a "java/lang/String" ∧ Fld Z h a "java/lang/String" "coder" "B" (.int (1 : Int32)) ∧ (∀ c ∈ cs, ¬ c < 0 ∧ ¬ (65535 : Int32) < c) ∧ ∃ (t : Addr) (kb : ClassId), Fld Z h a "java/lang/String" "value" "[B" (.ref t) ∧ Arv Z h t kb .byte (Int32.ofNat (2 * cs.length)) (wb cs) (.int (0 : Int32))
theorem StrW.ext {Z : State} {h h' : Heap} {a : Addr} {cs : List Int32} (S : StrW Z h a cs) (X : Ext h h') : StrW Z h' a cs := by
  obtain ⟨E, C, hp, t, kb, V, K⟩ := S; exact ⟨E.ext X, C.ext X, hp, t, kb, V.ext X, K.ext X⟩
def Bl (Z : State) (h : Heap) (b t : Addr) (kt : ClassId) (ds : List Int32) : Prop := Exa Z h b "java/lang/StringBuilder" ∧ Fld Z h b "java/lang/AbstractStringBuilder" "value" "[B" (.ref t) ∧ Fld Z h b "java/lang/AbstractStringBuilder" "coder" "B" (.int (0 : Int32)) ∧ Fld Z h b "java/lang/AbstractStringBuilder" "count" "I" (.int (Int32.ofNat ds.length)) ∧ Fld Z h b "java/lang/AbstractStringBuilder" "maybeLatin1" "Z" (.int (0 : Int32)) ∧ Arv Z h t kt .byte (16 : Int32) (ds.map Value.int) (.int (0 : Int32))
theorem Bl.ext {Z : State} {h h' : Heap} {b t : Addr} {kt : ClassId} {ds : List Int32} (B : Bl Z h b t kt ds) (X : Ext h h') : Bl Z h' b t kt ds := ⟨B.1.ext X, B.2.1.ext X, B.2.2.1.ext X, B.2.2.2.1.ext X, B.2.2.2.2.1.ext X, B.2.2.2.2.2.ext X⟩
def Bw (Z : State) (h : Heap) (b t : Addr) (kt : ClassId) (ds : List Int32) : Prop := Exa Z h b "java/lang/StringBuilder" ∧ Fld Z h b "java/lang/AbstractStringBuilder" "value" "[B" (.ref t) ∧ Fld Z h b "java/lang/AbstractStringBuilder" "coder" "B" (.int (1 : Int32)) ∧ Fld Z h b "java/lang/AbstractStringBuilder" "count" "I" (.int (Int32.ofNat ds.length)) ∧ Fld Z h b "java/lang/AbstractStringBuilder" "maybeLatin1" "Z" (.int (0 : Int32)) ∧ Arv Z h t kt .byte (32 : Int32) (wb ds) (.int (0 : Int32))
theorem Bw.ext {Z : State} {h h' : Heap} {b t : Addr} {kt : ClassId} {ds : List Int32} (B : Bw Z h b t kt ds) (X : Ext h h') : Bw Z h' b t kt ds := ⟨B.1.ext X, B.2.1.ext X, B.2.2.1.ext X, B.2.2.2.1.ext X, B.2.2.2.2.1.ext X, B.2.2.2.2.2.ext X⟩
theorem own_sle {n cap : Nat} (h : n ≤ cap) (hc : cap < 2147483648) : ¬ (0 : Int32) < Int32.ofNat n - Int32.ofNat cap := by
  rw [Int32.lt_iff_toInt_lt, Int32.toInt_sub, own_oft hc, own_oft (by omega), Int.bmod_eq_of_le (by omega) (by omega)]
  have e : (0 : Int32).toInt = 0 := rfl
  rw [e]; omega
theorem own_shl0 (x : Int32) : x <<< ((0 : Int32) &&& 31) = x := by
  have e : ((0 : Int32) &&& 31) = 0 := by decide
  rw [e]; simp
theorem own_rg0 (bs : List Int32) (n : Nat) (d : Value) (h : bs.length = n) : ((List.range n).map fun i => (bs.map Value.int).getD (0 + i) d) = bs.map Value.int := by
  rw [own_rg bs 0 n d (by omega), List.drop_zero, ← h, List.take_length]
theorem own_app0 (ds cs : List Int32) (d : Value) : (ds.map Value.int ++ List.replicate cs.length d).take ds.length ++ (cs.map fun c => c.toInt8.toInt32).map Value.int ++ (ds.map Value.int ++ List.replicate cs.length d).drop (ds.length + cs.length) = (ds ++ cs.map fun c => c.toInt8.toInt32).map Value.int := by
  have e1 : (ds.map Value.int ++ List.replicate cs.length d).take ds.length = ds.map Value.int := List.take_left' (by simp)
  have e2 : (ds.map Value.int ++ List.replicate cs.length d).drop (ds.length + cs.length) = [] := by
    apply List.drop_eq_nil_of_le; simp
  rw [e1, e2, List.append_nil, List.map_append]
def Sx (Z : State) (h : Heap) (a : Addr) (cs : List Int32) : Prop := Str Z h a cs ∨ StrW Z h a cs
theorem Sx.ext {Z : State} {h h' : Heap} {a : Addr} {cs : List Int32} (S : Sx Z h a cs) (X : Ext h h') : Sx Z h' a cs := S.imp (fun q => q.ext X) (fun q => q.ext X)
theorem Sx.exa {Z : State} {h : Heap} {a : Addr} {cs : List Int32} (S : Sx Z h a cs) : Exa Z h a "java/lang/String" := S.elim (fun q => q.1) (fun q => q.1)
theorem own_shr1 {n : Nat} (h : n < 1000000000) : Int32.ofNat (2 * n) >>> ((1 : Int32) &&& 31) = Int32.ofNat n := StrChars.shr1 (by omega)
theorem own_fin {N : Nat} {P : Nat → Prop} (h : ∀ i : Fin N, P i.val) {k : Nat} (hk : k < N) : P k := h ⟨k, hk⟩
theorem own_wbl : ∀ (cs : List Int32), (wb cs).length = 2 * cs.length
  | [] => rfl
  | c :: cs => by
    show (wb cs).length + 1 + 1 = 2 * (cs.length + 1)
    rw [own_wbl cs]; omega
theorem own_wb0 (d : Value) : ∀ (cs : List Int32) (j : Nat), j < cs.length → (wb cs).getD (2 * j) d = .int (cs.getD j 0).toInt8.toInt32
  | [], j, h => absurd h (Nat.not_lt_zero j)
  | c :: cs, 0, _ => rfl
  | c :: cs, j + 1, h => own_wb0 d cs j (Nat.lt_of_succ_lt_succ h)
theorem own_wb1 (d : Value) : ∀ (cs : List Int32) (j : Nat), j < cs.length → (wb cs).getD (2 * j + 1) d = .int (StrChars.hi8 (cs.getD j 0))
  | [], j, h => absurd h (Nat.not_lt_zero j)
  | c :: cs, 0, _ => rfl
  | c :: cs, j + 1, h => own_wb1 d cs j (Nat.lt_of_succ_lt_succ h)
theorem own_wba : ∀ (ds cs : List Int32), wb (ds ++ cs) = wb ds ++ wb cs
  | [], cs => rfl
  | c :: ds, cs => by
    show Value.int c.toInt8.toInt32 :: .int (StrChars.hi8 c) :: wb (ds ++ cs) = _
    rw [own_wba ds cs]; rfl
theorem own_wbs (c : Int32) (d : Value) : ∀ (ds : List Int32), ((wb ds ++ List.replicate 2 d).set (2 * ds.length) (.int c.toInt8.toInt32)).set (2 * ds.length + 1) (.int (StrChars.hi8 c)) = wb (ds ++ [c])
  | [] => rfl
  | x :: ds => by
    show Value.int x.toInt8.toInt32 :: .int (StrChars.hi8 x) :: ((wb ds ++ List.replicate 2 d).set (2 * ds.length) (.int c.toInt8.toInt32)).set (2 * ds.length + 1) (.int (StrChars.hi8 c)) = Value.int x.toInt8.toInt32 :: .int (StrChars.hi8 x) :: wb (ds ++ [c])
    rw [own_wbs c d ds]
theorem own_rgv (vs : List Value) (n : Nat) (d : Value) (h : vs.length = n) : ((List.range n).map fun i => vs.getD (0 + i) d) = vs := by
  apply List.ext_getElem
  · simp [h]
  · intro i h1 h2
    simp only [List.getElem_map, List.getElem_range, List.getD_eq_getElem?_getD, Nat.zero_add]
    rw [List.getElem?_eq_getElem h2]; rfl
theorem own_appw (ds cs : List Int32) (d : Value) : (wb ds ++ List.replicate (2 * cs.length) d).take (2 * ds.length) ++ wb cs ++ (wb ds ++ List.replicate (2 * cs.length) d).drop (2 * ds.length + 2 * cs.length) = wb (ds ++ cs) := by
  have e1 : (wb ds ++ List.replicate (2 * cs.length) d).take (2 * ds.length) = wb ds := List.take_left' (own_wbl ds)
  have e2 : (wb ds ++ List.replicate (2 * cs.length) d).drop (2 * ds.length + 2 * cs.length) = [] := by
    apply List.drop_eq_nil_of_le; simp [own_wbl]
  rw [e1, e2, List.append_nil, own_wba]
theorem own_cntA {Z : State} {h : Heap} {b : Addr} {ds cs : List Int32} (F : Fld Z h b "java/lang/AbstractStringBuilder" "count" "I" (.int (Int32.ofNat (ds.length + cs.length)))) : Fld Z h b "java/lang/AbstractStringBuilder" "count" "I" (.int (Int32.ofNat (ds ++ cs.map fun c => c.toInt8.toInt32).length)) := by rw [List.length_append, List.length_map]; exact F
theorem own_cntW {Z : State} {h : Heap} {b : Addr} {ds cs : List Int32} (F : Fld Z h b "java/lang/AbstractStringBuilder" "count" "I" (.int (Int32.ofNat (ds.length + cs.length)))) : Fld Z h b "java/lang/AbstractStringBuilder" "count" "I" (.int (Int32.ofNat (ds ++ cs).length)) := by rw [List.length_append]; exact F
theorem own_allapp {P : Int32 → Prop} {l r : List Int32} (h1 : ∀ c ∈ l, P c) (h2 : ∀ c ∈ r, P c) : ∀ c ∈ l ++ r, P c := fun c hc => (List.mem_append.mp hc).elim (h1 c) (h2 c)
theorem own_sub0 (x : Int32) : x - (0 : Int32) = x := by simp
theorem own_zz (n m : Nat) : ∀ i, (List.replicate n (Value.int (0 : Int32))).getD i (.int (0 : Int32)) = (List.replicate m (Value.int (0 : Int32))).getD i (.int (0 : Int32)) := fun i => by
  have e : ∀ k : Nat, (List.replicate k (Value.int (0 : Int32))).getD i (.int (0 : Int32)) = .int (0 : Int32) := fun k => by
    have q := pad_rep [] (.int (0 : Int32)) k i
    simpa using q
  rw [e n, e m]
theorem own_litS {Z : State} {h : Heap} {a t : Addr} {kb : ClassId} {cs : List Int32} {z : Int32} (E : Exa Z h a "java/lang/String") (C : Fld Z h a "java/lang/String" "coder" "B" (.int 0)) (V : Fld Z h a "java/lang/String" "value" "[B" (.ref t)) (K : Arv Z h t kb .byte z (cs.map Value.int) (.int 0)) (hz : z = Int32.ofNat cs.length) (hp : ∀ c ∈ cs, ¬ c < 0 ∧ ¬ (255 : Int32) < c) (he : cs = cs.map fun c => c.toInt8.toInt32) : Str Z h a cs := ⟨E, C, hp, t, kb, V, by subst hz; rw [← he]; exact K⟩
theorem own_oute {ds : List Int32} (h : ds = ds.map fun c => c.toInt8.toInt32) (cs : List Int32) : (ds ++ cs.map fun c => c.toInt8.toInt32) ++ ([(62 : Int32)].map fun c => c.toInt8.toInt32) = ((ds ++ cs) ++ [(62 : Int32)]).map fun c => c.toInt8.toInt32 := by rw [List.map_append, List.map_append, ← h]
theorem own_out {Z : State} {h : Heap} {u : Addr} {ku : ClassId} {ds out : List Int32} (e : ds = out.map fun c => c.toInt8.toInt32) (V : Arv Z h u ku .byte (Int32.ofNat ds.length) (ds.map Value.int) (.int (0 : Int32))) : Arv Z h u ku .byte (Int32.ofNat out.length) ((out.map fun c => c.toInt8.toInt32).map Value.int) (.int 0) := by
  subst e; rw [List.length_map] at V; exact V
theorem own_klen0 (cs : List Int32) : (Int32.ofNat (([(60 : Int32)] ++ cs) ++ [(62 : Int32)]).length) = (((Int32.ofNat cs.length) + (2 : Int32)) + (0 : Int32)) := by
  rw [show (([(60 : Int32)] ++ cs) ++ [(62 : Int32)]).length = (cs.length + 2) + 0 by simp only [List.length_append, List.length_cons, List.length_nil]; omega]
  exact (own_addn (cs.length + 2) 0).symm.trans (congrArg (· + (0 : Int32)) (own_addn cs.length 2).symm)
theorem own_klen1 (cs : List Int32) : (Int32.ofNat (([(60 : Int32), (47 : Int32)] ++ cs) ++ [(62 : Int32)]).length) = (((Int32.ofNat cs.length) + (2 : Int32)) + (1 : Int32)) := by
  rw [show (([(60 : Int32), (47 : Int32)] ++ cs) ++ [(62 : Int32)]).length = (cs.length + 2) + 1 by simp only [List.length_append, List.length_cons, List.length_nil]; omega]
  exact (own_addn (cs.length + 2) 1).symm.trans (congrArg (· + (1 : Int32)) (own_addn cs.length 2).symm)
def expP (i n off c0 c1 c2 : Int32) : Int32 := if i = 0 then 60 else if off = 1 ∧ i = 1 then 47 else if i = (n + 1) + off then 62 else if (i - 1) - off = 0 then c0 else if (i - 1) - off = 1 then c1 else c2
def AtOK (cs : List Int32) (i : Nat) (k n off c0 c1 c2 : Int32) : Prop := (¬ (Int32.ofNat i) < k) ∨ (i < cs.length ∧ (Int32.ofNat i) < k ∧ cs.getD i 0 = expP (Int32.ofNat i) n off c0 c1 c2)
theorem atge {cs : List Int32} {i : Nat} {k n off c0 c1 c2 : Int32} (h : ¬ (Int32.ofNat i) < k) : AtOK cs i k n off c0 c1 c2 := Or.inl h
theorem atlt {cs : List Int32} {i : Nat} {k n off c0 c1 c2 : Int32} (h1 : i < cs.length) (h2 : (Int32.ofNat i) < k) (h3 : cs.getD i 0 = expP (Int32.ofNat i) n off c0 c1 c2) : AtOK cs i k n off c0 c1 c2 := Or.inr ⟨h1, h2, h3⟩
theorem own_c16 (x : Int32) : ¬ x.toUInt32.toUInt16.toUInt32.toInt32 < 0 ∧ ¬ (65535 : Int32) < x.toUInt32.toUInt16.toUInt32.toInt32 := by
  have q := (x.toBitVec.setWidth 16).isLt
  have e : x.toUInt32.toUInt16.toUInt32.toInt32.toInt = ((x.toBitVec.setWidth 16).toNat : Int) := by
    show ((x.toBitVec.setWidth 16).setWidth 32).toInt = _
    rw [BitVec.toInt_eq_toNat_cond, BitVec.toNat_setWidth, Nat.mod_eq_of_lt (by omega), if_pos (by omega)]
  have e0 : (0 : Int32).toInt = 0 := rfl
  have e1 : (65535 : Int32).toInt = 65535 := rfl
  exact ⟨fun h => by rw [Int32.lt_iff_toInt_lt, e, e0] at h; omega, fun h => by rw [Int32.lt_iff_toInt_lt, e, e1] at h; omega⟩
theorem own_and3 (x : Int32) : x &&& 3 = 0 ∨ x &&& 3 = 1 ∨ x &&& 3 = 2 ∨ x &&& 3 = 3 := by
  have t : ∀ k : Fin 4, Int32.ofNat k.val = 0 ∨ Int32.ofNat k.val = 1 ∨ Int32.ofNat k.val = 2 ∨ Int32.ofNat k.val = 3 := by decide +kernel
  have h : (x &&& 3).toBitVec.toNat < 4 := by
    simp only [Int32.toBitVec_and, BitVec.toNat_and]
    exact Nat.lt_succ_of_le Nat.and_le_right
  have e : (x &&& 3) = Int32.ofNat (x &&& 3).toBitVec.toNat := by
    apply Int32.toBitVec_inj.mp
    show _ = BitVec.ofNat 32 _
    rw [BitVec.ofNat_toNat]; simp
  rw [e]
  exact t ⟨_, h⟩
theorem own_neT {Z : State} {h : Heap} {a b : Addr} {k k' : ClassId} {z z' : Int32} {vs vs' : List Value} {d d' : Value} (A : Arv Z h a k .char z vs d) (B : Arv Z h b k' .byte z' vs' d') : a ≠ b := by
  rintro rfl
  obtain ⟨c, A1, -⟩ := A
  obtain ⟨c', B1, -⟩ := B
  obtain ⟨e1, ⟨-, k1, h1, cc, h2⟩, -⟩ := A1
  obtain ⟨e2, ⟨-, k2, h3, cc', h4⟩, -⟩ := B1
  cases e1.symm.trans e2
  cases h1.symm.trans h3
  cases h2.symm.trans h4
abbrev vZ : Value := .int (0 : Int32)
abbrev vI (x : Int32) : Slot := .val (.int x)
abbrev vR (x : Addr) : Slot := .val (.ref x)
abbrev ltN (x y : Nat) : Prop := x < y
theorem own_mi {α : Type} {L : List α} {i : Nat} {x : α} (h : L[i]? = some x) : x ∈ L := List.mem_of_getElem? h
abbrev rmm (a b c d : Nat) : Room := { frames := a, cells := b, slots := c, locals := d }
set_option maxRecDepth 65536
set_option maxHeartbeats 40000000
def own_EL : List (String × Nat) := [("com/example/aproape/aproape/io/MarkupReader$Tag", 30), ("com/example/aproape/aproape/io/MarkupReader$Tag", 32), ("com/example/aproape/aproape/io/MarkupReader$Tag", 38), ("java/lang/String", 7)]
def Cx (Z : State) (a0 : Array Value) : Prop := (∀ d ∈ tables_1, d.before a0 Z = true) ∧ EW Z a0 own_EL ∧ (∃ z : Int32, Sta Z Z.heap "java/lang/String" "COMPACT_STRINGS" "Z" (.int z) ∧ ¬ z = 0) ∧ (∃ z : Value, Sta Z Z.heap "jdk/internal/util/Preconditions" "SIOOBE_FORMATTER" "Ljava/util/function/BiFunction;" z ∧ z.isRef = true) ∧ (Sta Z Z.heap "java/lang/StringUTF16" "$assertionsDisabled" "Z" (.int (1 : Int32))) ∧ (Sta Z Z.heap "java/lang/StringUTF16" "HI_BYTE_SHIFT" "I" vZ) ∧ (Sta Z Z.heap "java/lang/StringUTF16" "LO_BYTE_SHIFT" "I" (.int (8 : Int32)))
theorem Cx.hw {Z : State} {a0 : Array Value} (C : Cx Z a0) : (∀ d ∈ tables_1, d.before a0 Z = true) := C.1
theorem Cx.ew {Z : State} {a0 : Array Value} (C : Cx Z a0) : EW Z a0 own_EL := C.2.1
theorem Cx.cs {Z : State} {a0 : Array Value} (C : Cx Z a0) : (∃ z : Int32, Sta Z Z.heap "java/lang/String" "COMPACT_STRINGS" "Z" (.int z) ∧ ¬ z = 0) := C.2.2.1
theorem Cx.sf {Z : State} {a0 : Array Value} (C : Cx Z a0) : (∃ z : Value, Sta Z Z.heap "jdk/internal/util/Preconditions" "SIOOBE_FORMATTER" "Ljava/util/function/BiFunction;" z ∧ z.isRef = true) := C.2.2.2.1
theorem Cx.u0 {Z : State} {a0 : Array Value} (C : Cx Z a0) : (Sta Z Z.heap "java/lang/StringUTF16" "$assertionsDisabled" "Z" (.int (1 : Int32))) := C.2.2.2.2.1
theorem Cx.u1 {Z : State} {a0 : Array Value} (C : Cx Z a0) : (Sta Z Z.heap "java/lang/StringUTF16" "HI_BYTE_SHIFT" "I" vZ) := C.2.2.2.2.2.1
theorem Cx.u2 {Z : State} {a0 : Array Value} (C : Cx Z a0) : (Sta Z Z.heap "java/lang/StringUTF16" "LO_BYTE_SHIFT" "I" (.int (8 : Int32))) := C.2.2.2.2.2.2
theorem own_ws {Z : State} {a0 : Array Value} (C : Cx Z a0) : ∀ d ∈ StrChars.Road.words, d.before a0 Z = true := fun d hd => C.1 d ((by decide +kernel : ∀ d ∈ StrChars.Road.words, d ∈ tables_1) d hd)
theorem own_wln {Z : State} {a0 : Array Value} (C : Cx Z a0) : ∀ d ∈ StrChars.Road.wordsLen, d.before a0 Z = true := fun d hd => C.1 d ((by decide +kernel : ∀ d ∈ StrChars.Road.wordsLen, d ∈ tables_1) d hd)
theorem own_wch {Z : State} {a0 : Array Value} (C : Cx Z a0) : ∀ d ∈ StrChars.Road.wordsChN, d.before a0 Z = true := fun d hd => C.1 d ((by decide +kernel : ∀ d ∈ StrChars.Road.wordsChN, d ∈ tables_1) d hd)
theorem own_wS {Z : State} {a0 : Array Value} (C : Cx Z a0) : ∀ d ∈ Bundle.stringAtoms, d.before a0 Z = true := fun d hd => C.1 d ((by decide +kernel : ∀ d ∈ Bundle.stringAtoms, d ∈ tables_1) d hd)
section OwnWords
variable {Z : State} {a0 : Array Value}
theorem w0 (C : Cx Z a0) : (Cond.constant "com/example/aproape/aproape/io/TagToStringPinLaw" 7 (65535 : Int32)).before a0 Z = true := C.1 _ (own_mi (i := 0) rfl)
theorem w1 (C : Cx Z a0) : (Cond.classLink "com/example/aproape/aproape/io/TagToStringPinLaw" 8 "java/lang/String").before a0 Z = true := C.1 _ (own_mi (i := 1) rfl)
theorem w2 (C : Cx Z a0) : (Cond.instantiable "java/lang/String" 4).before a0 Z = true := C.1 _ (own_mi (i := 2) rfl)
theorem w3 (C : Cx Z a0) : (Cond.initialized "java/lang/String").before a0 Z = true := C.1 _ (own_mi (i := 3) rfl)
theorem w4 (C : Cx Z a0) : (Cond.arrayClass Jvm.ClassFile.FieldType.char).before a0 Z = true := C.1 _ (own_mi (i := 4) rfl)
theorem w5 (C : Cx Z a0) : (Cond.methodLink "com/example/aproape/aproape/io/TagToStringPinLaw" 10 ⟨"java/lang/String", "<init>", "([C)V"⟩).before a0 Z = true := C.1 _ (own_mi (i := 5) rfl)
theorem w6 (C : Cx Z a0) : (Cond.instanceMethod ⟨"java/lang/String", "<init>", "([C)V"⟩).before a0 Z = true := C.1 _ (own_mi (i := 6) rfl)
theorem w7 (C : Cx Z a0) : (Cond.code ⟨"java/lang/String", "<init>", "([C)V"⟩ jdk_42_method_3_code 2 (Option.none : Option Jvm.ClassFile.FieldType)).before a0 Z = true := C.1 _ (own_mi (i := 7) rfl)
theorem w8 (C : Cx Z a0) : (Cond.methodLink "java/lang/String" 27 ⟨"java/lang/String", "<init>", "([CIILjava/lang/Void;)V"⟩).before a0 Z = true := C.1 _ (own_mi (i := 8) rfl)
theorem w9 (C : Cx Z a0) : (Cond.instanceMethod ⟨"java/lang/String", "<init>", "([CIILjava/lang/Void;)V"⟩).before a0 Z = true := C.1 _ (own_mi (i := 9) rfl)
theorem w11 (C : Cx Z a0) : (Cond.code ⟨"java/lang/String", "<init>", "([CIILjava/lang/Void;)V"⟩ jdk_42_method_149_code 6 (Option.none : Option Jvm.ClassFile.FieldType)).before a0 Z = true := C.1 _ (own_mi (i := 11) rfl)
theorem w12 (C : Cx Z a0) : (Cond.methodLink "java/lang/String" 1 ⟨"java/lang/Object", "<init>", "()V"⟩).before a0 Z = true := C.1 _ (own_mi (i := 12) rfl)
theorem w13 (C : Cx Z a0) : (Cond.instanceMethod ⟨"java/lang/Object", "<init>", "()V"⟩).before a0 Z = true := C.1 _ (own_mi (i := 13) rfl)
theorem w14 (C : Cx Z a0) : (Cond.code ⟨"java/lang/Object", "<init>", "()V"⟩ object_method_1_code 1 (Option.none : Option Jvm.ClassFile.FieldType)).before a0 Z = true := C.1 _ (own_mi (i := 14) rfl)
theorem w15 (C : Cx Z a0) : (Cond.fieldLink "java/lang/String" 38 "java/lang/String" "COMPACT_STRINGS" "Z").before a0 Z = true := C.1 _ (own_mi (i := 15) rfl)
theorem w16 (C : Cx Z a0) : (Cond.methodLink "java/lang/String" 177 ⟨"java/lang/StringUTF16", "compress", "([CII)[B"⟩).before a0 Z = true := C.1 _ (own_mi (i := 16) rfl)
theorem w17 (C : Cx Z a0) : (Cond.static ⟨"java/lang/StringUTF16", "compress", "([CII)[B"⟩).before a0 Z = true := C.1 _ (own_mi (i := 17) rfl)
theorem w18 (C : Cx Z a0) : (Cond.initialized "java/lang/StringUTF16").before a0 Z = true := C.1 _ (own_mi (i := 18) rfl)
theorem w19 (C : Cx Z a0) : (Cond.code ⟨"java/lang/StringUTF16", "compress", "([CII)[B"⟩ jdk_52_method_16_code 6 (Option.some (Jvm.ClassFile.FieldType.array Jvm.ClassFile.FieldType.byte))).before a0 Z = true := C.1 _ (own_mi (i := 19) rfl)
theorem w20 (C : Cx Z a0) : (Cond.arrayClass Jvm.ClassFile.FieldType.byte).before a0 Z = true := C.1 _ (own_mi (i := 20) rfl)
theorem w21 (C : Cx Z a0) : (Cond.methodLink "java/lang/StringUTF16" 115 ⟨"java/lang/StringUTF16", "compress", "([CI[BII)I"⟩).before a0 Z = true := C.1 _ (own_mi (i := 21) rfl)
theorem w22 (C : Cx Z a0) : (Cond.static ⟨"java/lang/StringUTF16", "compress", "([CI[BII)I"⟩).before a0 Z = true := C.1 _ (own_mi (i := 22) rfl)
theorem w23 (C : Cx Z a0) : (Cond.code ⟨"java/lang/StringUTF16", "compress", "([CI[BII)I"⟩ jdk_52_method_21_code 7 (Option.some Jvm.ClassFile.FieldType.int)).before a0 Z = true := C.1 _ (own_mi (i := 23) rfl)
theorem w24 (C : Cx Z a0) : (Cond.methodLink "java/lang/String" 47 ⟨"java/lang/StringUTF16", "coderFromArrayLen", "([BI)B"⟩).before a0 Z = true := C.1 _ (own_mi (i := 24) rfl)
theorem w25 (C : Cx Z a0) : (Cond.static ⟨"java/lang/StringUTF16", "coderFromArrayLen", "([BI)B"⟩).before a0 Z = true := C.1 _ (own_mi (i := 25) rfl)
theorem w26 (C : Cx Z a0) : (Cond.code ⟨"java/lang/StringUTF16", "coderFromArrayLen", "([BI)B"⟩ jdk_52_method_15_code 2 (Option.some Jvm.ClassFile.FieldType.byte)).before a0 Z = true := C.1 _ (own_mi (i := 26) rfl)
theorem w27 (C : Cx Z a0) : (Cond.fieldLink "java/lang/String" 15 "java/lang/String" "coder" "B").before a0 Z = true := C.1 _ (own_mi (i := 27) rfl)
theorem w28 (C : Cx Z a0) : (Cond.laysFinal "java/lang/String" "java/lang/String" "coder" "B").before a0 Z = true := C.1 _ (own_mi (i := 28) rfl)
theorem w29 (C : Cx Z a0) : (Cond.fieldLink "java/lang/String" 9 "java/lang/String" "value" "[B").before a0 Z = true := C.1 _ (own_mi (i := 29) rfl)
theorem w30 (C : Cx Z a0) : (Cond.laysFinal "java/lang/String" "java/lang/String" "value" "[B").before a0 Z = true := C.1 _ (own_mi (i := 30) rfl)
theorem w31 (C : Cx Z a0) : (Cond.classLink "com/example/aproape/aproape/io/TagToStringPinLaw" 13 "com/example/aproape/aproape/io/MarkupReader$Tag").before a0 Z = true := C.1 _ (own_mi (i := 31) rfl)
theorem w32 (C : Cx Z a0) : (Cond.instantiable "com/example/aproape/aproape/io/MarkupReader$Tag" 3).before a0 Z = true := C.1 _ (own_mi (i := 32) rfl)
theorem w33 (C : Cx Z a0) : (Cond.initialized "com/example/aproape/aproape/io/MarkupReader$Tag").before a0 Z = true := C.1 _ (own_mi (i := 33) rfl)
theorem w34 (C : Cx Z a0) : (Cond.methodLink "com/example/aproape/aproape/io/TagToStringPinLaw" 15 ⟨"com/example/aproape/aproape/io/MarkupReader$Tag", "<init>", "(Ljava/lang/String;ZJ)V"⟩).before a0 Z = true := C.1 _ (own_mi (i := 34) rfl)
theorem w35 (C : Cx Z a0) : (Cond.instanceMethod ⟨"com/example/aproape/aproape/io/MarkupReader$Tag", "<init>", "(Ljava/lang/String;ZJ)V"⟩).before a0 Z = true := C.1 _ (own_mi (i := 35) rfl)
theorem w36 (C : Cx Z a0) : (Cond.code ⟨"com/example/aproape/aproape/io/MarkupReader$Tag", "<init>", "(Ljava/lang/String;ZJ)V"⟩ prog_16_method_1_code 5 (Option.none : Option Jvm.ClassFile.FieldType)).before a0 Z = true := C.1 _ (own_mi (i := 36) rfl)
theorem w37 (C : Cx Z a0) : (Cond.methodLink "com/example/aproape/aproape/io/MarkupReader$Tag" 1 ⟨"java/lang/Record", "<init>", "()V"⟩).before a0 Z = true := C.1 _ (own_mi (i := 37) rfl)
theorem w38 (C : Cx Z a0) : (Cond.instanceMethod ⟨"java/lang/Record", "<init>", "()V"⟩).before a0 Z = true := C.1 _ (own_mi (i := 38) rfl)
theorem w40 (C : Cx Z a0) : (Cond.initialized "java/lang/Record").before a0 Z = true := C.1 _ (own_mi (i := 40) rfl)
theorem w41 (C : Cx Z a0) : (Cond.code ⟨"java/lang/Record", "<init>", "()V"⟩ jdk_30_method_1_code 1 (Option.none : Option Jvm.ClassFile.FieldType)).before a0 Z = true := C.1 _ (own_mi (i := 41) rfl)
theorem w42 (C : Cx Z a0) : (Cond.methodLink "java/lang/Record" 1 ⟨"java/lang/Object", "<init>", "()V"⟩).before a0 Z = true := C.1 _ (own_mi (i := 42) rfl)
theorem w43 (C : Cx Z a0) : (Cond.fieldLink "com/example/aproape/aproape/io/MarkupReader$Tag" 7 "com/example/aproape/aproape/io/MarkupReader$Tag" "name" "Ljava/lang/String;").before a0 Z = true := C.1 _ (own_mi (i := 43) rfl)
theorem w44 (C : Cx Z a0) : (Cond.laysFinal "com/example/aproape/aproape/io/MarkupReader$Tag" "com/example/aproape/aproape/io/MarkupReader$Tag" "name" "Ljava/lang/String;").before a0 Z = true := C.1 _ (own_mi (i := 44) rfl)
theorem w45 (C : Cx Z a0) : (Cond.fieldLink "com/example/aproape/aproape/io/MarkupReader$Tag" 13 "com/example/aproape/aproape/io/MarkupReader$Tag" "closing" "Z").before a0 Z = true := C.1 _ (own_mi (i := 45) rfl)
theorem w46 (C : Cx Z a0) : (Cond.laysFinal "com/example/aproape/aproape/io/MarkupReader$Tag" "com/example/aproape/aproape/io/MarkupReader$Tag" "closing" "Z").before a0 Z = true := C.1 _ (own_mi (i := 46) rfl)
theorem w47 (C : Cx Z a0) : (Cond.fieldLink "com/example/aproape/aproape/io/MarkupReader$Tag" 17 "com/example/aproape/aproape/io/MarkupReader$Tag" "line" "J").before a0 Z = true := C.1 _ (own_mi (i := 47) rfl)
theorem w48 (C : Cx Z a0) : (Cond.laysFinal "com/example/aproape/aproape/io/MarkupReader$Tag" "com/example/aproape/aproape/io/MarkupReader$Tag" "line" "J").before a0 Z = true := C.1 _ (own_mi (i := 48) rfl)
theorem w49 (C : Cx Z a0) : (Cond.methodLink "com/example/aproape/aproape/io/TagToStringPinLaw" 18 ⟨"com/example/aproape/aproape/io/MarkupReader$Tag", "toString", "()Ljava/lang/String;"⟩).before a0 Z = true := C.1 _ (own_mi (i := 49) rfl)
theorem w50 (C : Cx Z a0) : (Cond.declares ⟨"com/example/aproape/aproape/io/MarkupReader$Tag", "toString", "()Ljava/lang/String;"⟩).before a0 Z = true := C.1 _ (own_mi (i := 50) rfl)
theorem w51 (C : Cx Z a0) : (Cond.instanceMethod ⟨"com/example/aproape/aproape/io/MarkupReader$Tag", "toString", "()Ljava/lang/String;"⟩).before a0 Z = true := C.1 _ (own_mi (i := 51) rfl)
theorem w52 (C : Cx Z a0) : (Cond.selects "com/example/aproape/aproape/io/MarkupReader$Tag" ⟨"com/example/aproape/aproape/io/MarkupReader$Tag", "toString", "()Ljava/lang/String;"⟩ ⟨"com/example/aproape/aproape/io/MarkupReader$Tag", "toString", "()Ljava/lang/String;"⟩).before a0 Z = true := C.1 _ (own_mi (i := 52) rfl)
theorem w53 (C : Cx Z a0) : (Cond.code ⟨"com/example/aproape/aproape/io/MarkupReader$Tag", "toString", "()Ljava/lang/String;"⟩ prog_16_method_3_code 1 (Option.some (Jvm.ClassFile.FieldType.object "java/lang/String"))).before a0 Z = true := C.1 _ (own_mi (i := 53) rfl)
theorem w54 (C : Cx Z a0) : (Cond.classLink "com/example/aproape/aproape/io/MarkupReader$Tag" 27 "java/lang/StringBuilder").before a0 Z = true := C.1 _ (own_mi (i := 54) rfl)
theorem w55 (C : Cx Z a0) : (Cond.instantiable "java/lang/StringBuilder" 4).before a0 Z = true := C.1 _ (own_mi (i := 55) rfl)
theorem w56 (C : Cx Z a0) : (Cond.initialized "java/lang/StringBuilder").before a0 Z = true := C.1 _ (own_mi (i := 56) rfl)
theorem w57 (C : Cx Z a0) : (Cond.methodLink "com/example/aproape/aproape/io/MarkupReader$Tag" 29 ⟨"java/lang/StringBuilder", "<init>", "()V"⟩).before a0 Z = true := C.1 _ (own_mi (i := 57) rfl)
theorem w58 (C : Cx Z a0) : (Cond.instanceMethod ⟨"java/lang/StringBuilder", "<init>", "()V"⟩).before a0 Z = true := C.1 _ (own_mi (i := 58) rfl)
theorem w59 (C : Cx Z a0) : (Cond.code ⟨"java/lang/StringBuilder", "<init>", "()V"⟩ jdk_67_method_1_code 1 (Option.none : Option Jvm.ClassFile.FieldType)).before a0 Z = true := C.1 _ (own_mi (i := 59) rfl)
theorem w60 (C : Cx Z a0) : (Cond.methodLink "java/lang/StringBuilder" 1 ⟨"java/lang/AbstractStringBuilder", "<init>", "(I)V"⟩).before a0 Z = true := C.1 _ (own_mi (i := 60) rfl)
theorem w61 (C : Cx Z a0) : (Cond.instanceMethod ⟨"java/lang/AbstractStringBuilder", "<init>", "(I)V"⟩).before a0 Z = true := C.1 _ (own_mi (i := 61) rfl)
theorem w64 (C : Cx Z a0) : (Cond.initialized "java/lang/AbstractStringBuilder").before a0 Z = true := C.1 _ (own_mi (i := 64) rfl)
theorem w65 (C : Cx Z a0) : (Cond.code ⟨"java/lang/AbstractStringBuilder", "<init>", "(I)V"⟩ jdk_68_method_2_code 2 (Option.none : Option Jvm.ClassFile.FieldType)).before a0 Z = true := C.1 _ (own_mi (i := 65) rfl)
theorem w66 (C : Cx Z a0) : (Cond.methodLink "java/lang/AbstractStringBuilder" 3 ⟨"java/lang/Object", "<init>", "()V"⟩).before a0 Z = true := C.1 _ (own_mi (i := 66) rfl)
theorem w67 (C : Cx Z a0) : (Cond.fieldLink "java/lang/AbstractStringBuilder" 18 "java/lang/String" "COMPACT_STRINGS" "Z").before a0 Z = true := C.1 _ (own_mi (i := 67) rfl)
theorem w68 (C : Cx Z a0) : (Cond.fieldLink "java/lang/AbstractStringBuilder" 15 "java/lang/AbstractStringBuilder" "value" "[B").before a0 Z = true := C.1 _ (own_mi (i := 68) rfl)
theorem w69 (C : Cx Z a0) : (Cond.lays "java/lang/StringBuilder" "java/lang/AbstractStringBuilder" "value" "[B").before a0 Z = true := C.1 _ (own_mi (i := 69) rfl)
theorem w70 (C : Cx Z a0) : (Cond.fieldLink "java/lang/AbstractStringBuilder" 22 "java/lang/AbstractStringBuilder" "coder" "B").before a0 Z = true := C.1 _ (own_mi (i := 70) rfl)
theorem w71 (C : Cx Z a0) : (Cond.lays "java/lang/StringBuilder" "java/lang/AbstractStringBuilder" "coder" "B").before a0 Z = true := C.1 _ (own_mi (i := 71) rfl)
theorem w72 (C : Cx Z a0) : (Cond.stringLink "com/example/aproape/aproape/io/MarkupReader$Tag" 32 "<").before a0 Z = true := C.1 _ (own_mi (i := 72) rfl)
theorem w75 (C : Cx Z a0) : (Cond.methodLink "com/example/aproape/aproape/io/MarkupReader$Tag" 34 ⟨"java/lang/StringBuilder", "append", "(Ljava/lang/String;)Ljava/lang/StringBuilder;"⟩).before a0 Z = true := C.1 _ (own_mi (i := 75) rfl)
theorem w76 (C : Cx Z a0) : (Cond.declares ⟨"java/lang/StringBuilder", "append", "(Ljava/lang/String;)Ljava/lang/StringBuilder;"⟩).before a0 Z = true := C.1 _ (own_mi (i := 76) rfl)
theorem w77 (C : Cx Z a0) : (Cond.instanceMethod ⟨"java/lang/StringBuilder", "append", "(Ljava/lang/String;)Ljava/lang/StringBuilder;"⟩).before a0 Z = true := C.1 _ (own_mi (i := 77) rfl)
theorem w78 (C : Cx Z a0) : (Cond.selects "java/lang/StringBuilder" ⟨"java/lang/StringBuilder", "append", "(Ljava/lang/String;)Ljava/lang/StringBuilder;"⟩ ⟨"java/lang/StringBuilder", "append", "(Ljava/lang/String;)Ljava/lang/StringBuilder;"⟩).before a0 Z = true := C.1 _ (own_mi (i := 78) rfl)
theorem w79 (C : Cx Z a0) : (Cond.code ⟨"java/lang/StringBuilder", "append", "(Ljava/lang/String;)Ljava/lang/StringBuilder;"⟩ jdk_67_method_7_code 2 (Option.some (Jvm.ClassFile.FieldType.object "java/lang/StringBuilder"))).before a0 Z = true := C.1 _ (own_mi (i := 79) rfl)
theorem w80 (C : Cx Z a0) : (Cond.methodLink "java/lang/StringBuilder" 29 ⟨"java/lang/AbstractStringBuilder", "append", "(Ljava/lang/String;)Ljava/lang/AbstractStringBuilder;"⟩).before a0 Z = true := C.1 _ (own_mi (i := 80) rfl)
theorem w81 (C : Cx Z a0) : (Cond.instanceMethod ⟨"java/lang/AbstractStringBuilder", "append", "(Ljava/lang/String;)Ljava/lang/AbstractStringBuilder;"⟩).before a0 Z = true := C.1 _ (own_mi (i := 81) rfl)
theorem w82 (C : Cx Z a0) : (Cond.superclass "java/lang/StringBuilder" "java/lang/AbstractStringBuilder").before a0 Z = true := C.1 _ (own_mi (i := 82) rfl)
theorem w83 (C : Cx Z a0) : (Cond.declares ⟨"java/lang/AbstractStringBuilder", "append", "(Ljava/lang/String;)Ljava/lang/AbstractStringBuilder;"⟩).before a0 Z = true := C.1 _ (own_mi (i := 83) rfl)
theorem w84 (C : Cx Z a0) : (Cond.code ⟨"java/lang/AbstractStringBuilder", "append", "(Ljava/lang/String;)Ljava/lang/AbstractStringBuilder;"⟩ jdk_68_method_22_code 3 (Option.some (Jvm.ClassFile.FieldType.object "java/lang/AbstractStringBuilder"))).before a0 Z = true := C.1 _ (own_mi (i := 84) rfl)
theorem w85 (C : Cx Z a0) : (Cond.methodLink "java/lang/AbstractStringBuilder" 32 ⟨"java/lang/String", "length", "()I"⟩).before a0 Z = true := C.1 _ (own_mi (i := 85) rfl)
theorem w86 (C : Cx Z a0) : (Cond.declares ⟨"java/lang/String", "length", "()I"⟩).before a0 Z = true := C.1 _ (own_mi (i := 86) rfl)
theorem w87 (C : Cx Z a0) : (Cond.instanceMethod ⟨"java/lang/String", "length", "()I"⟩).before a0 Z = true := C.1 _ (own_mi (i := 87) rfl)
theorem w88 (C : Cx Z a0) : (Cond.selects "java/lang/String" ⟨"java/lang/String", "length", "()I"⟩ ⟨"java/lang/String", "length", "()I"⟩).before a0 Z = true := C.1 _ (own_mi (i := 88) rfl)
theorem w89 (C : Cx Z a0) : (Cond.code ⟨"java/lang/String", "length", "()I"⟩ jdk_42_method_54_code 1 (Option.some Jvm.ClassFile.FieldType.int)).before a0 Z = true := C.1 _ (own_mi (i := 89) rfl)
theorem w90 (C : Cx Z a0) : (Cond.methodLink "java/lang/String" 335 ⟨"java/lang/String", "coder", "()B"⟩).before a0 Z = true := C.1 _ (own_mi (i := 90) rfl)
theorem w91 (C : Cx Z a0) : (Cond.declares ⟨"java/lang/String", "coder", "()B"⟩).before a0 Z = true := C.1 _ (own_mi (i := 91) rfl)
theorem w92 (C : Cx Z a0) : (Cond.instanceMethod ⟨"java/lang/String", "coder", "()B"⟩).before a0 Z = true := C.1 _ (own_mi (i := 92) rfl)
theorem w93 (C : Cx Z a0) : (Cond.selects "java/lang/String" ⟨"java/lang/String", "coder", "()B"⟩ ⟨"java/lang/String", "coder", "()B"⟩).before a0 Z = true := C.1 _ (own_mi (i := 93) rfl)
theorem w94 (C : Cx Z a0) : (Cond.code ⟨"java/lang/String", "coder", "()B"⟩ jdk_42_method_152_code 1 (Option.some Jvm.ClassFile.FieldType.byte)).before a0 Z = true := C.1 _ (own_mi (i := 94) rfl)
theorem w95 (C : Cx Z a0) : (Cond.fieldLink "java/lang/AbstractStringBuilder" 79 "java/lang/AbstractStringBuilder" "count" "I").before a0 Z = true := C.1 _ (own_mi (i := 95) rfl)
theorem w96 (C : Cx Z a0) : (Cond.lays "java/lang/StringBuilder" "java/lang/AbstractStringBuilder" "count" "I").before a0 Z = true := C.1 _ (own_mi (i := 96) rfl)
theorem w97 (C : Cx Z a0) : (Cond.methodLink "java/lang/AbstractStringBuilder" 100 ⟨"java/lang/AbstractStringBuilder", "ensureCapacityInternal", "(I)V"⟩).before a0 Z = true := C.1 _ (own_mi (i := 97) rfl)
theorem w98 (C : Cx Z a0) : (Cond.instanceMethod ⟨"java/lang/AbstractStringBuilder", "ensureCapacityInternal", "(I)V"⟩).before a0 Z = true := C.1 _ (own_mi (i := 98) rfl)
theorem w100 (C : Cx Z a0) : (Cond.selects "java/lang/StringBuilder" ⟨"java/lang/AbstractStringBuilder", "ensureCapacityInternal", "(I)V"⟩ ⟨"java/lang/AbstractStringBuilder", "ensureCapacityInternal", "(I)V"⟩).before a0 Z = true := C.1 _ (own_mi (i := 100) rfl)
theorem w101 (C : Cx Z a0) : (Cond.code ⟨"java/lang/AbstractStringBuilder", "ensureCapacityInternal", "(I)V"⟩ jdk_68_method_9_code 3 (Option.none : Option Jvm.ClassFile.FieldType)).before a0 Z = true := C.1 _ (own_mi (i := 101) rfl)
theorem w102 (C : Cx Z a0) : (Cond.methodLink "java/lang/AbstractStringBuilder" 208 ⟨"java/lang/AbstractStringBuilder", "putStringAt", "(ILjava/lang/String;)V"⟩).before a0 Z = true := C.1 _ (own_mi (i := 102) rfl)
theorem w103 (C : Cx Z a0) : (Cond.instanceMethod ⟨"java/lang/AbstractStringBuilder", "putStringAt", "(ILjava/lang/String;)V"⟩).before a0 Z = true := C.1 _ (own_mi (i := 103) rfl)
theorem w105 (C : Cx Z a0) : (Cond.selects "java/lang/StringBuilder" ⟨"java/lang/AbstractStringBuilder", "putStringAt", "(ILjava/lang/String;)V"⟩ ⟨"java/lang/AbstractStringBuilder", "putStringAt", "(ILjava/lang/String;)V"⟩).before a0 Z = true := C.1 _ (own_mi (i := 105) rfl)
theorem w106 (C : Cx Z a0) : (Cond.code ⟨"java/lang/AbstractStringBuilder", "putStringAt", "(ILjava/lang/String;)V"⟩ jdk_68_method_73_code 3 (Option.none : Option Jvm.ClassFile.FieldType)).before a0 Z = true := C.1 _ (own_mi (i := 106) rfl)
theorem w107 (C : Cx Z a0) : (Cond.methodLink "java/lang/AbstractStringBuilder" 397 ⟨"java/lang/AbstractStringBuilder", "inflateIfNeededFor", "(Ljava/lang/String;)V"⟩).before a0 Z = true := C.1 _ (own_mi (i := 107) rfl)
theorem w108 (C : Cx Z a0) : (Cond.instanceMethod ⟨"java/lang/AbstractStringBuilder", "inflateIfNeededFor", "(Ljava/lang/String;)V"⟩).before a0 Z = true := C.1 _ (own_mi (i := 108) rfl)
theorem w110 (C : Cx Z a0) : (Cond.selects "java/lang/StringBuilder" ⟨"java/lang/AbstractStringBuilder", "inflateIfNeededFor", "(Ljava/lang/String;)V"⟩ ⟨"java/lang/AbstractStringBuilder", "inflateIfNeededFor", "(Ljava/lang/String;)V"⟩).before a0 Z = true := C.1 _ (own_mi (i := 110) rfl)
theorem w111 (C : Cx Z a0) : (Cond.code ⟨"java/lang/AbstractStringBuilder", "inflateIfNeededFor", "(Ljava/lang/String;)V"⟩ jdk_68_method_71_code 2 (Option.none : Option Jvm.ClassFile.FieldType)).before a0 Z = true := C.1 _ (own_mi (i := 111) rfl)
theorem w112 (C : Cx Z a0) : (Cond.methodLink "java/lang/AbstractStringBuilder" 40 ⟨"java/lang/String", "coder", "()B"⟩).before a0 Z = true := C.1 _ (own_mi (i := 112) rfl)
theorem w113 (C : Cx Z a0) : (Cond.methodLink "java/lang/AbstractStringBuilder" 399 ⟨"java/lang/String", "getBytes", "([BIB)V"⟩).before a0 Z = true := C.1 _ (own_mi (i := 113) rfl)
theorem w114 (C : Cx Z a0) : (Cond.declares ⟨"java/lang/String", "getBytes", "([BIB)V"⟩).before a0 Z = true := C.1 _ (own_mi (i := 114) rfl)
theorem w115 (C : Cx Z a0) : (Cond.instanceMethod ⟨"java/lang/String", "getBytes", "([BIB)V"⟩).before a0 Z = true := C.1 _ (own_mi (i := 115) rfl)
theorem w116 (C : Cx Z a0) : (Cond.selects "java/lang/String" ⟨"java/lang/String", "getBytes", "([BIB)V"⟩ ⟨"java/lang/String", "getBytes", "([BIB)V"⟩).before a0 Z = true := C.1 _ (own_mi (i := 116) rfl)
theorem w117 (C : Cx Z a0) : (Cond.code ⟨"java/lang/String", "getBytes", "([BIB)V"⟩ jdk_42_method_147_code 4 (Option.none : Option Jvm.ClassFile.FieldType)).before a0 Z = true := C.1 _ (own_mi (i := 117) rfl)
theorem w118 (C : Cx Z a0) : (Cond.methodLink "java/lang/String" 212 ⟨"java/lang/System", "arraycopy", "(Ljava/lang/Object;ILjava/lang/Object;II)V"⟩).before a0 Z = true := C.1 _ (own_mi (i := 118) rfl)
theorem w119 (C : Cx Z a0) : (Cond.static ⟨"java/lang/System", "arraycopy", "(Ljava/lang/Object;ILjava/lang/Object;II)V"⟩).before a0 Z = true := C.1 _ (own_mi (i := 119) rfl)
theorem w120 (C : Cx Z a0) : (Cond.initialized "java/lang/System").before a0 Z = true := C.1 _ (own_mi (i := 120) rfl)
theorem w121 (C : Cx Z a0) : (Cond.native ⟨"java/lang/System", "arraycopy", "(Ljava/lang/Object;ILjava/lang/Object;II)V"⟩).before a0 Z = true := C.1 _ (own_mi (i := 121) rfl)
theorem w122 (C : Cx Z a0) : (Cond.stringLink "com/example/aproape/aproape/io/MarkupReader$Tag" 38 ">").before a0 Z = true := C.1 _ (own_mi (i := 122) rfl)
theorem w123 (C : Cx Z a0) : (Cond.methodLink "com/example/aproape/aproape/io/MarkupReader$Tag" 40 ⟨"java/lang/StringBuilder", "toString", "()Ljava/lang/String;"⟩).before a0 Z = true := C.1 _ (own_mi (i := 123) rfl)
theorem w124 (C : Cx Z a0) : (Cond.declares ⟨"java/lang/StringBuilder", "toString", "()Ljava/lang/String;"⟩).before a0 Z = true := C.1 _ (own_mi (i := 124) rfl)
theorem w125 (C : Cx Z a0) : (Cond.instanceMethod ⟨"java/lang/StringBuilder", "toString", "()Ljava/lang/String;"⟩).before a0 Z = true := C.1 _ (own_mi (i := 125) rfl)
theorem w126 (C : Cx Z a0) : (Cond.selects "java/lang/StringBuilder" ⟨"java/lang/StringBuilder", "toString", "()Ljava/lang/String;"⟩ ⟨"java/lang/StringBuilder", "toString", "()Ljava/lang/String;"⟩).before a0 Z = true := C.1 _ (own_mi (i := 126) rfl)
theorem w127 (C : Cx Z a0) : (Cond.code ⟨"java/lang/StringBuilder", "toString", "()Ljava/lang/String;"⟩ jdk_67_method_42_code 1 (Option.some (Jvm.ClassFile.FieldType.object "java/lang/String"))).before a0 Z = true := C.1 _ (own_mi (i := 127) rfl)
theorem w128 (C : Cx Z a0) : (Cond.classLink "java/lang/StringBuilder" 18 "java/lang/String").before a0 Z = true := C.1 _ (own_mi (i := 128) rfl)
theorem w129 (C : Cx Z a0) : (Cond.methodLink "java/lang/StringBuilder" 137 ⟨"java/lang/String", "<init>", "(Ljava/lang/StringBuilder;)V"⟩).before a0 Z = true := C.1 _ (own_mi (i := 129) rfl)
theorem w130 (C : Cx Z a0) : (Cond.instanceMethod ⟨"java/lang/String", "<init>", "(Ljava/lang/StringBuilder;)V"⟩).before a0 Z = true := C.1 _ (own_mi (i := 130) rfl)
theorem w131 (C : Cx Z a0) : (Cond.code ⟨"java/lang/String", "<init>", "(Ljava/lang/StringBuilder;)V"⟩ jdk_42_method_53_code 2 (Option.none : Option Jvm.ClassFile.FieldType)).before a0 Z = true := C.1 _ (own_mi (i := 131) rfl)
theorem w132 (C : Cx Z a0) : (Cond.methodLink "java/lang/String" 489 ⟨"java/lang/String", "<init>", "(Ljava/lang/AbstractStringBuilder;Ljava/lang/Void;)V"⟩).before a0 Z = true := C.1 _ (own_mi (i := 132) rfl)
theorem w133 (C : Cx Z a0) : (Cond.instanceMethod ⟨"java/lang/String", "<init>", "(Ljava/lang/AbstractStringBuilder;Ljava/lang/Void;)V"⟩).before a0 Z = true := C.1 _ (own_mi (i := 133) rfl)
theorem w134 (C : Cx Z a0) : (Cond.code ⟨"java/lang/String", "<init>", "(Ljava/lang/AbstractStringBuilder;Ljava/lang/Void;)V"⟩ jdk_42_method_150_code 5 (Option.none : Option Jvm.ClassFile.FieldType)).before a0 Z = true := C.1 _ (own_mi (i := 134) rfl)
theorem w135 (C : Cx Z a0) : (Cond.methodLink "java/lang/String" 552 ⟨"java/lang/AbstractStringBuilder", "getValue", "()[B"⟩).before a0 Z = true := C.1 _ (own_mi (i := 135) rfl)
theorem w136 (C : Cx Z a0) : (Cond.declares ⟨"java/lang/AbstractStringBuilder", "getValue", "()[B"⟩).before a0 Z = true := C.1 _ (own_mi (i := 136) rfl)
theorem w137 (C : Cx Z a0) : (Cond.instanceMethod ⟨"java/lang/AbstractStringBuilder", "getValue", "()[B"⟩).before a0 Z = true := C.1 _ (own_mi (i := 137) rfl)
theorem w138 (C : Cx Z a0) : (Cond.selects "java/lang/StringBuilder" ⟨"java/lang/AbstractStringBuilder", "getValue", "()[B"⟩ ⟨"java/lang/AbstractStringBuilder", "getValue", "()[B"⟩).before a0 Z = true := C.1 _ (own_mi (i := 138) rfl)
theorem w139 (C : Cx Z a0) : (Cond.code ⟨"java/lang/AbstractStringBuilder", "getValue", "()[B"⟩ jdk_68_method_64_code 1 (Option.some (Jvm.ClassFile.FieldType.array Jvm.ClassFile.FieldType.byte))).before a0 Z = true := C.1 _ (own_mi (i := 139) rfl)
theorem w140 (C : Cx Z a0) : (Cond.methodLink "java/lang/String" 549 ⟨"java/lang/AbstractStringBuilder", "length", "()I"⟩).before a0 Z = true := C.1 _ (own_mi (i := 140) rfl)
theorem w141 (C : Cx Z a0) : (Cond.declares ⟨"java/lang/AbstractStringBuilder", "length", "()I"⟩).before a0 Z = true := C.1 _ (own_mi (i := 141) rfl)
theorem w142 (C : Cx Z a0) : (Cond.instanceMethod ⟨"java/lang/AbstractStringBuilder", "length", "()I"⟩).before a0 Z = true := C.1 _ (own_mi (i := 142) rfl)
theorem w143 (C : Cx Z a0) : (Cond.selects "java/lang/StringBuilder" ⟨"java/lang/AbstractStringBuilder", "length", "()I"⟩ ⟨"java/lang/StringBuilder", "length", "()I"⟩).before a0 Z = true := C.1 _ (own_mi (i := 143) rfl)
theorem w144 (C : Cx Z a0) : (Cond.instanceMethod ⟨"java/lang/StringBuilder", "length", "()I"⟩).before a0 Z = true := C.1 _ (own_mi (i := 144) rfl)
theorem w145 (C : Cx Z a0) : (Cond.code ⟨"java/lang/StringBuilder", "length", "()I"⟩ jdk_67_method_93_code 1 (Option.some Jvm.ClassFile.FieldType.int)).before a0 Z = true := C.1 _ (own_mi (i := 145) rfl)
theorem w146 (C : Cx Z a0) : (Cond.methodLink "java/lang/StringBuilder" 343 ⟨"java/lang/AbstractStringBuilder", "length", "()I"⟩).before a0 Z = true := C.1 _ (own_mi (i := 146) rfl)
theorem w147 (C : Cx Z a0) : (Cond.code ⟨"java/lang/AbstractStringBuilder", "length", "()I"⟩ jdk_68_method_6_code 1 (Option.some Jvm.ClassFile.FieldType.int)).before a0 Z = true := C.1 _ (own_mi (i := 147) rfl)
theorem w148 (C : Cx Z a0) : (Cond.methodLink "java/lang/String" 1047 ⟨"java/lang/AbstractStringBuilder", "isLatin1", "()Z"⟩).before a0 Z = true := C.1 _ (own_mi (i := 148) rfl)
theorem w149 (C : Cx Z a0) : (Cond.declares ⟨"java/lang/AbstractStringBuilder", "isLatin1", "()Z"⟩).before a0 Z = true := C.1 _ (own_mi (i := 149) rfl)
theorem w150 (C : Cx Z a0) : (Cond.instanceMethod ⟨"java/lang/AbstractStringBuilder", "isLatin1", "()Z"⟩).before a0 Z = true := C.1 _ (own_mi (i := 150) rfl)
theorem w151 (C : Cx Z a0) : (Cond.selects "java/lang/StringBuilder" ⟨"java/lang/AbstractStringBuilder", "isLatin1", "()Z"⟩ ⟨"java/lang/AbstractStringBuilder", "isLatin1", "()Z"⟩).before a0 Z = true := C.1 _ (own_mi (i := 151) rfl)
theorem w152 (C : Cx Z a0) : (Cond.code ⟨"java/lang/AbstractStringBuilder", "isLatin1", "()Z"⟩ jdk_68_method_68_code 1 (Option.some Jvm.ClassFile.FieldType.boolean)).before a0 Z = true := C.1 _ (own_mi (i := 152) rfl)
theorem w153 (C : Cx Z a0) : (Cond.methodLink "java/lang/String" 54 ⟨"java/util/Arrays", "copyOfRange", "([BII)[B"⟩).before a0 Z = true := C.1 _ (own_mi (i := 153) rfl)
theorem w154 (C : Cx Z a0) : (Cond.static ⟨"java/util/Arrays", "copyOfRange", "([BII)[B"⟩).before a0 Z = true := C.1 _ (own_mi (i := 154) rfl)
theorem w155 (C : Cx Z a0) : (Cond.initialized "java/util/Arrays").before a0 Z = true := C.1 _ (own_mi (i := 155) rfl)
theorem w156 (C : Cx Z a0) : (Cond.code ⟨"java/util/Arrays", "copyOfRange", "([BII)[B"⟩ jdk_65_method_132_code 3 (Option.some (Jvm.ClassFile.FieldType.array Jvm.ClassFile.FieldType.byte))).before a0 Z = true := C.1 _ (own_mi (i := 156) rfl)
theorem w157 (C : Cx Z a0) : (Cond.methodLink "java/util/Arrays" 339 ⟨"java/util/Arrays", "copyOfRangeByte", "([BII)[B"⟩).before a0 Z = true := C.1 _ (own_mi (i := 157) rfl)
theorem w158 (C : Cx Z a0) : (Cond.static ⟨"java/util/Arrays", "copyOfRangeByte", "([BII)[B"⟩).before a0 Z = true := C.1 _ (own_mi (i := 158) rfl)
theorem w159 (C : Cx Z a0) : (Cond.code ⟨"java/util/Arrays", "copyOfRangeByte", "([BII)[B"⟩ jdk_65_method_133_code 5 (Option.some (Jvm.ClassFile.FieldType.array Jvm.ClassFile.FieldType.byte))).before a0 Z = true := C.1 _ (own_mi (i := 159) rfl)
theorem w160 (C : Cx Z a0) : (Cond.methodLink "java/util/Arrays" 343 ⟨"java/util/Arrays", "checkLength", "(II)V"⟩).before a0 Z = true := C.1 _ (own_mi (i := 160) rfl)
theorem w161 (C : Cx Z a0) : (Cond.static ⟨"java/util/Arrays", "checkLength", "(II)V"⟩).before a0 Z = true := C.1 _ (own_mi (i := 161) rfl)
theorem w162 (C : Cx Z a0) : (Cond.code ⟨"java/util/Arrays", "checkLength", "(II)V"⟩ jdk_65_method_131_code 2 (Option.none : Option Jvm.ClassFile.FieldType)).before a0 Z = true := C.1 _ (own_mi (i := 162) rfl)
theorem w163 (C : Cx Z a0) : (Cond.methodLink "java/util/Arrays" 304 ⟨"java/lang/Math", "min", "(II)I"⟩).before a0 Z = true := C.1 _ (own_mi (i := 163) rfl)
theorem w164 (C : Cx Z a0) : (Cond.static ⟨"java/lang/Math", "min", "(II)I"⟩).before a0 Z = true := C.1 _ (own_mi (i := 164) rfl)
theorem w165 (C : Cx Z a0) : (Cond.initialized "java/lang/Math").before a0 Z = true := C.1 _ (own_mi (i := 165) rfl)
theorem w166 (C : Cx Z a0) : (Cond.code ⟨"java/lang/Math", "min", "(II)I"⟩ jdk_29_method_69_code 2 (Option.some Jvm.ClassFile.FieldType.int)).before a0 Z = true := C.1 _ (own_mi (i := 166) rfl)
theorem w167 (C : Cx Z a0) : (Cond.methodLink "java/util/Arrays" 150 ⟨"java/lang/System", "arraycopy", "(Ljava/lang/Object;ILjava/lang/Object;II)V"⟩).before a0 Z = true := C.1 _ (own_mi (i := 167) rfl)
theorem w168 (C : Cx Z a0) : (Cond.methodLink "com/example/aproape/aproape/io/TagToStringPinLaw" 22 ⟨"java/lang/String", "length", "()I"⟩).before a0 Z = true := C.1 _ (own_mi (i := 168) rfl)
theorem w169 (C : Cx Z a0) : (Cond.methodLink "com/example/aproape/aproape/io/TagToStringPinLaw" 26 ⟨"com/example/aproape/aproape/io/TagToStringPinLaw", "at", "(Ljava/lang/String;IIIICCC)Z"⟩).before a0 Z = true := C.1 _ (own_mi (i := 169) rfl)
theorem w170 (C : Cx Z a0) : (Cond.static ⟨"com/example/aproape/aproape/io/TagToStringPinLaw", "at", "(Ljava/lang/String;IIIICCC)Z"⟩).before a0 Z = true := C.1 _ (own_mi (i := 170) rfl)
theorem w171 (C : Cx Z a0) : (Cond.initialized "com/example/aproape/aproape/io/TagToStringPinLaw").before a0 Z = true := C.1 _ (own_mi (i := 171) rfl)
theorem w172 (C : Cx Z a0) : (Cond.code ⟨"com/example/aproape/aproape/io/TagToStringPinLaw", "at", "(Ljava/lang/String;IIIICCC)Z"⟩ method_3_code 8 (Option.some Jvm.ClassFile.FieldType.boolean)).before a0 Z = true := C.1 _ (own_mi (i := 172) rfl)
theorem w173 (C : Cx Z a0) : (Cond.methodLink "com/example/aproape/aproape/io/TagToStringPinLaw" 32 ⟨"java/lang/String", "charAt", "(I)C"⟩).before a0 Z = true := C.1 _ (own_mi (i := 173) rfl)
theorem w174 (C : Cx Z a0) : (Cond.declares ⟨"java/lang/String", "charAt", "(I)C"⟩).before a0 Z = true := C.1 _ (own_mi (i := 174) rfl)
theorem w175 (C : Cx Z a0) : (Cond.instanceMethod ⟨"java/lang/String", "charAt", "(I)C"⟩).before a0 Z = true := C.1 _ (own_mi (i := 175) rfl)
theorem w176 (C : Cx Z a0) : (Cond.selects "java/lang/String" ⟨"java/lang/String", "charAt", "(I)C"⟩ ⟨"java/lang/String", "charAt", "(I)C"⟩).before a0 Z = true := C.1 _ (own_mi (i := 176) rfl)
theorem w177 (C : Cx Z a0) : (Cond.code ⟨"java/lang/String", "charAt", "(I)C"⟩ jdk_42_method_56_code 2 (Option.some Jvm.ClassFile.FieldType.char)).before a0 Z = true := C.1 _ (own_mi (i := 177) rfl)
theorem w178 (C : Cx Z a0) : (Cond.methodLink "java/lang/String" 492 ⟨"java/lang/String", "isLatin1", "()Z"⟩).before a0 Z = true := C.1 _ (own_mi (i := 178) rfl)
theorem w179 (C : Cx Z a0) : (Cond.declares ⟨"java/lang/String", "isLatin1", "()Z"⟩).before a0 Z = true := C.1 _ (own_mi (i := 179) rfl)
theorem w180 (C : Cx Z a0) : (Cond.instanceMethod ⟨"java/lang/String", "isLatin1", "()Z"⟩).before a0 Z = true := C.1 _ (own_mi (i := 180) rfl)
theorem w181 (C : Cx Z a0) : (Cond.selects "java/lang/String" ⟨"java/lang/String", "isLatin1", "()Z"⟩ ⟨"java/lang/String", "isLatin1", "()Z"⟩).before a0 Z = true := C.1 _ (own_mi (i := 181) rfl)
theorem w182 (C : Cx Z a0) : (Cond.code ⟨"java/lang/String", "isLatin1", "()Z"⟩ jdk_42_method_154_code 1 (Option.some Jvm.ClassFile.FieldType.boolean)).before a0 Z = true := C.1 _ (own_mi (i := 182) rfl)
theorem w185 (C : Cx Z a0) : (Cond.initialized "java/lang/StringLatin1").before a0 Z = true := C.1 _ (own_mi (i := 185) rfl)
theorem w188 (C : Cx Z a0) : (Cond.static ⟨"java/lang/String", "checkIndex", "(II)V"⟩).before a0 Z = true := C.1 _ (own_mi (i := 188) rfl)
theorem w189 (C : Cx Z a0) : (Cond.code ⟨"java/lang/String", "checkIndex", "(II)V"⟩ jdk_42_method_155_code 2 (Option.none : Option Jvm.ClassFile.FieldType)).before a0 Z = true := C.1 _ (own_mi (i := 189) rfl)
theorem w190 (C : Cx Z a0) : (Cond.fieldLink "java/lang/String" 1053 "jdk/internal/util/Preconditions" "SIOOBE_FORMATTER" "Ljava/util/function/BiFunction;").before a0 Z = true := C.1 _ (own_mi (i := 190) rfl)
theorem w191 (C : Cx Z a0) : (Cond.initialized "jdk/internal/util/Preconditions").before a0 Z = true := C.1 _ (own_mi (i := 191) rfl)
theorem w192 (C : Cx Z a0) : (Cond.methodLink "java/lang/String" 1059 ⟨"jdk/internal/util/Preconditions", "checkIndex", "(IILjava/util/function/BiFunction;)I"⟩).before a0 Z = true := C.1 _ (own_mi (i := 192) rfl)
theorem w193 (C : Cx Z a0) : (Cond.static ⟨"jdk/internal/util/Preconditions", "checkIndex", "(IILjava/util/function/BiFunction;)I"⟩).before a0 Z = true := C.1 _ (own_mi (i := 193) rfl)
theorem w194 (C : Cx Z a0) : (Cond.code ⟨"jdk/internal/util/Preconditions", "checkIndex", "(IILjava/util/function/BiFunction;)I"⟩ jdk_41_method_11_code 3 (Option.some Jvm.ClassFile.FieldType.int)).before a0 Z = true := C.1 _ (own_mi (i := 194) rfl)
theorem w195 (C : Cx Z a0) : (Cond.methodLink "com/example/aproape/aproape/io/TagToStringPinLaw" 36 ⟨"com/example/aproape/aproape/io/TagToStringPinLaw", "expected", "(IIICCC)C"⟩).before a0 Z = true := C.1 _ (own_mi (i := 195) rfl)
theorem w196 (C : Cx Z a0) : (Cond.static ⟨"com/example/aproape/aproape/io/TagToStringPinLaw", "expected", "(IIICCC)C"⟩).before a0 Z = true := C.1 _ (own_mi (i := 196) rfl)
theorem w197 (C : Cx Z a0) : (Cond.code ⟨"com/example/aproape/aproape/io/TagToStringPinLaw", "expected", "(IIICCC)C"⟩ method_4_code 7 (Option.some Jvm.ClassFile.FieldType.char)).before a0 Z = true := C.1 _ (own_mi (i := 197) rfl)
theorem w198 (C : Cx Z a0) : (Cond.stringLink "com/example/aproape/aproape/io/MarkupReader$Tag" 30 "</").before a0 Z = true := C.1 _ (own_mi (i := 198) rfl)
theorem w199 (C : Cx Z a0) : (Cond.methodLink "java/lang/StringUTF16" 119 ⟨"java/lang/StringUTF16", "toBytes", "([CII)[B"⟩).before a0 Z = true := C.1 _ (own_mi (i := 199) rfl)
theorem w200 (C : Cx Z a0) : (Cond.static ⟨"java/lang/StringUTF16", "toBytes", "([CII)[B"⟩).before a0 Z = true := C.1 _ (own_mi (i := 200) rfl)
theorem w201 (C : Cx Z a0) : (Cond.code ⟨"java/lang/StringUTF16", "toBytes", "([CII)[B"⟩ jdk_52_method_14_code 5 (Option.some (Jvm.ClassFile.FieldType.array Jvm.ClassFile.FieldType.byte))).before a0 Z = true := C.1 _ (own_mi (i := 201) rfl)
theorem w202 (C : Cx Z a0) : (Cond.methodLink "java/lang/StringUTF16" 107 ⟨"java/lang/StringUTF16", "newBytesFor", "(I)[B"⟩).before a0 Z = true := C.1 _ (own_mi (i := 202) rfl)
theorem w203 (C : Cx Z a0) : (Cond.static ⟨"java/lang/StringUTF16", "newBytesFor", "(I)[B"⟩).before a0 Z = true := C.1 _ (own_mi (i := 203) rfl)
theorem w204 (C : Cx Z a0) : (Cond.code ⟨"java/lang/StringUTF16", "newBytesFor", "(I)[B"⟩ jdk_52_method_2_code 1 (Option.some (Jvm.ClassFile.FieldType.array Jvm.ClassFile.FieldType.byte))).before a0 Z = true := C.1 _ (own_mi (i := 204) rfl)
theorem w205 (C : Cx Z a0) : (Cond.methodLink "java/lang/StringUTF16" 11 ⟨"java/lang/StringUTF16", "newBytesLength", "(I)I"⟩).before a0 Z = true := C.1 _ (own_mi (i := 205) rfl)
theorem w206 (C : Cx Z a0) : (Cond.static ⟨"java/lang/StringUTF16", "newBytesLength", "(I)I"⟩).before a0 Z = true := C.1 _ (own_mi (i := 206) rfl)
theorem w207 (C : Cx Z a0) : (Cond.code ⟨"java/lang/StringUTF16", "newBytesLength", "(I)I"⟩ jdk_52_method_3_code 1 (Option.some Jvm.ClassFile.FieldType.int)).before a0 Z = true := C.1 _ (own_mi (i := 207) rfl)
theorem w208 (C : Cx Z a0) : (Cond.constant "java/lang/StringUTF16" 20 (1073741823 : Int32)).before a0 Z = true := C.1 _ (own_mi (i := 208) rfl)
theorem w209 (C : Cx Z a0) : (Cond.methodLink "java/lang/StringUTF16" 111 ⟨"java/lang/StringUTF16", "putChar", "([BII)V"⟩).before a0 Z = true := C.1 _ (own_mi (i := 209) rfl)
theorem w210 (C : Cx Z a0) : (Cond.static ⟨"java/lang/StringUTF16", "putChar", "([BII)V"⟩).before a0 Z = true := C.1 _ (own_mi (i := 210) rfl)
theorem w211 (C : Cx Z a0) : (Cond.code ⟨"java/lang/StringUTF16", "putChar", "([BII)V"⟩ jdk_52_method_4_code 3 (Option.none : Option Jvm.ClassFile.FieldType)).before a0 Z = true := C.1 _ (own_mi (i := 211) rfl)
theorem w212 (C : Cx Z a0) : (Cond.fieldLink "java/lang/StringUTF16" 44 "java/lang/StringUTF16" "$assertionsDisabled" "Z").before a0 Z = true := C.1 _ (own_mi (i := 212) rfl)
theorem w213 (C : Cx Z a0) : (Cond.fieldLink "java/lang/StringUTF16" 59 "java/lang/StringUTF16" "HI_BYTE_SHIFT" "I").before a0 Z = true := C.1 _ (own_mi (i := 213) rfl)
theorem w214 (C : Cx Z a0) : (Cond.fieldLink "java/lang/StringUTF16" 63 "java/lang/StringUTF16" "LO_BYTE_SHIFT" "I").before a0 Z = true := C.1 _ (own_mi (i := 214) rfl)
theorem w215 (C : Cx Z a0) : (Cond.methodLink "java/lang/StringUTF16" 71 ⟨"java/lang/StringUTF16", "getChar", "([BI)C"⟩).before a0 Z = true := C.1 _ (own_mi (i := 215) rfl)
theorem w216 (C : Cx Z a0) : (Cond.static ⟨"java/lang/StringUTF16", "getChar", "([BI)C"⟩).before a0 Z = true := C.1 _ (own_mi (i := 216) rfl)
theorem w217 (C : Cx Z a0) : (Cond.code ⟨"java/lang/StringUTF16", "getChar", "([BI)C"⟩ jdk_52_method_5_code 2 (Option.some Jvm.ClassFile.FieldType.char)).before a0 Z = true := C.1 _ (own_mi (i := 217) rfl)
theorem w218 (C : Cx Z a0) : (Cond.methodLink "java/lang/AbstractStringBuilder" 195 ⟨"java/lang/AbstractStringBuilder", "inflate", "()V"⟩).before a0 Z = true := C.1 _ (own_mi (i := 218) rfl)
theorem w219 (C : Cx Z a0) : (Cond.instanceMethod ⟨"java/lang/AbstractStringBuilder", "inflate", "()V"⟩).before a0 Z = true := C.1 _ (own_mi (i := 219) rfl)
theorem w221 (C : Cx Z a0) : (Cond.selects "java/lang/StringBuilder" ⟨"java/lang/AbstractStringBuilder", "inflate", "()V"⟩ ⟨"java/lang/AbstractStringBuilder", "inflate", "()V"⟩).before a0 Z = true := C.1 _ (own_mi (i := 221) rfl)
theorem w222 (C : Cx Z a0) : (Cond.code ⟨"java/lang/AbstractStringBuilder", "inflate", "()V"⟩ jdk_68_method_11_code 2 (Option.none : Option Jvm.ClassFile.FieldType)).before a0 Z = true := C.1 _ (own_mi (i := 222) rfl)
theorem w223 (C : Cx Z a0) : (Cond.methodLink "java/lang/AbstractStringBuilder" 83 ⟨"java/lang/AbstractStringBuilder", "isLatin1", "()Z"⟩).before a0 Z = true := C.1 _ (own_mi (i := 223) rfl)
theorem w224 (C : Cx Z a0) : (Cond.methodLink "java/lang/AbstractStringBuilder" 26 ⟨"java/lang/StringUTF16", "newBytesFor", "(I)[B"⟩).before a0 Z = true := C.1 _ (own_mi (i := 224) rfl)
theorem w225 (C : Cx Z a0) : (Cond.methodLink "java/lang/AbstractStringBuilder" 125 ⟨"java/lang/StringLatin1", "inflate", "([BI[BII)V"⟩).before a0 Z = true := C.1 _ (own_mi (i := 225) rfl)
theorem w226 (C : Cx Z a0) : (Cond.static ⟨"java/lang/StringLatin1", "inflate", "([BI[BII)V"⟩).before a0 Z = true := C.1 _ (own_mi (i := 226) rfl)
theorem w227 (C : Cx Z a0) : (Cond.code ⟨"java/lang/StringLatin1", "inflate", "([BI[BII)V"⟩ jdk_43_method_50_code 5 (Option.none : Option Jvm.ClassFile.FieldType)).before a0 Z = true := C.1 _ (own_mi (i := 227) rfl)
theorem w228 (C : Cx Z a0) : (Cond.methodLink "java/lang/StringLatin1" 240 ⟨"java/lang/StringUTF16", "inflate", "([BI[BII)V"⟩).before a0 Z = true := C.1 _ (own_mi (i := 228) rfl)
theorem w229 (C : Cx Z a0) : (Cond.static ⟨"java/lang/StringUTF16", "inflate", "([BI[BII)V"⟩).before a0 Z = true := C.1 _ (own_mi (i := 229) rfl)
theorem w230 (C : Cx Z a0) : (Cond.code ⟨"java/lang/StringUTF16", "inflate", "([BI[BII)V"⟩ jdk_52_method_86_code 6 (Option.none : Option Jvm.ClassFile.FieldType)).before a0 Z = true := C.1 _ (own_mi (i := 230) rfl)
theorem w231 (C : Cx Z a0) : (Cond.methodLink "java/lang/StringUTF16" 173 ⟨"java/lang/StringUTF16", "checkBoundsOffCount", "(II[B)V"⟩).before a0 Z = true := C.1 _ (own_mi (i := 231) rfl)
theorem w232 (C : Cx Z a0) : (Cond.static ⟨"java/lang/StringUTF16", "checkBoundsOffCount", "(II[B)V"⟩).before a0 Z = true := C.1 _ (own_mi (i := 232) rfl)
theorem w233 (C : Cx Z a0) : (Cond.code ⟨"java/lang/StringUTF16", "checkBoundsOffCount", "(II[B)V"⟩ jdk_52_method_94_code 3 (Option.none : Option Jvm.ClassFile.FieldType)).before a0 Z = true := C.1 _ (own_mi (i := 233) rfl)
theorem w234 (C : Cx Z a0) : (Cond.methodLink "java/lang/StringUTF16" 48 ⟨"java/lang/StringUTF16", "length", "([B)I"⟩).before a0 Z = true := C.1 _ (own_mi (i := 234) rfl)
theorem w235 (C : Cx Z a0) : (Cond.static ⟨"java/lang/StringUTF16", "length", "([B)I"⟩).before a0 Z = true := C.1 _ (own_mi (i := 235) rfl)
theorem w236 (C : Cx Z a0) : (Cond.code ⟨"java/lang/StringUTF16", "length", "([B)I"⟩ jdk_52_method_6_code 1 (Option.some Jvm.ClassFile.FieldType.int)).before a0 Z = true := C.1 _ (own_mi (i := 236) rfl)
theorem w237 (C : Cx Z a0) : (Cond.methodLink "java/lang/StringUTF16" 419 ⟨"java/lang/String", "checkBoundsOffCount", "(III)I"⟩).before a0 Z = true := C.1 _ (own_mi (i := 237) rfl)
theorem w238 (C : Cx Z a0) : (Cond.static ⟨"java/lang/String", "checkBoundsOffCount", "(III)I"⟩).before a0 Z = true := C.1 _ (own_mi (i := 238) rfl)
theorem w239 (C : Cx Z a0) : (Cond.code ⟨"java/lang/String", "checkBoundsOffCount", "(III)I"⟩ jdk_42_method_157_code 3 (Option.some Jvm.ClassFile.FieldType.int)).before a0 Z = true := C.1 _ (own_mi (i := 239) rfl)
theorem w240 (C : Cx Z a0) : (Cond.methodLink "java/lang/String" 1065 ⟨"jdk/internal/util/Preconditions", "checkFromIndexSize", "(IIILjava/util/function/BiFunction;)I"⟩).before a0 Z = true := C.1 _ (own_mi (i := 240) rfl)
theorem w241 (C : Cx Z a0) : (Cond.static ⟨"jdk/internal/util/Preconditions", "checkFromIndexSize", "(IIILjava/util/function/BiFunction;)I"⟩).before a0 Z = true := C.1 _ (own_mi (i := 241) rfl)
theorem w242 (C : Cx Z a0) : (Cond.code ⟨"jdk/internal/util/Preconditions", "checkFromIndexSize", "(IIILjava/util/function/BiFunction;)I"⟩ jdk_41_method_13_code 4 (Option.some Jvm.ClassFile.FieldType.int)).before a0 Z = true := C.1 _ (own_mi (i := 242) rfl)
theorem w243 (C : Cx Z a0) : (Cond.methodLink "java/lang/String" 106 ⟨"java/lang/StringLatin1", "inflate", "([BI[BII)V"⟩).before a0 Z = true := C.1 _ (own_mi (i := 243) rfl)
theorem w244 (C : Cx Z a0) : (Cond.fieldLink "java/lang/String" 1048 "java/lang/AbstractStringBuilder" "maybeLatin1" "Z").before a0 Z = true := C.1 _ (own_mi (i := 244) rfl)
theorem w245 (C : Cx Z a0) : (Cond.lays "java/lang/StringBuilder" "java/lang/AbstractStringBuilder" "maybeLatin1" "Z").before a0 Z = true := C.1 _ (own_mi (i := 245) rfl)
theorem w246 (C : Cx Z a0) : (Cond.methodLink "java/lang/String" 498 ⟨"java/lang/StringUTF16", "charAt", "([BI)C"⟩).before a0 Z = true := C.1 _ (own_mi (i := 246) rfl)
theorem w247 (C : Cx Z a0) : (Cond.static ⟨"java/lang/StringUTF16", "charAt", "([BI)C"⟩).before a0 Z = true := C.1 _ (own_mi (i := 247) rfl)
theorem w248 (C : Cx Z a0) : (Cond.code ⟨"java/lang/StringUTF16", "charAt", "([BI)C"⟩ jdk_52_method_83_code 2 (Option.some Jvm.ClassFile.FieldType.char)).before a0 Z = true := C.1 _ (own_mi (i := 248) rfl)
theorem w249 (C : Cx Z a0) : (Cond.methodLink "java/lang/StringUTF16" 67 ⟨"java/lang/StringUTF16", "checkIndex", "(I[B)V"⟩).before a0 Z = true := C.1 _ (own_mi (i := 249) rfl)
theorem w250 (C : Cx Z a0) : (Cond.static ⟨"java/lang/StringUTF16", "checkIndex", "(I[B)V"⟩).before a0 Z = true := C.1 _ (own_mi (i := 250) rfl)
theorem w251 (C : Cx Z a0) : (Cond.code ⟨"java/lang/StringUTF16", "checkIndex", "(I[B)V"⟩ jdk_52_method_91_code 2 (Option.none : Option Jvm.ClassFile.FieldType)).before a0 Z = true := C.1 _ (own_mi (i := 251) rfl)
theorem w252 (C : Cx Z a0) : (Cond.methodLink "java/lang/StringUTF16" 414 ⟨"java/lang/String", "checkIndex", "(II)V"⟩).before a0 Z = true := C.1 _ (own_mi (i := 252) rfl)
theorem w253 (C : Cx Z a0) : (Cond.stringLink "java/lang/String" 7 "").before a0 Z = true := C.1 _ (own_mi (i := 253) rfl)
end OwnWords
theorem d0_0 : decode jdk_52_method_4_code 0 = .ok (.getstatic 44, 3) := by decide +kernel
theorem d0_28 : decode jdk_52_method_4_code 28 = .ok (.iload_n 1, 1) := by decide +kernel
theorem d0_29 : decode jdk_52_method_4_code 29 = .ok (.iconst 1, 1) := by decide +kernel
theorem d0_3 : decode jdk_52_method_4_code 3 = .ok (.ifCond .ne 25, 3) := by decide +kernel
theorem d0_30 : decode jdk_52_method_4_code 30 = .ok (.ishl, 1) := by decide +kernel
theorem d0_31 : decode jdk_52_method_4_code 31 = .ok (.istore_n 1, 1) := by decide +kernel
theorem d0_32 : decode jdk_52_method_4_code 32 = .ok (.aload_n 0, 1) := by decide +kernel
theorem d0_33 : decode jdk_52_method_4_code 33 = .ok (.iload_n 1, 1) := by decide +kernel
theorem d0_34 : decode jdk_52_method_4_code 34 = .ok (.iinc 1 1, 3) := by decide +kernel
theorem d0_37 : decode jdk_52_method_4_code 37 = .ok (.iload_n 2, 1) := by decide +kernel
theorem d0_38 : decode jdk_52_method_4_code 38 = .ok (.getstatic 59, 3) := by decide +kernel
theorem d0_41 : decode jdk_52_method_4_code 41 = .ok (.ishr, 1) := by decide +kernel
theorem d0_42 : decode jdk_52_method_4_code 42 = .ok (.i2b, 1) := by decide +kernel
theorem d0_43 : decode jdk_52_method_4_code 43 = .ok (.bastore, 1) := by decide +kernel
theorem d0_44 : decode jdk_52_method_4_code 44 = .ok (.aload_n 0, 1) := by decide +kernel
theorem d0_45 : decode jdk_52_method_4_code 45 = .ok (.iload_n 1, 1) := by decide +kernel
theorem d0_46 : decode jdk_52_method_4_code 46 = .ok (.iload_n 2, 1) := by decide +kernel
theorem d0_47 : decode jdk_52_method_4_code 47 = .ok (.getstatic 63, 3) := by decide +kernel
theorem d0_50 : decode jdk_52_method_4_code 50 = .ok (.ishr, 1) := by decide +kernel
theorem d0_51 : decode jdk_52_method_4_code 51 = .ok (.i2b, 1) := by decide +kernel
theorem d0_52 : decode jdk_52_method_4_code 52 = .ok (.bastore, 1) := by decide +kernel
theorem d0_53 : decode jdk_52_method_4_code 53 = .ok (.return_, 1) := by decide +kernel
theorem d10_0 : decode jdk_68_method_2_code 0 = .ok (.aload_n 0, 1) := by decide +kernel
theorem d10_1 : decode jdk_68_method_2_code 1 = .ok (.invokespecial 3, 3) := by decide +kernel
theorem d10_10 : decode jdk_68_method_2_code 10 = .ok (.aload_n 0, 1) := by decide +kernel
theorem d10_11 : decode jdk_68_method_2_code 11 = .ok (.iload_n 1, 1) := by decide +kernel
theorem d10_12 : decode jdk_68_method_2_code 12 = .ok (.newarray .byte, 2) := by decide +kernel
theorem d10_14 : decode jdk_68_method_2_code 14 = .ok (.putfield 15, 3) := by decide +kernel
theorem d10_17 : decode jdk_68_method_2_code 17 = .ok (.aload_n 0, 1) := by decide +kernel
theorem d10_18 : decode jdk_68_method_2_code 18 = .ok (.iconst 0, 1) := by decide +kernel
theorem d10_19 : decode jdk_68_method_2_code 19 = .ok (.putfield 22, 3) := by decide +kernel
theorem d10_22 : decode jdk_68_method_2_code 22 = .ok (.goto 16, 3) := by decide +kernel
theorem d10_38 : decode jdk_68_method_2_code 38 = .ok (.return_, 1) := by decide +kernel
theorem d10_4 : decode jdk_68_method_2_code 4 = .ok (.getstatic 18, 3) := by decide +kernel
theorem d10_7 : decode jdk_68_method_2_code 7 = .ok (.ifCond .eq 18, 3) := by decide +kernel
theorem d11_0 : decode jdk_67_method_1_code 0 = .ok (.aload_n 0, 1) := by decide +kernel
theorem d11_1 : decode jdk_67_method_1_code 1 = .ok (.bipush 16, 2) := by decide +kernel
theorem d11_3 : decode jdk_67_method_1_code 3 = .ok (.invokespecial 1, 3) := by decide +kernel
theorem d11_6 : decode jdk_67_method_1_code 6 = .ok (.return_, 1) := by decide +kernel
theorem d12_0 : decode jdk_42_method_152_code 0 = .ok (.getstatic 38, 3) := by decide +kernel
theorem d12_10 : decode jdk_42_method_152_code 10 = .ok (.goto 4, 3) := by decide +kernel
theorem d12_14 : decode jdk_42_method_152_code 14 = .ok (.ireturn, 1) := by decide +kernel
theorem d12_3 : decode jdk_42_method_152_code 3 = .ok (.ifCond .eq 10, 3) := by decide +kernel
theorem d12_6 : decode jdk_42_method_152_code 6 = .ok (.aload_n 0, 1) := by decide +kernel
theorem d12_7 : decode jdk_42_method_152_code 7 = .ok (.getfield 15, 3) := by decide +kernel
theorem d13_0 : decode jdk_68_method_9_code 0 = .ok (.aload_n 0, 1) := by decide +kernel
theorem d13_1 : decode jdk_68_method_9_code 1 = .ok (.getfield 15, 3) := by decide +kernel
theorem d13_10 : decode jdk_68_method_9_code 10 = .ok (.istore_n 2, 1) := by decide +kernel
theorem d13_11 : decode jdk_68_method_9_code 11 = .ok (.iload_n 1, 1) := by decide +kernel
theorem d13_12 : decode jdk_68_method_9_code 12 = .ok (.iload_n 2, 1) := by decide +kernel
theorem d13_13 : decode jdk_68_method_9_code 13 = .ok (.isub, 1) := by decide +kernel
theorem d13_14 : decode jdk_68_method_9_code 14 = .ok (.ifCond .le 24, 3) := by decide +kernel
theorem d13_38 : decode jdk_68_method_9_code 38 = .ok (.return_, 1) := by decide +kernel
theorem d13_4 : decode jdk_68_method_9_code 4 = .ok (.arraylength, 1) := by decide +kernel
theorem d13_5 : decode jdk_68_method_9_code 5 = .ok (.aload_n 0, 1) := by decide +kernel
theorem d13_6 : decode jdk_68_method_9_code 6 = .ok (.getfield 22, 3) := by decide +kernel
theorem d13_9 : decode jdk_68_method_9_code 9 = .ok (.ishr, 1) := by decide +kernel
theorem d14_0 : decode jdk_42_method_147_code 0 = .ok (.aload_n 0, 1) := by decide +kernel
theorem d14_1 : decode jdk_42_method_147_code 1 = .ok (.invokevirtual 335, 3) := by decide +kernel
theorem d14_12 : decode jdk_42_method_147_code 12 = .ok (.iconst 0, 1) := by decide +kernel
theorem d14_13 : decode jdk_42_method_147_code 13 = .ok (.aload_n 1, 1) := by decide +kernel
theorem d14_14 : decode jdk_42_method_147_code 14 = .ok (.iload_n 2, 1) := by decide +kernel
theorem d14_15 : decode jdk_42_method_147_code 15 = .ok (.iload_n 3, 1) := by decide +kernel
theorem d14_16 : decode jdk_42_method_147_code 16 = .ok (.ishl, 1) := by decide +kernel
theorem d14_17 : decode jdk_42_method_147_code 17 = .ok (.aload_n 0, 1) := by decide +kernel
theorem d14_18 : decode jdk_42_method_147_code 18 = .ok (.getfield 9, 3) := by decide +kernel
theorem d14_21 : decode jdk_42_method_147_code 21 = .ok (.arraylength, 1) := by decide +kernel
theorem d14_22 : decode jdk_42_method_147_code 22 = .ok (.invokestatic 212, 3) := by decide +kernel
theorem d14_25 : decode jdk_42_method_147_code 25 = .ok (.goto 18, 3) := by decide +kernel
theorem d14_28 : decode jdk_42_method_147_code 28 = .ok (.aload_n 0, 1) := by decide +kernel
theorem d14_29 : decode jdk_42_method_147_code 29 = .ok (.getfield 9, 3) := by decide +kernel
theorem d14_32 : decode jdk_42_method_147_code 32 = .ok (.iconst 0, 1) := by decide +kernel
theorem d14_33 : decode jdk_42_method_147_code 33 = .ok (.aload_n 1, 1) := by decide +kernel
theorem d14_34 : decode jdk_42_method_147_code 34 = .ok (.iload_n 2, 1) := by decide +kernel
theorem d14_35 : decode jdk_42_method_147_code 35 = .ok (.aload_n 0, 1) := by decide +kernel
theorem d14_36 : decode jdk_42_method_147_code 36 = .ok (.getfield 9, 3) := by decide +kernel
theorem d14_39 : decode jdk_42_method_147_code 39 = .ok (.arraylength, 1) := by decide +kernel
theorem d14_4 : decode jdk_42_method_147_code 4 = .ok (.iload_n 3, 1) := by decide +kernel
theorem d14_40 : decode jdk_42_method_147_code 40 = .ok (.invokestatic 106, 3) := by decide +kernel
theorem d14_43 : decode jdk_42_method_147_code 43 = .ok (.return_, 1) := by decide +kernel
theorem d14_5 : decode jdk_42_method_147_code 5 = .ok (.if_icmp .ne 23, 3) := by decide +kernel
theorem d14_8 : decode jdk_42_method_147_code 8 = .ok (.aload_n 0, 1) := by decide +kernel
theorem d14_9 : decode jdk_42_method_147_code 9 = .ok (.getfield 9, 3) := by decide +kernel
theorem d15_0 : decode jdk_42_method_54_code 0 = .ok (.aload_n 0, 1) := by decide +kernel
theorem d15_1 : decode jdk_42_method_54_code 1 = .ok (.getfield 9, 3) := by decide +kernel
theorem d15_10 : decode jdk_42_method_54_code 10 = .ok (.ireturn, 1) := by decide +kernel
theorem d15_4 : decode jdk_42_method_54_code 4 = .ok (.arraylength, 1) := by decide +kernel
theorem d15_5 : decode jdk_42_method_54_code 5 = .ok (.aload_n 0, 1) := by decide +kernel
theorem d15_6 : decode jdk_42_method_54_code 6 = .ok (.invokevirtual 335, 3) := by decide +kernel
theorem d15_9 : decode jdk_42_method_54_code 9 = .ok (.ishr, 1) := by decide +kernel
theorem d16_0 : decode jdk_52_method_6_code 0 = .ok (.aload_n 0, 1) := by decide +kernel
theorem d16_1 : decode jdk_52_method_6_code 1 = .ok (.arraylength, 1) := by decide +kernel
theorem d16_2 : decode jdk_52_method_6_code 2 = .ok (.iconst 1, 1) := by decide +kernel
theorem d16_3 : decode jdk_52_method_6_code 3 = .ok (.ishr, 1) := by decide +kernel
theorem d16_4 : decode jdk_52_method_6_code 4 = .ok (.ireturn, 1) := by decide +kernel
theorem d17_0 : decode jdk_41_method_11_code 0 = .ok (.iload_n 0, 1) := by decide +kernel
theorem d17_1 : decode jdk_41_method_11_code 1 = .ok (.ifCond .lt 8, 3) := by decide +kernel
theorem d17_16 : decode jdk_41_method_11_code 16 = .ok (.iload_n 0, 1) := by decide +kernel
theorem d17_17 : decode jdk_41_method_11_code 17 = .ok (.ireturn, 1) := by decide +kernel
theorem d17_4 : decode jdk_41_method_11_code 4 = .ok (.iload_n 0, 1) := by decide +kernel
theorem d17_5 : decode jdk_41_method_11_code 5 = .ok (.iload_n 1, 1) := by decide +kernel
theorem d17_6 : decode jdk_41_method_11_code 6 = .ok (.if_icmp .lt 10, 3) := by decide +kernel
theorem d18_0 : decode jdk_42_method_155_code 0 = .ok (.iload_n 0, 1) := by decide +kernel
theorem d18_1 : decode jdk_42_method_155_code 1 = .ok (.iload_n 1, 1) := by decide +kernel
theorem d18_2 : decode jdk_42_method_155_code 2 = .ok (.getstatic 1053, 3) := by decide +kernel
theorem d18_5 : decode jdk_42_method_155_code 5 = .ok (.invokestatic 1059, 3) := by decide +kernel
theorem d18_8 : decode jdk_42_method_155_code 8 = .ok (.pop, 1) := by decide +kernel
theorem d18_9 : decode jdk_42_method_155_code 9 = .ok (.return_, 1) := by decide +kernel
theorem d19_0 : decode jdk_52_method_91_code 0 = .ok (.iload_n 0, 1) := by decide +kernel
theorem d19_1 : decode jdk_52_method_91_code 1 = .ok (.aload_n 1, 1) := by decide +kernel
theorem d19_2 : decode jdk_52_method_91_code 2 = .ok (.invokestatic 48, 3) := by decide +kernel
theorem d19_5 : decode jdk_52_method_91_code 5 = .ok (.invokestatic 414, 3) := by decide +kernel
theorem d19_8 : decode jdk_52_method_91_code 8 = .ok (.return_, 1) := by decide +kernel
theorem d1_0 : decode jdk_52_method_5_code 0 = .ok (.getstatic 44, 3) := by decide +kernel
theorem d1_28 : decode jdk_52_method_5_code 28 = .ok (.iload_n 1, 1) := by decide +kernel
theorem d1_29 : decode jdk_52_method_5_code 29 = .ok (.iconst 1, 1) := by decide +kernel
theorem d1_3 : decode jdk_52_method_5_code 3 = .ok (.ifCond .ne 25, 3) := by decide +kernel
theorem d1_30 : decode jdk_52_method_5_code 30 = .ok (.ishl, 1) := by decide +kernel
theorem d1_31 : decode jdk_52_method_5_code 31 = .ok (.istore_n 1, 1) := by decide +kernel
theorem d1_32 : decode jdk_52_method_5_code 32 = .ok (.aload_n 0, 1) := by decide +kernel
theorem d1_33 : decode jdk_52_method_5_code 33 = .ok (.iload_n 1, 1) := by decide +kernel
theorem d1_34 : decode jdk_52_method_5_code 34 = .ok (.iinc 1 1, 3) := by decide +kernel
theorem d1_37 : decode jdk_52_method_5_code 37 = .ok (.baload, 1) := by decide +kernel
theorem d1_38 : decode jdk_52_method_5_code 38 = .ok (.sipush 255, 3) := by decide +kernel
theorem d1_41 : decode jdk_52_method_5_code 41 = .ok (.iand, 1) := by decide +kernel
theorem d1_42 : decode jdk_52_method_5_code 42 = .ok (.getstatic 59, 3) := by decide +kernel
theorem d1_45 : decode jdk_52_method_5_code 45 = .ok (.ishl, 1) := by decide +kernel
theorem d1_46 : decode jdk_52_method_5_code 46 = .ok (.aload_n 0, 1) := by decide +kernel
theorem d1_47 : decode jdk_52_method_5_code 47 = .ok (.iload_n 1, 1) := by decide +kernel
theorem d1_48 : decode jdk_52_method_5_code 48 = .ok (.baload, 1) := by decide +kernel
theorem d1_49 : decode jdk_52_method_5_code 49 = .ok (.sipush 255, 3) := by decide +kernel
theorem d1_52 : decode jdk_52_method_5_code 52 = .ok (.iand, 1) := by decide +kernel
theorem d1_53 : decode jdk_52_method_5_code 53 = .ok (.getstatic 63, 3) := by decide +kernel
theorem d1_56 : decode jdk_52_method_5_code 56 = .ok (.ishl, 1) := by decide +kernel
theorem d1_57 : decode jdk_52_method_5_code 57 = .ok (.ior, 1) := by decide +kernel
theorem d1_58 : decode jdk_52_method_5_code 58 = .ok (.i2c, 1) := by decide +kernel
theorem d1_59 : decode jdk_52_method_5_code 59 = .ok (.ireturn, 1) := by decide +kernel
theorem d20_0 : decode jdk_41_method_13_code 0 = .ok (.iload_n 2, 1) := by decide +kernel
theorem d20_1 : decode jdk_41_method_13_code 1 = .ok (.iload_n 0, 1) := by decide +kernel
theorem d20_10 : decode jdk_41_method_13_code 10 = .ok (.iload_n 0, 1) := by decide +kernel
theorem d20_11 : decode jdk_41_method_13_code 11 = .ok (.isub, 1) := by decide +kernel
theorem d20_12 : decode jdk_41_method_13_code 12 = .ok (.if_icmp .le 11, 3) := by decide +kernel
theorem d20_2 : decode jdk_41_method_13_code 2 = .ok (.ior, 1) := by decide +kernel
theorem d20_23 : decode jdk_41_method_13_code 23 = .ok (.iload_n 0, 1) := by decide +kernel
theorem d20_24 : decode jdk_41_method_13_code 24 = .ok (.ireturn, 1) := by decide +kernel
theorem d20_3 : decode jdk_41_method_13_code 3 = .ok (.iload_n 1, 1) := by decide +kernel
theorem d20_4 : decode jdk_41_method_13_code 4 = .ok (.ior, 1) := by decide +kernel
theorem d20_5 : decode jdk_41_method_13_code 5 = .ok (.ifCond .lt 10, 3) := by decide +kernel
theorem d20_8 : decode jdk_41_method_13_code 8 = .ok (.iload_n 1, 1) := by decide +kernel
theorem d20_9 : decode jdk_41_method_13_code 9 = .ok (.iload_n 2, 1) := by decide +kernel
theorem d21_0 : decode jdk_42_method_157_code 0 = .ok (.iload_n 0, 1) := by decide +kernel
theorem d21_1 : decode jdk_42_method_157_code 1 = .ok (.iload_n 1, 1) := by decide +kernel
theorem d21_2 : decode jdk_42_method_157_code 2 = .ok (.iload_n 2, 1) := by decide +kernel
theorem d21_3 : decode jdk_42_method_157_code 3 = .ok (.getstatic 1053, 3) := by decide +kernel
theorem d21_6 : decode jdk_42_method_157_code 6 = .ok (.invokestatic 1065, 3) := by decide +kernel
theorem d21_9 : decode jdk_42_method_157_code 9 = .ok (.ireturn, 1) := by decide +kernel
theorem d22_0 : decode jdk_52_method_94_code 0 = .ok (.iload_n 0, 1) := by decide +kernel
theorem d22_1 : decode jdk_52_method_94_code 1 = .ok (.iload_n 1, 1) := by decide +kernel
theorem d22_10 : decode jdk_52_method_94_code 10 = .ok (.return_, 1) := by decide +kernel
theorem d22_2 : decode jdk_52_method_94_code 2 = .ok (.aload_n 2, 1) := by decide +kernel
theorem d22_3 : decode jdk_52_method_94_code 3 = .ok (.invokestatic 48, 3) := by decide +kernel
theorem d22_6 : decode jdk_52_method_94_code 6 = .ok (.invokestatic 419, 3) := by decide +kernel
theorem d22_9 : decode jdk_52_method_94_code 9 = .ok (.pop, 1) := by decide +kernel
theorem d23_0 : decode jdk_52_method_83_code 0 = .ok (.iload_n 1, 1) := by decide +kernel
theorem d23_1 : decode jdk_52_method_83_code 1 = .ok (.aload_n 0, 1) := by decide +kernel
theorem d23_10 : decode jdk_52_method_83_code 10 = .ok (.ireturn, 1) := by decide +kernel
theorem d23_2 : decode jdk_52_method_83_code 2 = .ok (.invokestatic 67, 3) := by decide +kernel
theorem d23_5 : decode jdk_52_method_83_code 5 = .ok (.aload_n 0, 1) := by decide +kernel
theorem d23_6 : decode jdk_52_method_83_code 6 = .ok (.iload_n 1, 1) := by decide +kernel
theorem d23_7 : decode jdk_52_method_83_code 7 = .ok (.invokestatic 71, 3) := by decide +kernel
theorem d24_0 : decode jdk_42_method_154_code 0 = .ok (.getstatic 38, 3) := by decide +kernel
theorem d24_10 : decode jdk_42_method_154_code 10 = .ok (.ifCond .ne 7, 3) := by decide +kernel
theorem d24_13 : decode jdk_42_method_154_code 13 = .ok (.iconst 1, 1) := by decide +kernel
theorem d24_14 : decode jdk_42_method_154_code 14 = .ok (.goto 4, 3) := by decide +kernel
theorem d24_17 : decode jdk_42_method_154_code 17 = .ok (.iconst 0, 1) := by decide +kernel
theorem d24_18 : decode jdk_42_method_154_code 18 = .ok (.ireturn, 1) := by decide +kernel
theorem d24_3 : decode jdk_42_method_154_code 3 = .ok (.ifCond .eq 14, 3) := by decide +kernel
theorem d24_6 : decode jdk_42_method_154_code 6 = .ok (.aload_n 0, 1) := by decide +kernel
theorem d24_7 : decode jdk_42_method_154_code 7 = .ok (.getfield 15, 3) := by decide +kernel
theorem d25_0 : decode jdk_42_method_56_code 0 = .ok (.aload_n 0, 1) := by decide +kernel
theorem d25_1 : decode jdk_42_method_56_code 1 = .ok (.invokevirtual 492, 3) := by decide +kernel
theorem d25_16 : decode jdk_42_method_56_code 16 = .ok (.aload_n 0, 1) := by decide +kernel
theorem d25_17 : decode jdk_42_method_56_code 17 = .ok (.getfield 9, 3) := by decide +kernel
theorem d25_20 : decode jdk_42_method_56_code 20 = .ok (.iload_n 1, 1) := by decide +kernel
theorem d25_21 : decode jdk_42_method_56_code 21 = .ok (.invokestatic 498, 3) := by decide +kernel
theorem d25_24 : decode jdk_42_method_56_code 24 = .ok (.ireturn, 1) := by decide +kernel
theorem d25_4 : decode jdk_42_method_56_code 4 = .ok (.ifCond .eq 12, 3) := by decide +kernel
theorem d26_0 : decode jdk_52_method_86_code 0 = .ok (.iload_n 3, 1) := by decide +kernel
theorem d26_1 : decode jdk_52_method_86_code 1 = .ok (.iload 4, 2) := by decide +kernel
theorem d26_10 : decode jdk_52_method_86_code 10 = .ok (.iload 5, 2) := by decide +kernel
theorem d26_12 : decode jdk_52_method_86_code 12 = .ok (.iload 4, 2) := by decide +kernel
theorem d26_14 : decode jdk_52_method_86_code 14 = .ok (.if_icmp .ge 27, 3) := by decide +kernel
theorem d26_17 : decode jdk_52_method_86_code 17 = .ok (.aload_n 2, 1) := by decide +kernel
theorem d26_18 : decode jdk_52_method_86_code 18 = .ok (.iload_n 3, 1) := by decide +kernel
theorem d26_19 : decode jdk_52_method_86_code 19 = .ok (.iinc 3 1, 3) := by decide +kernel
theorem d26_22 : decode jdk_52_method_86_code 22 = .ok (.aload_n 0, 1) := by decide +kernel
theorem d26_23 : decode jdk_52_method_86_code 23 = .ok (.iload_n 1, 1) := by decide +kernel
theorem d26_24 : decode jdk_52_method_86_code 24 = .ok (.iinc 1 1, 3) := by decide +kernel
theorem d26_27 : decode jdk_52_method_86_code 27 = .ok (.baload, 1) := by decide +kernel
theorem d26_28 : decode jdk_52_method_86_code 28 = .ok (.sipush 255, 3) := by decide +kernel
theorem d26_3 : decode jdk_52_method_86_code 3 = .ok (.aload_n 2, 1) := by decide +kernel
theorem d26_31 : decode jdk_52_method_86_code 31 = .ok (.iand, 1) := by decide +kernel
theorem d26_32 : decode jdk_52_method_86_code 32 = .ok (.invokestatic 111, 3) := by decide +kernel
theorem d26_35 : decode jdk_52_method_86_code 35 = .ok (.iinc 5 1, 3) := by decide +kernel
theorem d26_38 : decode jdk_52_method_86_code 38 = .ok (.goto (-28), 3) := by decide +kernel
theorem d26_4 : decode jdk_52_method_86_code 4 = .ok (.invokestatic 173, 3) := by decide +kernel
theorem d26_41 : decode jdk_52_method_86_code 41 = .ok (.return_, 1) := by decide +kernel
theorem d26_7 : decode jdk_52_method_86_code 7 = .ok (.iconst 0, 1) := by decide +kernel
theorem d26_8 : decode jdk_52_method_86_code 8 = .ok (.istore 5, 2) := by decide +kernel
theorem d27_0 : decode jdk_43_method_50_code 0 = .ok (.aload_n 0, 1) := by decide +kernel
theorem d27_1 : decode jdk_43_method_50_code 1 = .ok (.iload_n 1, 1) := by decide +kernel
theorem d27_2 : decode jdk_43_method_50_code 2 = .ok (.aload_n 2, 1) := by decide +kernel
theorem d27_3 : decode jdk_43_method_50_code 3 = .ok (.iload_n 3, 1) := by decide +kernel
theorem d27_4 : decode jdk_43_method_50_code 4 = .ok (.iload 4, 2) := by decide +kernel
theorem d27_6 : decode jdk_43_method_50_code 6 = .ok (.invokestatic 240, 3) := by decide +kernel
theorem d27_9 : decode jdk_43_method_50_code 9 = .ok (.return_, 1) := by decide +kernel
theorem d28_0 : decode jdk_68_method_68_code 0 = .ok (.getstatic 18, 3) := by decide +kernel
theorem d28_10 : decode jdk_68_method_68_code 10 = .ok (.ifCond .ne 7, 3) := by decide +kernel
theorem d28_13 : decode jdk_68_method_68_code 13 = .ok (.iconst 1, 1) := by decide +kernel
theorem d28_14 : decode jdk_68_method_68_code 14 = .ok (.goto 4, 3) := by decide +kernel
theorem d28_17 : decode jdk_68_method_68_code 17 = .ok (.iconst 0, 1) := by decide +kernel
theorem d28_18 : decode jdk_68_method_68_code 18 = .ok (.ireturn, 1) := by decide +kernel
theorem d28_3 : decode jdk_68_method_68_code 3 = .ok (.ifCond .eq 14, 3) := by decide +kernel
theorem d28_6 : decode jdk_68_method_68_code 6 = .ok (.aload_n 0, 1) := by decide +kernel
theorem d28_7 : decode jdk_68_method_68_code 7 = .ok (.getfield 22, 3) := by decide +kernel
theorem d29_0 : decode jdk_68_method_11_code 0 = .ok (.aload_n 0, 1) := by decide +kernel
theorem d29_1 : decode jdk_68_method_11_code 1 = .ok (.invokevirtual 83, 3) := by decide +kernel
theorem d29_12 : decode jdk_68_method_11_code 12 = .ok (.arraylength, 1) := by decide +kernel
theorem d29_13 : decode jdk_68_method_11_code 13 = .ok (.invokestatic 26, 3) := by decide +kernel
theorem d29_16 : decode jdk_68_method_11_code 16 = .ok (.astore_n 1, 1) := by decide +kernel
theorem d29_17 : decode jdk_68_method_11_code 17 = .ok (.aload_n 0, 1) := by decide +kernel
theorem d29_18 : decode jdk_68_method_11_code 18 = .ok (.getfield 15, 3) := by decide +kernel
theorem d29_21 : decode jdk_68_method_11_code 21 = .ok (.iconst 0, 1) := by decide +kernel
theorem d29_22 : decode jdk_68_method_11_code 22 = .ok (.aload_n 1, 1) := by decide +kernel
theorem d29_23 : decode jdk_68_method_11_code 23 = .ok (.iconst 0, 1) := by decide +kernel
theorem d29_24 : decode jdk_68_method_11_code 24 = .ok (.aload_n 0, 1) := by decide +kernel
theorem d29_25 : decode jdk_68_method_11_code 25 = .ok (.getfield 79, 3) := by decide +kernel
theorem d29_28 : decode jdk_68_method_11_code 28 = .ok (.invokestatic 125, 3) := by decide +kernel
theorem d29_31 : decode jdk_68_method_11_code 31 = .ok (.aload_n 0, 1) := by decide +kernel
theorem d29_32 : decode jdk_68_method_11_code 32 = .ok (.aload_n 1, 1) := by decide +kernel
theorem d29_33 : decode jdk_68_method_11_code 33 = .ok (.putfield 15, 3) := by decide +kernel
theorem d29_36 : decode jdk_68_method_11_code 36 = .ok (.aload_n 0, 1) := by decide +kernel
theorem d29_37 : decode jdk_68_method_11_code 37 = .ok (.iconst 1, 1) := by decide +kernel
theorem d29_38 : decode jdk_68_method_11_code 38 = .ok (.putfield 22, 3) := by decide +kernel
theorem d29_4 : decode jdk_68_method_11_code 4 = .ok (.ifCond .ne 4, 3) := by decide +kernel
theorem d29_41 : decode jdk_68_method_11_code 41 = .ok (.return_, 1) := by decide +kernel
theorem d29_7 : decode jdk_68_method_11_code 7 = .ok (.return_, 1) := by decide +kernel
theorem d29_8 : decode jdk_68_method_11_code 8 = .ok (.aload_n 0, 1) := by decide +kernel
theorem d29_9 : decode jdk_68_method_11_code 9 = .ok (.getfield 15, 3) := by decide +kernel
theorem d2_0 : decode jdk_52_method_3_code 0 = .ok (.iload_n 0, 1) := by decide +kernel
theorem d2_1 : decode jdk_52_method_3_code 1 = .ok (.ifCond .ge 11, 3) := by decide +kernel
theorem d2_12 : decode jdk_52_method_3_code 12 = .ok (.iload_n 0, 1) := by decide +kernel
theorem d2_13 : decode jdk_52_method_3_code 13 = .ok (.ldc 20, 2) := by decide +kernel
theorem d2_15 : decode jdk_52_method_3_code 15 = .ok (.if_icmp .lt 40, 3) := by decide +kernel
theorem d2_55 : decode jdk_52_method_3_code 55 = .ok (.iload_n 0, 1) := by decide +kernel
theorem d2_56 : decode jdk_52_method_3_code 56 = .ok (.iconst 1, 1) := by decide +kernel
theorem d2_57 : decode jdk_52_method_3_code 57 = .ok (.ishl, 1) := by decide +kernel
theorem d2_58 : decode jdk_52_method_3_code 58 = .ok (.ireturn, 1) := by decide +kernel
theorem d30_0 : decode jdk_68_method_71_code 0 = .ok (.getstatic 18, 3) := by decide +kernel
theorem d30_10 : decode jdk_68_method_71_code 10 = .ok (.aload_n 1, 1) := by decide +kernel
theorem d30_11 : decode jdk_68_method_71_code 11 = .ok (.invokevirtual 40, 3) := by decide +kernel
theorem d30_14 : decode jdk_68_method_71_code 14 = .ok (.if_icmp .eq 7, 3) := by decide +kernel
theorem d30_17 : decode jdk_68_method_71_code 17 = .ok (.aload_n 0, 1) := by decide +kernel
theorem d30_18 : decode jdk_68_method_71_code 18 = .ok (.invokevirtual 195, 3) := by decide +kernel
theorem d30_21 : decode jdk_68_method_71_code 21 = .ok (.return_, 1) := by decide +kernel
theorem d30_3 : decode jdk_68_method_71_code 3 = .ok (.ifCond .eq 18, 3) := by decide +kernel
theorem d30_6 : decode jdk_68_method_71_code 6 = .ok (.aload_n 0, 1) := by decide +kernel
theorem d30_7 : decode jdk_68_method_71_code 7 = .ok (.getfield 22, 3) := by decide +kernel
theorem d31_0 : decode jdk_68_method_73_code 0 = .ok (.aload_n 0, 1) := by decide +kernel
theorem d31_1 : decode jdk_68_method_73_code 1 = .ok (.aload_n 2, 1) := by decide +kernel
theorem d31_10 : decode jdk_68_method_73_code 10 = .ok (.iload_n 1, 1) := by decide +kernel
theorem d31_11 : decode jdk_68_method_73_code 11 = .ok (.aload_n 0, 1) := by decide +kernel
theorem d31_12 : decode jdk_68_method_73_code 12 = .ok (.getfield 22, 3) := by decide +kernel
theorem d31_15 : decode jdk_68_method_73_code 15 = .ok (.invokevirtual 399, 3) := by decide +kernel
theorem d31_18 : decode jdk_68_method_73_code 18 = .ok (.return_, 1) := by decide +kernel
theorem d31_2 : decode jdk_68_method_73_code 2 = .ok (.invokevirtual 397, 3) := by decide +kernel
theorem d31_5 : decode jdk_68_method_73_code 5 = .ok (.aload_n 2, 1) := by decide +kernel
theorem d31_6 : decode jdk_68_method_73_code 6 = .ok (.aload_n 0, 1) := by decide +kernel
theorem d31_7 : decode jdk_68_method_73_code 7 = .ok (.getfield 15, 3) := by decide +kernel
theorem d32_0 : decode jdk_68_method_22_code 0 = .ok (.aload_n 1, 1) := by decide +kernel
theorem d32_1 : decode jdk_68_method_22_code 1 = .ok (.ifnonnull 8, 3) := by decide +kernel
theorem d32_10 : decode jdk_68_method_22_code 10 = .ok (.invokevirtual 32, 3) := by decide +kernel
theorem d32_13 : decode jdk_68_method_22_code 13 = .ok (.istore_n 2, 1) := by decide +kernel
theorem d32_14 : decode jdk_68_method_22_code 14 = .ok (.aload_n 0, 1) := by decide +kernel
theorem d32_15 : decode jdk_68_method_22_code 15 = .ok (.aload_n 0, 1) := by decide +kernel
theorem d32_16 : decode jdk_68_method_22_code 16 = .ok (.getfield 79, 3) := by decide +kernel
theorem d32_19 : decode jdk_68_method_22_code 19 = .ok (.iload_n 2, 1) := by decide +kernel
theorem d32_20 : decode jdk_68_method_22_code 20 = .ok (.iadd, 1) := by decide +kernel
theorem d32_21 : decode jdk_68_method_22_code 21 = .ok (.invokevirtual 100, 3) := by decide +kernel
theorem d32_24 : decode jdk_68_method_22_code 24 = .ok (.aload_n 0, 1) := by decide +kernel
theorem d32_25 : decode jdk_68_method_22_code 25 = .ok (.aload_n 0, 1) := by decide +kernel
theorem d32_26 : decode jdk_68_method_22_code 26 = .ok (.getfield 79, 3) := by decide +kernel
theorem d32_29 : decode jdk_68_method_22_code 29 = .ok (.aload_n 1, 1) := by decide +kernel
theorem d32_30 : decode jdk_68_method_22_code 30 = .ok (.invokevirtual 208, 3) := by decide +kernel
theorem d32_33 : decode jdk_68_method_22_code 33 = .ok (.aload_n 0, 1) := by decide +kernel
theorem d32_34 : decode jdk_68_method_22_code 34 = .ok (.dup, 1) := by decide +kernel
theorem d32_35 : decode jdk_68_method_22_code 35 = .ok (.getfield 79, 3) := by decide +kernel
theorem d32_38 : decode jdk_68_method_22_code 38 = .ok (.iload_n 2, 1) := by decide +kernel
theorem d32_39 : decode jdk_68_method_22_code 39 = .ok (.iadd, 1) := by decide +kernel
theorem d32_40 : decode jdk_68_method_22_code 40 = .ok (.putfield 79, 3) := by decide +kernel
theorem d32_43 : decode jdk_68_method_22_code 43 = .ok (.aload_n 0, 1) := by decide +kernel
theorem d32_44 : decode jdk_68_method_22_code 44 = .ok (.areturn, 1) := by decide +kernel
theorem d32_9 : decode jdk_68_method_22_code 9 = .ok (.aload_n 1, 1) := by decide +kernel
theorem d33_0 : decode jdk_67_method_7_code 0 = .ok (.aload_n 0, 1) := by decide +kernel
theorem d33_1 : decode jdk_67_method_7_code 1 = .ok (.aload_n 1, 1) := by decide +kernel
theorem d33_2 : decode jdk_67_method_7_code 2 = .ok (.invokespecial 29, 3) := by decide +kernel
theorem d33_5 : decode jdk_67_method_7_code 5 = .ok (.pop, 1) := by decide +kernel
theorem d33_6 : decode jdk_67_method_7_code 6 = .ok (.aload_n 0, 1) := by decide +kernel
theorem d33_7 : decode jdk_67_method_7_code 7 = .ok (.areturn, 1) := by decide +kernel
theorem d34_0 : decode jdk_65_method_131_code 0 = .ok (.iload_n 1, 1) := by decide +kernel
theorem d34_1 : decode jdk_65_method_131_code 1 = .ok (.iload_n 0, 1) := by decide +kernel
theorem d34_2 : decode jdk_65_method_131_code 2 = .ok (.if_icmp .ge 35, 3) := by decide +kernel
theorem d34_37 : decode jdk_65_method_131_code 37 = .ok (.return_, 1) := by decide +kernel
theorem d35_0 : decode jdk_29_method_69_code 0 = .ok (.iload_n 0, 1) := by decide +kernel
theorem d35_1 : decode jdk_29_method_69_code 1 = .ok (.iload_n 1, 1) := by decide +kernel
theorem d35_10 : decode jdk_29_method_69_code 10 = .ok (.ireturn, 1) := by decide +kernel
theorem d35_2 : decode jdk_29_method_69_code 2 = .ok (.if_icmp .gt 7, 3) := by decide +kernel
theorem d35_9 : decode jdk_29_method_69_code 9 = .ok (.iload_n 1, 1) := by decide +kernel
theorem d36_0 : decode jdk_65_method_133_code 0 = .ok (.iload_n 1, 1) := by decide +kernel
theorem d36_1 : decode jdk_65_method_133_code 1 = .ok (.iload_n 2, 1) := by decide +kernel
theorem d36_10 : decode jdk_65_method_133_code 10 = .ok (.newarray .byte, 2) := by decide +kernel
theorem d36_12 : decode jdk_65_method_133_code 12 = .ok (.astore 4, 2) := by decide +kernel
theorem d36_14 : decode jdk_65_method_133_code 14 = .ok (.aload_n 0, 1) := by decide +kernel
theorem d36_15 : decode jdk_65_method_133_code 15 = .ok (.iload_n 1, 1) := by decide +kernel
theorem d36_16 : decode jdk_65_method_133_code 16 = .ok (.aload 4, 2) := by decide +kernel
theorem d36_18 : decode jdk_65_method_133_code 18 = .ok (.iconst 0, 1) := by decide +kernel
theorem d36_19 : decode jdk_65_method_133_code 19 = .ok (.aload_n 0, 1) := by decide +kernel
theorem d36_2 : decode jdk_65_method_133_code 2 = .ok (.invokestatic 343, 3) := by decide +kernel
theorem d36_20 : decode jdk_65_method_133_code 20 = .ok (.arraylength, 1) := by decide +kernel
theorem d36_21 : decode jdk_65_method_133_code 21 = .ok (.iload_n 1, 1) := by decide +kernel
theorem d36_22 : decode jdk_65_method_133_code 22 = .ok (.isub, 1) := by decide +kernel
theorem d36_23 : decode jdk_65_method_133_code 23 = .ok (.iload_n 3, 1) := by decide +kernel
theorem d36_24 : decode jdk_65_method_133_code 24 = .ok (.invokestatic 304, 3) := by decide +kernel
theorem d36_27 : decode jdk_65_method_133_code 27 = .ok (.invokestatic 150, 3) := by decide +kernel
theorem d36_30 : decode jdk_65_method_133_code 30 = .ok (.aload 4, 2) := by decide +kernel
theorem d36_32 : decode jdk_65_method_133_code 32 = .ok (.areturn, 1) := by decide +kernel
theorem d36_5 : decode jdk_65_method_133_code 5 = .ok (.iload_n 2, 1) := by decide +kernel
theorem d36_6 : decode jdk_65_method_133_code 6 = .ok (.iload_n 1, 1) := by decide +kernel
theorem d36_7 : decode jdk_65_method_133_code 7 = .ok (.isub, 1) := by decide +kernel
theorem d36_8 : decode jdk_65_method_133_code 8 = .ok (.istore_n 3, 1) := by decide +kernel
theorem d36_9 : decode jdk_65_method_133_code 9 = .ok (.iload_n 3, 1) := by decide +kernel
theorem d37_0 : decode jdk_65_method_132_code 0 = .ok (.iload_n 1, 1) := by decide +kernel
theorem d37_1 : decode jdk_65_method_132_code 1 = .ok (.ifCond .ne 9, 3) := by decide +kernel
theorem d37_10 : decode jdk_65_method_132_code 10 = .ok (.aload_n 0, 1) := by decide +kernel
theorem d37_11 : decode jdk_65_method_132_code 11 = .ok (.iload_n 1, 1) := by decide +kernel
theorem d37_12 : decode jdk_65_method_132_code 12 = .ok (.iload_n 2, 1) := by decide +kernel
theorem d37_13 : decode jdk_65_method_132_code 13 = .ok (.invokestatic 339, 3) := by decide +kernel
theorem d37_16 : decode jdk_65_method_132_code 16 = .ok (.areturn, 1) := by decide +kernel
theorem d37_4 : decode jdk_65_method_132_code 4 = .ok (.iload_n 2, 1) := by decide +kernel
theorem d37_5 : decode jdk_65_method_132_code 5 = .ok (.aload_n 0, 1) := by decide +kernel
theorem d37_6 : decode jdk_65_method_132_code 6 = .ok (.arraylength, 1) := by decide +kernel
theorem d37_7 : decode jdk_65_method_132_code 7 = .ok (.if_icmp .eq 10, 3) := by decide +kernel
theorem d38_0 : decode jdk_68_method_64_code 0 = .ok (.aload_n 0, 1) := by decide +kernel
theorem d38_1 : decode jdk_68_method_64_code 1 = .ok (.getfield 15, 3) := by decide +kernel
theorem d38_4 : decode jdk_68_method_64_code 4 = .ok (.areturn, 1) := by decide +kernel
theorem d39_0 : decode jdk_68_method_6_code 0 = .ok (.aload_n 0, 1) := by decide +kernel
theorem d39_1 : decode jdk_68_method_6_code 1 = .ok (.getfield 79, 3) := by decide +kernel
theorem d39_4 : decode jdk_68_method_6_code 4 = .ok (.ireturn, 1) := by decide +kernel
theorem d3_0 : decode jdk_52_method_2_code 0 = .ok (.iload_n 0, 1) := by decide +kernel
theorem d3_1 : decode jdk_52_method_2_code 1 = .ok (.invokestatic 11, 3) := by decide +kernel
theorem d3_4 : decode jdk_52_method_2_code 4 = .ok (.newarray .byte, 2) := by decide +kernel
theorem d3_6 : decode jdk_52_method_2_code 6 = .ok (.areturn, 1) := by decide +kernel
theorem d40_0 : decode jdk_67_method_93_code 0 = .ok (.aload_n 0, 1) := by decide +kernel
theorem d40_1 : decode jdk_67_method_93_code 1 = .ok (.invokespecial 343, 3) := by decide +kernel
theorem d40_4 : decode jdk_67_method_93_code 4 = .ok (.ireturn, 1) := by decide +kernel
theorem d41_0 : decode jdk_42_method_150_code 0 = .ok (.aload_n 0, 1) := by decide +kernel
theorem d41_1 : decode jdk_42_method_150_code 1 = .ok (.invokespecial 1, 3) := by decide +kernel
theorem d41_10 : decode jdk_42_method_150_code 10 = .ok (.invokevirtual 549, 3) := by decide +kernel
theorem d41_13 : decode jdk_42_method_150_code 13 = .ok (.istore 4, 2) := by decide +kernel
theorem d41_15 : decode jdk_42_method_150_code 15 = .ok (.aload_n 1, 1) := by decide +kernel
theorem d41_16 : decode jdk_42_method_150_code 16 = .ok (.invokevirtual 1047, 3) := by decide +kernel
theorem d41_19 : decode jdk_42_method_150_code 19 = .ok (.ifCond .eq 22, 3) := by decide +kernel
theorem d41_22 : decode jdk_42_method_150_code 22 = .ok (.aload_n 0, 1) := by decide +kernel
theorem d41_23 : decode jdk_42_method_150_code 23 = .ok (.iconst 0, 1) := by decide +kernel
theorem d41_24 : decode jdk_42_method_150_code 24 = .ok (.putfield 15, 3) := by decide +kernel
theorem d41_27 : decode jdk_42_method_150_code 27 = .ok (.aload_n 0, 1) := by decide +kernel
theorem d41_28 : decode jdk_42_method_150_code 28 = .ok (.aload_n 3, 1) := by decide +kernel
theorem d41_29 : decode jdk_42_method_150_code 29 = .ok (.iconst 0, 1) := by decide +kernel
theorem d41_30 : decode jdk_42_method_150_code 30 = .ok (.iload 4, 2) := by decide +kernel
theorem d41_32 : decode jdk_42_method_150_code 32 = .ok (.invokestatic 54, 3) := by decide +kernel
theorem d41_35 : decode jdk_42_method_150_code 35 = .ok (.putfield 9, 3) := by decide +kernel
theorem d41_38 : decode jdk_42_method_150_code 38 = .ok (.goto 59, 3) := by decide +kernel
theorem d41_4 : decode jdk_42_method_150_code 4 = .ok (.aload_n 1, 1) := by decide +kernel
theorem d41_41 : decode jdk_42_method_150_code 41 = .ok (.getstatic 38, 3) := by decide +kernel
theorem d41_44 : decode jdk_42_method_150_code 44 = .ok (.ifCond .eq 35, 3) := by decide +kernel
theorem d41_47 : decode jdk_42_method_150_code 47 = .ok (.aload_n 1, 1) := by decide +kernel
theorem d41_48 : decode jdk_42_method_150_code 48 = .ok (.getfield 1048, 3) := by decide +kernel
theorem d41_5 : decode jdk_42_method_150_code 5 = .ok (.invokevirtual 552, 3) := by decide +kernel
theorem d41_51 : decode jdk_42_method_150_code 51 = .ok (.ifCond .eq 28, 3) := by decide +kernel
theorem d41_79 : decode jdk_42_method_150_code 79 = .ok (.aload_n 0, 1) := by decide +kernel
theorem d41_8 : decode jdk_42_method_150_code 8 = .ok (.astore_n 3, 1) := by decide +kernel
theorem d41_80 : decode jdk_42_method_150_code 80 = .ok (.iconst 1, 1) := by decide +kernel
theorem d41_81 : decode jdk_42_method_150_code 81 = .ok (.putfield 15, 3) := by decide +kernel
theorem d41_84 : decode jdk_42_method_150_code 84 = .ok (.aload_n 0, 1) := by decide +kernel
theorem d41_85 : decode jdk_42_method_150_code 85 = .ok (.aload_n 3, 1) := by decide +kernel
theorem d41_86 : decode jdk_42_method_150_code 86 = .ok (.iconst 0, 1) := by decide +kernel
theorem d41_87 : decode jdk_42_method_150_code 87 = .ok (.iload 4, 2) := by decide +kernel
theorem d41_89 : decode jdk_42_method_150_code 89 = .ok (.iconst 1, 1) := by decide +kernel
theorem d41_9 : decode jdk_42_method_150_code 9 = .ok (.aload_n 1, 1) := by decide +kernel
theorem d41_90 : decode jdk_42_method_150_code 90 = .ok (.ishl, 1) := by decide +kernel
theorem d41_91 : decode jdk_42_method_150_code 91 = .ok (.invokestatic 54, 3) := by decide +kernel
theorem d41_94 : decode jdk_42_method_150_code 94 = .ok (.putfield 9, 3) := by decide +kernel
theorem d41_97 : decode jdk_42_method_150_code 97 = .ok (.return_, 1) := by decide +kernel
theorem d42_0 : decode jdk_42_method_53_code 0 = .ok (.aload_n 0, 1) := by decide +kernel
theorem d42_1 : decode jdk_42_method_53_code 1 = .ok (.aload_n 1, 1) := by decide +kernel
theorem d42_2 : decode jdk_42_method_53_code 2 = .ok (.aconst_null, 1) := by decide +kernel
theorem d42_3 : decode jdk_42_method_53_code 3 = .ok (.invokespecial 489, 3) := by decide +kernel
theorem d42_6 : decode jdk_42_method_53_code 6 = .ok (.return_, 1) := by decide +kernel
theorem d43_0 : decode jdk_67_method_42_code 0 = .ok (.new 18, 3) := by decide +kernel
theorem d43_3 : decode jdk_67_method_42_code 3 = .ok (.dup, 1) := by decide +kernel
theorem d43_4 : decode jdk_67_method_42_code 4 = .ok (.aload_n 0, 1) := by decide +kernel
theorem d43_5 : decode jdk_67_method_42_code 5 = .ok (.invokespecial 137, 3) := by decide +kernel
theorem d43_8 : decode jdk_67_method_42_code 8 = .ok (.areturn, 1) := by decide +kernel
theorem d44_0 : decode jdk_30_method_1_code 0 = .ok (.aload_n 0, 1) := by decide +kernel
theorem d44_1 : decode jdk_30_method_1_code 1 = .ok (.invokespecial 1, 3) := by decide +kernel
theorem d44_4 : decode jdk_30_method_1_code 4 = .ok (.return_, 1) := by decide +kernel
theorem d45_0 : decode prog_16_method_1_code 0 = .ok (.aload_n 0, 1) := by decide +kernel
theorem d45_1 : decode prog_16_method_1_code 1 = .ok (.invokespecial 1, 3) := by decide +kernel
theorem d45_10 : decode prog_16_method_1_code 10 = .ok (.iload_n 2, 1) := by decide +kernel
theorem d45_11 : decode prog_16_method_1_code 11 = .ok (.putfield 13, 3) := by decide +kernel
theorem d45_14 : decode prog_16_method_1_code 14 = .ok (.aload_n 0, 1) := by decide +kernel
theorem d45_15 : decode prog_16_method_1_code 15 = .ok (.lload_n 3, 1) := by decide +kernel
theorem d45_16 : decode prog_16_method_1_code 16 = .ok (.putfield 17, 3) := by decide +kernel
theorem d45_19 : decode prog_16_method_1_code 19 = .ok (.return_, 1) := by decide +kernel
theorem d45_4 : decode prog_16_method_1_code 4 = .ok (.aload_n 0, 1) := by decide +kernel
theorem d45_5 : decode prog_16_method_1_code 5 = .ok (.aload_n 1, 1) := by decide +kernel
theorem d45_6 : decode prog_16_method_1_code 6 = .ok (.putfield 7, 3) := by decide +kernel
theorem d45_9 : decode prog_16_method_1_code 9 = .ok (.aload_n 0, 1) := by decide +kernel
theorem d46_0 : decode prog_16_method_3_code 0 = .ok (.new 27, 3) := by decide +kernel
theorem d46_11 : decode prog_16_method_3_code 11 = .ok (.ifCond .eq 8, 3) := by decide +kernel
theorem d46_14 : decode prog_16_method_3_code 14 = .ok (.ldc 30, 2) := by decide +kernel
theorem d46_16 : decode prog_16_method_3_code 16 = .ok (.goto 5, 3) := by decide +kernel
theorem d46_19 : decode prog_16_method_3_code 19 = .ok (.ldc 32, 2) := by decide +kernel
theorem d46_21 : decode prog_16_method_3_code 21 = .ok (.invokevirtual 34, 3) := by decide +kernel
theorem d46_24 : decode prog_16_method_3_code 24 = .ok (.aload_n 0, 1) := by decide +kernel
theorem d46_25 : decode prog_16_method_3_code 25 = .ok (.getfield 7, 3) := by decide +kernel
theorem d46_28 : decode prog_16_method_3_code 28 = .ok (.invokevirtual 34, 3) := by decide +kernel
theorem d46_3 : decode prog_16_method_3_code 3 = .ok (.dup, 1) := by decide +kernel
theorem d46_31 : decode prog_16_method_3_code 31 = .ok (.ldc 38, 2) := by decide +kernel
theorem d46_33 : decode prog_16_method_3_code 33 = .ok (.invokevirtual 34, 3) := by decide +kernel
theorem d46_36 : decode prog_16_method_3_code 36 = .ok (.invokevirtual 40, 3) := by decide +kernel
theorem d46_39 : decode prog_16_method_3_code 39 = .ok (.areturn, 1) := by decide +kernel
theorem d46_4 : decode prog_16_method_3_code 4 = .ok (.invokespecial 29, 3) := by decide +kernel
theorem d46_7 : decode prog_16_method_3_code 7 = .ok (.aload_n 0, 1) := by decide +kernel
theorem d46_8 : decode prog_16_method_3_code 8 = .ok (.getfield 13, 3) := by decide +kernel
theorem d47_0 : decode method_4_code 0 = .ok (.iload_n 0, 1) := by decide +kernel
theorem d47_1 : decode method_4_code 1 = .ok (.ifCond .ne 6, 3) := by decide +kernel
theorem d47_12 : decode method_4_code 12 = .ok (.iload_n 0, 1) := by decide +kernel
theorem d47_13 : decode method_4_code 13 = .ok (.iconst 1, 1) := by decide +kernel
theorem d47_14 : decode method_4_code 14 = .ok (.if_icmp .ne 6, 3) := by decide +kernel
theorem d47_17 : decode method_4_code 17 = .ok (.bipush 47, 2) := by decide +kernel
theorem d47_19 : decode method_4_code 19 = .ok (.ireturn, 1) := by decide +kernel
theorem d47_20 : decode method_4_code 20 = .ok (.iload_n 0, 1) := by decide +kernel
theorem d47_21 : decode method_4_code 21 = .ok (.iload_n 1, 1) := by decide +kernel
theorem d47_22 : decode method_4_code 22 = .ok (.iconst 1, 1) := by decide +kernel
theorem d47_23 : decode method_4_code 23 = .ok (.iadd, 1) := by decide +kernel
theorem d47_24 : decode method_4_code 24 = .ok (.iload_n 2, 1) := by decide +kernel
theorem d47_25 : decode method_4_code 25 = .ok (.iadd, 1) := by decide +kernel
theorem d47_26 : decode method_4_code 26 = .ok (.if_icmp .ne 6, 3) := by decide +kernel
theorem d47_29 : decode method_4_code 29 = .ok (.bipush 62, 2) := by decide +kernel
theorem d47_31 : decode method_4_code 31 = .ok (.ireturn, 1) := by decide +kernel
theorem d47_32 : decode method_4_code 32 = .ok (.iload_n 0, 1) := by decide +kernel
theorem d47_33 : decode method_4_code 33 = .ok (.iconst 1, 1) := by decide +kernel
theorem d47_34 : decode method_4_code 34 = .ok (.isub, 1) := by decide +kernel
theorem d47_35 : decode method_4_code 35 = .ok (.iload_n 2, 1) := by decide +kernel
theorem d47_36 : decode method_4_code 36 = .ok (.isub, 1) := by decide +kernel
theorem d47_37 : decode method_4_code 37 = .ok (.istore 6, 2) := by decide +kernel
theorem d47_39 : decode method_4_code 39 = .ok (.iload 6, 2) := by decide +kernel
theorem d47_4 : decode method_4_code 4 = .ok (.bipush 60, 2) := by decide +kernel
theorem d47_41 : decode method_4_code 41 = .ok (.ifCond .ne 5, 3) := by decide +kernel
theorem d47_44 : decode method_4_code 44 = .ok (.iload_n 3, 1) := by decide +kernel
theorem d47_45 : decode method_4_code 45 = .ok (.ireturn, 1) := by decide +kernel
theorem d47_46 : decode method_4_code 46 = .ok (.iload 6, 2) := by decide +kernel
theorem d47_48 : decode method_4_code 48 = .ok (.iconst 1, 1) := by decide +kernel
theorem d47_49 : decode method_4_code 49 = .ok (.if_icmp .ne 6, 3) := by decide +kernel
theorem d47_52 : decode method_4_code 52 = .ok (.iload 4, 2) := by decide +kernel
theorem d47_54 : decode method_4_code 54 = .ok (.ireturn, 1) := by decide +kernel
theorem d47_55 : decode method_4_code 55 = .ok (.iload 5, 2) := by decide +kernel
theorem d47_57 : decode method_4_code 57 = .ok (.ireturn, 1) := by decide +kernel
theorem d47_6 : decode method_4_code 6 = .ok (.ireturn, 1) := by decide +kernel
theorem d47_7 : decode method_4_code 7 = .ok (.iload_n 2, 1) := by decide +kernel
theorem d47_8 : decode method_4_code 8 = .ok (.iconst 1, 1) := by decide +kernel
theorem d47_9 : decode method_4_code 9 = .ok (.if_icmp .ne 11, 3) := by decide +kernel
theorem d48_0 : decode method_3_code 0 = .ok (.iload_n 1, 1) := by decide +kernel
theorem d48_1 : decode method_3_code 1 = .ok (.iload_n 2, 1) := by decide +kernel
theorem d48_12 : decode method_3_code 12 = .ok (.iload_n 1, 1) := by decide +kernel
theorem d48_13 : decode method_3_code 13 = .ok (.iload_n 3, 1) := by decide +kernel
theorem d48_14 : decode method_3_code 14 = .ok (.iload 4, 2) := by decide +kernel
theorem d48_16 : decode method_3_code 16 = .ok (.iload 5, 2) := by decide +kernel
theorem d48_18 : decode method_3_code 18 = .ok (.iload 6, 2) := by decide +kernel
theorem d48_2 : decode method_3_code 2 = .ok (.if_icmp .lt 5, 3) := by decide +kernel
theorem d48_20 : decode method_3_code 20 = .ok (.iload 7, 2) := by decide +kernel
theorem d48_22 : decode method_3_code 22 = .ok (.invokestatic 36, 3) := by decide +kernel
theorem d48_25 : decode method_3_code 25 = .ok (.if_icmp .ne 7, 3) := by decide +kernel
theorem d48_28 : decode method_3_code 28 = .ok (.iconst 1, 1) := by decide +kernel
theorem d48_29 : decode method_3_code 29 = .ok (.goto 4, 3) := by decide +kernel
theorem d48_33 : decode method_3_code 33 = .ok (.ireturn, 1) := by decide +kernel
theorem d48_5 : decode method_3_code 5 = .ok (.iconst 1, 1) := by decide +kernel
theorem d48_6 : decode method_3_code 6 = .ok (.ireturn, 1) := by decide +kernel
theorem d48_7 : decode method_3_code 7 = .ok (.aload_n 0, 1) := by decide +kernel
theorem d48_8 : decode method_3_code 8 = .ok (.iload_n 1, 1) := by decide +kernel
theorem d48_9 : decode method_3_code 9 = .ok (.invokevirtual 32, 3) := by decide +kernel
theorem d4_0 : decode jdk_52_method_14_code 0 = .ok (.iload_n 2, 1) := by decide +kernel
theorem d4_1 : decode jdk_52_method_14_code 1 = .ok (.invokestatic 107, 3) := by decide +kernel
theorem d4_10 : decode jdk_52_method_14_code 10 = .ok (.iload_n 2, 1) := by decide +kernel
theorem d4_11 : decode jdk_52_method_14_code 11 = .ok (.if_icmp .ge 21, 3) := by decide +kernel
theorem d4_14 : decode jdk_52_method_14_code 14 = .ok (.aload_n 3, 1) := by decide +kernel
theorem d4_15 : decode jdk_52_method_14_code 15 = .ok (.iload 4, 2) := by decide +kernel
theorem d4_17 : decode jdk_52_method_14_code 17 = .ok (.aload_n 0, 1) := by decide +kernel
theorem d4_18 : decode jdk_52_method_14_code 18 = .ok (.iload_n 1, 1) := by decide +kernel
theorem d4_19 : decode jdk_52_method_14_code 19 = .ok (.caload, 1) := by decide +kernel
theorem d4_20 : decode jdk_52_method_14_code 20 = .ok (.invokestatic 111, 3) := by decide +kernel
theorem d4_23 : decode jdk_52_method_14_code 23 = .ok (.iinc 1 1, 3) := by decide +kernel
theorem d4_26 : decode jdk_52_method_14_code 26 = .ok (.iinc 4 1, 3) := by decide +kernel
theorem d4_29 : decode jdk_52_method_14_code 29 = .ok (.goto (-21), 3) := by decide +kernel
theorem d4_32 : decode jdk_52_method_14_code 32 = .ok (.aload_n 3, 1) := by decide +kernel
theorem d4_33 : decode jdk_52_method_14_code 33 = .ok (.areturn, 1) := by decide +kernel
theorem d4_4 : decode jdk_52_method_14_code 4 = .ok (.astore_n 3, 1) := by decide +kernel
theorem d4_5 : decode jdk_52_method_14_code 5 = .ok (.iconst 0, 1) := by decide +kernel
theorem d4_6 : decode jdk_52_method_14_code 6 = .ok (.istore 4, 2) := by decide +kernel
theorem d4_8 : decode jdk_52_method_14_code 8 = .ok (.iload 4, 2) := by decide +kernel
theorem d5_0 : decode jdk_52_method_21_code 0 = .ok (.iconst 0, 1) := by decide +kernel
theorem d5_1 : decode jdk_52_method_21_code 1 = .ok (.istore 5, 2) := by decide +kernel
theorem d5_10 : decode jdk_52_method_21_code 10 = .ok (.aload_n 0, 1) := by decide +kernel
theorem d5_11 : decode jdk_52_method_21_code 11 = .ok (.iload_n 1, 1) := by decide +kernel
theorem d5_12 : decode jdk_52_method_21_code 12 = .ok (.caload, 1) := by decide +kernel
theorem d5_13 : decode jdk_52_method_21_code 13 = .ok (.istore 6, 2) := by decide +kernel
theorem d5_15 : decode jdk_52_method_21_code 15 = .ok (.iload 6, 2) := by decide +kernel
theorem d5_17 : decode jdk_52_method_21_code 17 = .ok (.sipush 255, 3) := by decide +kernel
theorem d5_20 : decode jdk_52_method_21_code 20 = .ok (.if_icmp .le 6, 3) := by decide +kernel
theorem d5_23 : decode jdk_52_method_21_code 23 = .ok (.iload 5, 2) := by decide +kernel
theorem d5_25 : decode jdk_52_method_21_code 25 = .ok (.ireturn, 1) := by decide +kernel
theorem d5_26 : decode jdk_52_method_21_code 26 = .ok (.aload_n 2, 1) := by decide +kernel
theorem d5_27 : decode jdk_52_method_21_code 27 = .ok (.iload_n 3, 1) := by decide +kernel
theorem d5_28 : decode jdk_52_method_21_code 28 = .ok (.iload 6, 2) := by decide +kernel
theorem d5_3 : decode jdk_52_method_21_code 3 = .ok (.iload 5, 2) := by decide +kernel
theorem d5_30 : decode jdk_52_method_21_code 30 = .ok (.i2b, 1) := by decide +kernel
theorem d5_31 : decode jdk_52_method_21_code 31 = .ok (.bastore, 1) := by decide +kernel
theorem d5_32 : decode jdk_52_method_21_code 32 = .ok (.iinc 1 1, 3) := by decide +kernel
theorem d5_35 : decode jdk_52_method_21_code 35 = .ok (.iinc 3 1, 3) := by decide +kernel
theorem d5_38 : decode jdk_52_method_21_code 38 = .ok (.iinc 5 1, 3) := by decide +kernel
theorem d5_41 : decode jdk_52_method_21_code 41 = .ok (.goto (-38), 3) := by decide +kernel
theorem d5_5 : decode jdk_52_method_21_code 5 = .ok (.iload 4, 2) := by decide +kernel
theorem d5_7 : decode jdk_52_method_21_code 7 = .ok (.if_icmp .ge 37, 3) := by decide +kernel
theorem d6_0 : decode jdk_52_method_16_code 0 = .ok (.iload_n 2, 1) := by decide +kernel
theorem d6_1 : decode jdk_52_method_16_code 1 = .ok (.newarray .byte, 2) := by decide +kernel
theorem d6_12 : decode jdk_52_method_16_code 12 = .ok (.istore 4, 2) := by decide +kernel
theorem d6_14 : decode jdk_52_method_16_code 14 = .ok (.iload 4, 2) := by decide +kernel
theorem d6_16 : decode jdk_52_method_16_code 16 = .ok (.iload_n 2, 1) := by decide +kernel
theorem d6_17 : decode jdk_52_method_16_code 17 = .ok (.if_icmp .eq 40, 3) := by decide +kernel
theorem d6_20 : decode jdk_52_method_16_code 20 = .ok (.aload_n 0, 1) := by decide +kernel
theorem d6_21 : decode jdk_52_method_16_code 21 = .ok (.iload_n 1, 1) := by decide +kernel
theorem d6_22 : decode jdk_52_method_16_code 22 = .ok (.iload_n 2, 1) := by decide +kernel
theorem d6_23 : decode jdk_52_method_16_code 23 = .ok (.invokestatic 119, 3) := by decide +kernel
theorem d6_26 : decode jdk_52_method_16_code 26 = .ok (.astore 5, 2) := by decide +kernel
theorem d6_28 : decode jdk_52_method_16_code 28 = .ok (.aload 5, 2) := by decide +kernel
theorem d6_3 : decode jdk_52_method_16_code 3 = .ok (.astore_n 3, 1) := by decide +kernel
theorem d6_30 : decode jdk_52_method_16_code 30 = .ok (.iload 4, 2) := by decide +kernel
theorem d6_32 : decode jdk_52_method_16_code 32 = .ok (.invokestatic 71, 3) := by decide +kernel
theorem d6_35 : decode jdk_52_method_16_code 35 = .ok (.sipush 255, 3) := by decide +kernel
theorem d6_38 : decode jdk_52_method_16_code 38 = .ok (.if_icmp .gt 16, 3) := by decide +kernel
theorem d6_4 : decode jdk_52_method_16_code 4 = .ok (.aload_n 0, 1) := by decide +kernel
theorem d6_5 : decode jdk_52_method_16_code 5 = .ok (.iload_n 1, 1) := by decide +kernel
theorem d6_54 : decode jdk_52_method_16_code 54 = .ok (.aload 5, 2) := by decide +kernel
theorem d6_56 : decode jdk_52_method_16_code 56 = .ok (.areturn, 1) := by decide +kernel
theorem d6_6 : decode jdk_52_method_16_code 6 = .ok (.aload_n 3, 1) := by decide +kernel
theorem d6_7 : decode jdk_52_method_16_code 7 = .ok (.iconst 0, 1) := by decide +kernel
theorem d6_8 : decode jdk_52_method_16_code 8 = .ok (.iload_n 2, 1) := by decide +kernel
theorem d6_9 : decode jdk_52_method_16_code 9 = .ok (.invokestatic 115, 3) := by decide +kernel
theorem d7_0 : decode jdk_52_method_15_code 0 = .ok (.iload_n 1, 1) := by decide +kernel
theorem d7_1 : decode jdk_52_method_15_code 1 = .ok (.aload_n 0, 1) := by decide +kernel
theorem d7_2 : decode jdk_52_method_15_code 2 = .ok (.arraylength, 1) := by decide +kernel
theorem d7_3 : decode jdk_52_method_15_code 3 = .ok (.isub, 1) := by decide +kernel
theorem d7_4 : decode jdk_52_method_15_code 4 = .ok (.bipush 31, 2) := by decide +kernel
theorem d7_6 : decode jdk_52_method_15_code 6 = .ok (.iushr, 1) := by decide +kernel
theorem d7_7 : decode jdk_52_method_15_code 7 = .ok (.i2b, 1) := by decide +kernel
theorem d7_8 : decode jdk_52_method_15_code 8 = .ok (.ireturn, 1) := by decide +kernel
theorem d8_0 : decode jdk_42_method_149_code 0 = .ok (.aload_n 0, 1) := by decide +kernel
theorem d8_1 : decode jdk_42_method_149_code 1 = .ok (.invokespecial 1, 3) := by decide +kernel
theorem d8_11 : decode jdk_42_method_149_code 11 = .ok (.getfield 9, 3) := by decide +kernel
theorem d8_14 : decode jdk_42_method_149_code 14 = .ok (.putfield 9, 3) := by decide +kernel
theorem d8_17 : decode jdk_42_method_149_code 17 = .ok (.aload_n 0, 1) := by decide +kernel
theorem d8_18 : decode jdk_42_method_149_code 18 = .ok (.ldc 7, 2) := by decide +kernel
theorem d8_20 : decode jdk_42_method_149_code 20 = .ok (.getfield 15, 3) := by decide +kernel
theorem d8_23 : decode jdk_42_method_149_code 23 = .ok (.putfield 15, 3) := by decide +kernel
theorem d8_26 : decode jdk_42_method_149_code 26 = .ok (.return_, 1) := by decide +kernel
theorem d8_27 : decode jdk_42_method_149_code 27 = .ok (.getstatic 38, 3) := by decide +kernel
theorem d8_30 : decode jdk_42_method_149_code 30 = .ok (.ifCond .eq 28, 3) := by decide +kernel
theorem d8_33 : decode jdk_42_method_149_code 33 = .ok (.aload_n 1, 1) := by decide +kernel
theorem d8_34 : decode jdk_42_method_149_code 34 = .ok (.iload_n 2, 1) := by decide +kernel
theorem d8_35 : decode jdk_42_method_149_code 35 = .ok (.iload_n 3, 1) := by decide +kernel
theorem d8_36 : decode jdk_42_method_149_code 36 = .ok (.invokestatic 177, 3) := by decide +kernel
theorem d8_39 : decode jdk_42_method_149_code 39 = .ok (.astore 5, 2) := by decide +kernel
theorem d8_4 : decode jdk_42_method_149_code 4 = .ok (.iload_n 3, 1) := by decide +kernel
theorem d8_41 : decode jdk_42_method_149_code 41 = .ok (.aload_n 0, 1) := by decide +kernel
theorem d8_42 : decode jdk_42_method_149_code 42 = .ok (.aload 5, 2) := by decide +kernel
theorem d8_44 : decode jdk_42_method_149_code 44 = .ok (.iload_n 3, 1) := by decide +kernel
theorem d8_45 : decode jdk_42_method_149_code 45 = .ok (.invokestatic 47, 3) := by decide +kernel
theorem d8_48 : decode jdk_42_method_149_code 48 = .ok (.putfield 15, 3) := by decide +kernel
theorem d8_5 : decode jdk_42_method_149_code 5 = .ok (.ifCond .ne 22, 3) := by decide +kernel
theorem d8_51 : decode jdk_42_method_149_code 51 = .ok (.aload_n 0, 1) := by decide +kernel
theorem d8_52 : decode jdk_42_method_149_code 52 = .ok (.aload 5, 2) := by decide +kernel
theorem d8_54 : decode jdk_42_method_149_code 54 = .ok (.putfield 9, 3) := by decide +kernel
theorem d8_57 : decode jdk_42_method_149_code 57 = .ok (.return_, 1) := by decide +kernel
theorem d8_8 : decode jdk_42_method_149_code 8 = .ok (.aload_n 0, 1) := by decide +kernel
theorem d8_9 : decode jdk_42_method_149_code 9 = .ok (.ldc 7, 2) := by decide +kernel
theorem d9_0 : decode jdk_42_method_3_code 0 = .ok (.aload_n 0, 1) := by decide +kernel
theorem d9_1 : decode jdk_42_method_3_code 1 = .ok (.aload_n 1, 1) := by decide +kernel
theorem d9_2 : decode jdk_42_method_3_code 2 = .ok (.iconst 0, 1) := by decide +kernel
theorem d9_3 : decode jdk_42_method_3_code 3 = .ok (.aload_n 1, 1) := by decide +kernel
theorem d9_4 : decode jdk_42_method_3_code 4 = .ok (.arraylength, 1) := by decide +kernel
theorem d9_5 : decode jdk_42_method_3_code 5 = .ok (.aconst_null, 1) := by decide +kernel
theorem d9_6 : decode jdk_42_method_3_code 6 = .ok (.invokespecial 27, 3) := by decide +kernel
theorem d9_9 : decode jdk_42_method_3_code 9 = .ok (.return_, 1) := by decide +kernel
theorem pd_0 : parseMethodDescriptor "(I)I" = some ⟨[.int], some .int⟩ := by decide +kernel
theorem pd_1 : parseMethodDescriptor "(I)[B" = some ⟨[.int], some (.array .byte)⟩ := by decide +kernel
theorem pd_2 : parseMethodDescriptor "([BII)V" = some ⟨[(.array .byte), .int, .int], none⟩ := by decide +kernel
theorem pd_3 : parseMethodDescriptor "([CI[BII)I" = some ⟨[(.array .char), .int, (.array .byte), .int, .int], some .int⟩ := by decide +kernel
theorem pd_4 : parseMethodDescriptor "([CII)[B" = some ⟨[(.array .char), .int, .int], some (.array .byte)⟩ := by decide +kernel
theorem pd_5 : parseMethodDescriptor "([BI)C" = some ⟨[(.array .byte), .int], some .char⟩ := by decide +kernel
theorem pd_6 : parseMethodDescriptor "([BI)B" = some ⟨[(.array .byte), .int], some .byte⟩ := by decide +kernel
theorem pd_7 : parseMethodDescriptor "([CIILjava/lang/Void;)V" = some ⟨[(.array .char), .int, .int, (.object "java/lang/Void")], none⟩ := by decide +kernel
theorem pd_8 : parseMethodDescriptor "(I)V" = some ⟨[.int], none⟩ := by decide +kernel
theorem pd_9 : parseMethodDescriptor "()B" = some ⟨[], some .byte⟩ := by decide +kernel
theorem pd_10 : parseMethodDescriptor "(IILjava/util/function/BiFunction;)I" = some ⟨[.int, .int, (.object "java/util/function/BiFunction")], some .int⟩ := by decide +kernel
theorem pd_11 : parseMethodDescriptor "([B)I" = some ⟨[(.array .byte)], some .int⟩ := by decide +kernel
theorem pd_12 : parseMethodDescriptor "(II)V" = some ⟨[.int, .int], none⟩ := by decide +kernel
theorem pd_13 : parseMethodDescriptor "(IIILjava/util/function/BiFunction;)I" = some ⟨[.int, .int, .int, (.object "java/util/function/BiFunction")], some .int⟩ := by decide +kernel
theorem pd_14 : parseMethodDescriptor "(III)I" = some ⟨[.int, .int, .int], some .int⟩ := by decide +kernel
theorem pd_15 : parseMethodDescriptor "(I[B)V" = some ⟨[.int, (.array .byte)], none⟩ := by decide +kernel
theorem pd_16 : parseMethodDescriptor "()Z" = some ⟨[], some .boolean⟩ := by decide +kernel
theorem pd_17 : parseMethodDescriptor "(II[B)V" = some ⟨[.int, .int, (.array .byte)], none⟩ := by decide +kernel
theorem pd_18 : parseMethodDescriptor "([BI[BII)V" = some ⟨[(.array .byte), .int, (.array .byte), .int, .int], none⟩ := by decide +kernel
theorem pd_19 : parseMethodDescriptor "()V" = some ⟨[], none⟩ := by decide +kernel
theorem pd_20 : parseMethodDescriptor "(Ljava/lang/String;)V" = some ⟨[(.object "java/lang/String")], none⟩ := by decide +kernel
theorem pd_21 : parseMethodDescriptor "([BIB)V" = some ⟨[(.array .byte), .int, .byte], none⟩ := by decide +kernel
theorem pd_22 : parseMethodDescriptor "()I" = some ⟨[], some .int⟩ := by decide +kernel
theorem pd_23 : parseMethodDescriptor "(ILjava/lang/String;)V" = some ⟨[.int, (.object "java/lang/String")], none⟩ := by decide +kernel
theorem pd_24 : parseMethodDescriptor "(Ljava/lang/String;)Ljava/lang/AbstractStringBuilder;" = some ⟨[(.object "java/lang/String")], some (.object "java/lang/AbstractStringBuilder")⟩ := by decide +kernel
theorem pd_25 : parseMethodDescriptor "(II)I" = some ⟨[.int, .int], some .int⟩ := by decide +kernel
theorem pd_26 : parseMethodDescriptor "([BII)[B" = some ⟨[(.array .byte), .int, .int], some (.array .byte)⟩ := by decide +kernel
theorem pd_27 : parseMethodDescriptor "()[B" = some ⟨[], some (.array .byte)⟩ := by decide +kernel
theorem pd_28 : parseMethodDescriptor "(Ljava/lang/AbstractStringBuilder;Ljava/lang/Void;)V" = some ⟨[(.object "java/lang/AbstractStringBuilder"), (.object "java/lang/Void")], none⟩ := by decide +kernel
theorem pd_29 : parseMethodDescriptor "(Ljava/lang/StringBuilder;)V" = some ⟨[(.object "java/lang/StringBuilder")], none⟩ := by decide +kernel
theorem pd_30 : parseMethodDescriptor "(Ljava/lang/String;)Ljava/lang/StringBuilder;" = some ⟨[(.object "java/lang/String")], some (.object "java/lang/StringBuilder")⟩ := by decide +kernel
theorem pd_31 : parseMethodDescriptor "()Ljava/lang/String;" = some ⟨[], some (.object "java/lang/String")⟩ := by decide +kernel
theorem pd_32 : parseMethodDescriptor "(IIICCC)C" = some ⟨[.int, .int, .int, .char, .char, .char], some .char⟩ := by decide +kernel
theorem pd_33 : parseMethodDescriptor "(I)C" = some ⟨[.int], some .char⟩ := by decide +kernel
theorem pd_34 : parseMethodDescriptor "(Ljava/lang/String;ZJ)V" = some ⟨[(.object "java/lang/String"), .boolean, .long], none⟩ := by decide +kernel
theorem pd_35 : parseMethodDescriptor "(Ljava/lang/String;IIIICCC)Z" = some ⟨[(.object "java/lang/String"), .int, .int, .int, .int, .char, .char, .char], some .boolean⟩ := by decide +kernel
theorem pd_36 : parseMethodDescriptor "([C)V" = some ⟨[(.array .char)], none⟩ := by decide +kernel
theorem pn_0 : plainName "java/lang/StringUTF16" = true := by first | (simp [plainName, overriddenIn]; done) | decide +kernel
theorem pn_1 : plainName "java/lang/String" = true := by first | (simp [plainName, overriddenIn]; done) | decide +kernel
theorem pn_2 : plainName "java/lang/AbstractStringBuilder" = true := by first | (simp [plainName, overriddenIn]; done) | decide +kernel
theorem pn_3 : plainName "java/lang/StringBuilder" = true := by first | (simp [plainName, overriddenIn]; done) | decide +kernel
theorem pn_4 : plainName "jdk/internal/util/Preconditions" = true := by first | (simp [plainName, overriddenIn]; done) | decide +kernel
theorem pn_5 : plainName "java/lang/StringLatin1" = true := by first | (simp [plainName, overriddenIn]; done) | decide +kernel
theorem pn_6 : plainName "java/util/Arrays" = true := by first | (simp [plainName, overriddenIn]; done) | decide +kernel
theorem pn_7 : plainName "java/lang/Record" = true := by first | (simp [plainName, overriddenIn]; done) | decide +kernel
theorem pn_8 : plainName "com/example/aproape/aproape/io/MarkupReader$Tag" = true := by first | (simp [plainName, overriddenIn]; done) | decide +kernel
theorem pn_9 : plainName "com/example/aproape/aproape/io/TagToStringPinLaw" = true := by first | (simp [plainName, overriddenIn]; done) | decide +kernel
section OwnWalks
variable {l : Launch} {Z : State} {a0 : Array Value}
theorem rm_putc (C : Cx Z a0) (h0 : Heap) (t : Addr) (kt : ClassId) (M i : Nat) (vs : List Value) (hM : 2 * i + 1 < vs.length) (hi : 2 * i + 1 < M) (hM2 : M ≤ 64) (c1 : Int32) (Vt : Arv Z h0 t kt .byte (Int32.ofNat M) vs vZ) (nt : Z.heap.size ≤ t) :
    Ct l Z a0 own_EL (⟨"java/lang/StringUTF16", "putChar", "([BII)V"⟩ : MethodName) jdk_52_method_4_code 3 (Option.none : Option Jvm.ClassFile.FieldType) [] (rmm 0 0 0 0) #[(.ref t), (.int (Int32.ofNat i)), (.int c1)] h0 [t] (fun v h so => v = none ∧ Keep h0 h [t] ∧ Arv Z h t kt .byte (Int32.ofNat M) ((vs.set (2 * i) (.int c1.toInt8.toInt32)).set (2 * i + 1) (.int (StrChars.hi8 c1))) vZ) := by
  refine own_enter (plainFor_of_name pn_0) C.ew (F0 := fun m => mkF m 0 #[vR t, vI (Int32.ofNat i), vI c1] []) (fun m => by first | (simp [entryFrame, mkF, argsToLocals, Value.category]; done) | rfl) ?_
  intro p e s m below meth c s₁ G hx hby hml hret hnm W0 S0 go fin
  have z0 := W0.sz
  show G s₁ (mkF m 0 #[vR t, vI (Int32.ofNat i), vI c1] [])
  have lt : ltN t h0.size := Vt.lt
  obtain ⟨T1, W1, st1⟩ := own_getS W0 hx (host := "") (Or.inl (w212 C)) Via.refl C.u0 (g := (mkF m 0 #[vR t, vI (Int32.ofNat i), vI c1] [])) rfl (hb hby d0_0)
  refine go (g' := (mkF m 3 #[vR t, vI (Int32.ofNat i), vI c1] [(.int (1 : Int32))])) (st1) ?_
  refine go (g' := (mkF m 31 #[vR t, vI (Int32.ofNat i), vI c1] [(.int ((Int32.ofNat i) <<< ((1 : Int32) &&& 31)))])) (fun _ k => XS.ifYes W1.here hx rfl (pc0 := 3) (pc' := 28) rfl (hb hby d0_3) rfl ((if0 _ _).trans (feq ((by decide) : ¬ ((1 : Int32) = (0 : Int32)))).2) (by decide) (by decide) (XS.iloadN W1.here hx rfl (hb hby d0_28) rfl (XS.iconst W1.here hx rfl (hb hby d0_29) (XS.ishl W1.here hx rfl (hb hby d0_30) rfl k)))) ?_
  rw [show ((Int32.ofNat i) <<< ((1 : Int32) &&& 31)) = (Int32.ofNat (2 * i)) from own_shl1 i]
  refine go (g' := (mkF m 37 #[vR t, vI ((Int32.ofNat (2 * i)) + (1 : Int32)), vI c1] [(.int (Int32.ofNat (2 * i))), (.ref t)])) (fun _ k => XS.istoreN W1.here hx rfl (hb hby d0_31) rfl (l' := #[vR t, vI (Int32.ofNat (2 * i)), vI c1]) rfl (XS.aloadN W1.here hx rfl (hb hby d0_32) rfl rfl (XS.iloadN W1.here hx rfl (hb hby d0_33) rfl (XS.iinc W1.here hx rfl (hb hby d0_34) rfl (l' := #[vR t, vI ((Int32.ofNat (2 * i)) + (1 : Int32)), vI c1]) rfl k)))) ?_
  rw [show ((Int32.ofNat (2 * i)) + (1 : Int32)) = (Int32.ofNat (2 * i + 1)) from own_inc _]
  refine go (g' := (mkF m 38 #[vR t, vI (Int32.ofNat (2 * i + 1)), vI c1] [(.int c1), (.int (Int32.ofNat (2 * i))), (.ref t)])) (fun _ k => XS.iloadN W1.here hx rfl (hb hby d0_37) rfl k) ?_
  obtain ⟨T2, W2, st2⟩ := own_getS W1 hx (host := "") (Or.inl (w213 C)) Via.refl C.u1 (g := (mkF m 38 #[vR t, vI (Int32.ofNat (2 * i + 1)), vI c1] [(.int c1), (.int (Int32.ofNat (2 * i))), (.ref t)])) rfl (hb hby d0_38)
  refine go (g' := (mkF m 41 #[vR t, vI (Int32.ofNat (2 * i + 1)), vI c1] [vZ, (.int c1), (.int (Int32.ofNat (2 * i))), (.ref t)])) (st2) ?_
  refine go (g' := (mkF m 42 #[vR t, vI (Int32.ofNat (2 * i + 1)), vI c1] [(.int (c1 >>> ((0 : Int32) &&& 31))), (.int (Int32.ofNat (2 * i))), (.ref t)])) (fun _ k => XS.ishr W2.here hx rfl (hb hby d0_41) rfl k) ?_
  rw [show (c1 >>> ((0 : Int32) &&& 31)) = c1 from own_shr0 c1]
  refine go (g' := (mkF m 43 #[vR t, vI (Int32.ofNat (2 * i + 1)), vI c1] [(.int (c1.toInt8.toInt32)), (.int (Int32.ofNat (2 * i))), (.ref t)])) (fun _ k => XS.i2b W2.here hx rfl (hb hby d0_42) rfl k) ?_
  obtain ⟨T3, h3, W3, R3, V3, st3⟩ := own_stB W2 hx Vt (by omega) (S0 _ (own_mi (i := 0) rfl)) (j := (Int32.ofNat (2 * i))) (i := (2 * i)) (own_inb (by omega) (by omega)) (own_cl (by omega)) (by omega) (g := (mkF m 43 #[vR t, vI (Int32.ofNat (2 * i + 1)), vI c1] [(.int (c1.toInt8.toInt32)), (.int (Int32.ofNat (2 * i))), (.ref t)])) rfl rfl (hb hby d0_43)
  have z4 : h3.size = h0.size := R3.size
  have U3 : Arv Z h3 t kt .byte (Int32.ofNat M) (vs.set (2 * i) (.int c1.toInt8.toInt32)) vZ := by have q := V3; rw [own_b8] at q; exact q
  have S3 : Safe Z own_EL s.vm h3 t := Safe.wr R3 (S0 _ (own_mi (i := 0) rfl)) W2.ch (S0 _ (own_mi (i := 0) rfl))
  refine go (g' := (mkF m 44 #[vR t, vI (Int32.ofNat (2 * i + 1)), vI c1] [])) (st3) ?_
  refine go (g' := (mkF m 47 #[vR t, vI (Int32.ofNat (2 * i + 1)), vI c1] [(.int c1), (.int (Int32.ofNat (2 * i + 1))), (.ref t)])) (fun _ k => XS.aloadN W3.here hx rfl (hb hby d0_44) rfl rfl (XS.iloadN W3.here hx rfl (hb hby d0_45) rfl (XS.iloadN W3.here hx rfl (hb hby d0_46) rfl k))) ?_
  obtain ⟨T5, W5, st5⟩ := own_getS W3 hx (host := "") (Or.inl (w214 C)) Via.refl C.u2 (g := (mkF m 47 #[vR t, vI (Int32.ofNat (2 * i + 1)), vI c1] [(.int c1), (.int (Int32.ofNat (2 * i + 1))), (.ref t)])) rfl (hb hby d0_47)
  refine go (g' := (mkF m 50 #[vR t, vI (Int32.ofNat (2 * i + 1)), vI c1] [(.int (8 : Int32)), (.int c1), (.int (Int32.ofNat (2 * i + 1))), (.ref t)])) (st5) ?_
  refine go (g' := (mkF m 52 #[vR t, vI (Int32.ofNat (2 * i + 1)), vI c1] [(.int ((c1 >>> ((8 : Int32) &&& 31)).toInt8.toInt32)), (.int (Int32.ofNat (2 * i + 1))), (.ref t)])) (fun _ k => XS.ishr W5.here hx rfl (hb hby d0_50) rfl (XS.i2b W5.here hx rfl (hb hby d0_51) rfl k)) ?_
  obtain ⟨T6, h6, W6, R6, V6, st6⟩ := own_stB W5 hx U3 (by omega) S3 (j := (Int32.ofNat (2 * i + 1))) (i := (2 * i + 1)) (own_inb (by omega) (by omega)) (own_cl (by omega)) (by rw [List.length_set]; omega) (g := (mkF m 52 #[vR t, vI (Int32.ofNat (2 * i + 1)), vI c1] [(.int ((c1 >>> ((8 : Int32) &&& 31)).toInt8.toInt32)), (.int (Int32.ofNat (2 * i + 1))), (.ref t)])) rfl rfl (hb hby d0_52)
  have z7 : h6.size = h3.size := R6.size
  have U6 : Arv Z h6 t kt .byte (Int32.ofNat M) ((vs.set (2 * i) (.int c1.toInt8.toInt32)).set (2 * i + 1) (.int (StrChars.hi8 c1))) vZ := by have q := V6; rw [own_b8] at q; exact q
  have S6 : Safe Z own_EL s.vm h6 t := Safe.wr R6 S3 W5.ch S3
  refine go (g' := (mkF m 53 #[vR t, vI (Int32.ofNat (2 * i + 1)), vI c1] [])) (st6) ?_
  have KK8 : Keep h0 h6 [t] := (((Keep.refl h0 [t]).wr R3 (Or.inl (own_mi (i := 0) rfl))).wr R6 (Or.inl (own_mi (i := 0) rfl)))
  exact fin (v := none) (so := []) W6 (nle rfl) (nle rfl) (⟨rfl, KK8, U6⟩) (fun _ q => nomatch q) (fun _ => rfl) (own_retV W6 hx hret (hb hby d0_53))
theorem rm_getc (C : Cx Z a0) (h0 : Heap) (t : Addr) (kt : ClassId) (M i : Nat) (vs : List Value) (hM : 2 * i + 1 < vs.length) (hi : 2 * i + 1 < M) (hM2 : M ≤ 64) (u1 u2 : Int32) (e1 : vs.getD (2 * i) vZ = .int u1) (e2 : vs.getD (2 * i + 1) vZ = .int u2) (Vt : Arv Z h0 t kt .byte (Int32.ofNat M) vs vZ) :
    Ct l Z a0 own_EL (⟨"java/lang/StringUTF16", "getChar", "([BI)C"⟩ : MethodName) jdk_52_method_5_code 2 (Option.some Jvm.ClassFile.FieldType.char) [] (rmm 0 0 0 0) #[(.ref t), (.int (Int32.ofNat i))] h0 [] (fun v h so => v = some (.int (StrChars.pairCh u1 u2)) ∧ h0 = h) := by
  refine own_enter (plainFor_of_name pn_0) C.ew (F0 := fun m => mkF m 0 #[vR t, vI (Int32.ofNat i)] []) (fun m => by first | (simp [entryFrame, mkF, argsToLocals, Value.category]; done) | rfl) ?_
  intro p e s m below meth c s₁ G hx hby hml hret hnm W0 S0 go fin
  have z0 := W0.sz
  show G s₁ (mkF m 0 #[vR t, vI (Int32.ofNat i)] [])
  obtain ⟨T1, W1, st1⟩ := own_getS W0 hx (host := "") (Or.inl (w212 C)) Via.refl C.u0 (g := (mkF m 0 #[vR t, vI (Int32.ofNat i)] [])) rfl (hb hby d1_0)
  refine go (g' := (mkF m 3 #[vR t, vI (Int32.ofNat i)] [(.int (1 : Int32))])) (st1) ?_
  refine go (g' := (mkF m 31 #[vR t, vI (Int32.ofNat i)] [(.int ((Int32.ofNat i) <<< ((1 : Int32) &&& 31)))])) (fun _ k => XS.ifYes W1.here hx rfl (pc0 := 3) (pc' := 28) rfl (hb hby d1_3) rfl ((if0 _ _).trans (feq ((by decide) : ¬ ((1 : Int32) = (0 : Int32)))).2) (by decide) (by decide) (XS.iloadN W1.here hx rfl (hb hby d1_28) rfl (XS.iconst W1.here hx rfl (hb hby d1_29) (XS.ishl W1.here hx rfl (hb hby d1_30) rfl k)))) ?_
  rw [show ((Int32.ofNat i) <<< ((1 : Int32) &&& 31)) = (Int32.ofNat (2 * i)) from own_shl1 i]
  refine go (g' := (mkF m 37 #[vR t, vI ((Int32.ofNat (2 * i)) + (1 : Int32))] [(.int (Int32.ofNat (2 * i))), (.ref t)])) (fun _ k => XS.istoreN W1.here hx rfl (hb hby d1_31) rfl (l' := #[vR t, vI (Int32.ofNat (2 * i))]) rfl (XS.aloadN W1.here hx rfl (hb hby d1_32) rfl rfl (XS.iloadN W1.here hx rfl (hb hby d1_33) rfl (XS.iinc W1.here hx rfl (hb hby d1_34) rfl (l' := #[vR t, vI ((Int32.ofNat (2 * i)) + (1 : Int32))]) rfl k)))) ?_
  rw [show ((Int32.ofNat (2 * i)) + (1 : Int32)) = (Int32.ofNat (2 * i + 1)) from own_inc _]
  refine go (g' := (mkF m 38 #[vR t, vI (Int32.ofNat (2 * i + 1))] [(.int u1)])) (own_bal W1 hx Vt (j := (Int32.ofNat (2 * i))) (own_inb (by omega) (by omega)) (by rw [own_cl (by omega)]; exact e1) (g := (mkF m 37 #[vR t, vI (Int32.ofNat (2 * i + 1))] [(.int (Int32.ofNat (2 * i))), (.ref t)])) rfl rfl (hb hby d1_37)) ?_
  refine go (g' := (mkF m 42 #[vR t, vI (Int32.ofNat (2 * i + 1))] [(.int (u1 &&& (255 : Int32)))])) (fun _ k => XS.sipush W1.here hx rfl (hb hby d1_38) (XS.iand W1.here hx rfl (hb hby d1_41) rfl k)) ?_
  obtain ⟨T2, W2, st2⟩ := own_getS W1 hx (host := "") (Or.inl (w213 C)) Via.refl C.u1 (g := (mkF m 42 #[vR t, vI (Int32.ofNat (2 * i + 1))] [(.int (u1 &&& (255 : Int32)))])) rfl (hb hby d1_42)
  refine go (g' := (mkF m 45 #[vR t, vI (Int32.ofNat (2 * i + 1))] [vZ, (.int (u1 &&& (255 : Int32)))])) (st2) ?_
  refine go (g' := (mkF m 48 #[vR t, vI (Int32.ofNat (2 * i + 1))] [(.int (Int32.ofNat (2 * i + 1))), (.ref t), (.int ((u1 &&& (255 : Int32)) <<< ((0 : Int32) &&& 31)))])) (fun _ k => XS.ishl W2.here hx rfl (hb hby d1_45) rfl (XS.aloadN W2.here hx rfl (hb hby d1_46) rfl rfl (XS.iloadN W2.here hx rfl (hb hby d1_47) rfl k))) ?_
  refine go (g' := (mkF m 49 #[vR t, vI (Int32.ofNat (2 * i + 1))] [(.int u2), (.int ((u1 &&& (255 : Int32)) <<< ((0 : Int32) &&& 31)))])) (own_bal W2 hx Vt (j := (Int32.ofNat (2 * i + 1))) (own_inb (by omega) (by omega)) (by rw [own_cl (by omega)]; exact e2) (g := (mkF m 48 #[vR t, vI (Int32.ofNat (2 * i + 1))] [(.int (Int32.ofNat (2 * i + 1))), (.ref t), (.int ((u1 &&& (255 : Int32)) <<< ((0 : Int32) &&& 31)))])) rfl rfl (hb hby d1_48)) ?_
  refine go (g' := (mkF m 53 #[vR t, vI (Int32.ofNat (2 * i + 1))] [(.int (u2 &&& (255 : Int32))), (.int ((u1 &&& (255 : Int32)) <<< ((0 : Int32) &&& 31)))])) (fun _ k => XS.sipush W2.here hx rfl (hb hby d1_49) (XS.iand W2.here hx rfl (hb hby d1_52) rfl k)) ?_
  obtain ⟨T3, W3, st3⟩ := own_getS W2 hx (host := "") (Or.inl (w214 C)) Via.refl C.u2 (g := (mkF m 53 #[vR t, vI (Int32.ofNat (2 * i + 1))] [(.int (u2 &&& (255 : Int32))), (.int ((u1 &&& (255 : Int32)) <<< ((0 : Int32) &&& 31)))])) rfl (hb hby d1_53)
  refine go (g' := (mkF m 56 #[vR t, vI (Int32.ofNat (2 * i + 1))] [(.int (8 : Int32)), (.int (u2 &&& (255 : Int32))), (.int ((u1 &&& (255 : Int32)) <<< ((0 : Int32) &&& 31)))])) (st3) ?_
  refine go (g' := (mkF m 59 #[vR t, vI (Int32.ofNat (2 * i + 1))] [(.int ((((u1 &&& (255 : Int32)) <<< ((0 : Int32) &&& 31)) ||| ((u2 &&& (255 : Int32)) <<< ((8 : Int32) &&& 31))).toUInt32.toUInt16.toUInt32.toInt32))])) (fun _ k => XS.ishl W3.here hx rfl (hb hby d1_56) rfl (XS.ior W3.here hx rfl (hb hby d1_57) rfl (XS.i2c W3.here hx rfl (hb hby d1_58) rfl k))) ?_
  exact fin (v := some (.int ((((u1 &&& (255 : Int32)) <<< ((0 : Int32) &&& 31)) ||| ((u2 &&& (255 : Int32)) <<< ((8 : Int32) &&& 31))).toUInt32.toUInt16.toUInt32.toInt32))) (so := []) W3 (nle rfl) (nle rfl) (⟨rfl, rfl⟩) (fun _ q => nomatch q) (fun q => nomatch q) (own_retI W3 hx hret (by decide) (own_narc _) (hb hby d1_59))
theorem rm_nbl1 (C : Cx Z a0) (h0 : Heap) :
    Ct l Z a0 own_EL (⟨"java/lang/StringUTF16", "newBytesLength", "(I)I"⟩ : MethodName) jdk_52_method_3_code 1 (Option.some Jvm.ClassFile.FieldType.int) [] (rmm 0 0 0 0) #[(.int (1 : Int32))] h0 [] (fun v h so => v = some (.int (2 : Int32)) ∧ h0 = h) := by
  refine own_enter (plainFor_of_name pn_0) C.ew (F0 := fun m => mkF m 0 #[vI (1 : Int32)] []) (fun m => by first | (simp [entryFrame, mkF, argsToLocals, Value.category]; done) | rfl) ?_
  intro p e s m below meth c s₁ G hx hby hml hret hnm W0 S0 go fin
  have z0 := W0.sz
  show G s₁ (mkF m 0 #[vI (1 : Int32)] [])
  refine go (g' := (mkF m 13 #[vI (1 : Int32)] [(.int (1 : Int32))])) (fun _ k => XS.iloadN W0.here hx rfl (hb hby d2_0) rfl (XS.ifYes W0.here hx rfl (pc0 := 1) (pc' := 12) rfl (hb hby d2_1) rfl ((if0 _ _).trans (flt ((by decide) : ¬ ((1 : Int32) < (0 : Int32)))).2.1) (by decide) (by decide) (XS.iloadN W0.here hx rfl (hb hby d2_12) rfl k))) ?_
  refine go (g' := (mkF m 15 #[vI (1 : Int32)] [(.int (1073741823 : Int32)), (.int (1 : Int32))])) (own_ldcI W0 hx (w208 C) (g := (mkF m 13 #[vI (1 : Int32)] [(.int (1 : Int32))])) rfl (hb hby d2_13)) ?_
  refine go (g' := (mkF m 58 #[vI (1 : Int32)] [(.int ((1 : Int32) <<< ((1 : Int32) &&& 31)))])) (fun _ k => XS.icmpYes W0.here hx rfl (pc0 := 15) (pc' := 55) rfl (hb hby d2_15) rfl (tlt ((by decide) : (1 : Int32) < (1073741823 : Int32))).1 (by decide) (by decide) (XS.iloadN W0.here hx rfl (hb hby d2_55) rfl (XS.iconst W0.here hx rfl (hb hby d2_56) (XS.ishl W0.here hx rfl (hb hby d2_57) rfl k)))) ?_
  rw [show ((1 : Int32) <<< ((1 : Int32) &&& 31)) = (2 : Int32) from by decide]
  exact fin (v := some (.int (2 : Int32))) (so := []) W0 (nle rfl) (nle rfl) (⟨rfl, rfl⟩) (fun _ q => nomatch q) (fun q => nomatch q) (own_retI W0 hx hret (by decide) rfl (hb hby d2_58))
theorem rm_nbf1 (C : Cx Z a0) (h0 : Heap) :
    Ct l Z a0 own_EL (⟨"java/lang/StringUTF16", "newBytesFor", "(I)[B"⟩ : MethodName) jdk_52_method_2_code 1 (Option.some (Jvm.ClassFile.FieldType.array Jvm.ClassFile.FieldType.byte)) [] (rmm 1 1 2 12) #[(.int (1 : Int32))] h0 [] (fun v h so => ∃ (x : Addr) (kx : ClassId), so = [x] ∧ v = some (.ref x) ∧ Ext h0 h ∧ h0.size ≤ x ∧ Arv Z h x kx .byte (2 : Int32) [vZ, vZ] vZ) := by
  refine own_enter (plainFor_of_name pn_0) C.ew (F0 := fun m => mkF m 0 #[vI (1 : Int32)] []) (fun m => by first | (simp [entryFrame, mkF, argsToLocals, Value.category]; done) | rfl) ?_
  intro p e s m below meth c s₁ G hx hby hml hret hnm W0 S0 go fin
  have z0 := W0.sz
  show G s₁ (mkF m 0 #[vI (1 : Int32)] [])
  refine go (g' := (mkF m 1 #[vI (1 : Int32)] [(.int (1 : Int32))])) (fun _ k => XS.iloadN W0.here hx rfl (hb hby d3_0) rfl k) ?_
  obtain ⟨v1, so1, vm1, T1, h1, W1, C1, q1, hso1, st1⟩ := own_static W0 hx (w205 C) (w206 C) (w18 C) (w207 C) (by decide) (rm_nbl1 C h0) (fun _ q => nomatch q) (Wd := 0) (nle rfl) (nle rfl) (nle rfl) (nle rfl) (g := (mkF m 1 #[vI (1 : Int32)] [(.int (1 : Int32))])) rfl (by rw [hml]; rfl) (argsL := [(.int (1 : Int32))]) (rest := []) (lenOf pd_0 rfl) rfl rfl (nle rfl) (hb hby d3_1)
  obtain ⟨rfl, rfl⟩ := q1
  refine go (g' := (mkF m 4 #[vI (1 : Int32)] [(.int (2 : Int32))])) (st1) ?_
  obtain ⟨x2, T2, h2, k2, g2, W2, E2, A2, st2⟩ := own_newP W1 hx (aty := .byte) (w20 C) (g := (mkF m 4 #[vI (1 : Int32)] [(.int (2 : Int32))])) rfl (hb hby d3_4) rfl (by decide) (cap := 2) (by decide) (nle rfl) (nle rfl) (nle rfl)
  have z3 : h0.size ≤ h2.size := E2.1
  have l2 : ltN x2 h2.size := A2.lt
  have V2 : Arv Z h2 x2 k2 .byte (2 : Int32) [vZ, vZ] vZ := A2.pad (pad_rep [] vZ 2)
  refine go (g' := (mkF m 6 #[vI (1 : Int32)] [(.ref x2)])) (st2) ?_
  have X4 : Ext h0 h2 := own_xt (own_xr h0) E2
  exact fin (v := some (.ref x2)) (so := [x2]) W2 (nle rfl) (nle rfl) (⟨_, _, rfl, rfl, X4, by omega, V2⟩) (allS (own_safeB W1 X4 (by omega)) all0) (fun q => nomatch q) (own_retA W2 hx hret rfl rfl rfl (hb hby d3_6))
theorem rm_tb1 (C : Cx Z a0) (h0 : Heap) (b : Addr) (kb : ClassId) (c1 : Int32) (r1 : ¬ c1 < 0 ∧ ¬ (65535 : Int32) < c1) (Ab : Arv Z h0 b kb .char (1 : Int32) [(.int c1)] vZ) :
    Ct l Z a0 own_EL (⟨"java/lang/StringUTF16", "toBytes", "([CII)[B"⟩ : MethodName) jdk_52_method_14_code 5 (Option.some (Jvm.ClassFile.FieldType.array Jvm.ClassFile.FieldType.byte)) [] (rmm 2 1 2 24) #[(.ref b), vZ, (.int (1 : Int32))] h0 [] (fun v h so => ∃ (x : Addr) (kx : ClassId), v = some (.ref x) ∧ Ext h0 h ∧ h0.size ≤ x ∧ Arv Z h x kx .byte (2 : Int32) [(.int c1.toInt8.toInt32), (.int (StrChars.hi8 c1))] vZ) := by
  refine own_enter (plainFor_of_name pn_0) C.ew (F0 := fun m => mkF m 0 #[vR b, .val vZ, vI (1 : Int32), .unset, .unset] []) (fun m => by first | (simp [entryFrame, mkF, argsToLocals, Value.category]; done) | rfl) ?_
  intro p e s m below meth c s₁ G hx hby hml hret hnm W0 S0 go fin
  have z0 := W0.sz
  show G s₁ (mkF m 0 #[vR b, .val vZ, vI (1 : Int32), .unset, .unset] [])
  have lb : ltN b h0.size := Ab.lt
  refine go (g' := (mkF m 1 #[vR b, .val vZ, vI (1 : Int32), .unset, .unset] [(.int (1 : Int32))])) (fun _ k => XS.iloadN W0.here hx rfl (hb hby d4_0) rfl k) ?_
  obtain ⟨v1, so1, vm1, T1, h1, W1, C1, q1, hso1, st1⟩ := own_static W0 hx (w202 C) (w203 C) (w18 C) (w204 C) (by decide) (rm_nbf1 C h0) (fun _ q => nomatch q) (Wd := 0) (nle rfl) (nle rfl) (nle rfl) (nle rfl) (g := (mkF m 1 #[vR b, .val vZ, vI (1 : Int32), .unset, .unset] [(.int (1 : Int32))])) rfl (by rw [hml]; rfl) (argsL := [(.int (1 : Int32))]) (rest := []) (lenOf pd_1 rfl) rfl rfl (nle rfl) (hb hby d4_1)
  obtain ⟨x1, k1, rfl, rfl, E1, g1, V1⟩ := q1
  have z2 : h0.size ≤ h1.size := E1.1
  have l1 : ltN x1 h1.size := V1.lt
  refine go (g' := (mkF m 4 #[vR b, .val vZ, vI (1 : Int32), .unset, .unset] [(.ref x1)])) (st1) ?_
  refine go (g' := (mkF m 17 #[vR b, .val vZ, vI (1 : Int32), vR x1, .val vZ] [vZ, (.ref x1)])) (fun _ k => XS.astoreN W1.here hx rfl (hb hby d4_4) rfl rfl (l' := #[vR b, .val vZ, vI (1 : Int32), vR x1, .unset]) rfl (XS.iconst W1.here hx rfl (hb hby d4_5) (XS.istore W1.here hx rfl (hb hby d4_6) rfl (l' := #[vR b, .val vZ, vI (1 : Int32), vR x1, .val vZ]) rfl (XS.iload W1.here hx rfl (hb hby d4_8) rfl (XS.iloadN W1.here hx rfl (hb hby d4_10) rfl (XS.icmpNo W1.here hx rfl (hb hby d4_11) rfl (tlt ((by decide) : (0 : Int32) < (1 : Int32))).2.1 (XS.aloadN W1.here hx rfl (hb hby d4_14) rfl rfl (XS.iload W1.here hx rfl (hb hby d4_15) rfl k)))))))) ?_
  refine go (g' := (mkF m 19 #[vR b, .val vZ, vI (1 : Int32), vR x1, .val vZ] [vZ, (.ref b), vZ, (.ref x1)])) (fun _ k => XS.aloadN W1.here hx rfl (hb hby d4_17) rfl rfl (XS.iloadN W1.here hx rfl (hb hby d4_18) rfl k)) ?_
  have X3 : Ext h0 h1 := own_xt (own_xr h0) E1
  have f4 := Ab.ext X3
  refine go (g' := (mkF m 20 #[vR b, .val vZ, vI (1 : Int32), vR x1, .val vZ] [(.int c1), vZ, (.ref x1)])) (own_cal W1 hx f4 (j := (0 : Int32)) ⟨by decide, by decide⟩ rfl (g := (mkF m 19 #[vR b, .val vZ, vI (1 : Int32), vR x1, .val vZ] [vZ, (.ref b), vZ, (.ref x1)])) rfl rfl (hb hby d4_19)) ?_
  obtain ⟨v5, so5, vm5, T5, h5, W5, C5, q5, hso5, st5⟩ := own_static W1 hx (w209 C) (w210 C) (w18 C) (w211 C) (by decide) (rm_putc C h1 x1 k1 2 0 [vZ, vZ] (nle rfl) (by decide) (by decide) c1 V1 (by omega)) (allS (hso1 _ (own_mi (i := 0) rfl)) all0) (Wd := 0) (nle rfl) (nle rfl) (nle rfl) (nle rfl) (g := (mkF m 20 #[vR b, .val vZ, vI (1 : Int32), vR x1, .val vZ] [(.int c1), vZ, (.ref x1)])) rfl (by rw [hml]; rfl) (argsL := [(.ref x1), vZ, (.int c1)]) (rest := []) (lenOf pd_2 rfl) rfl rfl (nle rfl) (hb hby d4_20)
  obtain ⟨rfl, K5, V5⟩ := q5
  have z6 : h1.size ≤ h5.size := K5.1
  have S5_x1 : Safe Z own_EL vm5 h5 x1 := C5.safe (olt (by omega)) (hso1 _ (own_mi (i := 0) rfl))
  have U5 : Arv Z h5 x1 k1 .byte (2 : Int32) [(.int c1.toInt8.toInt32), (.int (StrChars.hi8 c1))] vZ := V5
  refine go (g' := (mkF m 23 #[vR b, .val vZ, vI (1 : Int32), vR x1, .val vZ] [])) (st5) ?_
  refine go (g' := (mkF m 26 #[vR b, vI ((0 : Int32) + (1 : Int32)), vI (1 : Int32), vR x1, .val vZ] [])) (fun _ k => XS.iinc W5.here hx rfl (hb hby d4_23) rfl (l' := #[vR b, vI ((0 : Int32) + (1 : Int32)), vI (1 : Int32), vR x1, .val vZ]) rfl k) ?_
  rw [show ((0 : Int32) + (1 : Int32)) = (1 : Int32) from by decide]
  refine go (g' := (mkF m 29 #[vR b, vI (1 : Int32), vI (1 : Int32), vR x1, vI ((0 : Int32) + (1 : Int32))] [])) (fun _ k => XS.iinc W5.here hx rfl (hb hby d4_26) rfl (l' := #[vR b, vI (1 : Int32), vI (1 : Int32), vR x1, vI ((0 : Int32) + (1 : Int32))]) rfl k) ?_
  rw [show ((0 : Int32) + (1 : Int32)) = (1 : Int32) from by decide]
  refine go (g' := (mkF m 33 #[vR b, vI (1 : Int32), vI (1 : Int32), vR x1, vI (1 : Int32)] [(.ref x1)])) (fun _ k => XS.goto W5.here hx rfl (pc0 := 29) (pc' := 8) rfl (hb hby d4_29) (by decide) (by decide) (XS.iload W5.here hx rfl (hb hby d4_8) rfl (XS.iloadN W5.here hx rfl (hb hby d4_10) rfl (XS.icmpYes W5.here hx rfl (pc0 := 11) (pc' := 32) rfl (hb hby d4_11) rfl (flt ((by decide) : ¬ ((1 : Int32) < (1 : Int32)))).2.1 (by decide) (by decide) (XS.aloadN W5.here hx rfl (hb hby d4_32) rfl rfl k))))) ?_
  have X7 : Ext h0 h5 := own_xk X3 K5 (allS (by omega) all0)
  exact fin (v := some (.ref x1)) (so := []) W5 (nle rfl) (nle rfl) (⟨_, _, rfl, X7, by omega, U5⟩) (fun _ q => nomatch q) (fun q => nomatch q) (own_retA W5 hx hret rfl rfl rfl (hb hby d4_33))
theorem rm_cmi1_0 (C : Cx Z a0) (h0 : Heap) (b : Addr) (kb : ClassId) (c1 : Int32) (qw : (255 : Int32) < c1) (r1 : ¬ c1 < 0 ∧ ¬ (65535 : Int32) < c1) (Ab : Arv Z h0 b kb .char (1 : Int32) [(.int c1)] vZ) (d : Addr) (kd : ClassId) (Vd : Arv Z h0 d kd .byte (1 : Int32) [vZ] vZ) (nd : Z.heap.size ≤ d) :
    Ct l Z a0 own_EL (⟨"java/lang/StringUTF16", "compress", "([CI[BII)I"⟩ : MethodName) jdk_52_method_21_code 7 (Option.some Jvm.ClassFile.FieldType.int) [] (rmm 0 0 0 0) #[(.ref b), vZ, (.ref d), vZ, (.int (1 : Int32))] h0 [d] (fun v h so => v = some vZ ∧ Keep h0 h [d]) := by
  refine own_enter (plainFor_of_name pn_0) C.ew (F0 := fun m => mkF m 0 #[vR b, .val vZ, vR d, .val vZ, vI (1 : Int32), .unset, .unset] []) (fun m => by first | (simp [entryFrame, mkF, argsToLocals, Value.category]; done) | rfl) ?_
  intro p e s m below meth c s₁ G hx hby hml hret hnm W0 S0 go fin
  have z0 := W0.sz
  show G s₁ (mkF m 0 #[vR b, .val vZ, vR d, .val vZ, vI (1 : Int32), .unset, .unset] [])
  have ld : ltN d h0.size := Vd.lt
  have lb : ltN b h0.size := Ab.lt
  have nbd : b ≠ d := own_neT Ab Vd
  refine go (g' := (mkF m 12 #[vR b, .val vZ, vR d, .val vZ, vI (1 : Int32), .val vZ, .unset] [vZ, (.ref b)])) (fun _ k => XS.iconst W0.here hx rfl (hb hby d5_0) (XS.istore W0.here hx rfl (hb hby d5_1) rfl (l' := #[vR b, .val vZ, vR d, .val vZ, vI (1 : Int32), .val vZ, .unset]) rfl (XS.iload W0.here hx rfl (hb hby d5_3) rfl (XS.iload W0.here hx rfl (hb hby d5_5) rfl (XS.icmpNo W0.here hx rfl (hb hby d5_7) rfl (tlt ((by decide) : (0 : Int32) < (1 : Int32))).2.1 (XS.aloadN W0.here hx rfl (hb hby d5_10) rfl rfl (XS.iloadN W0.here hx rfl (hb hby d5_11) rfl k))))))) ?_
  refine go (g' := (mkF m 13 #[vR b, .val vZ, vR d, .val vZ, vI (1 : Int32), .val vZ, .unset] [(.int c1)])) (own_cal W0 hx Ab (j := (0 : Int32)) ⟨by decide, by decide⟩ rfl (g := (mkF m 12 #[vR b, .val vZ, vR d, .val vZ, vI (1 : Int32), .val vZ, .unset] [vZ, (.ref b)])) rfl rfl (hb hby d5_12)) ?_
  refine go (g' := (mkF m 25 #[vR b, .val vZ, vR d, .val vZ, vI (1 : Int32), .val vZ, vI c1] [vZ])) (fun _ k => XS.istore W0.here hx rfl (hb hby d5_13) rfl (l' := #[vR b, .val vZ, vR d, .val vZ, vI (1 : Int32), .val vZ, vI c1]) rfl (XS.iload W0.here hx rfl (hb hby d5_15) rfl (XS.sipush W0.here hx rfl (hb hby d5_17) (XS.icmpNo W0.here hx rfl (hb hby d5_20) rfl (tlt qw).2.2.2 (XS.iload W0.here hx rfl (hb hby d5_23) rfl k))))) ?_
  have KK1 : Keep h0 h0 [d] := (Keep.refl h0 [d])
  exact fin (v := some vZ) (so := []) W0 (nle rfl) (nle rfl) (⟨rfl, KK1⟩) (fun _ q => nomatch q) (fun q => nomatch q) (own_retI W0 hx hret (by decide) rfl (hb hby d5_25))
theorem rm_cm1_0 (C : Cx Z a0) (h0 : Heap) (b : Addr) (kb : ClassId) (c1 : Int32) (qw : (255 : Int32) < c1) (r1 : ¬ c1 < 0 ∧ ¬ (65535 : Int32) < c1) (Ab : Arv Z h0 b kb .char (1 : Int32) [(.int c1)] vZ) :
    Ct l Z a0 own_EL (⟨"java/lang/StringUTF16", "compress", "([CII)[B"⟩ : MethodName) jdk_52_method_16_code 6 (Option.some (Jvm.ClassFile.FieldType.array Jvm.ClassFile.FieldType.byte)) [] (rmm 3 2 3 40) #[(.ref b), vZ, (.int (1 : Int32))] h0 [] (fun v h so => ∃ (x : Addr) (kx : ClassId), v = some (.ref x) ∧ Ext h0 h ∧ h0.size ≤ x ∧ Arv Z h x kx .byte (2 : Int32) [(.int c1.toInt8.toInt32), (.int (StrChars.hi8 c1))] vZ) := by
  refine own_enter (plainFor_of_name pn_0) C.ew (F0 := fun m => mkF m 0 #[vR b, .val vZ, vI (1 : Int32), .unset, .unset, .unset] []) (fun m => by first | (simp [entryFrame, mkF, argsToLocals, Value.category]; done) | rfl) ?_
  intro p e s m below meth c s₁ G hx hby hml hret hnm W0 S0 go fin
  have z0 := W0.sz
  show G s₁ (mkF m 0 #[vR b, .val vZ, vI (1 : Int32), .unset, .unset, .unset] [])
  have lb : ltN b h0.size := Ab.lt
  refine go (g' := (mkF m 1 #[vR b, .val vZ, vI (1 : Int32), .unset, .unset, .unset] [(.int (1 : Int32))])) (fun _ k => XS.iloadN W0.here hx rfl (hb hby d6_0) rfl k) ?_
  obtain ⟨x1, T1, h1, k1, g1, W1, E1, A1, st1⟩ := own_newP W0 hx (aty := .byte) (w20 C) (g := (mkF m 1 #[vR b, .val vZ, vI (1 : Int32), .unset, .unset, .unset] [(.int (1 : Int32))])) rfl (hb hby d6_1) rfl (by decide) (cap := 1) (by decide) (nle rfl) (nle rfl) (nle rfl)
  have z2 : h0.size ≤ h1.size := E1.1
  have l1 : ltN x1 h1.size := A1.lt
  have V1 : Arv Z h1 x1 k1 .byte (1 : Int32) [vZ] vZ := A1.pad (pad_rep [] vZ 1)
  refine go (g' := (mkF m 3 #[vR b, .val vZ, vI (1 : Int32), .unset, .unset, .unset] [(.ref x1)])) (st1) ?_
  refine go (g' := (mkF m 9 #[vR b, .val vZ, vI (1 : Int32), vR x1, .unset, .unset] [(.int (1 : Int32)), vZ, (.ref x1), vZ, (.ref b)])) (fun _ k => XS.astoreN W1.here hx rfl (hb hby d6_3) rfl rfl (l' := #[vR b, .val vZ, vI (1 : Int32), vR x1, .unset, .unset]) rfl (XS.aloadN W1.here hx rfl (hb hby d6_4) rfl rfl (XS.iloadN W1.here hx rfl (hb hby d6_5) rfl (XS.aloadN W1.here hx rfl (hb hby d6_6) rfl rfl (XS.iconst W1.here hx rfl (hb hby d6_7) (XS.iloadN W1.here hx rfl (hb hby d6_8) rfl k)))))) ?_
  have X4 : Ext h0 h1 := own_xt (own_xr h0) E1
  have f5 := Ab.ext X4
  obtain ⟨v3, so3, vm3, T3, h3, W3, C3, q3, hso3, st3⟩ := own_static W1 hx (w21 C) (w22 C) (w18 C) (w23 C) (by decide) (rm_cmi1_0 C h1 b kb c1 qw r1 f5 x1 k1 V1 (by omega)) (allS (own_safeB W0 X4 (by omega)) all0) (Wd := 0) (nle rfl) (nle rfl) (nle rfl) (nle rfl) (g := (mkF m 9 #[vR b, .val vZ, vI (1 : Int32), vR x1, .unset, .unset] [(.int (1 : Int32)), vZ, (.ref x1), vZ, (.ref b)])) rfl (by rw [hml]; rfl) (argsL := [(.ref b), vZ, (.ref x1), vZ, (.int (1 : Int32))]) (rest := []) (lenOf pd_3 rfl) rfl rfl (nle rfl) (hb hby d6_9)
  obtain ⟨rfl, K3⟩ := q3
  have z6 : h1.size ≤ h3.size := K3.1
  have S3_x1 : Safe Z own_EL vm3 h3 x1 := C3.safe (olt (by omega)) (own_safeB W0 X4 (by omega))
  refine go (g' := (mkF m 12 #[vR b, .val vZ, vI (1 : Int32), vR x1, .unset, .unset] [vZ])) (st3) ?_
  refine go (g' := (mkF m 23 #[vR b, .val vZ, vI (1 : Int32), vR x1, .val vZ, .unset] [(.int (1 : Int32)), vZ, (.ref b)])) (fun _ k => XS.istore W3.here hx rfl (hb hby d6_12) rfl (l' := #[vR b, .val vZ, vI (1 : Int32), vR x1, .val vZ, .unset]) rfl (XS.iload W3.here hx rfl (hb hby d6_14) rfl (XS.iloadN W3.here hx rfl (hb hby d6_16) rfl (XS.icmpNo W3.here hx rfl (hb hby d6_17) rfl (feq ((by decide) : ¬ ((0 : Int32) = (1 : Int32)))).1 (XS.aloadN W3.here hx rfl (hb hby d6_20) rfl rfl (XS.iloadN W3.here hx rfl (hb hby d6_21) rfl (XS.iloadN W3.here hx rfl (hb hby d6_22) rfl k))))))) ?_
  have X8 : Ext h0 h3 := own_xk X4 K3 (allS (by omega) all0)
  have f9 := Ab.ext X8
  obtain ⟨v7, so7, vm7, T7, h7, W7, C7, q7, hso7, st7⟩ := own_static W3 hx (w199 C) (w200 C) (w18 C) (w201 C) (by decide) (rm_tb1 C h3 b kb c1 r1 f9) (fun _ q => nomatch q) (Wd := 0) (nle rfl) (nle rfl) (nle rfl) (nle rfl) (g := (mkF m 23 #[vR b, .val vZ, vI (1 : Int32), vR x1, .val vZ, .unset] [(.int (1 : Int32)), vZ, (.ref b)])) rfl (by rw [hml]; rfl) (argsL := [(.ref b), vZ, (.int (1 : Int32))]) (rest := []) (lenOf pd_4 rfl) rfl rfl (nle rfl) (hb hby d6_23)
  obtain ⟨x7, k7, rfl, E7, g7, V7⟩ := q7
  have z10 : h3.size ≤ h7.size := E7.1
  have S7_x1 : Safe Z own_EL vm7 h7 x1 := C7.safe (olt (by omega)) S3_x1
  refine go (g' := (mkF m 26 #[vR b, .val vZ, vI (1 : Int32), vR x1, .val vZ, .unset] [(.ref x7)])) (st7) ?_
  refine go (g' := (mkF m 32 #[vR b, .val vZ, vI (1 : Int32), vR x1, .val vZ, vR x7] [vZ, (.ref x7)])) (fun _ k => XS.astore W7.here hx rfl (hb hby d6_26) rfl rfl (l' := #[vR b, .val vZ, vI (1 : Int32), vR x1, .val vZ, vR x7]) rfl (XS.aload W7.here hx rfl (hb hby d6_28) rfl rfl (XS.iload W7.here hx rfl (hb hby d6_30) rfl k))) ?_
  obtain ⟨v11, so11, vm11, T11, h11, W11, C11, q11, hso11, st11⟩ := own_static W7 hx (w215 C) (w216 C) (w18 C) (w217 C) (by decide) (rm_getc C h7 x7 k7 2 0 [(.int c1.toInt8.toInt32), (.int (StrChars.hi8 c1))] (nle rfl) (by decide) (by decide) c1.toInt8.toInt32 (StrChars.hi8 c1) rfl rfl V7) (fun _ q => nomatch q) (Wd := 0) (nle rfl) (nle rfl) (nle rfl) (nle rfl) (g := (mkF m 32 #[vR b, .val vZ, vI (1 : Int32), vR x1, .val vZ, vR x7] [vZ, (.ref x7)])) rfl (by rw [hml]; rfl) (argsL := [(.ref x7), vZ]) (rest := []) (lenOf pd_5 rfl) rfl rfl (nle rfl) (hb hby d6_32)
  obtain ⟨rfl, rfl⟩ := q11
  have S11_x1 : Safe Z own_EL vm11 h7 x1 := C11.safe (olt (by omega)) S7_x1
  refine go (g' := (mkF m 35 #[vR b, .val vZ, vI (1 : Int32), vR x1, .val vZ, vR x7] [(.int (StrChars.pairCh c1.toInt8.toInt32 (StrChars.hi8 c1)))])) (st11) ?_
  rw [show (StrChars.pairCh c1.toInt8.toInt32 (StrChars.hi8 c1)) = c1 from StrChars.pair_says r1.1 r1.2]
  refine go (g' := (mkF m 56 #[vR b, .val vZ, vI (1 : Int32), vR x1, .val vZ, vR x7] [(.ref x7)])) (fun _ k => XS.sipush W11.here hx rfl (hb hby d6_35) (XS.icmpYes W11.here hx rfl (pc0 := 38) (pc' := 54) rfl (hb hby d6_38) rfl (tlt qw).2.2.1 (by decide) (by decide) (XS.aload W11.here hx rfl (hb hby d6_54) rfl rfl k))) ?_
  have X12 : Ext h0 h7 := own_xt X8 E7
  exact fin (v := some (.ref x7)) (so := []) W11 (nle rfl) (nle rfl) (⟨_, _, rfl, X12, by omega, V7⟩) (fun _ q => nomatch q) (fun q => nomatch q) (own_retA W11 hx hret rfl rfl rfl (hb hby d6_56))
theorem rm_cmx1 (C : Cx Z a0) (h0 : Heap) (b : Addr) (kb : ClassId) (c1 : Int32) (hw : (255 : Int32) < c1) (r1 : ¬ c1 < 0 ∧ ¬ (65535 : Int32) < c1) (Ab : Arv Z h0 b kb .char (1 : Int32) [(.int c1)] vZ) : Ct l Z a0 own_EL (⟨"java/lang/StringUTF16", "compress", "([CII)[B"⟩ : MethodName) jdk_52_method_16_code 6 (Option.some (Jvm.ClassFile.FieldType.array Jvm.ClassFile.FieldType.byte)) [] (rmm 3 2 3 40) #[(.ref b), vZ, (.int (1 : Int32))] h0 [] (fun v h so => ∃ (x : Addr) (kx : ClassId), v = some (.ref x) ∧ Ext h0 h ∧ h0.size ≤ x ∧ Arv Z h x kx .byte (2 : Int32) [(.int c1.toInt8.toInt32), (.int (StrChars.hi8 c1))] vZ) := by
  exact rm_cm1_0 C h0 b kb c1  (hw) r1 Ab
theorem rm_cfa1 (C : Cx Z a0) (h0 : Heap) (x : Addr) (kx : ClassId) (vs : List Value) (Vx : Arv Z h0 x kx .byte (2 : Int32) vs vZ) :
    Ct l Z a0 own_EL (⟨"java/lang/StringUTF16", "coderFromArrayLen", "([BI)B"⟩ : MethodName) jdk_52_method_15_code 2 (Option.some Jvm.ClassFile.FieldType.byte) [] (rmm 0 0 0 0) #[(.ref x), (.int (1 : Int32))] h0 [] (fun v h so => v = some (.int (1 : Int32)) ∧ h0 = h) := by
  refine own_enter (plainFor_of_name pn_0) C.ew (F0 := fun m => mkF m 0 #[vR x, vI (1 : Int32)] []) (fun m => by first | (simp [entryFrame, mkF, argsToLocals, Value.category]; done) | rfl) ?_
  intro p e s m below meth c s₁ G hx hby hml hret hnm W0 S0 go fin
  have z0 := W0.sz
  show G s₁ (mkF m 0 #[vR x, vI (1 : Int32)] [])
  refine go (g' := (mkF m 2 #[vR x, vI (1 : Int32)] [(.ref x), (.int (1 : Int32))])) (fun _ k => XS.iloadN W0.here hx rfl (hb hby d7_0) rfl (XS.aloadN W0.here hx rfl (hb hby d7_1) rfl rfl k)) ?_
  refine go (g' := (mkF m 3 #[vR x, vI (1 : Int32)] [(.int (2 : Int32)), (.int (1 : Int32))])) (own_alen W0 hx Vx (g := (mkF m 2 #[vR x, vI (1 : Int32)] [(.ref x), (.int (1 : Int32))])) rfl rfl (hb hby d7_2)) ?_
  refine go (g' := (mkF m 4 #[vR x, vI (1 : Int32)] [(.int ((1 : Int32) - (2 : Int32)))])) (fun _ k => XS.isub W0.here hx rfl (hb hby d7_3) rfl k) ?_
  rw [show ((1 : Int32) - (2 : Int32)) = (-1 : Int32) from by decide]
  refine go (g' := (mkF m 7 #[vR x, vI (1 : Int32)] [(.int (((-1 : Int32).toUInt32 >>> ((31 : Int32) &&& 31).toUInt32).toInt32))])) (fun _ k => XS.bipush W0.here hx rfl (hb hby d7_4) (XS.iushr W0.here hx rfl (hb hby d7_6) rfl k)) ?_
  rw [show (((-1 : Int32).toUInt32 >>> ((31 : Int32) &&& 31).toUInt32).toInt32) = (1 : Int32) from by decide]
  refine go (g' := (mkF m 8 #[vR x, vI (1 : Int32)] [(.int ((1 : Int32).toInt8.toInt32))])) (fun _ k => XS.i2b W0.here hx rfl (hb hby d7_7) rfl k) ?_
  rw [show ((1 : Int32).toInt8.toInt32) = (1 : Int32) from by decide]
  exact fin (v := some (.int (1 : Int32))) (so := []) W0 (nle rfl) (nle rfl) (⟨rfl, rfl⟩) (fun _ q => nomatch q) (fun q => nomatch q) (own_retI W0 hx hret (by decide) rfl (hb hby d7_8))
theorem rm_wi41 (C : Cx Z a0) (h0 : Heap) (x : Addr) (Ex : Exa Z h0 x "java/lang/String") (Fv : Fld Z h0 x "java/lang/String" "value" "[B" .null) (Fc : Fld Z h0 x "java/lang/String" "coder" "B" vZ) (nx : Z.heap.size ≤ x) (b : Addr) (kb : ClassId) (c1 : Int32) (hw : (255 : Int32) < c1) (r1 : ¬ c1 < 0 ∧ ¬ (65535 : Int32) < c1) (Ab : Arv Z h0 b kb .char (1 : Int32) [(.int c1)] vZ) :
    Ct l Z a0 own_EL (⟨"java/lang/String", "<init>", "([CIILjava/lang/Void;)V"⟩ : MethodName) jdk_42_method_149_code 6 (Option.none : Option Jvm.ClassFile.FieldType) [] (rmm 4 2 3 57) #[(.ref x), (.ref b), vZ, (.int (1 : Int32)), .null] h0 [x] (fun v h so => v = none ∧ Keep h0 h [x] ∧ StrW Z h x [c1]) := by
  refine own_enter (plainFor_of_name pn_1) C.ew (F0 := fun m => mkF m 0 #[vR x, vR b, .val vZ, vI (1 : Int32), .val .null, .unset] []) (fun m => by first | (simp [entryFrame, mkF, argsToLocals, Value.category]; done) | rfl) ?_
  intro p e s m below meth c s₁ G hx hby hml hret hnm W0 S0 go fin
  have z0 := W0.sz
  show G s₁ (mkF m 0 #[vR x, vR b, .val vZ, vI (1 : Int32), .val .null, .unset] [])
  have lx : ltN x h0.size := Ex.lt
  have lb : ltN b h0.size := Ab.lt
  have nbx : b ≠ x := Ne.symm (Exa.neArv Ex Ab (w2 C))
  refine go (g' := (mkF m 1 #[vR x, vR b, .val vZ, vI (1 : Int32), .val .null, .unset] [(.ref x)])) (fun _ k => XS.aloadN W0.here hx rfl (hb hby d8_0) rfl rfl k) ?_
  obtain ⟨T1, W1, st1⟩ := own_initO W0 hx (w12 C) (w13 C) (w14 C) (g := (mkF m 1 #[vR x, vR b, .val vZ, vI (1 : Int32), .val .null, .unset] [(.ref x)])) rfl (by rw [hml]; rfl) rfl (hb hby d8_1) (nle rfl) (Wd := 0) (nle rfl) (nle rfl)
  refine go (g' := (mkF m 4 #[vR x, vR b, .val vZ, vI (1 : Int32), .val .null, .unset] [])) (st1) ?_
  refine go (g' := (mkF m 27 #[vR x, vR b, .val vZ, vI (1 : Int32), .val .null, .unset] [])) (fun _ k => XS.iloadN W1.here hx rfl (hb hby d8_4) rfl (XS.ifYes W1.here hx rfl (pc0 := 5) (pc' := 27) rfl (hb hby d8_5) rfl ((if0 _ _).trans (feq ((by decide) : ¬ ((1 : Int32) = (0 : Int32)))).2) (by decide) (by decide) k)) ?_
  obtain ⟨gCS, OCS, nCS⟩ := C.cs
  obtain ⟨T2, W2, st2⟩ := own_getS W1 hx (host := "") (Or.inl (w15 C)) Via.refl OCS (g := (mkF m 27 #[vR x, vR b, .val vZ, vI (1 : Int32), .val .null, .unset] [])) rfl (hb hby d8_27)
  refine go (g' := (mkF m 30 #[vR x, vR b, .val vZ, vI (1 : Int32), .val .null, .unset] [(.int gCS)])) (st2) ?_
  refine go (g' := (mkF m 36 #[vR x, vR b, .val vZ, vI (1 : Int32), .val .null, .unset] [(.int (1 : Int32)), vZ, (.ref b)])) (fun _ k => XS.ifNo W2.here hx rfl (hb hby d8_30) rfl ((if0 _ _).trans (feq nCS).1) (XS.aloadN W2.here hx rfl (hb hby d8_33) rfl rfl (XS.iloadN W2.here hx rfl (hb hby d8_34) rfl (XS.iloadN W2.here hx rfl (hb hby d8_35) rfl k)))) ?_
  obtain ⟨v3, so3, vm3, T3, h3, W3, C3, q3, hso3, st3⟩ := own_static W2 hx (w16 C) (w17 C) (w18 C) (w19 C) (by decide) (rm_cmx1 C h0 b kb c1 hw r1 Ab) (fun _ q => nomatch q) (Wd := 0) (nle rfl) (nle rfl) (nle rfl) (nle rfl) (g := (mkF m 36 #[vR x, vR b, .val vZ, vI (1 : Int32), .val .null, .unset] [(.int (1 : Int32)), vZ, (.ref b)])) rfl (by rw [hml]; rfl) (argsL := [(.ref b), vZ, (.int (1 : Int32))]) (rest := []) (lenOf pd_4 rfl) rfl rfl (nle rfl) (hb hby d8_36)
  obtain ⟨x3, k3, rfl, E3, g3, V3⟩ := q3
  have z4 : h0.size ≤ h3.size := E3.1
  have S3_x : Safe Z own_EL vm3 h3 x := C3.safe (olt (by omega)) (S0 _ (own_mi (i := 0) rfl))
  refine go (g' := (mkF m 39 #[vR x, vR b, .val vZ, vI (1 : Int32), .val .null, .unset] [(.ref x3)])) (st3) ?_
  refine go (g' := (mkF m 45 #[vR x, vR b, .val vZ, vI (1 : Int32), .val .null, vR x3] [(.int (1 : Int32)), (.ref x3), (.ref x)])) (fun _ k => XS.astore W3.here hx rfl (hb hby d8_39) rfl rfl (l' := #[vR x, vR b, .val vZ, vI (1 : Int32), .val .null, vR x3]) rfl (XS.aloadN W3.here hx rfl (hb hby d8_41) rfl rfl (XS.aload W3.here hx rfl (hb hby d8_42) rfl rfl (XS.iloadN W3.here hx rfl (hb hby d8_44) rfl k)))) ?_
  obtain ⟨v5, so5, vm5, T5, h5, W5, C5, q5, hso5, st5⟩ := own_static W3 hx (w24 C) (w25 C) (w18 C) (w26 C) (by decide) (rm_cfa1 C h3 x3 k3 _ V3) (fun _ q => nomatch q) (Wd := 1) (nle rfl) (nle rfl) (nle rfl) (nle rfl) (g := (mkF m 45 #[vR x, vR b, .val vZ, vI (1 : Int32), .val .null, vR x3] [(.int (1 : Int32)), (.ref x3), (.ref x)])) rfl (by rw [hml]; rfl) (argsL := [(.ref x3), (.int (1 : Int32))]) (rest := [(.ref x)]) (lenOf pd_6 rfl) rfl rfl (nle rfl) (hb hby d8_45)
  obtain ⟨rfl, rfl⟩ := q5
  have S5_x : Safe Z own_EL vm5 h3 x := C5.safe (olt (by omega)) S3_x
  refine go (g' := (mkF m 48 #[vR x, vR b, .val vZ, vI (1 : Int32), .val .null, vR x3] [(.int (1 : Int32)), (.ref x)])) (st5) ?_
  have X6 : Ext h0 h3 := own_xt (own_xr h0) E3
  have f7 := Fc.ext X6
  have f8 := Ex.ext X6
  obtain ⟨T9, h9, W9, R9, F9, st9⟩ := own_put W5 hx (host := "") (Or.inl (w27 C)) Via.refl f7 f8 (Or.inr ⟨(w28 C), rfl, hnm⟩) (w2 C) (ty := .byte) (by decide) rfl (by decide) S5_x (by omega) (g := (mkF m 48 #[vR x, vR b, .val vZ, vI (1 : Int32), .val .null, vR x3] [(.int (1 : Int32)), (.ref x)])) rfl rfl (hb hby d8_48)
  have f10 := Fv.ext X6
  have z11 : h9.size = h3.size := R9.size
  have f12 := f8.wr R9
  have f13 := f10.other R9 (Or.inr (slot_ne (Or.inr (w30 C)) (Or.inr (w28 C)) (by decide) (t := (.array .byte)) (t' := .byte) (by decide) (by decide)))
  have S9 : Safe Z own_EL vm5 h9 x := Safe.wr R9 S5_x W5.ch S5_x
  refine go (g' := (mkF m 51 #[vR x, vR b, .val vZ, vI (1 : Int32), .val .null, vR x3] [])) (st9) ?_
  refine go (g' := (mkF m 54 #[vR x, vR b, .val vZ, vI (1 : Int32), .val .null, vR x3] [(.ref x3), (.ref x)])) (fun _ k => XS.aloadN W9.here hx rfl (hb hby d8_51) rfl rfl (XS.aload W9.here hx rfl (hb hby d8_52) rfl rfl k)) ?_
  obtain ⟨T14, h14, W14, R14, F14, st14⟩ := own_put W9 hx (host := "") (Or.inl (w29 C)) Via.refl f13 f12 (Or.inr ⟨(w30 C), rfl, hnm⟩) (w2 C) (ty := (.array .byte)) (by decide) rfl rfl S9 (by omega) (g := (mkF m 54 #[vR x, vR b, .val vZ, vI (1 : Int32), .val .null, vR x3] [(.ref x3), (.ref x)])) rfl rfl (hb hby d8_54)
  have z15 : h14.size = h9.size := R14.size
  have f16 := f12.wr R14
  have f17 := F9.other R14 (Or.inr (slot_ne (Or.inr (w28 C)) (Or.inr (w30 C)) (by decide) (t := .byte) (t' := (.array .byte)) (by decide) (by decide)))
  have S14 : Safe Z own_EL vm5 h14 x := Safe.wr R14 S9 W9.ch S9
  refine go (g' := (mkF m 57 #[vR x, vR b, .val vZ, vI (1 : Int32), .val .null, vR x3] [])) (st14) ?_
  have KK18 : Keep h0 h14 [x] := ((((Keep.refl h0 [x]).ext E3).wr R9 (Or.inl (own_mi (i := 0) rfl))).wr R14 (Or.inl (own_mi (i := 0) rfl)))
  have l20 : ltN x3 h3.size := V3.lt
  have f19 := V3.other R9 (one (by omega))
  have l22 : ltN x3 h3.size := V3.lt
  have f21 := f19.other R14 (one (by omega))
  exact fin (v := none) (so := []) W14 (nle rfl) (nle rfl) (⟨rfl, KK18, f16, f17, (own_alS r1 own_al0), _, _, F14, f21⟩) (fun _ q => nomatch q) (fun _ => rfl) (own_retV W14 hx hret (hb hby d8_57))
theorem rm_wi1 (C : Cx Z a0) (h0 : Heap) (x : Addr) (Ex : Exa Z h0 x "java/lang/String") (Fv : Fld Z h0 x "java/lang/String" "value" "[B" .null) (Fc : Fld Z h0 x "java/lang/String" "coder" "B" vZ) (nx : Z.heap.size ≤ x) (b : Addr) (kb : ClassId) (c1 : Int32) (hw : (255 : Int32) < c1) (r1 : ¬ c1 < 0 ∧ ¬ (65535 : Int32) < c1) (Ab : Arv Z h0 b kb .char (1 : Int32) [(.int c1)] vZ) :
    Ct l Z a0 own_EL (⟨"java/lang/String", "<init>", "([C)V"⟩ : MethodName) jdk_42_method_3_code 2 (Option.none : Option Jvm.ClassFile.FieldType) [] (rmm 5 2 3 74) #[(.ref x), (.ref b)] h0 [x] (fun v h so => v = none ∧ Keep h0 h [x] ∧ StrW Z h x [c1]) := by
  refine own_enter (plainFor_of_name pn_1) C.ew (F0 := fun m => mkF m 0 #[vR x, vR b] []) (fun m => by first | (simp [entryFrame, mkF, argsToLocals, Value.category]; done) | rfl) ?_
  intro p e s m below meth c s₁ G hx hby hml hret hnm W0 S0 go fin
  have z0 := W0.sz
  show G s₁ (mkF m 0 #[vR x, vR b] [])
  have lx : ltN x h0.size := Ex.lt
  have lb : ltN b h0.size := Ab.lt
  have nbx : b ≠ x := Ne.symm (Exa.neArv Ex Ab (w2 C))
  refine go (g' := (mkF m 4 #[vR x, vR b] [(.ref b), vZ, (.ref b), (.ref x)])) (fun _ k => XS.aloadN W0.here hx rfl (hb hby d9_0) rfl rfl (XS.aloadN W0.here hx rfl (hb hby d9_1) rfl rfl (XS.iconst W0.here hx rfl (hb hby d9_2) (XS.aloadN W0.here hx rfl (hb hby d9_3) rfl rfl k)))) ?_
  refine go (g' := (mkF m 5 #[vR x, vR b] [(.int (1 : Int32)), vZ, (.ref b), (.ref x)])) (own_alen W0 hx Ab (g := (mkF m 4 #[vR x, vR b] [(.ref b), vZ, (.ref b), (.ref x)])) rfl rfl (hb hby d9_4)) ?_
  refine go (g' := (mkF m 6 #[vR x, vR b] [.null, (.int (1 : Int32)), vZ, (.ref b), (.ref x)])) (fun _ k => XS.aconstNull W0.here hx rfl (hb hby d9_5) k) ?_
  obtain ⟨v1, so1, vm1, T1, h1, W1, C1, q1, hso1, st1⟩ := own_special W0 hx (y := (⟨"java/lang/String", "<init>", "([CIILjava/lang/Void;)V"⟩ : MethodName)) rfl (w8 C) (w9 C) (w3 C) (w11 C) (by decide) (rm_wi41 C h0 x Ex Fv Fc (by omega) b kb c1 hw r1 Ab) (allS (S0 _ (own_mi (i := 0) rfl)) all0) (Wd := 0) (nle rfl) (nle rfl) (nle rfl) (nle rfl) (g := (mkF m 6 #[vR x, vR b] [.null, (.int (1 : Int32)), vZ, (.ref b), (.ref x)])) rfl (by rw [hml]; rfl) (a := x) (argsL := [(.ref b), vZ, (.int (1 : Int32)), .null]) (rest := []) (lenOf pd_7 rfl) rfl rfl (nle rfl) (hb hby d9_6)
  obtain ⟨rfl, K1, S1⟩ := q1
  have z2 : h0.size ≤ h1.size := K1.1
  have S1_x : Safe Z own_EL vm1 h1 x := C1.safe (olt (by omega)) (S0 _ (own_mi (i := 0) rfl))
  refine go (g' := (mkF m 9 #[vR x, vR b] [])) (st1) ?_
  have KK3 : Keep h0 h1 [x] := ((Keep.refl h0 [x]).trans K1 (allS (Or.inl (own_mi (i := 0) rfl)) all0))
  exact fin (v := none) (so := []) W1 (nle rfl) (nle rfl) (⟨rfl, KK3, S1⟩) (fun _ q => nomatch q) (fun _ => rfl) (own_retV W1 hx hret (hb hby d9_9))
theorem rm_nbl2 (C : Cx Z a0) (h0 : Heap) :
    Ct l Z a0 own_EL (⟨"java/lang/StringUTF16", "newBytesLength", "(I)I"⟩ : MethodName) jdk_52_method_3_code 1 (Option.some Jvm.ClassFile.FieldType.int) [] (rmm 0 0 0 0) #[(.int (2 : Int32))] h0 [] (fun v h so => v = some (.int (4 : Int32)) ∧ h0 = h) := by
  refine own_enter (plainFor_of_name pn_0) C.ew (F0 := fun m => mkF m 0 #[vI (2 : Int32)] []) (fun m => by first | (simp [entryFrame, mkF, argsToLocals, Value.category]; done) | rfl) ?_
  intro p e s m below meth c s₁ G hx hby hml hret hnm W0 S0 go fin
  have z0 := W0.sz
  show G s₁ (mkF m 0 #[vI (2 : Int32)] [])
  refine go (g' := (mkF m 13 #[vI (2 : Int32)] [(.int (2 : Int32))])) (fun _ k => XS.iloadN W0.here hx rfl (hb hby d2_0) rfl (XS.ifYes W0.here hx rfl (pc0 := 1) (pc' := 12) rfl (hb hby d2_1) rfl ((if0 _ _).trans (flt ((by decide) : ¬ ((2 : Int32) < (0 : Int32)))).2.1) (by decide) (by decide) (XS.iloadN W0.here hx rfl (hb hby d2_12) rfl k))) ?_
  refine go (g' := (mkF m 15 #[vI (2 : Int32)] [(.int (1073741823 : Int32)), (.int (2 : Int32))])) (own_ldcI W0 hx (w208 C) (g := (mkF m 13 #[vI (2 : Int32)] [(.int (2 : Int32))])) rfl (hb hby d2_13)) ?_
  refine go (g' := (mkF m 58 #[vI (2 : Int32)] [(.int ((2 : Int32) <<< ((1 : Int32) &&& 31)))])) (fun _ k => XS.icmpYes W0.here hx rfl (pc0 := 15) (pc' := 55) rfl (hb hby d2_15) rfl (tlt ((by decide) : (2 : Int32) < (1073741823 : Int32))).1 (by decide) (by decide) (XS.iloadN W0.here hx rfl (hb hby d2_55) rfl (XS.iconst W0.here hx rfl (hb hby d2_56) (XS.ishl W0.here hx rfl (hb hby d2_57) rfl k)))) ?_
  rw [show ((2 : Int32) <<< ((1 : Int32) &&& 31)) = (4 : Int32) from by decide]
  exact fin (v := some (.int (4 : Int32))) (so := []) W0 (nle rfl) (nle rfl) (⟨rfl, rfl⟩) (fun _ q => nomatch q) (fun q => nomatch q) (own_retI W0 hx hret (by decide) rfl (hb hby d2_58))
theorem rm_nbf2 (C : Cx Z a0) (h0 : Heap) :
    Ct l Z a0 own_EL (⟨"java/lang/StringUTF16", "newBytesFor", "(I)[B"⟩ : MethodName) jdk_52_method_2_code 1 (Option.some (Jvm.ClassFile.FieldType.array Jvm.ClassFile.FieldType.byte)) [] (rmm 1 1 4 12) #[(.int (2 : Int32))] h0 [] (fun v h so => ∃ (x : Addr) (kx : ClassId), so = [x] ∧ v = some (.ref x) ∧ Ext h0 h ∧ h0.size ≤ x ∧ Arv Z h x kx .byte (4 : Int32) [vZ, vZ, vZ, vZ] vZ) := by
  refine own_enter (plainFor_of_name pn_0) C.ew (F0 := fun m => mkF m 0 #[vI (2 : Int32)] []) (fun m => by first | (simp [entryFrame, mkF, argsToLocals, Value.category]; done) | rfl) ?_
  intro p e s m below meth c s₁ G hx hby hml hret hnm W0 S0 go fin
  have z0 := W0.sz
  show G s₁ (mkF m 0 #[vI (2 : Int32)] [])
  refine go (g' := (mkF m 1 #[vI (2 : Int32)] [(.int (2 : Int32))])) (fun _ k => XS.iloadN W0.here hx rfl (hb hby d3_0) rfl k) ?_
  obtain ⟨v1, so1, vm1, T1, h1, W1, C1, q1, hso1, st1⟩ := own_static W0 hx (w205 C) (w206 C) (w18 C) (w207 C) (by decide) (rm_nbl2 C h0) (fun _ q => nomatch q) (Wd := 0) (nle rfl) (nle rfl) (nle rfl) (nle rfl) (g := (mkF m 1 #[vI (2 : Int32)] [(.int (2 : Int32))])) rfl (by rw [hml]; rfl) (argsL := [(.int (2 : Int32))]) (rest := []) (lenOf pd_0 rfl) rfl rfl (nle rfl) (hb hby d3_1)
  obtain ⟨rfl, rfl⟩ := q1
  refine go (g' := (mkF m 4 #[vI (2 : Int32)] [(.int (4 : Int32))])) (st1) ?_
  obtain ⟨x2, T2, h2, k2, g2, W2, E2, A2, st2⟩ := own_newP W1 hx (aty := .byte) (w20 C) (g := (mkF m 4 #[vI (2 : Int32)] [(.int (4 : Int32))])) rfl (hb hby d3_4) rfl (by decide) (cap := 4) (by decide) (nle rfl) (nle rfl) (nle rfl)
  have z3 : h0.size ≤ h2.size := E2.1
  have l2 : ltN x2 h2.size := A2.lt
  have V2 : Arv Z h2 x2 k2 .byte (4 : Int32) [vZ, vZ, vZ, vZ] vZ := A2.pad (pad_rep [] vZ 4)
  refine go (g' := (mkF m 6 #[vI (2 : Int32)] [(.ref x2)])) (st2) ?_
  have X4 : Ext h0 h2 := own_xt (own_xr h0) E2
  exact fin (v := some (.ref x2)) (so := [x2]) W2 (nle rfl) (nle rfl) (⟨_, _, rfl, rfl, X4, by omega, V2⟩) (allS (own_safeB W1 X4 (by omega)) all0) (fun q => nomatch q) (own_retA W2 hx hret rfl rfl rfl (hb hby d3_6))
theorem rm_tb2 (C : Cx Z a0) (h0 : Heap) (b : Addr) (kb : ClassId) (c1 c2 : Int32) (r1 : ¬ c1 < 0 ∧ ¬ (65535 : Int32) < c1) (r2 : ¬ c2 < 0 ∧ ¬ (65535 : Int32) < c2) (Ab : Arv Z h0 b kb .char (2 : Int32) [(.int c1), (.int c2)] vZ) :
    Ct l Z a0 own_EL (⟨"java/lang/StringUTF16", "toBytes", "([CII)[B"⟩ : MethodName) jdk_52_method_14_code 5 (Option.some (Jvm.ClassFile.FieldType.array Jvm.ClassFile.FieldType.byte)) [] (rmm 2 1 4 24) #[(.ref b), vZ, (.int (2 : Int32))] h0 [] (fun v h so => ∃ (x : Addr) (kx : ClassId), v = some (.ref x) ∧ Ext h0 h ∧ h0.size ≤ x ∧ Arv Z h x kx .byte (4 : Int32) [(.int c1.toInt8.toInt32), (.int (StrChars.hi8 c1)), (.int c2.toInt8.toInt32), (.int (StrChars.hi8 c2))] vZ) := by
  refine own_enter (plainFor_of_name pn_0) C.ew (F0 := fun m => mkF m 0 #[vR b, .val vZ, vI (2 : Int32), .unset, .unset] []) (fun m => by first | (simp [entryFrame, mkF, argsToLocals, Value.category]; done) | rfl) ?_
  intro p e s m below meth c s₁ G hx hby hml hret hnm W0 S0 go fin
  have z0 := W0.sz
  show G s₁ (mkF m 0 #[vR b, .val vZ, vI (2 : Int32), .unset, .unset] [])
  have lb : ltN b h0.size := Ab.lt
  refine go (g' := (mkF m 1 #[vR b, .val vZ, vI (2 : Int32), .unset, .unset] [(.int (2 : Int32))])) (fun _ k => XS.iloadN W0.here hx rfl (hb hby d4_0) rfl k) ?_
  obtain ⟨v1, so1, vm1, T1, h1, W1, C1, q1, hso1, st1⟩ := own_static W0 hx (w202 C) (w203 C) (w18 C) (w204 C) (by decide) (rm_nbf2 C h0) (fun _ q => nomatch q) (Wd := 0) (nle rfl) (nle rfl) (nle rfl) (nle rfl) (g := (mkF m 1 #[vR b, .val vZ, vI (2 : Int32), .unset, .unset] [(.int (2 : Int32))])) rfl (by rw [hml]; rfl) (argsL := [(.int (2 : Int32))]) (rest := []) (lenOf pd_1 rfl) rfl rfl (nle rfl) (hb hby d4_1)
  obtain ⟨x1, k1, rfl, rfl, E1, g1, V1⟩ := q1
  have z2 : h0.size ≤ h1.size := E1.1
  have l1 : ltN x1 h1.size := V1.lt
  refine go (g' := (mkF m 4 #[vR b, .val vZ, vI (2 : Int32), .unset, .unset] [(.ref x1)])) (st1) ?_
  refine go (g' := (mkF m 17 #[vR b, .val vZ, vI (2 : Int32), vR x1, .val vZ] [vZ, (.ref x1)])) (fun _ k => XS.astoreN W1.here hx rfl (hb hby d4_4) rfl rfl (l' := #[vR b, .val vZ, vI (2 : Int32), vR x1, .unset]) rfl (XS.iconst W1.here hx rfl (hb hby d4_5) (XS.istore W1.here hx rfl (hb hby d4_6) rfl (l' := #[vR b, .val vZ, vI (2 : Int32), vR x1, .val vZ]) rfl (XS.iload W1.here hx rfl (hb hby d4_8) rfl (XS.iloadN W1.here hx rfl (hb hby d4_10) rfl (XS.icmpNo W1.here hx rfl (hb hby d4_11) rfl (tlt ((by decide) : (0 : Int32) < (2 : Int32))).2.1 (XS.aloadN W1.here hx rfl (hb hby d4_14) rfl rfl (XS.iload W1.here hx rfl (hb hby d4_15) rfl k)))))))) ?_
  refine go (g' := (mkF m 19 #[vR b, .val vZ, vI (2 : Int32), vR x1, .val vZ] [vZ, (.ref b), vZ, (.ref x1)])) (fun _ k => XS.aloadN W1.here hx rfl (hb hby d4_17) rfl rfl (XS.iloadN W1.here hx rfl (hb hby d4_18) rfl k)) ?_
  have X3 : Ext h0 h1 := own_xt (own_xr h0) E1
  have f4 := Ab.ext X3
  refine go (g' := (mkF m 20 #[vR b, .val vZ, vI (2 : Int32), vR x1, .val vZ] [(.int c1), vZ, (.ref x1)])) (own_cal W1 hx f4 (j := (0 : Int32)) ⟨by decide, by decide⟩ rfl (g := (mkF m 19 #[vR b, .val vZ, vI (2 : Int32), vR x1, .val vZ] [vZ, (.ref b), vZ, (.ref x1)])) rfl rfl (hb hby d4_19)) ?_
  obtain ⟨v5, so5, vm5, T5, h5, W5, C5, q5, hso5, st5⟩ := own_static W1 hx (w209 C) (w210 C) (w18 C) (w211 C) (by decide) (rm_putc C h1 x1 k1 4 0 [vZ, vZ, vZ, vZ] (nle rfl) (by decide) (by decide) c1 V1 (by omega)) (allS (hso1 _ (own_mi (i := 0) rfl)) all0) (Wd := 0) (nle rfl) (nle rfl) (nle rfl) (nle rfl) (g := (mkF m 20 #[vR b, .val vZ, vI (2 : Int32), vR x1, .val vZ] [(.int c1), vZ, (.ref x1)])) rfl (by rw [hml]; rfl) (argsL := [(.ref x1), vZ, (.int c1)]) (rest := []) (lenOf pd_2 rfl) rfl rfl (nle rfl) (hb hby d4_20)
  obtain ⟨rfl, K5, V5⟩ := q5
  have z6 : h1.size ≤ h5.size := K5.1
  have S5_x1 : Safe Z own_EL vm5 h5 x1 := C5.safe (olt (by omega)) (hso1 _ (own_mi (i := 0) rfl))
  have U5 : Arv Z h5 x1 k1 .byte (4 : Int32) [(.int c1.toInt8.toInt32), (.int (StrChars.hi8 c1)), vZ, vZ] vZ := V5
  refine go (g' := (mkF m 23 #[vR b, .val vZ, vI (2 : Int32), vR x1, .val vZ] [])) (st5) ?_
  refine go (g' := (mkF m 26 #[vR b, vI ((0 : Int32) + (1 : Int32)), vI (2 : Int32), vR x1, .val vZ] [])) (fun _ k => XS.iinc W5.here hx rfl (hb hby d4_23) rfl (l' := #[vR b, vI ((0 : Int32) + (1 : Int32)), vI (2 : Int32), vR x1, .val vZ]) rfl k) ?_
  rw [show ((0 : Int32) + (1 : Int32)) = (1 : Int32) from by decide]
  refine go (g' := (mkF m 29 #[vR b, vI (1 : Int32), vI (2 : Int32), vR x1, vI ((0 : Int32) + (1 : Int32))] [])) (fun _ k => XS.iinc W5.here hx rfl (hb hby d4_26) rfl (l' := #[vR b, vI (1 : Int32), vI (2 : Int32), vR x1, vI ((0 : Int32) + (1 : Int32))]) rfl k) ?_
  rw [show ((0 : Int32) + (1 : Int32)) = (1 : Int32) from by decide]
  refine go (g' := (mkF m 19 #[vR b, vI (1 : Int32), vI (2 : Int32), vR x1, vI (1 : Int32)] [(.int (1 : Int32)), (.ref b), (.int (1 : Int32)), (.ref x1)])) (fun _ k => XS.goto W5.here hx rfl (pc0 := 29) (pc' := 8) rfl (hb hby d4_29) (by decide) (by decide) (XS.iload W5.here hx rfl (hb hby d4_8) rfl (XS.iloadN W5.here hx rfl (hb hby d4_10) rfl (XS.icmpNo W5.here hx rfl (hb hby d4_11) rfl (tlt ((by decide) : (1 : Int32) < (2 : Int32))).2.1 (XS.aloadN W5.here hx rfl (hb hby d4_14) rfl rfl (XS.iload W5.here hx rfl (hb hby d4_15) rfl (XS.aloadN W5.here hx rfl (hb hby d4_17) rfl rfl (XS.iloadN W5.here hx rfl (hb hby d4_18) rfl k)))))))) ?_
  have X7 : Ext h0 h5 := own_xk X3 K5 (allS (by omega) all0)
  have f8 := Ab.ext X7
  refine go (g' := (mkF m 20 #[vR b, vI (1 : Int32), vI (2 : Int32), vR x1, vI (1 : Int32)] [(.int c2), (.int (1 : Int32)), (.ref x1)])) (own_cal W5 hx f8 (j := (1 : Int32)) ⟨by decide, by decide⟩ rfl (g := (mkF m 19 #[vR b, vI (1 : Int32), vI (2 : Int32), vR x1, vI (1 : Int32)] [(.int (1 : Int32)), (.ref b), (.int (1 : Int32)), (.ref x1)])) rfl rfl (hb hby d4_19)) ?_
  obtain ⟨v9, so9, vm9, T9, h9, W9, C9, q9, hso9, st9⟩ := own_static W5 hx (w209 C) (w210 C) (w18 C) (w211 C) (by decide) (rm_putc C h5 x1 k1 4 1 [(.int c1.toInt8.toInt32), (.int (StrChars.hi8 c1)), vZ, vZ] (nle rfl) (by decide) (by decide) c2 U5 (by omega)) (allS S5_x1 all0) (Wd := 0) (nle rfl) (nle rfl) (nle rfl) (nle rfl) (g := (mkF m 20 #[vR b, vI (1 : Int32), vI (2 : Int32), vR x1, vI (1 : Int32)] [(.int c2), (.int (1 : Int32)), (.ref x1)])) rfl (by rw [hml]; rfl) (argsL := [(.ref x1), (.int (1 : Int32)), (.int c2)]) (rest := []) (lenOf pd_2 rfl) rfl rfl (nle rfl) (hb hby d4_20)
  obtain ⟨rfl, K9, V9⟩ := q9
  have z10 : h5.size ≤ h9.size := K9.1
  have S9_x1 : Safe Z own_EL vm9 h9 x1 := C9.safe (olt (by omega)) S5_x1
  have U9 : Arv Z h9 x1 k1 .byte (4 : Int32) [(.int c1.toInt8.toInt32), (.int (StrChars.hi8 c1)), (.int c2.toInt8.toInt32), (.int (StrChars.hi8 c2))] vZ := V9
  refine go (g' := (mkF m 23 #[vR b, vI (1 : Int32), vI (2 : Int32), vR x1, vI (1 : Int32)] [])) (st9) ?_
  refine go (g' := (mkF m 26 #[vR b, vI ((1 : Int32) + (1 : Int32)), vI (2 : Int32), vR x1, vI (1 : Int32)] [])) (fun _ k => XS.iinc W9.here hx rfl (hb hby d4_23) rfl (l' := #[vR b, vI ((1 : Int32) + (1 : Int32)), vI (2 : Int32), vR x1, vI (1 : Int32)]) rfl k) ?_
  rw [show ((1 : Int32) + (1 : Int32)) = (2 : Int32) from by decide]
  refine go (g' := (mkF m 29 #[vR b, vI (2 : Int32), vI (2 : Int32), vR x1, vI ((1 : Int32) + (1 : Int32))] [])) (fun _ k => XS.iinc W9.here hx rfl (hb hby d4_26) rfl (l' := #[vR b, vI (2 : Int32), vI (2 : Int32), vR x1, vI ((1 : Int32) + (1 : Int32))]) rfl k) ?_
  rw [show ((1 : Int32) + (1 : Int32)) = (2 : Int32) from by decide]
  refine go (g' := (mkF m 33 #[vR b, vI (2 : Int32), vI (2 : Int32), vR x1, vI (2 : Int32)] [(.ref x1)])) (fun _ k => XS.goto W9.here hx rfl (pc0 := 29) (pc' := 8) rfl (hb hby d4_29) (by decide) (by decide) (XS.iload W9.here hx rfl (hb hby d4_8) rfl (XS.iloadN W9.here hx rfl (hb hby d4_10) rfl (XS.icmpYes W9.here hx rfl (pc0 := 11) (pc' := 32) rfl (hb hby d4_11) rfl (flt ((by decide) : ¬ ((2 : Int32) < (2 : Int32)))).2.1 (by decide) (by decide) (XS.aloadN W9.here hx rfl (hb hby d4_32) rfl rfl k))))) ?_
  have X11 : Ext h0 h9 := own_xk X7 K9 (allS (by omega) all0)
  exact fin (v := some (.ref x1)) (so := []) W9 (nle rfl) (nle rfl) (⟨_, _, rfl, X11, by omega, U9⟩) (fun _ q => nomatch q) (fun q => nomatch q) (own_retA W9 hx hret rfl rfl rfl (hb hby d4_33))
theorem rm_cmi2_0 (C : Cx Z a0) (h0 : Heap) (b : Addr) (kb : ClassId) (c1 c2 : Int32) (qw : (255 : Int32) < c1) (r1 : ¬ c1 < 0 ∧ ¬ (65535 : Int32) < c1) (r2 : ¬ c2 < 0 ∧ ¬ (65535 : Int32) < c2) (Ab : Arv Z h0 b kb .char (2 : Int32) [(.int c1), (.int c2)] vZ) (d : Addr) (kd : ClassId) (Vd : Arv Z h0 d kd .byte (2 : Int32) [vZ, vZ] vZ) (nd : Z.heap.size ≤ d) :
    Ct l Z a0 own_EL (⟨"java/lang/StringUTF16", "compress", "([CI[BII)I"⟩ : MethodName) jdk_52_method_21_code 7 (Option.some Jvm.ClassFile.FieldType.int) [] (rmm 0 0 0 0) #[(.ref b), vZ, (.ref d), vZ, (.int (2 : Int32))] h0 [d] (fun v h so => v = some vZ ∧ Keep h0 h [d]) := by
  refine own_enter (plainFor_of_name pn_0) C.ew (F0 := fun m => mkF m 0 #[vR b, .val vZ, vR d, .val vZ, vI (2 : Int32), .unset, .unset] []) (fun m => by first | (simp [entryFrame, mkF, argsToLocals, Value.category]; done) | rfl) ?_
  intro p e s m below meth c s₁ G hx hby hml hret hnm W0 S0 go fin
  have z0 := W0.sz
  show G s₁ (mkF m 0 #[vR b, .val vZ, vR d, .val vZ, vI (2 : Int32), .unset, .unset] [])
  have ld : ltN d h0.size := Vd.lt
  have lb : ltN b h0.size := Ab.lt
  have nbd : b ≠ d := own_neT Ab Vd
  refine go (g' := (mkF m 12 #[vR b, .val vZ, vR d, .val vZ, vI (2 : Int32), .val vZ, .unset] [vZ, (.ref b)])) (fun _ k => XS.iconst W0.here hx rfl (hb hby d5_0) (XS.istore W0.here hx rfl (hb hby d5_1) rfl (l' := #[vR b, .val vZ, vR d, .val vZ, vI (2 : Int32), .val vZ, .unset]) rfl (XS.iload W0.here hx rfl (hb hby d5_3) rfl (XS.iload W0.here hx rfl (hb hby d5_5) rfl (XS.icmpNo W0.here hx rfl (hb hby d5_7) rfl (tlt ((by decide) : (0 : Int32) < (2 : Int32))).2.1 (XS.aloadN W0.here hx rfl (hb hby d5_10) rfl rfl (XS.iloadN W0.here hx rfl (hb hby d5_11) rfl k))))))) ?_
  refine go (g' := (mkF m 13 #[vR b, .val vZ, vR d, .val vZ, vI (2 : Int32), .val vZ, .unset] [(.int c1)])) (own_cal W0 hx Ab (j := (0 : Int32)) ⟨by decide, by decide⟩ rfl (g := (mkF m 12 #[vR b, .val vZ, vR d, .val vZ, vI (2 : Int32), .val vZ, .unset] [vZ, (.ref b)])) rfl rfl (hb hby d5_12)) ?_
  refine go (g' := (mkF m 25 #[vR b, .val vZ, vR d, .val vZ, vI (2 : Int32), .val vZ, vI c1] [vZ])) (fun _ k => XS.istore W0.here hx rfl (hb hby d5_13) rfl (l' := #[vR b, .val vZ, vR d, .val vZ, vI (2 : Int32), .val vZ, vI c1]) rfl (XS.iload W0.here hx rfl (hb hby d5_15) rfl (XS.sipush W0.here hx rfl (hb hby d5_17) (XS.icmpNo W0.here hx rfl (hb hby d5_20) rfl (tlt qw).2.2.2 (XS.iload W0.here hx rfl (hb hby d5_23) rfl k))))) ?_
  have KK1 : Keep h0 h0 [d] := (Keep.refl h0 [d])
  exact fin (v := some vZ) (so := []) W0 (nle rfl) (nle rfl) (⟨rfl, KK1⟩) (fun _ q => nomatch q) (fun q => nomatch q) (own_retI W0 hx hret (by decide) rfl (hb hby d5_25))
theorem rm_cm2_0 (C : Cx Z a0) (h0 : Heap) (b : Addr) (kb : ClassId) (c1 c2 : Int32) (qw : (255 : Int32) < c1) (r1 : ¬ c1 < 0 ∧ ¬ (65535 : Int32) < c1) (r2 : ¬ c2 < 0 ∧ ¬ (65535 : Int32) < c2) (Ab : Arv Z h0 b kb .char (2 : Int32) [(.int c1), (.int c2)] vZ) :
    Ct l Z a0 own_EL (⟨"java/lang/StringUTF16", "compress", "([CII)[B"⟩ : MethodName) jdk_52_method_16_code 6 (Option.some (Jvm.ClassFile.FieldType.array Jvm.ClassFile.FieldType.byte)) [] (rmm 3 2 6 40) #[(.ref b), vZ, (.int (2 : Int32))] h0 [] (fun v h so => ∃ (x : Addr) (kx : ClassId), v = some (.ref x) ∧ Ext h0 h ∧ h0.size ≤ x ∧ Arv Z h x kx .byte (4 : Int32) [(.int c1.toInt8.toInt32), (.int (StrChars.hi8 c1)), (.int c2.toInt8.toInt32), (.int (StrChars.hi8 c2))] vZ) := by
  refine own_enter (plainFor_of_name pn_0) C.ew (F0 := fun m => mkF m 0 #[vR b, .val vZ, vI (2 : Int32), .unset, .unset, .unset] []) (fun m => by first | (simp [entryFrame, mkF, argsToLocals, Value.category]; done) | rfl) ?_
  intro p e s m below meth c s₁ G hx hby hml hret hnm W0 S0 go fin
  have z0 := W0.sz
  show G s₁ (mkF m 0 #[vR b, .val vZ, vI (2 : Int32), .unset, .unset, .unset] [])
  have lb : ltN b h0.size := Ab.lt
  refine go (g' := (mkF m 1 #[vR b, .val vZ, vI (2 : Int32), .unset, .unset, .unset] [(.int (2 : Int32))])) (fun _ k => XS.iloadN W0.here hx rfl (hb hby d6_0) rfl k) ?_
  obtain ⟨x1, T1, h1, k1, g1, W1, E1, A1, st1⟩ := own_newP W0 hx (aty := .byte) (w20 C) (g := (mkF m 1 #[vR b, .val vZ, vI (2 : Int32), .unset, .unset, .unset] [(.int (2 : Int32))])) rfl (hb hby d6_1) rfl (by decide) (cap := 2) (by decide) (nle rfl) (nle rfl) (nle rfl)
  have z2 : h0.size ≤ h1.size := E1.1
  have l1 : ltN x1 h1.size := A1.lt
  have V1 : Arv Z h1 x1 k1 .byte (2 : Int32) [vZ, vZ] vZ := A1.pad (pad_rep [] vZ 2)
  refine go (g' := (mkF m 3 #[vR b, .val vZ, vI (2 : Int32), .unset, .unset, .unset] [(.ref x1)])) (st1) ?_
  refine go (g' := (mkF m 9 #[vR b, .val vZ, vI (2 : Int32), vR x1, .unset, .unset] [(.int (2 : Int32)), vZ, (.ref x1), vZ, (.ref b)])) (fun _ k => XS.astoreN W1.here hx rfl (hb hby d6_3) rfl rfl (l' := #[vR b, .val vZ, vI (2 : Int32), vR x1, .unset, .unset]) rfl (XS.aloadN W1.here hx rfl (hb hby d6_4) rfl rfl (XS.iloadN W1.here hx rfl (hb hby d6_5) rfl (XS.aloadN W1.here hx rfl (hb hby d6_6) rfl rfl (XS.iconst W1.here hx rfl (hb hby d6_7) (XS.iloadN W1.here hx rfl (hb hby d6_8) rfl k)))))) ?_
  have X4 : Ext h0 h1 := own_xt (own_xr h0) E1
  have f5 := Ab.ext X4
  obtain ⟨v3, so3, vm3, T3, h3, W3, C3, q3, hso3, st3⟩ := own_static W1 hx (w21 C) (w22 C) (w18 C) (w23 C) (by decide) (rm_cmi2_0 C h1 b kb c1 c2 qw r1 r2 f5 x1 k1 V1 (by omega)) (allS (own_safeB W0 X4 (by omega)) all0) (Wd := 0) (nle rfl) (nle rfl) (nle rfl) (nle rfl) (g := (mkF m 9 #[vR b, .val vZ, vI (2 : Int32), vR x1, .unset, .unset] [(.int (2 : Int32)), vZ, (.ref x1), vZ, (.ref b)])) rfl (by rw [hml]; rfl) (argsL := [(.ref b), vZ, (.ref x1), vZ, (.int (2 : Int32))]) (rest := []) (lenOf pd_3 rfl) rfl rfl (nle rfl) (hb hby d6_9)
  obtain ⟨rfl, K3⟩ := q3
  have z6 : h1.size ≤ h3.size := K3.1
  have S3_x1 : Safe Z own_EL vm3 h3 x1 := C3.safe (olt (by omega)) (own_safeB W0 X4 (by omega))
  refine go (g' := (mkF m 12 #[vR b, .val vZ, vI (2 : Int32), vR x1, .unset, .unset] [vZ])) (st3) ?_
  refine go (g' := (mkF m 23 #[vR b, .val vZ, vI (2 : Int32), vR x1, .val vZ, .unset] [(.int (2 : Int32)), vZ, (.ref b)])) (fun _ k => XS.istore W3.here hx rfl (hb hby d6_12) rfl (l' := #[vR b, .val vZ, vI (2 : Int32), vR x1, .val vZ, .unset]) rfl (XS.iload W3.here hx rfl (hb hby d6_14) rfl (XS.iloadN W3.here hx rfl (hb hby d6_16) rfl (XS.icmpNo W3.here hx rfl (hb hby d6_17) rfl (feq ((by decide) : ¬ ((0 : Int32) = (2 : Int32)))).1 (XS.aloadN W3.here hx rfl (hb hby d6_20) rfl rfl (XS.iloadN W3.here hx rfl (hb hby d6_21) rfl (XS.iloadN W3.here hx rfl (hb hby d6_22) rfl k))))))) ?_
  have X8 : Ext h0 h3 := own_xk X4 K3 (allS (by omega) all0)
  have f9 := Ab.ext X8
  obtain ⟨v7, so7, vm7, T7, h7, W7, C7, q7, hso7, st7⟩ := own_static W3 hx (w199 C) (w200 C) (w18 C) (w201 C) (by decide) (rm_tb2 C h3 b kb c1 c2 r1 r2 f9) (fun _ q => nomatch q) (Wd := 0) (nle rfl) (nle rfl) (nle rfl) (nle rfl) (g := (mkF m 23 #[vR b, .val vZ, vI (2 : Int32), vR x1, .val vZ, .unset] [(.int (2 : Int32)), vZ, (.ref b)])) rfl (by rw [hml]; rfl) (argsL := [(.ref b), vZ, (.int (2 : Int32))]) (rest := []) (lenOf pd_4 rfl) rfl rfl (nle rfl) (hb hby d6_23)
  obtain ⟨x7, k7, rfl, E7, g7, V7⟩ := q7
  have z10 : h3.size ≤ h7.size := E7.1
  have S7_x1 : Safe Z own_EL vm7 h7 x1 := C7.safe (olt (by omega)) S3_x1
  refine go (g' := (mkF m 26 #[vR b, .val vZ, vI (2 : Int32), vR x1, .val vZ, .unset] [(.ref x7)])) (st7) ?_
  refine go (g' := (mkF m 32 #[vR b, .val vZ, vI (2 : Int32), vR x1, .val vZ, vR x7] [vZ, (.ref x7)])) (fun _ k => XS.astore W7.here hx rfl (hb hby d6_26) rfl rfl (l' := #[vR b, .val vZ, vI (2 : Int32), vR x1, .val vZ, vR x7]) rfl (XS.aload W7.here hx rfl (hb hby d6_28) rfl rfl (XS.iload W7.here hx rfl (hb hby d6_30) rfl k))) ?_
  obtain ⟨v11, so11, vm11, T11, h11, W11, C11, q11, hso11, st11⟩ := own_static W7 hx (w215 C) (w216 C) (w18 C) (w217 C) (by decide) (rm_getc C h7 x7 k7 4 0 [(.int c1.toInt8.toInt32), (.int (StrChars.hi8 c1)), (.int c2.toInt8.toInt32), (.int (StrChars.hi8 c2))] (nle rfl) (by decide) (by decide) c1.toInt8.toInt32 (StrChars.hi8 c1) rfl rfl V7) (fun _ q => nomatch q) (Wd := 0) (nle rfl) (nle rfl) (nle rfl) (nle rfl) (g := (mkF m 32 #[vR b, .val vZ, vI (2 : Int32), vR x1, .val vZ, vR x7] [vZ, (.ref x7)])) rfl (by rw [hml]; rfl) (argsL := [(.ref x7), vZ]) (rest := []) (lenOf pd_5 rfl) rfl rfl (nle rfl) (hb hby d6_32)
  obtain ⟨rfl, rfl⟩ := q11
  have S11_x1 : Safe Z own_EL vm11 h7 x1 := C11.safe (olt (by omega)) S7_x1
  refine go (g' := (mkF m 35 #[vR b, .val vZ, vI (2 : Int32), vR x1, .val vZ, vR x7] [(.int (StrChars.pairCh c1.toInt8.toInt32 (StrChars.hi8 c1)))])) (st11) ?_
  rw [show (StrChars.pairCh c1.toInt8.toInt32 (StrChars.hi8 c1)) = c1 from StrChars.pair_says r1.1 r1.2]
  refine go (g' := (mkF m 56 #[vR b, .val vZ, vI (2 : Int32), vR x1, .val vZ, vR x7] [(.ref x7)])) (fun _ k => XS.sipush W11.here hx rfl (hb hby d6_35) (XS.icmpYes W11.here hx rfl (pc0 := 38) (pc' := 54) rfl (hb hby d6_38) rfl (tlt qw).2.2.1 (by decide) (by decide) (XS.aload W11.here hx rfl (hb hby d6_54) rfl rfl k))) ?_
  have X12 : Ext h0 h7 := own_xt X8 E7
  exact fin (v := some (.ref x7)) (so := []) W11 (nle rfl) (nle rfl) (⟨_, _, rfl, X12, by omega, V7⟩) (fun _ q => nomatch q) (fun q => nomatch q) (own_retA W11 hx hret rfl rfl rfl (hb hby d6_56))
theorem rm_cmi2_1 (C : Cx Z a0) (h0 : Heap) (b : Addr) (kb : ClassId) (c1 c2 : Int32) (q1 : ¬ (255 : Int32) < c1) (qw : (255 : Int32) < c2) (r1 : ¬ c1 < 0 ∧ ¬ (65535 : Int32) < c1) (r2 : ¬ c2 < 0 ∧ ¬ (65535 : Int32) < c2) (Ab : Arv Z h0 b kb .char (2 : Int32) [(.int c1), (.int c2)] vZ) (d : Addr) (kd : ClassId) (Vd : Arv Z h0 d kd .byte (2 : Int32) [vZ, vZ] vZ) (nd : Z.heap.size ≤ d) :
    Ct l Z a0 own_EL (⟨"java/lang/StringUTF16", "compress", "([CI[BII)I"⟩ : MethodName) jdk_52_method_21_code 7 (Option.some Jvm.ClassFile.FieldType.int) [] (rmm 0 0 0 0) #[(.ref b), vZ, (.ref d), vZ, (.int (2 : Int32))] h0 [d] (fun v h so => v = some (.int (1 : Int32)) ∧ Keep h0 h [d]) := by
  refine own_enter (plainFor_of_name pn_0) C.ew (F0 := fun m => mkF m 0 #[vR b, .val vZ, vR d, .val vZ, vI (2 : Int32), .unset, .unset] []) (fun m => by first | (simp [entryFrame, mkF, argsToLocals, Value.category]; done) | rfl) ?_
  intro p e s m below meth c s₁ G hx hby hml hret hnm W0 S0 go fin
  have z0 := W0.sz
  show G s₁ (mkF m 0 #[vR b, .val vZ, vR d, .val vZ, vI (2 : Int32), .unset, .unset] [])
  have ld : ltN d h0.size := Vd.lt
  have lb : ltN b h0.size := Ab.lt
  have nbd : b ≠ d := own_neT Ab Vd
  refine go (g' := (mkF m 12 #[vR b, .val vZ, vR d, .val vZ, vI (2 : Int32), .val vZ, .unset] [vZ, (.ref b)])) (fun _ k => XS.iconst W0.here hx rfl (hb hby d5_0) (XS.istore W0.here hx rfl (hb hby d5_1) rfl (l' := #[vR b, .val vZ, vR d, .val vZ, vI (2 : Int32), .val vZ, .unset]) rfl (XS.iload W0.here hx rfl (hb hby d5_3) rfl (XS.iload W0.here hx rfl (hb hby d5_5) rfl (XS.icmpNo W0.here hx rfl (hb hby d5_7) rfl (tlt ((by decide) : (0 : Int32) < (2 : Int32))).2.1 (XS.aloadN W0.here hx rfl (hb hby d5_10) rfl rfl (XS.iloadN W0.here hx rfl (hb hby d5_11) rfl k))))))) ?_
  refine go (g' := (mkF m 13 #[vR b, .val vZ, vR d, .val vZ, vI (2 : Int32), .val vZ, .unset] [(.int c1)])) (own_cal W0 hx Ab (j := (0 : Int32)) ⟨by decide, by decide⟩ rfl (g := (mkF m 12 #[vR b, .val vZ, vR d, .val vZ, vI (2 : Int32), .val vZ, .unset] [vZ, (.ref b)])) rfl rfl (hb hby d5_12)) ?_
  refine go (g' := (mkF m 31 #[vR b, .val vZ, vR d, .val vZ, vI (2 : Int32), .val vZ, vI c1] [(.int (c1.toInt8.toInt32)), vZ, (.ref d)])) (fun _ k => XS.istore W0.here hx rfl (hb hby d5_13) rfl (l' := #[vR b, .val vZ, vR d, .val vZ, vI (2 : Int32), .val vZ, vI c1]) rfl (XS.iload W0.here hx rfl (hb hby d5_15) rfl (XS.sipush W0.here hx rfl (hb hby d5_17) (XS.icmpYes W0.here hx rfl (pc0 := 20) (pc' := 26) rfl (hb hby d5_20) rfl (flt q1).2.2.2 (by decide) (by decide) (XS.aloadN W0.here hx rfl (hb hby d5_26) rfl rfl (XS.iloadN W0.here hx rfl (hb hby d5_27) rfl (XS.iload W0.here hx rfl (hb hby d5_28) rfl (XS.i2b W0.here hx rfl (hb hby d5_30) rfl k)))))))) ?_
  obtain ⟨T1, h1, W1, R1, V1, st1⟩ := own_stB W0 hx Vd (by omega) (S0 _ (own_mi (i := 0) rfl)) (j := (0 : Int32)) (i := 0) ⟨by decide, by decide⟩ rfl (nle rfl) (g := (mkF m 31 #[vR b, .val vZ, vR d, .val vZ, vI (2 : Int32), .val vZ, vI c1] [(.int (c1.toInt8.toInt32)), vZ, (.ref d)])) rfl rfl (hb hby d5_31)
  have z2 : h1.size = h0.size := R1.size
  have S1_d : Safe Z own_EL s.vm h1 d := Safe.wr R1 (S0 _ (own_mi (i := 0) rfl)) W0.ch (S0 _ (own_mi (i := 0) rfl))
  have U1 : Arv Z h1 d kd .byte (2 : Int32) [(.int (c1.toInt8.toInt32).toInt8.toInt32), vZ] vZ := V1
  refine go (g' := (mkF m 32 #[vR b, .val vZ, vR d, .val vZ, vI (2 : Int32), .val vZ, vI c1] [])) (st1) ?_
  refine go (g' := (mkF m 35 #[vR b, vI ((0 : Int32) + (1 : Int32)), vR d, .val vZ, vI (2 : Int32), .val vZ, vI c1] [])) (fun _ k => XS.iinc W1.here hx rfl (hb hby d5_32) rfl (l' := #[vR b, vI ((0 : Int32) + (1 : Int32)), vR d, .val vZ, vI (2 : Int32), .val vZ, vI c1]) rfl k) ?_
  rw [show ((0 : Int32) + (1 : Int32)) = (1 : Int32) from by decide]
  refine go (g' := (mkF m 38 #[vR b, vI (1 : Int32), vR d, vI ((0 : Int32) + (1 : Int32)), vI (2 : Int32), .val vZ, vI c1] [])) (fun _ k => XS.iinc W1.here hx rfl (hb hby d5_35) rfl (l' := #[vR b, vI (1 : Int32), vR d, vI ((0 : Int32) + (1 : Int32)), vI (2 : Int32), .val vZ, vI c1]) rfl k) ?_
  rw [show ((0 : Int32) + (1 : Int32)) = (1 : Int32) from by decide]
  refine go (g' := (mkF m 41 #[vR b, vI (1 : Int32), vR d, vI (1 : Int32), vI (2 : Int32), vI ((0 : Int32) + (1 : Int32)), vI c1] [])) (fun _ k => XS.iinc W1.here hx rfl (hb hby d5_38) rfl (l' := #[vR b, vI (1 : Int32), vR d, vI (1 : Int32), vI (2 : Int32), vI ((0 : Int32) + (1 : Int32)), vI c1]) rfl k) ?_
  rw [show ((0 : Int32) + (1 : Int32)) = (1 : Int32) from by decide]
  refine go (g' := (mkF m 12 #[vR b, vI (1 : Int32), vR d, vI (1 : Int32), vI (2 : Int32), vI (1 : Int32), vI c1] [(.int (1 : Int32)), (.ref b)])) (fun _ k => XS.goto W1.here hx rfl (pc0 := 41) (pc' := 3) rfl (hb hby d5_41) (by decide) (by decide) (XS.iload W1.here hx rfl (hb hby d5_3) rfl (XS.iload W1.here hx rfl (hb hby d5_5) rfl (XS.icmpNo W1.here hx rfl (hb hby d5_7) rfl (tlt ((by decide) : (1 : Int32) < (2 : Int32))).2.1 (XS.aloadN W1.here hx rfl (hb hby d5_10) rfl rfl (XS.iloadN W1.here hx rfl (hb hby d5_11) rfl k)))))) ?_
  have f3 := Ab.other R1 nbd
  refine go (g' := (mkF m 13 #[vR b, vI (1 : Int32), vR d, vI (1 : Int32), vI (2 : Int32), vI (1 : Int32), vI c1] [(.int c2)])) (own_cal W1 hx f3 (j := (1 : Int32)) ⟨by decide, by decide⟩ rfl (g := (mkF m 12 #[vR b, vI (1 : Int32), vR d, vI (1 : Int32), vI (2 : Int32), vI (1 : Int32), vI c1] [(.int (1 : Int32)), (.ref b)])) rfl rfl (hb hby d5_12)) ?_
  refine go (g' := (mkF m 25 #[vR b, vI (1 : Int32), vR d, vI (1 : Int32), vI (2 : Int32), vI (1 : Int32), vI c2] [(.int (1 : Int32))])) (fun _ k => XS.istore W1.here hx rfl (hb hby d5_13) rfl (l' := #[vR b, vI (1 : Int32), vR d, vI (1 : Int32), vI (2 : Int32), vI (1 : Int32), vI c2]) rfl (XS.iload W1.here hx rfl (hb hby d5_15) rfl (XS.sipush W1.here hx rfl (hb hby d5_17) (XS.icmpNo W1.here hx rfl (hb hby d5_20) rfl (tlt qw).2.2.2 (XS.iload W1.here hx rfl (hb hby d5_23) rfl k))))) ?_
  have KK4 : Keep h0 h1 [d] := ((Keep.refl h0 [d]).wr R1 (Or.inl (own_mi (i := 0) rfl)))
  exact fin (v := some (.int (1 : Int32))) (so := []) W1 (nle rfl) (nle rfl) (⟨rfl, KK4⟩) (fun _ q => nomatch q) (fun q => nomatch q) (own_retI W1 hx hret (by decide) rfl (hb hby d5_25))
theorem rm_cm2_1 (C : Cx Z a0) (h0 : Heap) (b : Addr) (kb : ClassId) (c1 c2 : Int32) (q1 : ¬ (255 : Int32) < c1) (qw : (255 : Int32) < c2) (r1 : ¬ c1 < 0 ∧ ¬ (65535 : Int32) < c1) (r2 : ¬ c2 < 0 ∧ ¬ (65535 : Int32) < c2) (Ab : Arv Z h0 b kb .char (2 : Int32) [(.int c1), (.int c2)] vZ) :
    Ct l Z a0 own_EL (⟨"java/lang/StringUTF16", "compress", "([CII)[B"⟩ : MethodName) jdk_52_method_16_code 6 (Option.some (Jvm.ClassFile.FieldType.array Jvm.ClassFile.FieldType.byte)) [] (rmm 3 2 6 40) #[(.ref b), vZ, (.int (2 : Int32))] h0 [] (fun v h so => ∃ (x : Addr) (kx : ClassId), v = some (.ref x) ∧ Ext h0 h ∧ h0.size ≤ x ∧ Arv Z h x kx .byte (4 : Int32) [(.int c1.toInt8.toInt32), (.int (StrChars.hi8 c1)), (.int c2.toInt8.toInt32), (.int (StrChars.hi8 c2))] vZ) := by
  refine own_enter (plainFor_of_name pn_0) C.ew (F0 := fun m => mkF m 0 #[vR b, .val vZ, vI (2 : Int32), .unset, .unset, .unset] []) (fun m => by first | (simp [entryFrame, mkF, argsToLocals, Value.category]; done) | rfl) ?_
  intro p e s m below meth c s₁ G hx hby hml hret hnm W0 S0 go fin
  have z0 := W0.sz
  show G s₁ (mkF m 0 #[vR b, .val vZ, vI (2 : Int32), .unset, .unset, .unset] [])
  have lb : ltN b h0.size := Ab.lt
  refine go (g' := (mkF m 1 #[vR b, .val vZ, vI (2 : Int32), .unset, .unset, .unset] [(.int (2 : Int32))])) (fun _ k => XS.iloadN W0.here hx rfl (hb hby d6_0) rfl k) ?_
  obtain ⟨x1, T1, h1, k1, g1, W1, E1, A1, st1⟩ := own_newP W0 hx (aty := .byte) (w20 C) (g := (mkF m 1 #[vR b, .val vZ, vI (2 : Int32), .unset, .unset, .unset] [(.int (2 : Int32))])) rfl (hb hby d6_1) rfl (by decide) (cap := 2) (by decide) (nle rfl) (nle rfl) (nle rfl)
  have z2 : h0.size ≤ h1.size := E1.1
  have l1 : ltN x1 h1.size := A1.lt
  have V1 : Arv Z h1 x1 k1 .byte (2 : Int32) [vZ, vZ] vZ := A1.pad (pad_rep [] vZ 2)
  refine go (g' := (mkF m 3 #[vR b, .val vZ, vI (2 : Int32), .unset, .unset, .unset] [(.ref x1)])) (st1) ?_
  refine go (g' := (mkF m 9 #[vR b, .val vZ, vI (2 : Int32), vR x1, .unset, .unset] [(.int (2 : Int32)), vZ, (.ref x1), vZ, (.ref b)])) (fun _ k => XS.astoreN W1.here hx rfl (hb hby d6_3) rfl rfl (l' := #[vR b, .val vZ, vI (2 : Int32), vR x1, .unset, .unset]) rfl (XS.aloadN W1.here hx rfl (hb hby d6_4) rfl rfl (XS.iloadN W1.here hx rfl (hb hby d6_5) rfl (XS.aloadN W1.here hx rfl (hb hby d6_6) rfl rfl (XS.iconst W1.here hx rfl (hb hby d6_7) (XS.iloadN W1.here hx rfl (hb hby d6_8) rfl k)))))) ?_
  have X4 : Ext h0 h1 := own_xt (own_xr h0) E1
  have f5 := Ab.ext X4
  obtain ⟨v3, so3, vm3, T3, h3, W3, C3, q3, hso3, st3⟩ := own_static W1 hx (w21 C) (w22 C) (w18 C) (w23 C) (by decide) (rm_cmi2_1 C h1 b kb c1 c2 q1 qw r1 r2 f5 x1 k1 V1 (by omega)) (allS (own_safeB W0 X4 (by omega)) all0) (Wd := 0) (nle rfl) (nle rfl) (nle rfl) (nle rfl) (g := (mkF m 9 #[vR b, .val vZ, vI (2 : Int32), vR x1, .unset, .unset] [(.int (2 : Int32)), vZ, (.ref x1), vZ, (.ref b)])) rfl (by rw [hml]; rfl) (argsL := [(.ref b), vZ, (.ref x1), vZ, (.int (2 : Int32))]) (rest := []) (lenOf pd_3 rfl) rfl rfl (nle rfl) (hb hby d6_9)
  obtain ⟨rfl, K3⟩ := q3
  have z6 : h1.size ≤ h3.size := K3.1
  have S3_x1 : Safe Z own_EL vm3 h3 x1 := C3.safe (olt (by omega)) (own_safeB W0 X4 (by omega))
  refine go (g' := (mkF m 12 #[vR b, .val vZ, vI (2 : Int32), vR x1, .unset, .unset] [(.int (1 : Int32))])) (st3) ?_
  refine go (g' := (mkF m 23 #[vR b, .val vZ, vI (2 : Int32), vR x1, vI (1 : Int32), .unset] [(.int (2 : Int32)), vZ, (.ref b)])) (fun _ k => XS.istore W3.here hx rfl (hb hby d6_12) rfl (l' := #[vR b, .val vZ, vI (2 : Int32), vR x1, vI (1 : Int32), .unset]) rfl (XS.iload W3.here hx rfl (hb hby d6_14) rfl (XS.iloadN W3.here hx rfl (hb hby d6_16) rfl (XS.icmpNo W3.here hx rfl (hb hby d6_17) rfl (feq ((by decide) : ¬ ((1 : Int32) = (2 : Int32)))).1 (XS.aloadN W3.here hx rfl (hb hby d6_20) rfl rfl (XS.iloadN W3.here hx rfl (hb hby d6_21) rfl (XS.iloadN W3.here hx rfl (hb hby d6_22) rfl k))))))) ?_
  have X8 : Ext h0 h3 := own_xk X4 K3 (allS (by omega) all0)
  have f9 := Ab.ext X8
  obtain ⟨v7, so7, vm7, T7, h7, W7, C7, q7, hso7, st7⟩ := own_static W3 hx (w199 C) (w200 C) (w18 C) (w201 C) (by decide) (rm_tb2 C h3 b kb c1 c2 r1 r2 f9) (fun _ q => nomatch q) (Wd := 0) (nle rfl) (nle rfl) (nle rfl) (nle rfl) (g := (mkF m 23 #[vR b, .val vZ, vI (2 : Int32), vR x1, vI (1 : Int32), .unset] [(.int (2 : Int32)), vZ, (.ref b)])) rfl (by rw [hml]; rfl) (argsL := [(.ref b), vZ, (.int (2 : Int32))]) (rest := []) (lenOf pd_4 rfl) rfl rfl (nle rfl) (hb hby d6_23)
  obtain ⟨x7, k7, rfl, E7, g7, V7⟩ := q7
  have z10 : h3.size ≤ h7.size := E7.1
  have S7_x1 : Safe Z own_EL vm7 h7 x1 := C7.safe (olt (by omega)) S3_x1
  refine go (g' := (mkF m 26 #[vR b, .val vZ, vI (2 : Int32), vR x1, vI (1 : Int32), .unset] [(.ref x7)])) (st7) ?_
  refine go (g' := (mkF m 32 #[vR b, .val vZ, vI (2 : Int32), vR x1, vI (1 : Int32), vR x7] [(.int (1 : Int32)), (.ref x7)])) (fun _ k => XS.astore W7.here hx rfl (hb hby d6_26) rfl rfl (l' := #[vR b, .val vZ, vI (2 : Int32), vR x1, vI (1 : Int32), vR x7]) rfl (XS.aload W7.here hx rfl (hb hby d6_28) rfl rfl (XS.iload W7.here hx rfl (hb hby d6_30) rfl k))) ?_
  obtain ⟨v11, so11, vm11, T11, h11, W11, C11, q11, hso11, st11⟩ := own_static W7 hx (w215 C) (w216 C) (w18 C) (w217 C) (by decide) (rm_getc C h7 x7 k7 4 1 [(.int c1.toInt8.toInt32), (.int (StrChars.hi8 c1)), (.int c2.toInt8.toInt32), (.int (StrChars.hi8 c2))] (nle rfl) (by decide) (by decide) c2.toInt8.toInt32 (StrChars.hi8 c2) rfl rfl V7) (fun _ q => nomatch q) (Wd := 0) (nle rfl) (nle rfl) (nle rfl) (nle rfl) (g := (mkF m 32 #[vR b, .val vZ, vI (2 : Int32), vR x1, vI (1 : Int32), vR x7] [(.int (1 : Int32)), (.ref x7)])) rfl (by rw [hml]; rfl) (argsL := [(.ref x7), (.int (1 : Int32))]) (rest := []) (lenOf pd_5 rfl) rfl rfl (nle rfl) (hb hby d6_32)
  obtain ⟨rfl, rfl⟩ := q11
  have S11_x1 : Safe Z own_EL vm11 h7 x1 := C11.safe (olt (by omega)) S7_x1
  refine go (g' := (mkF m 35 #[vR b, .val vZ, vI (2 : Int32), vR x1, vI (1 : Int32), vR x7] [(.int (StrChars.pairCh c2.toInt8.toInt32 (StrChars.hi8 c2)))])) (st11) ?_
  rw [show (StrChars.pairCh c2.toInt8.toInt32 (StrChars.hi8 c2)) = c2 from StrChars.pair_says r2.1 r2.2]
  refine go (g' := (mkF m 56 #[vR b, .val vZ, vI (2 : Int32), vR x1, vI (1 : Int32), vR x7] [(.ref x7)])) (fun _ k => XS.sipush W11.here hx rfl (hb hby d6_35) (XS.icmpYes W11.here hx rfl (pc0 := 38) (pc' := 54) rfl (hb hby d6_38) rfl (tlt qw).2.2.1 (by decide) (by decide) (XS.aload W11.here hx rfl (hb hby d6_54) rfl rfl k))) ?_
  have X12 : Ext h0 h7 := own_xt X8 E7
  exact fin (v := some (.ref x7)) (so := []) W11 (nle rfl) (nle rfl) (⟨_, _, rfl, X12, by omega, V7⟩) (fun _ q => nomatch q) (fun q => nomatch q) (own_retA W11 hx hret rfl rfl rfl (hb hby d6_56))
theorem rm_cmx2 (C : Cx Z a0) (h0 : Heap) (b : Addr) (kb : ClassId) (c1 c2 : Int32) (hw : (255 : Int32) < c1 ∨ (255 : Int32) < c2) (r1 : ¬ c1 < 0 ∧ ¬ (65535 : Int32) < c1) (r2 : ¬ c2 < 0 ∧ ¬ (65535 : Int32) < c2) (Ab : Arv Z h0 b kb .char (2 : Int32) [(.int c1), (.int c2)] vZ) : Ct l Z a0 own_EL (⟨"java/lang/StringUTF16", "compress", "([CII)[B"⟩ : MethodName) jdk_52_method_16_code 6 (Option.some (Jvm.ClassFile.FieldType.array Jvm.ClassFile.FieldType.byte)) [] (rmm 3 2 6 40) #[(.ref b), vZ, (.int (2 : Int32))] h0 [] (fun v h so => ∃ (x : Addr) (kx : ClassId), v = some (.ref x) ∧ Ext h0 h ∧ h0.size ≤ x ∧ Arv Z h x kx .byte (4 : Int32) [(.int c1.toInt8.toInt32), (.int (StrChars.hi8 c1)), (.int c2.toInt8.toInt32), (.int (StrChars.hi8 c2))] vZ) := by
  by_cases q1 : (255 : Int32) < c1
  · exact rm_cm2_0 C h0 b kb c1 c2 q1 r1 r2 Ab
  exact rm_cm2_1 C h0 b kb c1 c2 q1 (hw.resolve_left q1) r1 r2 Ab
theorem rm_cfa2 (C : Cx Z a0) (h0 : Heap) (x : Addr) (kx : ClassId) (vs : List Value) (Vx : Arv Z h0 x kx .byte (4 : Int32) vs vZ) :
    Ct l Z a0 own_EL (⟨"java/lang/StringUTF16", "coderFromArrayLen", "([BI)B"⟩ : MethodName) jdk_52_method_15_code 2 (Option.some Jvm.ClassFile.FieldType.byte) [] (rmm 0 0 0 0) #[(.ref x), (.int (2 : Int32))] h0 [] (fun v h so => v = some (.int (1 : Int32)) ∧ h0 = h) := by
  refine own_enter (plainFor_of_name pn_0) C.ew (F0 := fun m => mkF m 0 #[vR x, vI (2 : Int32)] []) (fun m => by first | (simp [entryFrame, mkF, argsToLocals, Value.category]; done) | rfl) ?_
  intro p e s m below meth c s₁ G hx hby hml hret hnm W0 S0 go fin
  have z0 := W0.sz
  show G s₁ (mkF m 0 #[vR x, vI (2 : Int32)] [])
  refine go (g' := (mkF m 2 #[vR x, vI (2 : Int32)] [(.ref x), (.int (2 : Int32))])) (fun _ k => XS.iloadN W0.here hx rfl (hb hby d7_0) rfl (XS.aloadN W0.here hx rfl (hb hby d7_1) rfl rfl k)) ?_
  refine go (g' := (mkF m 3 #[vR x, vI (2 : Int32)] [(.int (4 : Int32)), (.int (2 : Int32))])) (own_alen W0 hx Vx (g := (mkF m 2 #[vR x, vI (2 : Int32)] [(.ref x), (.int (2 : Int32))])) rfl rfl (hb hby d7_2)) ?_
  refine go (g' := (mkF m 4 #[vR x, vI (2 : Int32)] [(.int ((2 : Int32) - (4 : Int32)))])) (fun _ k => XS.isub W0.here hx rfl (hb hby d7_3) rfl k) ?_
  rw [show ((2 : Int32) - (4 : Int32)) = (-2 : Int32) from by decide]
  refine go (g' := (mkF m 7 #[vR x, vI (2 : Int32)] [(.int (((-2 : Int32).toUInt32 >>> ((31 : Int32) &&& 31).toUInt32).toInt32))])) (fun _ k => XS.bipush W0.here hx rfl (hb hby d7_4) (XS.iushr W0.here hx rfl (hb hby d7_6) rfl k)) ?_
  rw [show (((-2 : Int32).toUInt32 >>> ((31 : Int32) &&& 31).toUInt32).toInt32) = (1 : Int32) from by decide]
  refine go (g' := (mkF m 8 #[vR x, vI (2 : Int32)] [(.int ((1 : Int32).toInt8.toInt32))])) (fun _ k => XS.i2b W0.here hx rfl (hb hby d7_7) rfl k) ?_
  rw [show ((1 : Int32).toInt8.toInt32) = (1 : Int32) from by decide]
  exact fin (v := some (.int (1 : Int32))) (so := []) W0 (nle rfl) (nle rfl) (⟨rfl, rfl⟩) (fun _ q => nomatch q) (fun q => nomatch q) (own_retI W0 hx hret (by decide) rfl (hb hby d7_8))
theorem rm_wi42 (C : Cx Z a0) (h0 : Heap) (x : Addr) (Ex : Exa Z h0 x "java/lang/String") (Fv : Fld Z h0 x "java/lang/String" "value" "[B" .null) (Fc : Fld Z h0 x "java/lang/String" "coder" "B" vZ) (nx : Z.heap.size ≤ x) (b : Addr) (kb : ClassId) (c1 c2 : Int32) (hw : (255 : Int32) < c1 ∨ (255 : Int32) < c2) (r1 : ¬ c1 < 0 ∧ ¬ (65535 : Int32) < c1) (r2 : ¬ c2 < 0 ∧ ¬ (65535 : Int32) < c2) (Ab : Arv Z h0 b kb .char (2 : Int32) [(.int c1), (.int c2)] vZ) :
    Ct l Z a0 own_EL (⟨"java/lang/String", "<init>", "([CIILjava/lang/Void;)V"⟩ : MethodName) jdk_42_method_149_code 6 (Option.none : Option Jvm.ClassFile.FieldType) [] (rmm 4 2 6 57) #[(.ref x), (.ref b), vZ, (.int (2 : Int32)), .null] h0 [x] (fun v h so => v = none ∧ Keep h0 h [x] ∧ StrW Z h x [c1, c2]) := by
  refine own_enter (plainFor_of_name pn_1) C.ew (F0 := fun m => mkF m 0 #[vR x, vR b, .val vZ, vI (2 : Int32), .val .null, .unset] []) (fun m => by first | (simp [entryFrame, mkF, argsToLocals, Value.category]; done) | rfl) ?_
  intro p e s m below meth c s₁ G hx hby hml hret hnm W0 S0 go fin
  have z0 := W0.sz
  show G s₁ (mkF m 0 #[vR x, vR b, .val vZ, vI (2 : Int32), .val .null, .unset] [])
  have lx : ltN x h0.size := Ex.lt
  have lb : ltN b h0.size := Ab.lt
  have nbx : b ≠ x := Ne.symm (Exa.neArv Ex Ab (w2 C))
  refine go (g' := (mkF m 1 #[vR x, vR b, .val vZ, vI (2 : Int32), .val .null, .unset] [(.ref x)])) (fun _ k => XS.aloadN W0.here hx rfl (hb hby d8_0) rfl rfl k) ?_
  obtain ⟨T1, W1, st1⟩ := own_initO W0 hx (w12 C) (w13 C) (w14 C) (g := (mkF m 1 #[vR x, vR b, .val vZ, vI (2 : Int32), .val .null, .unset] [(.ref x)])) rfl (by rw [hml]; rfl) rfl (hb hby d8_1) (nle rfl) (Wd := 0) (nle rfl) (nle rfl)
  refine go (g' := (mkF m 4 #[vR x, vR b, .val vZ, vI (2 : Int32), .val .null, .unset] [])) (st1) ?_
  refine go (g' := (mkF m 27 #[vR x, vR b, .val vZ, vI (2 : Int32), .val .null, .unset] [])) (fun _ k => XS.iloadN W1.here hx rfl (hb hby d8_4) rfl (XS.ifYes W1.here hx rfl (pc0 := 5) (pc' := 27) rfl (hb hby d8_5) rfl ((if0 _ _).trans (feq ((by decide) : ¬ ((2 : Int32) = (0 : Int32)))).2) (by decide) (by decide) k)) ?_
  obtain ⟨gCS, OCS, nCS⟩ := C.cs
  obtain ⟨T2, W2, st2⟩ := own_getS W1 hx (host := "") (Or.inl (w15 C)) Via.refl OCS (g := (mkF m 27 #[vR x, vR b, .val vZ, vI (2 : Int32), .val .null, .unset] [])) rfl (hb hby d8_27)
  refine go (g' := (mkF m 30 #[vR x, vR b, .val vZ, vI (2 : Int32), .val .null, .unset] [(.int gCS)])) (st2) ?_
  refine go (g' := (mkF m 36 #[vR x, vR b, .val vZ, vI (2 : Int32), .val .null, .unset] [(.int (2 : Int32)), vZ, (.ref b)])) (fun _ k => XS.ifNo W2.here hx rfl (hb hby d8_30) rfl ((if0 _ _).trans (feq nCS).1) (XS.aloadN W2.here hx rfl (hb hby d8_33) rfl rfl (XS.iloadN W2.here hx rfl (hb hby d8_34) rfl (XS.iloadN W2.here hx rfl (hb hby d8_35) rfl k)))) ?_
  obtain ⟨v3, so3, vm3, T3, h3, W3, C3, q3, hso3, st3⟩ := own_static W2 hx (w16 C) (w17 C) (w18 C) (w19 C) (by decide) (rm_cmx2 C h0 b kb c1 c2 hw r1 r2 Ab) (fun _ q => nomatch q) (Wd := 0) (nle rfl) (nle rfl) (nle rfl) (nle rfl) (g := (mkF m 36 #[vR x, vR b, .val vZ, vI (2 : Int32), .val .null, .unset] [(.int (2 : Int32)), vZ, (.ref b)])) rfl (by rw [hml]; rfl) (argsL := [(.ref b), vZ, (.int (2 : Int32))]) (rest := []) (lenOf pd_4 rfl) rfl rfl (nle rfl) (hb hby d8_36)
  obtain ⟨x3, k3, rfl, E3, g3, V3⟩ := q3
  have z4 : h0.size ≤ h3.size := E3.1
  have S3_x : Safe Z own_EL vm3 h3 x := C3.safe (olt (by omega)) (S0 _ (own_mi (i := 0) rfl))
  refine go (g' := (mkF m 39 #[vR x, vR b, .val vZ, vI (2 : Int32), .val .null, .unset] [(.ref x3)])) (st3) ?_
  refine go (g' := (mkF m 45 #[vR x, vR b, .val vZ, vI (2 : Int32), .val .null, vR x3] [(.int (2 : Int32)), (.ref x3), (.ref x)])) (fun _ k => XS.astore W3.here hx rfl (hb hby d8_39) rfl rfl (l' := #[vR x, vR b, .val vZ, vI (2 : Int32), .val .null, vR x3]) rfl (XS.aloadN W3.here hx rfl (hb hby d8_41) rfl rfl (XS.aload W3.here hx rfl (hb hby d8_42) rfl rfl (XS.iloadN W3.here hx rfl (hb hby d8_44) rfl k)))) ?_
  obtain ⟨v5, so5, vm5, T5, h5, W5, C5, q5, hso5, st5⟩ := own_static W3 hx (w24 C) (w25 C) (w18 C) (w26 C) (by decide) (rm_cfa2 C h3 x3 k3 _ V3) (fun _ q => nomatch q) (Wd := 1) (nle rfl) (nle rfl) (nle rfl) (nle rfl) (g := (mkF m 45 #[vR x, vR b, .val vZ, vI (2 : Int32), .val .null, vR x3] [(.int (2 : Int32)), (.ref x3), (.ref x)])) rfl (by rw [hml]; rfl) (argsL := [(.ref x3), (.int (2 : Int32))]) (rest := [(.ref x)]) (lenOf pd_6 rfl) rfl rfl (nle rfl) (hb hby d8_45)
  obtain ⟨rfl, rfl⟩ := q5
  have S5_x : Safe Z own_EL vm5 h3 x := C5.safe (olt (by omega)) S3_x
  refine go (g' := (mkF m 48 #[vR x, vR b, .val vZ, vI (2 : Int32), .val .null, vR x3] [(.int (1 : Int32)), (.ref x)])) (st5) ?_
  have X6 : Ext h0 h3 := own_xt (own_xr h0) E3
  have f7 := Fc.ext X6
  have f8 := Ex.ext X6
  obtain ⟨T9, h9, W9, R9, F9, st9⟩ := own_put W5 hx (host := "") (Or.inl (w27 C)) Via.refl f7 f8 (Or.inr ⟨(w28 C), rfl, hnm⟩) (w2 C) (ty := .byte) (by decide) rfl (by decide) S5_x (by omega) (g := (mkF m 48 #[vR x, vR b, .val vZ, vI (2 : Int32), .val .null, vR x3] [(.int (1 : Int32)), (.ref x)])) rfl rfl (hb hby d8_48)
  have f10 := Fv.ext X6
  have z11 : h9.size = h3.size := R9.size
  have f12 := f8.wr R9
  have f13 := f10.other R9 (Or.inr (slot_ne (Or.inr (w30 C)) (Or.inr (w28 C)) (by decide) (t := (.array .byte)) (t' := .byte) (by decide) (by decide)))
  have S9 : Safe Z own_EL vm5 h9 x := Safe.wr R9 S5_x W5.ch S5_x
  refine go (g' := (mkF m 51 #[vR x, vR b, .val vZ, vI (2 : Int32), .val .null, vR x3] [])) (st9) ?_
  refine go (g' := (mkF m 54 #[vR x, vR b, .val vZ, vI (2 : Int32), .val .null, vR x3] [(.ref x3), (.ref x)])) (fun _ k => XS.aloadN W9.here hx rfl (hb hby d8_51) rfl rfl (XS.aload W9.here hx rfl (hb hby d8_52) rfl rfl k)) ?_
  obtain ⟨T14, h14, W14, R14, F14, st14⟩ := own_put W9 hx (host := "") (Or.inl (w29 C)) Via.refl f13 f12 (Or.inr ⟨(w30 C), rfl, hnm⟩) (w2 C) (ty := (.array .byte)) (by decide) rfl rfl S9 (by omega) (g := (mkF m 54 #[vR x, vR b, .val vZ, vI (2 : Int32), .val .null, vR x3] [(.ref x3), (.ref x)])) rfl rfl (hb hby d8_54)
  have z15 : h14.size = h9.size := R14.size
  have f16 := f12.wr R14
  have f17 := F9.other R14 (Or.inr (slot_ne (Or.inr (w28 C)) (Or.inr (w30 C)) (by decide) (t := .byte) (t' := (.array .byte)) (by decide) (by decide)))
  have S14 : Safe Z own_EL vm5 h14 x := Safe.wr R14 S9 W9.ch S9
  refine go (g' := (mkF m 57 #[vR x, vR b, .val vZ, vI (2 : Int32), .val .null, vR x3] [])) (st14) ?_
  have KK18 : Keep h0 h14 [x] := ((((Keep.refl h0 [x]).ext E3).wr R9 (Or.inl (own_mi (i := 0) rfl))).wr R14 (Or.inl (own_mi (i := 0) rfl)))
  have l20 : ltN x3 h3.size := V3.lt
  have f19 := V3.other R9 (one (by omega))
  have l22 : ltN x3 h3.size := V3.lt
  have f21 := f19.other R14 (one (by omega))
  exact fin (v := none) (so := []) W14 (nle rfl) (nle rfl) (⟨rfl, KK18, f16, f17, (own_alS r1 (own_alS r2 own_al0)), _, _, F14, f21⟩) (fun _ q => nomatch q) (fun _ => rfl) (own_retV W14 hx hret (hb hby d8_57))
theorem rm_wi2 (C : Cx Z a0) (h0 : Heap) (x : Addr) (Ex : Exa Z h0 x "java/lang/String") (Fv : Fld Z h0 x "java/lang/String" "value" "[B" .null) (Fc : Fld Z h0 x "java/lang/String" "coder" "B" vZ) (nx : Z.heap.size ≤ x) (b : Addr) (kb : ClassId) (c1 c2 : Int32) (hw : (255 : Int32) < c1 ∨ (255 : Int32) < c2) (r1 : ¬ c1 < 0 ∧ ¬ (65535 : Int32) < c1) (r2 : ¬ c2 < 0 ∧ ¬ (65535 : Int32) < c2) (Ab : Arv Z h0 b kb .char (2 : Int32) [(.int c1), (.int c2)] vZ) :
    Ct l Z a0 own_EL (⟨"java/lang/String", "<init>", "([C)V"⟩ : MethodName) jdk_42_method_3_code 2 (Option.none : Option Jvm.ClassFile.FieldType) [] (rmm 5 2 6 74) #[(.ref x), (.ref b)] h0 [x] (fun v h so => v = none ∧ Keep h0 h [x] ∧ StrW Z h x [c1, c2]) := by
  refine own_enter (plainFor_of_name pn_1) C.ew (F0 := fun m => mkF m 0 #[vR x, vR b] []) (fun m => by first | (simp [entryFrame, mkF, argsToLocals, Value.category]; done) | rfl) ?_
  intro p e s m below meth c s₁ G hx hby hml hret hnm W0 S0 go fin
  have z0 := W0.sz
  show G s₁ (mkF m 0 #[vR x, vR b] [])
  have lx : ltN x h0.size := Ex.lt
  have lb : ltN b h0.size := Ab.lt
  have nbx : b ≠ x := Ne.symm (Exa.neArv Ex Ab (w2 C))
  refine go (g' := (mkF m 4 #[vR x, vR b] [(.ref b), vZ, (.ref b), (.ref x)])) (fun _ k => XS.aloadN W0.here hx rfl (hb hby d9_0) rfl rfl (XS.aloadN W0.here hx rfl (hb hby d9_1) rfl rfl (XS.iconst W0.here hx rfl (hb hby d9_2) (XS.aloadN W0.here hx rfl (hb hby d9_3) rfl rfl k)))) ?_
  refine go (g' := (mkF m 5 #[vR x, vR b] [(.int (2 : Int32)), vZ, (.ref b), (.ref x)])) (own_alen W0 hx Ab (g := (mkF m 4 #[vR x, vR b] [(.ref b), vZ, (.ref b), (.ref x)])) rfl rfl (hb hby d9_4)) ?_
  refine go (g' := (mkF m 6 #[vR x, vR b] [.null, (.int (2 : Int32)), vZ, (.ref b), (.ref x)])) (fun _ k => XS.aconstNull W0.here hx rfl (hb hby d9_5) k) ?_
  obtain ⟨v1, so1, vm1, T1, h1, W1, C1, q1, hso1, st1⟩ := own_special W0 hx (y := (⟨"java/lang/String", "<init>", "([CIILjava/lang/Void;)V"⟩ : MethodName)) rfl (w8 C) (w9 C) (w3 C) (w11 C) (by decide) (rm_wi42 C h0 x Ex Fv Fc (by omega) b kb c1 c2 hw r1 r2 Ab) (allS (S0 _ (own_mi (i := 0) rfl)) all0) (Wd := 0) (nle rfl) (nle rfl) (nle rfl) (nle rfl) (g := (mkF m 6 #[vR x, vR b] [.null, (.int (2 : Int32)), vZ, (.ref b), (.ref x)])) rfl (by rw [hml]; rfl) (a := x) (argsL := [(.ref b), vZ, (.int (2 : Int32)), .null]) (rest := []) (lenOf pd_7 rfl) rfl rfl (nle rfl) (hb hby d9_6)
  obtain ⟨rfl, K1, S1⟩ := q1
  have z2 : h0.size ≤ h1.size := K1.1
  have S1_x : Safe Z own_EL vm1 h1 x := C1.safe (olt (by omega)) (S0 _ (own_mi (i := 0) rfl))
  refine go (g' := (mkF m 9 #[vR x, vR b] [])) (st1) ?_
  have KK3 : Keep h0 h1 [x] := ((Keep.refl h0 [x]).trans K1 (allS (Or.inl (own_mi (i := 0) rfl)) all0))
  exact fin (v := none) (so := []) W1 (nle rfl) (nle rfl) (⟨rfl, KK3, S1⟩) (fun _ q => nomatch q) (fun _ => rfl) (own_retV W1 hx hret (hb hby d9_9))
theorem rm_nbl3 (C : Cx Z a0) (h0 : Heap) :
    Ct l Z a0 own_EL (⟨"java/lang/StringUTF16", "newBytesLength", "(I)I"⟩ : MethodName) jdk_52_method_3_code 1 (Option.some Jvm.ClassFile.FieldType.int) [] (rmm 0 0 0 0) #[(.int (3 : Int32))] h0 [] (fun v h so => v = some (.int (6 : Int32)) ∧ h0 = h) := by
  refine own_enter (plainFor_of_name pn_0) C.ew (F0 := fun m => mkF m 0 #[vI (3 : Int32)] []) (fun m => by first | (simp [entryFrame, mkF, argsToLocals, Value.category]; done) | rfl) ?_
  intro p e s m below meth c s₁ G hx hby hml hret hnm W0 S0 go fin
  have z0 := W0.sz
  show G s₁ (mkF m 0 #[vI (3 : Int32)] [])
  refine go (g' := (mkF m 13 #[vI (3 : Int32)] [(.int (3 : Int32))])) (fun _ k => XS.iloadN W0.here hx rfl (hb hby d2_0) rfl (XS.ifYes W0.here hx rfl (pc0 := 1) (pc' := 12) rfl (hb hby d2_1) rfl ((if0 _ _).trans (flt ((by decide) : ¬ ((3 : Int32) < (0 : Int32)))).2.1) (by decide) (by decide) (XS.iloadN W0.here hx rfl (hb hby d2_12) rfl k))) ?_
  refine go (g' := (mkF m 15 #[vI (3 : Int32)] [(.int (1073741823 : Int32)), (.int (3 : Int32))])) (own_ldcI W0 hx (w208 C) (g := (mkF m 13 #[vI (3 : Int32)] [(.int (3 : Int32))])) rfl (hb hby d2_13)) ?_
  refine go (g' := (mkF m 58 #[vI (3 : Int32)] [(.int ((3 : Int32) <<< ((1 : Int32) &&& 31)))])) (fun _ k => XS.icmpYes W0.here hx rfl (pc0 := 15) (pc' := 55) rfl (hb hby d2_15) rfl (tlt ((by decide) : (3 : Int32) < (1073741823 : Int32))).1 (by decide) (by decide) (XS.iloadN W0.here hx rfl (hb hby d2_55) rfl (XS.iconst W0.here hx rfl (hb hby d2_56) (XS.ishl W0.here hx rfl (hb hby d2_57) rfl k)))) ?_
  rw [show ((3 : Int32) <<< ((1 : Int32) &&& 31)) = (6 : Int32) from by decide]
  exact fin (v := some (.int (6 : Int32))) (so := []) W0 (nle rfl) (nle rfl) (⟨rfl, rfl⟩) (fun _ q => nomatch q) (fun q => nomatch q) (own_retI W0 hx hret (by decide) rfl (hb hby d2_58))
theorem rm_nbf3 (C : Cx Z a0) (h0 : Heap) :
    Ct l Z a0 own_EL (⟨"java/lang/StringUTF16", "newBytesFor", "(I)[B"⟩ : MethodName) jdk_52_method_2_code 1 (Option.some (Jvm.ClassFile.FieldType.array Jvm.ClassFile.FieldType.byte)) [] (rmm 1 1 6 12) #[(.int (3 : Int32))] h0 [] (fun v h so => ∃ (x : Addr) (kx : ClassId), so = [x] ∧ v = some (.ref x) ∧ Ext h0 h ∧ h0.size ≤ x ∧ Arv Z h x kx .byte (6 : Int32) [vZ, vZ, vZ, vZ, vZ, vZ] vZ) := by
  refine own_enter (plainFor_of_name pn_0) C.ew (F0 := fun m => mkF m 0 #[vI (3 : Int32)] []) (fun m => by first | (simp [entryFrame, mkF, argsToLocals, Value.category]; done) | rfl) ?_
  intro p e s m below meth c s₁ G hx hby hml hret hnm W0 S0 go fin
  have z0 := W0.sz
  show G s₁ (mkF m 0 #[vI (3 : Int32)] [])
  refine go (g' := (mkF m 1 #[vI (3 : Int32)] [(.int (3 : Int32))])) (fun _ k => XS.iloadN W0.here hx rfl (hb hby d3_0) rfl k) ?_
  obtain ⟨v1, so1, vm1, T1, h1, W1, C1, q1, hso1, st1⟩ := own_static W0 hx (w205 C) (w206 C) (w18 C) (w207 C) (by decide) (rm_nbl3 C h0) (fun _ q => nomatch q) (Wd := 0) (nle rfl) (nle rfl) (nle rfl) (nle rfl) (g := (mkF m 1 #[vI (3 : Int32)] [(.int (3 : Int32))])) rfl (by rw [hml]; rfl) (argsL := [(.int (3 : Int32))]) (rest := []) (lenOf pd_0 rfl) rfl rfl (nle rfl) (hb hby d3_1)
  obtain ⟨rfl, rfl⟩ := q1
  refine go (g' := (mkF m 4 #[vI (3 : Int32)] [(.int (6 : Int32))])) (st1) ?_
  obtain ⟨x2, T2, h2, k2, g2, W2, E2, A2, st2⟩ := own_newP W1 hx (aty := .byte) (w20 C) (g := (mkF m 4 #[vI (3 : Int32)] [(.int (6 : Int32))])) rfl (hb hby d3_4) rfl (by decide) (cap := 6) (by decide) (nle rfl) (nle rfl) (nle rfl)
  have z3 : h0.size ≤ h2.size := E2.1
  have l2 : ltN x2 h2.size := A2.lt
  have V2 : Arv Z h2 x2 k2 .byte (6 : Int32) [vZ, vZ, vZ, vZ, vZ, vZ] vZ := A2.pad (pad_rep [] vZ 6)
  refine go (g' := (mkF m 6 #[vI (3 : Int32)] [(.ref x2)])) (st2) ?_
  have X4 : Ext h0 h2 := own_xt (own_xr h0) E2
  exact fin (v := some (.ref x2)) (so := [x2]) W2 (nle rfl) (nle rfl) (⟨_, _, rfl, rfl, X4, by omega, V2⟩) (allS (own_safeB W1 X4 (by omega)) all0) (fun q => nomatch q) (own_retA W2 hx hret rfl rfl rfl (hb hby d3_6))
theorem rm_tb3 (C : Cx Z a0) (h0 : Heap) (b : Addr) (kb : ClassId) (c1 c2 c3 : Int32) (r1 : ¬ c1 < 0 ∧ ¬ (65535 : Int32) < c1) (r2 : ¬ c2 < 0 ∧ ¬ (65535 : Int32) < c2) (r3 : ¬ c3 < 0 ∧ ¬ (65535 : Int32) < c3) (Ab : Arv Z h0 b kb .char (3 : Int32) [(.int c1), (.int c2), (.int c3)] vZ) :
    Ct l Z a0 own_EL (⟨"java/lang/StringUTF16", "toBytes", "([CII)[B"⟩ : MethodName) jdk_52_method_14_code 5 (Option.some (Jvm.ClassFile.FieldType.array Jvm.ClassFile.FieldType.byte)) [] (rmm 2 1 6 24) #[(.ref b), vZ, (.int (3 : Int32))] h0 [] (fun v h so => ∃ (x : Addr) (kx : ClassId), v = some (.ref x) ∧ Ext h0 h ∧ h0.size ≤ x ∧ Arv Z h x kx .byte (6 : Int32) [(.int c1.toInt8.toInt32), (.int (StrChars.hi8 c1)), (.int c2.toInt8.toInt32), (.int (StrChars.hi8 c2)), (.int c3.toInt8.toInt32), (.int (StrChars.hi8 c3))] vZ) := by
  refine own_enter (plainFor_of_name pn_0) C.ew (F0 := fun m => mkF m 0 #[vR b, .val vZ, vI (3 : Int32), .unset, .unset] []) (fun m => by first | (simp [entryFrame, mkF, argsToLocals, Value.category]; done) | rfl) ?_
  intro p e s m below meth c s₁ G hx hby hml hret hnm W0 S0 go fin
  have z0 := W0.sz
  show G s₁ (mkF m 0 #[vR b, .val vZ, vI (3 : Int32), .unset, .unset] [])
  have lb : ltN b h0.size := Ab.lt
  refine go (g' := (mkF m 1 #[vR b, .val vZ, vI (3 : Int32), .unset, .unset] [(.int (3 : Int32))])) (fun _ k => XS.iloadN W0.here hx rfl (hb hby d4_0) rfl k) ?_
  obtain ⟨v1, so1, vm1, T1, h1, W1, C1, q1, hso1, st1⟩ := own_static W0 hx (w202 C) (w203 C) (w18 C) (w204 C) (by decide) (rm_nbf3 C h0) (fun _ q => nomatch q) (Wd := 0) (nle rfl) (nle rfl) (nle rfl) (nle rfl) (g := (mkF m 1 #[vR b, .val vZ, vI (3 : Int32), .unset, .unset] [(.int (3 : Int32))])) rfl (by rw [hml]; rfl) (argsL := [(.int (3 : Int32))]) (rest := []) (lenOf pd_1 rfl) rfl rfl (nle rfl) (hb hby d4_1)
  obtain ⟨x1, k1, rfl, rfl, E1, g1, V1⟩ := q1
  have z2 : h0.size ≤ h1.size := E1.1
  have l1 : ltN x1 h1.size := V1.lt
  refine go (g' := (mkF m 4 #[vR b, .val vZ, vI (3 : Int32), .unset, .unset] [(.ref x1)])) (st1) ?_
  refine go (g' := (mkF m 17 #[vR b, .val vZ, vI (3 : Int32), vR x1, .val vZ] [vZ, (.ref x1)])) (fun _ k => XS.astoreN W1.here hx rfl (hb hby d4_4) rfl rfl (l' := #[vR b, .val vZ, vI (3 : Int32), vR x1, .unset]) rfl (XS.iconst W1.here hx rfl (hb hby d4_5) (XS.istore W1.here hx rfl (hb hby d4_6) rfl (l' := #[vR b, .val vZ, vI (3 : Int32), vR x1, .val vZ]) rfl (XS.iload W1.here hx rfl (hb hby d4_8) rfl (XS.iloadN W1.here hx rfl (hb hby d4_10) rfl (XS.icmpNo W1.here hx rfl (hb hby d4_11) rfl (tlt ((by decide) : (0 : Int32) < (3 : Int32))).2.1 (XS.aloadN W1.here hx rfl (hb hby d4_14) rfl rfl (XS.iload W1.here hx rfl (hb hby d4_15) rfl k)))))))) ?_
  refine go (g' := (mkF m 19 #[vR b, .val vZ, vI (3 : Int32), vR x1, .val vZ] [vZ, (.ref b), vZ, (.ref x1)])) (fun _ k => XS.aloadN W1.here hx rfl (hb hby d4_17) rfl rfl (XS.iloadN W1.here hx rfl (hb hby d4_18) rfl k)) ?_
  have X3 : Ext h0 h1 := own_xt (own_xr h0) E1
  have f4 := Ab.ext X3
  refine go (g' := (mkF m 20 #[vR b, .val vZ, vI (3 : Int32), vR x1, .val vZ] [(.int c1), vZ, (.ref x1)])) (own_cal W1 hx f4 (j := (0 : Int32)) ⟨by decide, by decide⟩ rfl (g := (mkF m 19 #[vR b, .val vZ, vI (3 : Int32), vR x1, .val vZ] [vZ, (.ref b), vZ, (.ref x1)])) rfl rfl (hb hby d4_19)) ?_
  obtain ⟨v5, so5, vm5, T5, h5, W5, C5, q5, hso5, st5⟩ := own_static W1 hx (w209 C) (w210 C) (w18 C) (w211 C) (by decide) (rm_putc C h1 x1 k1 6 0 [vZ, vZ, vZ, vZ, vZ, vZ] (nle rfl) (by decide) (by decide) c1 V1 (by omega)) (allS (hso1 _ (own_mi (i := 0) rfl)) all0) (Wd := 0) (nle rfl) (nle rfl) (nle rfl) (nle rfl) (g := (mkF m 20 #[vR b, .val vZ, vI (3 : Int32), vR x1, .val vZ] [(.int c1), vZ, (.ref x1)])) rfl (by rw [hml]; rfl) (argsL := [(.ref x1), vZ, (.int c1)]) (rest := []) (lenOf pd_2 rfl) rfl rfl (nle rfl) (hb hby d4_20)
  obtain ⟨rfl, K5, V5⟩ := q5
  have z6 : h1.size ≤ h5.size := K5.1
  have S5_x1 : Safe Z own_EL vm5 h5 x1 := C5.safe (olt (by omega)) (hso1 _ (own_mi (i := 0) rfl))
  have U5 : Arv Z h5 x1 k1 .byte (6 : Int32) [(.int c1.toInt8.toInt32), (.int (StrChars.hi8 c1)), vZ, vZ, vZ, vZ] vZ := V5
  refine go (g' := (mkF m 23 #[vR b, .val vZ, vI (3 : Int32), vR x1, .val vZ] [])) (st5) ?_
  refine go (g' := (mkF m 26 #[vR b, vI ((0 : Int32) + (1 : Int32)), vI (3 : Int32), vR x1, .val vZ] [])) (fun _ k => XS.iinc W5.here hx rfl (hb hby d4_23) rfl (l' := #[vR b, vI ((0 : Int32) + (1 : Int32)), vI (3 : Int32), vR x1, .val vZ]) rfl k) ?_
  rw [show ((0 : Int32) + (1 : Int32)) = (1 : Int32) from by decide]
  refine go (g' := (mkF m 29 #[vR b, vI (1 : Int32), vI (3 : Int32), vR x1, vI ((0 : Int32) + (1 : Int32))] [])) (fun _ k => XS.iinc W5.here hx rfl (hb hby d4_26) rfl (l' := #[vR b, vI (1 : Int32), vI (3 : Int32), vR x1, vI ((0 : Int32) + (1 : Int32))]) rfl k) ?_
  rw [show ((0 : Int32) + (1 : Int32)) = (1 : Int32) from by decide]
  refine go (g' := (mkF m 19 #[vR b, vI (1 : Int32), vI (3 : Int32), vR x1, vI (1 : Int32)] [(.int (1 : Int32)), (.ref b), (.int (1 : Int32)), (.ref x1)])) (fun _ k => XS.goto W5.here hx rfl (pc0 := 29) (pc' := 8) rfl (hb hby d4_29) (by decide) (by decide) (XS.iload W5.here hx rfl (hb hby d4_8) rfl (XS.iloadN W5.here hx rfl (hb hby d4_10) rfl (XS.icmpNo W5.here hx rfl (hb hby d4_11) rfl (tlt ((by decide) : (1 : Int32) < (3 : Int32))).2.1 (XS.aloadN W5.here hx rfl (hb hby d4_14) rfl rfl (XS.iload W5.here hx rfl (hb hby d4_15) rfl (XS.aloadN W5.here hx rfl (hb hby d4_17) rfl rfl (XS.iloadN W5.here hx rfl (hb hby d4_18) rfl k)))))))) ?_
  have X7 : Ext h0 h5 := own_xk X3 K5 (allS (by omega) all0)
  have f8 := Ab.ext X7
  refine go (g' := (mkF m 20 #[vR b, vI (1 : Int32), vI (3 : Int32), vR x1, vI (1 : Int32)] [(.int c2), (.int (1 : Int32)), (.ref x1)])) (own_cal W5 hx f8 (j := (1 : Int32)) ⟨by decide, by decide⟩ rfl (g := (mkF m 19 #[vR b, vI (1 : Int32), vI (3 : Int32), vR x1, vI (1 : Int32)] [(.int (1 : Int32)), (.ref b), (.int (1 : Int32)), (.ref x1)])) rfl rfl (hb hby d4_19)) ?_
  obtain ⟨v9, so9, vm9, T9, h9, W9, C9, q9, hso9, st9⟩ := own_static W5 hx (w209 C) (w210 C) (w18 C) (w211 C) (by decide) (rm_putc C h5 x1 k1 6 1 [(.int c1.toInt8.toInt32), (.int (StrChars.hi8 c1)), vZ, vZ, vZ, vZ] (nle rfl) (by decide) (by decide) c2 U5 (by omega)) (allS S5_x1 all0) (Wd := 0) (nle rfl) (nle rfl) (nle rfl) (nle rfl) (g := (mkF m 20 #[vR b, vI (1 : Int32), vI (3 : Int32), vR x1, vI (1 : Int32)] [(.int c2), (.int (1 : Int32)), (.ref x1)])) rfl (by rw [hml]; rfl) (argsL := [(.ref x1), (.int (1 : Int32)), (.int c2)]) (rest := []) (lenOf pd_2 rfl) rfl rfl (nle rfl) (hb hby d4_20)
  obtain ⟨rfl, K9, V9⟩ := q9
  have z10 : h5.size ≤ h9.size := K9.1
  have S9_x1 : Safe Z own_EL vm9 h9 x1 := C9.safe (olt (by omega)) S5_x1
  have U9 : Arv Z h9 x1 k1 .byte (6 : Int32) [(.int c1.toInt8.toInt32), (.int (StrChars.hi8 c1)), (.int c2.toInt8.toInt32), (.int (StrChars.hi8 c2)), vZ, vZ] vZ := V9
  refine go (g' := (mkF m 23 #[vR b, vI (1 : Int32), vI (3 : Int32), vR x1, vI (1 : Int32)] [])) (st9) ?_
  refine go (g' := (mkF m 26 #[vR b, vI ((1 : Int32) + (1 : Int32)), vI (3 : Int32), vR x1, vI (1 : Int32)] [])) (fun _ k => XS.iinc W9.here hx rfl (hb hby d4_23) rfl (l' := #[vR b, vI ((1 : Int32) + (1 : Int32)), vI (3 : Int32), vR x1, vI (1 : Int32)]) rfl k) ?_
  rw [show ((1 : Int32) + (1 : Int32)) = (2 : Int32) from by decide]
  refine go (g' := (mkF m 29 #[vR b, vI (2 : Int32), vI (3 : Int32), vR x1, vI ((1 : Int32) + (1 : Int32))] [])) (fun _ k => XS.iinc W9.here hx rfl (hb hby d4_26) rfl (l' := #[vR b, vI (2 : Int32), vI (3 : Int32), vR x1, vI ((1 : Int32) + (1 : Int32))]) rfl k) ?_
  rw [show ((1 : Int32) + (1 : Int32)) = (2 : Int32) from by decide]
  refine go (g' := (mkF m 19 #[vR b, vI (2 : Int32), vI (3 : Int32), vR x1, vI (2 : Int32)] [(.int (2 : Int32)), (.ref b), (.int (2 : Int32)), (.ref x1)])) (fun _ k => XS.goto W9.here hx rfl (pc0 := 29) (pc' := 8) rfl (hb hby d4_29) (by decide) (by decide) (XS.iload W9.here hx rfl (hb hby d4_8) rfl (XS.iloadN W9.here hx rfl (hb hby d4_10) rfl (XS.icmpNo W9.here hx rfl (hb hby d4_11) rfl (tlt ((by decide) : (2 : Int32) < (3 : Int32))).2.1 (XS.aloadN W9.here hx rfl (hb hby d4_14) rfl rfl (XS.iload W9.here hx rfl (hb hby d4_15) rfl (XS.aloadN W9.here hx rfl (hb hby d4_17) rfl rfl (XS.iloadN W9.here hx rfl (hb hby d4_18) rfl k)))))))) ?_
  have X11 : Ext h0 h9 := own_xk X7 K9 (allS (by omega) all0)
  have f12 := Ab.ext X11
  refine go (g' := (mkF m 20 #[vR b, vI (2 : Int32), vI (3 : Int32), vR x1, vI (2 : Int32)] [(.int c3), (.int (2 : Int32)), (.ref x1)])) (own_cal W9 hx f12 (j := (2 : Int32)) ⟨by decide, by decide⟩ rfl (g := (mkF m 19 #[vR b, vI (2 : Int32), vI (3 : Int32), vR x1, vI (2 : Int32)] [(.int (2 : Int32)), (.ref b), (.int (2 : Int32)), (.ref x1)])) rfl rfl (hb hby d4_19)) ?_
  obtain ⟨v13, so13, vm13, T13, h13, W13, C13, q13, hso13, st13⟩ := own_static W9 hx (w209 C) (w210 C) (w18 C) (w211 C) (by decide) (rm_putc C h9 x1 k1 6 2 [(.int c1.toInt8.toInt32), (.int (StrChars.hi8 c1)), (.int c2.toInt8.toInt32), (.int (StrChars.hi8 c2)), vZ, vZ] (nle rfl) (by decide) (by decide) c3 U9 (by omega)) (allS S9_x1 all0) (Wd := 0) (nle rfl) (nle rfl) (nle rfl) (nle rfl) (g := (mkF m 20 #[vR b, vI (2 : Int32), vI (3 : Int32), vR x1, vI (2 : Int32)] [(.int c3), (.int (2 : Int32)), (.ref x1)])) rfl (by rw [hml]; rfl) (argsL := [(.ref x1), (.int (2 : Int32)), (.int c3)]) (rest := []) (lenOf pd_2 rfl) rfl rfl (nle rfl) (hb hby d4_20)
  obtain ⟨rfl, K13, V13⟩ := q13
  have z14 : h9.size ≤ h13.size := K13.1
  have S13_x1 : Safe Z own_EL vm13 h13 x1 := C13.safe (olt (by omega)) S9_x1
  have U13 : Arv Z h13 x1 k1 .byte (6 : Int32) [(.int c1.toInt8.toInt32), (.int (StrChars.hi8 c1)), (.int c2.toInt8.toInt32), (.int (StrChars.hi8 c2)), (.int c3.toInt8.toInt32), (.int (StrChars.hi8 c3))] vZ := V13
  refine go (g' := (mkF m 23 #[vR b, vI (2 : Int32), vI (3 : Int32), vR x1, vI (2 : Int32)] [])) (st13) ?_
  refine go (g' := (mkF m 26 #[vR b, vI ((2 : Int32) + (1 : Int32)), vI (3 : Int32), vR x1, vI (2 : Int32)] [])) (fun _ k => XS.iinc W13.here hx rfl (hb hby d4_23) rfl (l' := #[vR b, vI ((2 : Int32) + (1 : Int32)), vI (3 : Int32), vR x1, vI (2 : Int32)]) rfl k) ?_
  rw [show ((2 : Int32) + (1 : Int32)) = (3 : Int32) from by decide]
  refine go (g' := (mkF m 29 #[vR b, vI (3 : Int32), vI (3 : Int32), vR x1, vI ((2 : Int32) + (1 : Int32))] [])) (fun _ k => XS.iinc W13.here hx rfl (hb hby d4_26) rfl (l' := #[vR b, vI (3 : Int32), vI (3 : Int32), vR x1, vI ((2 : Int32) + (1 : Int32))]) rfl k) ?_
  rw [show ((2 : Int32) + (1 : Int32)) = (3 : Int32) from by decide]
  refine go (g' := (mkF m 33 #[vR b, vI (3 : Int32), vI (3 : Int32), vR x1, vI (3 : Int32)] [(.ref x1)])) (fun _ k => XS.goto W13.here hx rfl (pc0 := 29) (pc' := 8) rfl (hb hby d4_29) (by decide) (by decide) (XS.iload W13.here hx rfl (hb hby d4_8) rfl (XS.iloadN W13.here hx rfl (hb hby d4_10) rfl (XS.icmpYes W13.here hx rfl (pc0 := 11) (pc' := 32) rfl (hb hby d4_11) rfl (flt ((by decide) : ¬ ((3 : Int32) < (3 : Int32)))).2.1 (by decide) (by decide) (XS.aloadN W13.here hx rfl (hb hby d4_32) rfl rfl k))))) ?_
  have X15 : Ext h0 h13 := own_xk X11 K13 (allS (by omega) all0)
  exact fin (v := some (.ref x1)) (so := []) W13 (nle rfl) (nle rfl) (⟨_, _, rfl, X15, by omega, U13⟩) (fun _ q => nomatch q) (fun q => nomatch q) (own_retA W13 hx hret rfl rfl rfl (hb hby d4_33))
theorem rm_cmi3_0 (C : Cx Z a0) (h0 : Heap) (b : Addr) (kb : ClassId) (c1 c2 c3 : Int32) (qw : (255 : Int32) < c1) (r1 : ¬ c1 < 0 ∧ ¬ (65535 : Int32) < c1) (r2 : ¬ c2 < 0 ∧ ¬ (65535 : Int32) < c2) (r3 : ¬ c3 < 0 ∧ ¬ (65535 : Int32) < c3) (Ab : Arv Z h0 b kb .char (3 : Int32) [(.int c1), (.int c2), (.int c3)] vZ) (d : Addr) (kd : ClassId) (Vd : Arv Z h0 d kd .byte (3 : Int32) [vZ, vZ, vZ] vZ) (nd : Z.heap.size ≤ d) :
    Ct l Z a0 own_EL (⟨"java/lang/StringUTF16", "compress", "([CI[BII)I"⟩ : MethodName) jdk_52_method_21_code 7 (Option.some Jvm.ClassFile.FieldType.int) [] (rmm 0 0 0 0) #[(.ref b), vZ, (.ref d), vZ, (.int (3 : Int32))] h0 [d] (fun v h so => v = some vZ ∧ Keep h0 h [d]) := by
  refine own_enter (plainFor_of_name pn_0) C.ew (F0 := fun m => mkF m 0 #[vR b, .val vZ, vR d, .val vZ, vI (3 : Int32), .unset, .unset] []) (fun m => by first | (simp [entryFrame, mkF, argsToLocals, Value.category]; done) | rfl) ?_
  intro p e s m below meth c s₁ G hx hby hml hret hnm W0 S0 go fin
  have z0 := W0.sz
  show G s₁ (mkF m 0 #[vR b, .val vZ, vR d, .val vZ, vI (3 : Int32), .unset, .unset] [])
  have ld : ltN d h0.size := Vd.lt
  have lb : ltN b h0.size := Ab.lt
  have nbd : b ≠ d := own_neT Ab Vd
  refine go (g' := (mkF m 12 #[vR b, .val vZ, vR d, .val vZ, vI (3 : Int32), .val vZ, .unset] [vZ, (.ref b)])) (fun _ k => XS.iconst W0.here hx rfl (hb hby d5_0) (XS.istore W0.here hx rfl (hb hby d5_1) rfl (l' := #[vR b, .val vZ, vR d, .val vZ, vI (3 : Int32), .val vZ, .unset]) rfl (XS.iload W0.here hx rfl (hb hby d5_3) rfl (XS.iload W0.here hx rfl (hb hby d5_5) rfl (XS.icmpNo W0.here hx rfl (hb hby d5_7) rfl (tlt ((by decide) : (0 : Int32) < (3 : Int32))).2.1 (XS.aloadN W0.here hx rfl (hb hby d5_10) rfl rfl (XS.iloadN W0.here hx rfl (hb hby d5_11) rfl k))))))) ?_
  refine go (g' := (mkF m 13 #[vR b, .val vZ, vR d, .val vZ, vI (3 : Int32), .val vZ, .unset] [(.int c1)])) (own_cal W0 hx Ab (j := (0 : Int32)) ⟨by decide, by decide⟩ rfl (g := (mkF m 12 #[vR b, .val vZ, vR d, .val vZ, vI (3 : Int32), .val vZ, .unset] [vZ, (.ref b)])) rfl rfl (hb hby d5_12)) ?_
  refine go (g' := (mkF m 25 #[vR b, .val vZ, vR d, .val vZ, vI (3 : Int32), .val vZ, vI c1] [vZ])) (fun _ k => XS.istore W0.here hx rfl (hb hby d5_13) rfl (l' := #[vR b, .val vZ, vR d, .val vZ, vI (3 : Int32), .val vZ, vI c1]) rfl (XS.iload W0.here hx rfl (hb hby d5_15) rfl (XS.sipush W0.here hx rfl (hb hby d5_17) (XS.icmpNo W0.here hx rfl (hb hby d5_20) rfl (tlt qw).2.2.2 (XS.iload W0.here hx rfl (hb hby d5_23) rfl k))))) ?_
  have KK1 : Keep h0 h0 [d] := (Keep.refl h0 [d])
  exact fin (v := some vZ) (so := []) W0 (nle rfl) (nle rfl) (⟨rfl, KK1⟩) (fun _ q => nomatch q) (fun q => nomatch q) (own_retI W0 hx hret (by decide) rfl (hb hby d5_25))
theorem rm_cm3_0 (C : Cx Z a0) (h0 : Heap) (b : Addr) (kb : ClassId) (c1 c2 c3 : Int32) (qw : (255 : Int32) < c1) (r1 : ¬ c1 < 0 ∧ ¬ (65535 : Int32) < c1) (r2 : ¬ c2 < 0 ∧ ¬ (65535 : Int32) < c2) (r3 : ¬ c3 < 0 ∧ ¬ (65535 : Int32) < c3) (Ab : Arv Z h0 b kb .char (3 : Int32) [(.int c1), (.int c2), (.int c3)] vZ) :
    Ct l Z a0 own_EL (⟨"java/lang/StringUTF16", "compress", "([CII)[B"⟩ : MethodName) jdk_52_method_16_code 6 (Option.some (Jvm.ClassFile.FieldType.array Jvm.ClassFile.FieldType.byte)) [] (rmm 3 2 9 40) #[(.ref b), vZ, (.int (3 : Int32))] h0 [] (fun v h so => ∃ (x : Addr) (kx : ClassId), v = some (.ref x) ∧ Ext h0 h ∧ h0.size ≤ x ∧ Arv Z h x kx .byte (6 : Int32) [(.int c1.toInt8.toInt32), (.int (StrChars.hi8 c1)), (.int c2.toInt8.toInt32), (.int (StrChars.hi8 c2)), (.int c3.toInt8.toInt32), (.int (StrChars.hi8 c3))] vZ) := by
  refine own_enter (plainFor_of_name pn_0) C.ew (F0 := fun m => mkF m 0 #[vR b, .val vZ, vI (3 : Int32), .unset, .unset, .unset] []) (fun m => by first | (simp [entryFrame, mkF, argsToLocals, Value.category]; done) | rfl) ?_
  intro p e s m below meth c s₁ G hx hby hml hret hnm W0 S0 go fin
  have z0 := W0.sz
  show G s₁ (mkF m 0 #[vR b, .val vZ, vI (3 : Int32), .unset, .unset, .unset] [])
  have lb : ltN b h0.size := Ab.lt
  refine go (g' := (mkF m 1 #[vR b, .val vZ, vI (3 : Int32), .unset, .unset, .unset] [(.int (3 : Int32))])) (fun _ k => XS.iloadN W0.here hx rfl (hb hby d6_0) rfl k) ?_
  obtain ⟨x1, T1, h1, k1, g1, W1, E1, A1, st1⟩ := own_newP W0 hx (aty := .byte) (w20 C) (g := (mkF m 1 #[vR b, .val vZ, vI (3 : Int32), .unset, .unset, .unset] [(.int (3 : Int32))])) rfl (hb hby d6_1) rfl (by decide) (cap := 3) (by decide) (nle rfl) (nle rfl) (nle rfl)
  have z2 : h0.size ≤ h1.size := E1.1
  have l1 : ltN x1 h1.size := A1.lt
  have V1 : Arv Z h1 x1 k1 .byte (3 : Int32) [vZ, vZ, vZ] vZ := A1.pad (pad_rep [] vZ 3)
  refine go (g' := (mkF m 3 #[vR b, .val vZ, vI (3 : Int32), .unset, .unset, .unset] [(.ref x1)])) (st1) ?_
  refine go (g' := (mkF m 9 #[vR b, .val vZ, vI (3 : Int32), vR x1, .unset, .unset] [(.int (3 : Int32)), vZ, (.ref x1), vZ, (.ref b)])) (fun _ k => XS.astoreN W1.here hx rfl (hb hby d6_3) rfl rfl (l' := #[vR b, .val vZ, vI (3 : Int32), vR x1, .unset, .unset]) rfl (XS.aloadN W1.here hx rfl (hb hby d6_4) rfl rfl (XS.iloadN W1.here hx rfl (hb hby d6_5) rfl (XS.aloadN W1.here hx rfl (hb hby d6_6) rfl rfl (XS.iconst W1.here hx rfl (hb hby d6_7) (XS.iloadN W1.here hx rfl (hb hby d6_8) rfl k)))))) ?_
  have X4 : Ext h0 h1 := own_xt (own_xr h0) E1
  have f5 := Ab.ext X4
  obtain ⟨v3, so3, vm3, T3, h3, W3, C3, q3, hso3, st3⟩ := own_static W1 hx (w21 C) (w22 C) (w18 C) (w23 C) (by decide) (rm_cmi3_0 C h1 b kb c1 c2 c3 qw r1 r2 r3 f5 x1 k1 V1 (by omega)) (allS (own_safeB W0 X4 (by omega)) all0) (Wd := 0) (nle rfl) (nle rfl) (nle rfl) (nle rfl) (g := (mkF m 9 #[vR b, .val vZ, vI (3 : Int32), vR x1, .unset, .unset] [(.int (3 : Int32)), vZ, (.ref x1), vZ, (.ref b)])) rfl (by rw [hml]; rfl) (argsL := [(.ref b), vZ, (.ref x1), vZ, (.int (3 : Int32))]) (rest := []) (lenOf pd_3 rfl) rfl rfl (nle rfl) (hb hby d6_9)
  obtain ⟨rfl, K3⟩ := q3
  have z6 : h1.size ≤ h3.size := K3.1
  have S3_x1 : Safe Z own_EL vm3 h3 x1 := C3.safe (olt (by omega)) (own_safeB W0 X4 (by omega))
  refine go (g' := (mkF m 12 #[vR b, .val vZ, vI (3 : Int32), vR x1, .unset, .unset] [vZ])) (st3) ?_
  refine go (g' := (mkF m 23 #[vR b, .val vZ, vI (3 : Int32), vR x1, .val vZ, .unset] [(.int (3 : Int32)), vZ, (.ref b)])) (fun _ k => XS.istore W3.here hx rfl (hb hby d6_12) rfl (l' := #[vR b, .val vZ, vI (3 : Int32), vR x1, .val vZ, .unset]) rfl (XS.iload W3.here hx rfl (hb hby d6_14) rfl (XS.iloadN W3.here hx rfl (hb hby d6_16) rfl (XS.icmpNo W3.here hx rfl (hb hby d6_17) rfl (feq ((by decide) : ¬ ((0 : Int32) = (3 : Int32)))).1 (XS.aloadN W3.here hx rfl (hb hby d6_20) rfl rfl (XS.iloadN W3.here hx rfl (hb hby d6_21) rfl (XS.iloadN W3.here hx rfl (hb hby d6_22) rfl k))))))) ?_
  have X8 : Ext h0 h3 := own_xk X4 K3 (allS (by omega) all0)
  have f9 := Ab.ext X8
  obtain ⟨v7, so7, vm7, T7, h7, W7, C7, q7, hso7, st7⟩ := own_static W3 hx (w199 C) (w200 C) (w18 C) (w201 C) (by decide) (rm_tb3 C h3 b kb c1 c2 c3 r1 r2 r3 f9) (fun _ q => nomatch q) (Wd := 0) (nle rfl) (nle rfl) (nle rfl) (nle rfl) (g := (mkF m 23 #[vR b, .val vZ, vI (3 : Int32), vR x1, .val vZ, .unset] [(.int (3 : Int32)), vZ, (.ref b)])) rfl (by rw [hml]; rfl) (argsL := [(.ref b), vZ, (.int (3 : Int32))]) (rest := []) (lenOf pd_4 rfl) rfl rfl (nle rfl) (hb hby d6_23)
  obtain ⟨x7, k7, rfl, E7, g7, V7⟩ := q7
  have z10 : h3.size ≤ h7.size := E7.1
  have S7_x1 : Safe Z own_EL vm7 h7 x1 := C7.safe (olt (by omega)) S3_x1
  refine go (g' := (mkF m 26 #[vR b, .val vZ, vI (3 : Int32), vR x1, .val vZ, .unset] [(.ref x7)])) (st7) ?_
  refine go (g' := (mkF m 32 #[vR b, .val vZ, vI (3 : Int32), vR x1, .val vZ, vR x7] [vZ, (.ref x7)])) (fun _ k => XS.astore W7.here hx rfl (hb hby d6_26) rfl rfl (l' := #[vR b, .val vZ, vI (3 : Int32), vR x1, .val vZ, vR x7]) rfl (XS.aload W7.here hx rfl (hb hby d6_28) rfl rfl (XS.iload W7.here hx rfl (hb hby d6_30) rfl k))) ?_
  obtain ⟨v11, so11, vm11, T11, h11, W11, C11, q11, hso11, st11⟩ := own_static W7 hx (w215 C) (w216 C) (w18 C) (w217 C) (by decide) (rm_getc C h7 x7 k7 6 0 [(.int c1.toInt8.toInt32), (.int (StrChars.hi8 c1)), (.int c2.toInt8.toInt32), (.int (StrChars.hi8 c2)), (.int c3.toInt8.toInt32), (.int (StrChars.hi8 c3))] (nle rfl) (by decide) (by decide) c1.toInt8.toInt32 (StrChars.hi8 c1) rfl rfl V7) (fun _ q => nomatch q) (Wd := 0) (nle rfl) (nle rfl) (nle rfl) (nle rfl) (g := (mkF m 32 #[vR b, .val vZ, vI (3 : Int32), vR x1, .val vZ, vR x7] [vZ, (.ref x7)])) rfl (by rw [hml]; rfl) (argsL := [(.ref x7), vZ]) (rest := []) (lenOf pd_5 rfl) rfl rfl (nle rfl) (hb hby d6_32)
  obtain ⟨rfl, rfl⟩ := q11
  have S11_x1 : Safe Z own_EL vm11 h7 x1 := C11.safe (olt (by omega)) S7_x1
  refine go (g' := (mkF m 35 #[vR b, .val vZ, vI (3 : Int32), vR x1, .val vZ, vR x7] [(.int (StrChars.pairCh c1.toInt8.toInt32 (StrChars.hi8 c1)))])) (st11) ?_
  rw [show (StrChars.pairCh c1.toInt8.toInt32 (StrChars.hi8 c1)) = c1 from StrChars.pair_says r1.1 r1.2]
  refine go (g' := (mkF m 56 #[vR b, .val vZ, vI (3 : Int32), vR x1, .val vZ, vR x7] [(.ref x7)])) (fun _ k => XS.sipush W11.here hx rfl (hb hby d6_35) (XS.icmpYes W11.here hx rfl (pc0 := 38) (pc' := 54) rfl (hb hby d6_38) rfl (tlt qw).2.2.1 (by decide) (by decide) (XS.aload W11.here hx rfl (hb hby d6_54) rfl rfl k))) ?_
  have X12 : Ext h0 h7 := own_xt X8 E7
  exact fin (v := some (.ref x7)) (so := []) W11 (nle rfl) (nle rfl) (⟨_, _, rfl, X12, by omega, V7⟩) (fun _ q => nomatch q) (fun q => nomatch q) (own_retA W11 hx hret rfl rfl rfl (hb hby d6_56))
theorem rm_cmi3_1 (C : Cx Z a0) (h0 : Heap) (b : Addr) (kb : ClassId) (c1 c2 c3 : Int32) (q1 : ¬ (255 : Int32) < c1) (qw : (255 : Int32) < c2) (r1 : ¬ c1 < 0 ∧ ¬ (65535 : Int32) < c1) (r2 : ¬ c2 < 0 ∧ ¬ (65535 : Int32) < c2) (r3 : ¬ c3 < 0 ∧ ¬ (65535 : Int32) < c3) (Ab : Arv Z h0 b kb .char (3 : Int32) [(.int c1), (.int c2), (.int c3)] vZ) (d : Addr) (kd : ClassId) (Vd : Arv Z h0 d kd .byte (3 : Int32) [vZ, vZ, vZ] vZ) (nd : Z.heap.size ≤ d) :
    Ct l Z a0 own_EL (⟨"java/lang/StringUTF16", "compress", "([CI[BII)I"⟩ : MethodName) jdk_52_method_21_code 7 (Option.some Jvm.ClassFile.FieldType.int) [] (rmm 0 0 0 0) #[(.ref b), vZ, (.ref d), vZ, (.int (3 : Int32))] h0 [d] (fun v h so => v = some (.int (1 : Int32)) ∧ Keep h0 h [d]) := by
  refine own_enter (plainFor_of_name pn_0) C.ew (F0 := fun m => mkF m 0 #[vR b, .val vZ, vR d, .val vZ, vI (3 : Int32), .unset, .unset] []) (fun m => by first | (simp [entryFrame, mkF, argsToLocals, Value.category]; done) | rfl) ?_
  intro p e s m below meth c s₁ G hx hby hml hret hnm W0 S0 go fin
  have z0 := W0.sz
  show G s₁ (mkF m 0 #[vR b, .val vZ, vR d, .val vZ, vI (3 : Int32), .unset, .unset] [])
  have ld : ltN d h0.size := Vd.lt
  have lb : ltN b h0.size := Ab.lt
  have nbd : b ≠ d := own_neT Ab Vd
  refine go (g' := (mkF m 12 #[vR b, .val vZ, vR d, .val vZ, vI (3 : Int32), .val vZ, .unset] [vZ, (.ref b)])) (fun _ k => XS.iconst W0.here hx rfl (hb hby d5_0) (XS.istore W0.here hx rfl (hb hby d5_1) rfl (l' := #[vR b, .val vZ, vR d, .val vZ, vI (3 : Int32), .val vZ, .unset]) rfl (XS.iload W0.here hx rfl (hb hby d5_3) rfl (XS.iload W0.here hx rfl (hb hby d5_5) rfl (XS.icmpNo W0.here hx rfl (hb hby d5_7) rfl (tlt ((by decide) : (0 : Int32) < (3 : Int32))).2.1 (XS.aloadN W0.here hx rfl (hb hby d5_10) rfl rfl (XS.iloadN W0.here hx rfl (hb hby d5_11) rfl k))))))) ?_
  refine go (g' := (mkF m 13 #[vR b, .val vZ, vR d, .val vZ, vI (3 : Int32), .val vZ, .unset] [(.int c1)])) (own_cal W0 hx Ab (j := (0 : Int32)) ⟨by decide, by decide⟩ rfl (g := (mkF m 12 #[vR b, .val vZ, vR d, .val vZ, vI (3 : Int32), .val vZ, .unset] [vZ, (.ref b)])) rfl rfl (hb hby d5_12)) ?_
  refine go (g' := (mkF m 31 #[vR b, .val vZ, vR d, .val vZ, vI (3 : Int32), .val vZ, vI c1] [(.int (c1.toInt8.toInt32)), vZ, (.ref d)])) (fun _ k => XS.istore W0.here hx rfl (hb hby d5_13) rfl (l' := #[vR b, .val vZ, vR d, .val vZ, vI (3 : Int32), .val vZ, vI c1]) rfl (XS.iload W0.here hx rfl (hb hby d5_15) rfl (XS.sipush W0.here hx rfl (hb hby d5_17) (XS.icmpYes W0.here hx rfl (pc0 := 20) (pc' := 26) rfl (hb hby d5_20) rfl (flt q1).2.2.2 (by decide) (by decide) (XS.aloadN W0.here hx rfl (hb hby d5_26) rfl rfl (XS.iloadN W0.here hx rfl (hb hby d5_27) rfl (XS.iload W0.here hx rfl (hb hby d5_28) rfl (XS.i2b W0.here hx rfl (hb hby d5_30) rfl k)))))))) ?_
  obtain ⟨T1, h1, W1, R1, V1, st1⟩ := own_stB W0 hx Vd (by omega) (S0 _ (own_mi (i := 0) rfl)) (j := (0 : Int32)) (i := 0) ⟨by decide, by decide⟩ rfl (nle rfl) (g := (mkF m 31 #[vR b, .val vZ, vR d, .val vZ, vI (3 : Int32), .val vZ, vI c1] [(.int (c1.toInt8.toInt32)), vZ, (.ref d)])) rfl rfl (hb hby d5_31)
  have z2 : h1.size = h0.size := R1.size
  have S1_d : Safe Z own_EL s.vm h1 d := Safe.wr R1 (S0 _ (own_mi (i := 0) rfl)) W0.ch (S0 _ (own_mi (i := 0) rfl))
  have U1 : Arv Z h1 d kd .byte (3 : Int32) [(.int (c1.toInt8.toInt32).toInt8.toInt32), vZ, vZ] vZ := V1
  refine go (g' := (mkF m 32 #[vR b, .val vZ, vR d, .val vZ, vI (3 : Int32), .val vZ, vI c1] [])) (st1) ?_
  refine go (g' := (mkF m 35 #[vR b, vI ((0 : Int32) + (1 : Int32)), vR d, .val vZ, vI (3 : Int32), .val vZ, vI c1] [])) (fun _ k => XS.iinc W1.here hx rfl (hb hby d5_32) rfl (l' := #[vR b, vI ((0 : Int32) + (1 : Int32)), vR d, .val vZ, vI (3 : Int32), .val vZ, vI c1]) rfl k) ?_
  rw [show ((0 : Int32) + (1 : Int32)) = (1 : Int32) from by decide]
  refine go (g' := (mkF m 38 #[vR b, vI (1 : Int32), vR d, vI ((0 : Int32) + (1 : Int32)), vI (3 : Int32), .val vZ, vI c1] [])) (fun _ k => XS.iinc W1.here hx rfl (hb hby d5_35) rfl (l' := #[vR b, vI (1 : Int32), vR d, vI ((0 : Int32) + (1 : Int32)), vI (3 : Int32), .val vZ, vI c1]) rfl k) ?_
  rw [show ((0 : Int32) + (1 : Int32)) = (1 : Int32) from by decide]
  refine go (g' := (mkF m 41 #[vR b, vI (1 : Int32), vR d, vI (1 : Int32), vI (3 : Int32), vI ((0 : Int32) + (1 : Int32)), vI c1] [])) (fun _ k => XS.iinc W1.here hx rfl (hb hby d5_38) rfl (l' := #[vR b, vI (1 : Int32), vR d, vI (1 : Int32), vI (3 : Int32), vI ((0 : Int32) + (1 : Int32)), vI c1]) rfl k) ?_
  rw [show ((0 : Int32) + (1 : Int32)) = (1 : Int32) from by decide]
  refine go (g' := (mkF m 12 #[vR b, vI (1 : Int32), vR d, vI (1 : Int32), vI (3 : Int32), vI (1 : Int32), vI c1] [(.int (1 : Int32)), (.ref b)])) (fun _ k => XS.goto W1.here hx rfl (pc0 := 41) (pc' := 3) rfl (hb hby d5_41) (by decide) (by decide) (XS.iload W1.here hx rfl (hb hby d5_3) rfl (XS.iload W1.here hx rfl (hb hby d5_5) rfl (XS.icmpNo W1.here hx rfl (hb hby d5_7) rfl (tlt ((by decide) : (1 : Int32) < (3 : Int32))).2.1 (XS.aloadN W1.here hx rfl (hb hby d5_10) rfl rfl (XS.iloadN W1.here hx rfl (hb hby d5_11) rfl k)))))) ?_
  have f3 := Ab.other R1 nbd
  refine go (g' := (mkF m 13 #[vR b, vI (1 : Int32), vR d, vI (1 : Int32), vI (3 : Int32), vI (1 : Int32), vI c1] [(.int c2)])) (own_cal W1 hx f3 (j := (1 : Int32)) ⟨by decide, by decide⟩ rfl (g := (mkF m 12 #[vR b, vI (1 : Int32), vR d, vI (1 : Int32), vI (3 : Int32), vI (1 : Int32), vI c1] [(.int (1 : Int32)), (.ref b)])) rfl rfl (hb hby d5_12)) ?_
  refine go (g' := (mkF m 25 #[vR b, vI (1 : Int32), vR d, vI (1 : Int32), vI (3 : Int32), vI (1 : Int32), vI c2] [(.int (1 : Int32))])) (fun _ k => XS.istore W1.here hx rfl (hb hby d5_13) rfl (l' := #[vR b, vI (1 : Int32), vR d, vI (1 : Int32), vI (3 : Int32), vI (1 : Int32), vI c2]) rfl (XS.iload W1.here hx rfl (hb hby d5_15) rfl (XS.sipush W1.here hx rfl (hb hby d5_17) (XS.icmpNo W1.here hx rfl (hb hby d5_20) rfl (tlt qw).2.2.2 (XS.iload W1.here hx rfl (hb hby d5_23) rfl k))))) ?_
  have KK4 : Keep h0 h1 [d] := ((Keep.refl h0 [d]).wr R1 (Or.inl (own_mi (i := 0) rfl)))
  exact fin (v := some (.int (1 : Int32))) (so := []) W1 (nle rfl) (nle rfl) (⟨rfl, KK4⟩) (fun _ q => nomatch q) (fun q => nomatch q) (own_retI W1 hx hret (by decide) rfl (hb hby d5_25))
theorem rm_cm3_1 (C : Cx Z a0) (h0 : Heap) (b : Addr) (kb : ClassId) (c1 c2 c3 : Int32) (q1 : ¬ (255 : Int32) < c1) (qw : (255 : Int32) < c2) (r1 : ¬ c1 < 0 ∧ ¬ (65535 : Int32) < c1) (r2 : ¬ c2 < 0 ∧ ¬ (65535 : Int32) < c2) (r3 : ¬ c3 < 0 ∧ ¬ (65535 : Int32) < c3) (Ab : Arv Z h0 b kb .char (3 : Int32) [(.int c1), (.int c2), (.int c3)] vZ) :
    Ct l Z a0 own_EL (⟨"java/lang/StringUTF16", "compress", "([CII)[B"⟩ : MethodName) jdk_52_method_16_code 6 (Option.some (Jvm.ClassFile.FieldType.array Jvm.ClassFile.FieldType.byte)) [] (rmm 3 2 9 40) #[(.ref b), vZ, (.int (3 : Int32))] h0 [] (fun v h so => ∃ (x : Addr) (kx : ClassId), v = some (.ref x) ∧ Ext h0 h ∧ h0.size ≤ x ∧ Arv Z h x kx .byte (6 : Int32) [(.int c1.toInt8.toInt32), (.int (StrChars.hi8 c1)), (.int c2.toInt8.toInt32), (.int (StrChars.hi8 c2)), (.int c3.toInt8.toInt32), (.int (StrChars.hi8 c3))] vZ) := by
  refine own_enter (plainFor_of_name pn_0) C.ew (F0 := fun m => mkF m 0 #[vR b, .val vZ, vI (3 : Int32), .unset, .unset, .unset] []) (fun m => by first | (simp [entryFrame, mkF, argsToLocals, Value.category]; done) | rfl) ?_
  intro p e s m below meth c s₁ G hx hby hml hret hnm W0 S0 go fin
  have z0 := W0.sz
  show G s₁ (mkF m 0 #[vR b, .val vZ, vI (3 : Int32), .unset, .unset, .unset] [])
  have lb : ltN b h0.size := Ab.lt
  refine go (g' := (mkF m 1 #[vR b, .val vZ, vI (3 : Int32), .unset, .unset, .unset] [(.int (3 : Int32))])) (fun _ k => XS.iloadN W0.here hx rfl (hb hby d6_0) rfl k) ?_
  obtain ⟨x1, T1, h1, k1, g1, W1, E1, A1, st1⟩ := own_newP W0 hx (aty := .byte) (w20 C) (g := (mkF m 1 #[vR b, .val vZ, vI (3 : Int32), .unset, .unset, .unset] [(.int (3 : Int32))])) rfl (hb hby d6_1) rfl (by decide) (cap := 3) (by decide) (nle rfl) (nle rfl) (nle rfl)
  have z2 : h0.size ≤ h1.size := E1.1
  have l1 : ltN x1 h1.size := A1.lt
  have V1 : Arv Z h1 x1 k1 .byte (3 : Int32) [vZ, vZ, vZ] vZ := A1.pad (pad_rep [] vZ 3)
  refine go (g' := (mkF m 3 #[vR b, .val vZ, vI (3 : Int32), .unset, .unset, .unset] [(.ref x1)])) (st1) ?_
  refine go (g' := (mkF m 9 #[vR b, .val vZ, vI (3 : Int32), vR x1, .unset, .unset] [(.int (3 : Int32)), vZ, (.ref x1), vZ, (.ref b)])) (fun _ k => XS.astoreN W1.here hx rfl (hb hby d6_3) rfl rfl (l' := #[vR b, .val vZ, vI (3 : Int32), vR x1, .unset, .unset]) rfl (XS.aloadN W1.here hx rfl (hb hby d6_4) rfl rfl (XS.iloadN W1.here hx rfl (hb hby d6_5) rfl (XS.aloadN W1.here hx rfl (hb hby d6_6) rfl rfl (XS.iconst W1.here hx rfl (hb hby d6_7) (XS.iloadN W1.here hx rfl (hb hby d6_8) rfl k)))))) ?_
  have X4 : Ext h0 h1 := own_xt (own_xr h0) E1
  have f5 := Ab.ext X4
  obtain ⟨v3, so3, vm3, T3, h3, W3, C3, q3, hso3, st3⟩ := own_static W1 hx (w21 C) (w22 C) (w18 C) (w23 C) (by decide) (rm_cmi3_1 C h1 b kb c1 c2 c3 q1 qw r1 r2 r3 f5 x1 k1 V1 (by omega)) (allS (own_safeB W0 X4 (by omega)) all0) (Wd := 0) (nle rfl) (nle rfl) (nle rfl) (nle rfl) (g := (mkF m 9 #[vR b, .val vZ, vI (3 : Int32), vR x1, .unset, .unset] [(.int (3 : Int32)), vZ, (.ref x1), vZ, (.ref b)])) rfl (by rw [hml]; rfl) (argsL := [(.ref b), vZ, (.ref x1), vZ, (.int (3 : Int32))]) (rest := []) (lenOf pd_3 rfl) rfl rfl (nle rfl) (hb hby d6_9)
  obtain ⟨rfl, K3⟩ := q3
  have z6 : h1.size ≤ h3.size := K3.1
  have S3_x1 : Safe Z own_EL vm3 h3 x1 := C3.safe (olt (by omega)) (own_safeB W0 X4 (by omega))
  refine go (g' := (mkF m 12 #[vR b, .val vZ, vI (3 : Int32), vR x1, .unset, .unset] [(.int (1 : Int32))])) (st3) ?_
  refine go (g' := (mkF m 23 #[vR b, .val vZ, vI (3 : Int32), vR x1, vI (1 : Int32), .unset] [(.int (3 : Int32)), vZ, (.ref b)])) (fun _ k => XS.istore W3.here hx rfl (hb hby d6_12) rfl (l' := #[vR b, .val vZ, vI (3 : Int32), vR x1, vI (1 : Int32), .unset]) rfl (XS.iload W3.here hx rfl (hb hby d6_14) rfl (XS.iloadN W3.here hx rfl (hb hby d6_16) rfl (XS.icmpNo W3.here hx rfl (hb hby d6_17) rfl (feq ((by decide) : ¬ ((1 : Int32) = (3 : Int32)))).1 (XS.aloadN W3.here hx rfl (hb hby d6_20) rfl rfl (XS.iloadN W3.here hx rfl (hb hby d6_21) rfl (XS.iloadN W3.here hx rfl (hb hby d6_22) rfl k))))))) ?_
  have X8 : Ext h0 h3 := own_xk X4 K3 (allS (by omega) all0)
  have f9 := Ab.ext X8
  obtain ⟨v7, so7, vm7, T7, h7, W7, C7, q7, hso7, st7⟩ := own_static W3 hx (w199 C) (w200 C) (w18 C) (w201 C) (by decide) (rm_tb3 C h3 b kb c1 c2 c3 r1 r2 r3 f9) (fun _ q => nomatch q) (Wd := 0) (nle rfl) (nle rfl) (nle rfl) (nle rfl) (g := (mkF m 23 #[vR b, .val vZ, vI (3 : Int32), vR x1, vI (1 : Int32), .unset] [(.int (3 : Int32)), vZ, (.ref b)])) rfl (by rw [hml]; rfl) (argsL := [(.ref b), vZ, (.int (3 : Int32))]) (rest := []) (lenOf pd_4 rfl) rfl rfl (nle rfl) (hb hby d6_23)
  obtain ⟨x7, k7, rfl, E7, g7, V7⟩ := q7
  have z10 : h3.size ≤ h7.size := E7.1
  have S7_x1 : Safe Z own_EL vm7 h7 x1 := C7.safe (olt (by omega)) S3_x1
  refine go (g' := (mkF m 26 #[vR b, .val vZ, vI (3 : Int32), vR x1, vI (1 : Int32), .unset] [(.ref x7)])) (st7) ?_
  refine go (g' := (mkF m 32 #[vR b, .val vZ, vI (3 : Int32), vR x1, vI (1 : Int32), vR x7] [(.int (1 : Int32)), (.ref x7)])) (fun _ k => XS.astore W7.here hx rfl (hb hby d6_26) rfl rfl (l' := #[vR b, .val vZ, vI (3 : Int32), vR x1, vI (1 : Int32), vR x7]) rfl (XS.aload W7.here hx rfl (hb hby d6_28) rfl rfl (XS.iload W7.here hx rfl (hb hby d6_30) rfl k))) ?_
  obtain ⟨v11, so11, vm11, T11, h11, W11, C11, q11, hso11, st11⟩ := own_static W7 hx (w215 C) (w216 C) (w18 C) (w217 C) (by decide) (rm_getc C h7 x7 k7 6 1 [(.int c1.toInt8.toInt32), (.int (StrChars.hi8 c1)), (.int c2.toInt8.toInt32), (.int (StrChars.hi8 c2)), (.int c3.toInt8.toInt32), (.int (StrChars.hi8 c3))] (nle rfl) (by decide) (by decide) c2.toInt8.toInt32 (StrChars.hi8 c2) rfl rfl V7) (fun _ q => nomatch q) (Wd := 0) (nle rfl) (nle rfl) (nle rfl) (nle rfl) (g := (mkF m 32 #[vR b, .val vZ, vI (3 : Int32), vR x1, vI (1 : Int32), vR x7] [(.int (1 : Int32)), (.ref x7)])) rfl (by rw [hml]; rfl) (argsL := [(.ref x7), (.int (1 : Int32))]) (rest := []) (lenOf pd_5 rfl) rfl rfl (nle rfl) (hb hby d6_32)
  obtain ⟨rfl, rfl⟩ := q11
  have S11_x1 : Safe Z own_EL vm11 h7 x1 := C11.safe (olt (by omega)) S7_x1
  refine go (g' := (mkF m 35 #[vR b, .val vZ, vI (3 : Int32), vR x1, vI (1 : Int32), vR x7] [(.int (StrChars.pairCh c2.toInt8.toInt32 (StrChars.hi8 c2)))])) (st11) ?_
  rw [show (StrChars.pairCh c2.toInt8.toInt32 (StrChars.hi8 c2)) = c2 from StrChars.pair_says r2.1 r2.2]
  refine go (g' := (mkF m 56 #[vR b, .val vZ, vI (3 : Int32), vR x1, vI (1 : Int32), vR x7] [(.ref x7)])) (fun _ k => XS.sipush W11.here hx rfl (hb hby d6_35) (XS.icmpYes W11.here hx rfl (pc0 := 38) (pc' := 54) rfl (hb hby d6_38) rfl (tlt qw).2.2.1 (by decide) (by decide) (XS.aload W11.here hx rfl (hb hby d6_54) rfl rfl k))) ?_
  have X12 : Ext h0 h7 := own_xt X8 E7
  exact fin (v := some (.ref x7)) (so := []) W11 (nle rfl) (nle rfl) (⟨_, _, rfl, X12, by omega, V7⟩) (fun _ q => nomatch q) (fun q => nomatch q) (own_retA W11 hx hret rfl rfl rfl (hb hby d6_56))
theorem rm_cmi3_2 (C : Cx Z a0) (h0 : Heap) (b : Addr) (kb : ClassId) (c1 c2 c3 : Int32) (q1 : ¬ (255 : Int32) < c1) (q2 : ¬ (255 : Int32) < c2) (qw : (255 : Int32) < c3) (r1 : ¬ c1 < 0 ∧ ¬ (65535 : Int32) < c1) (r2 : ¬ c2 < 0 ∧ ¬ (65535 : Int32) < c2) (r3 : ¬ c3 < 0 ∧ ¬ (65535 : Int32) < c3) (Ab : Arv Z h0 b kb .char (3 : Int32) [(.int c1), (.int c2), (.int c3)] vZ) (d : Addr) (kd : ClassId) (Vd : Arv Z h0 d kd .byte (3 : Int32) [vZ, vZ, vZ] vZ) (nd : Z.heap.size ≤ d) :
    Ct l Z a0 own_EL (⟨"java/lang/StringUTF16", "compress", "([CI[BII)I"⟩ : MethodName) jdk_52_method_21_code 7 (Option.some Jvm.ClassFile.FieldType.int) [] (rmm 0 0 0 0) #[(.ref b), vZ, (.ref d), vZ, (.int (3 : Int32))] h0 [d] (fun v h so => v = some (.int (2 : Int32)) ∧ Keep h0 h [d]) := by
  refine own_enter (plainFor_of_name pn_0) C.ew (F0 := fun m => mkF m 0 #[vR b, .val vZ, vR d, .val vZ, vI (3 : Int32), .unset, .unset] []) (fun m => by first | (simp [entryFrame, mkF, argsToLocals, Value.category]; done) | rfl) ?_
  intro p e s m below meth c s₁ G hx hby hml hret hnm W0 S0 go fin
  have z0 := W0.sz
  show G s₁ (mkF m 0 #[vR b, .val vZ, vR d, .val vZ, vI (3 : Int32), .unset, .unset] [])
  have ld : ltN d h0.size := Vd.lt
  have lb : ltN b h0.size := Ab.lt
  have nbd : b ≠ d := own_neT Ab Vd
  refine go (g' := (mkF m 12 #[vR b, .val vZ, vR d, .val vZ, vI (3 : Int32), .val vZ, .unset] [vZ, (.ref b)])) (fun _ k => XS.iconst W0.here hx rfl (hb hby d5_0) (XS.istore W0.here hx rfl (hb hby d5_1) rfl (l' := #[vR b, .val vZ, vR d, .val vZ, vI (3 : Int32), .val vZ, .unset]) rfl (XS.iload W0.here hx rfl (hb hby d5_3) rfl (XS.iload W0.here hx rfl (hb hby d5_5) rfl (XS.icmpNo W0.here hx rfl (hb hby d5_7) rfl (tlt ((by decide) : (0 : Int32) < (3 : Int32))).2.1 (XS.aloadN W0.here hx rfl (hb hby d5_10) rfl rfl (XS.iloadN W0.here hx rfl (hb hby d5_11) rfl k))))))) ?_
  refine go (g' := (mkF m 13 #[vR b, .val vZ, vR d, .val vZ, vI (3 : Int32), .val vZ, .unset] [(.int c1)])) (own_cal W0 hx Ab (j := (0 : Int32)) ⟨by decide, by decide⟩ rfl (g := (mkF m 12 #[vR b, .val vZ, vR d, .val vZ, vI (3 : Int32), .val vZ, .unset] [vZ, (.ref b)])) rfl rfl (hb hby d5_12)) ?_
  refine go (g' := (mkF m 31 #[vR b, .val vZ, vR d, .val vZ, vI (3 : Int32), .val vZ, vI c1] [(.int (c1.toInt8.toInt32)), vZ, (.ref d)])) (fun _ k => XS.istore W0.here hx rfl (hb hby d5_13) rfl (l' := #[vR b, .val vZ, vR d, .val vZ, vI (3 : Int32), .val vZ, vI c1]) rfl (XS.iload W0.here hx rfl (hb hby d5_15) rfl (XS.sipush W0.here hx rfl (hb hby d5_17) (XS.icmpYes W0.here hx rfl (pc0 := 20) (pc' := 26) rfl (hb hby d5_20) rfl (flt q1).2.2.2 (by decide) (by decide) (XS.aloadN W0.here hx rfl (hb hby d5_26) rfl rfl (XS.iloadN W0.here hx rfl (hb hby d5_27) rfl (XS.iload W0.here hx rfl (hb hby d5_28) rfl (XS.i2b W0.here hx rfl (hb hby d5_30) rfl k)))))))) ?_
  obtain ⟨T1, h1, W1, R1, V1, st1⟩ := own_stB W0 hx Vd (by omega) (S0 _ (own_mi (i := 0) rfl)) (j := (0 : Int32)) (i := 0) ⟨by decide, by decide⟩ rfl (nle rfl) (g := (mkF m 31 #[vR b, .val vZ, vR d, .val vZ, vI (3 : Int32), .val vZ, vI c1] [(.int (c1.toInt8.toInt32)), vZ, (.ref d)])) rfl rfl (hb hby d5_31)
  have z2 : h1.size = h0.size := R1.size
  have S1_d : Safe Z own_EL s.vm h1 d := Safe.wr R1 (S0 _ (own_mi (i := 0) rfl)) W0.ch (S0 _ (own_mi (i := 0) rfl))
  have U1 : Arv Z h1 d kd .byte (3 : Int32) [(.int (c1.toInt8.toInt32).toInt8.toInt32), vZ, vZ] vZ := V1
  refine go (g' := (mkF m 32 #[vR b, .val vZ, vR d, .val vZ, vI (3 : Int32), .val vZ, vI c1] [])) (st1) ?_
  refine go (g' := (mkF m 35 #[vR b, vI ((0 : Int32) + (1 : Int32)), vR d, .val vZ, vI (3 : Int32), .val vZ, vI c1] [])) (fun _ k => XS.iinc W1.here hx rfl (hb hby d5_32) rfl (l' := #[vR b, vI ((0 : Int32) + (1 : Int32)), vR d, .val vZ, vI (3 : Int32), .val vZ, vI c1]) rfl k) ?_
  rw [show ((0 : Int32) + (1 : Int32)) = (1 : Int32) from by decide]
  refine go (g' := (mkF m 38 #[vR b, vI (1 : Int32), vR d, vI ((0 : Int32) + (1 : Int32)), vI (3 : Int32), .val vZ, vI c1] [])) (fun _ k => XS.iinc W1.here hx rfl (hb hby d5_35) rfl (l' := #[vR b, vI (1 : Int32), vR d, vI ((0 : Int32) + (1 : Int32)), vI (3 : Int32), .val vZ, vI c1]) rfl k) ?_
  rw [show ((0 : Int32) + (1 : Int32)) = (1 : Int32) from by decide]
  refine go (g' := (mkF m 41 #[vR b, vI (1 : Int32), vR d, vI (1 : Int32), vI (3 : Int32), vI ((0 : Int32) + (1 : Int32)), vI c1] [])) (fun _ k => XS.iinc W1.here hx rfl (hb hby d5_38) rfl (l' := #[vR b, vI (1 : Int32), vR d, vI (1 : Int32), vI (3 : Int32), vI ((0 : Int32) + (1 : Int32)), vI c1]) rfl k) ?_
  rw [show ((0 : Int32) + (1 : Int32)) = (1 : Int32) from by decide]
  refine go (g' := (mkF m 12 #[vR b, vI (1 : Int32), vR d, vI (1 : Int32), vI (3 : Int32), vI (1 : Int32), vI c1] [(.int (1 : Int32)), (.ref b)])) (fun _ k => XS.goto W1.here hx rfl (pc0 := 41) (pc' := 3) rfl (hb hby d5_41) (by decide) (by decide) (XS.iload W1.here hx rfl (hb hby d5_3) rfl (XS.iload W1.here hx rfl (hb hby d5_5) rfl (XS.icmpNo W1.here hx rfl (hb hby d5_7) rfl (tlt ((by decide) : (1 : Int32) < (3 : Int32))).2.1 (XS.aloadN W1.here hx rfl (hb hby d5_10) rfl rfl (XS.iloadN W1.here hx rfl (hb hby d5_11) rfl k)))))) ?_
  have f3 := Ab.other R1 nbd
  refine go (g' := (mkF m 13 #[vR b, vI (1 : Int32), vR d, vI (1 : Int32), vI (3 : Int32), vI (1 : Int32), vI c1] [(.int c2)])) (own_cal W1 hx f3 (j := (1 : Int32)) ⟨by decide, by decide⟩ rfl (g := (mkF m 12 #[vR b, vI (1 : Int32), vR d, vI (1 : Int32), vI (3 : Int32), vI (1 : Int32), vI c1] [(.int (1 : Int32)), (.ref b)])) rfl rfl (hb hby d5_12)) ?_
  refine go (g' := (mkF m 31 #[vR b, vI (1 : Int32), vR d, vI (1 : Int32), vI (3 : Int32), vI (1 : Int32), vI c2] [(.int (c2.toInt8.toInt32)), (.int (1 : Int32)), (.ref d)])) (fun _ k => XS.istore W1.here hx rfl (hb hby d5_13) rfl (l' := #[vR b, vI (1 : Int32), vR d, vI (1 : Int32), vI (3 : Int32), vI (1 : Int32), vI c2]) rfl (XS.iload W1.here hx rfl (hb hby d5_15) rfl (XS.sipush W1.here hx rfl (hb hby d5_17) (XS.icmpYes W1.here hx rfl (pc0 := 20) (pc' := 26) rfl (hb hby d5_20) rfl (flt q2).2.2.2 (by decide) (by decide) (XS.aloadN W1.here hx rfl (hb hby d5_26) rfl rfl (XS.iloadN W1.here hx rfl (hb hby d5_27) rfl (XS.iload W1.here hx rfl (hb hby d5_28) rfl (XS.i2b W1.here hx rfl (hb hby d5_30) rfl k)))))))) ?_
  obtain ⟨T4, h4, W4, R4, V4, st4⟩ := own_stB W1 hx U1 (by omega) S1_d (j := (1 : Int32)) (i := 1) ⟨by decide, by decide⟩ rfl (nle rfl) (g := (mkF m 31 #[vR b, vI (1 : Int32), vR d, vI (1 : Int32), vI (3 : Int32), vI (1 : Int32), vI c2] [(.int (c2.toInt8.toInt32)), (.int (1 : Int32)), (.ref d)])) rfl rfl (hb hby d5_31)
  have z5 : h4.size = h1.size := R4.size
  have S4_d : Safe Z own_EL s.vm h4 d := Safe.wr R4 S1_d W1.ch S1_d
  have U4 : Arv Z h4 d kd .byte (3 : Int32) [(.int (c1.toInt8.toInt32).toInt8.toInt32), (.int (c2.toInt8.toInt32).toInt8.toInt32), vZ] vZ := V4
  refine go (g' := (mkF m 32 #[vR b, vI (1 : Int32), vR d, vI (1 : Int32), vI (3 : Int32), vI (1 : Int32), vI c2] [])) (st4) ?_
  refine go (g' := (mkF m 35 #[vR b, vI ((1 : Int32) + (1 : Int32)), vR d, vI (1 : Int32), vI (3 : Int32), vI (1 : Int32), vI c2] [])) (fun _ k => XS.iinc W4.here hx rfl (hb hby d5_32) rfl (l' := #[vR b, vI ((1 : Int32) + (1 : Int32)), vR d, vI (1 : Int32), vI (3 : Int32), vI (1 : Int32), vI c2]) rfl k) ?_
  rw [show ((1 : Int32) + (1 : Int32)) = (2 : Int32) from by decide]
  refine go (g' := (mkF m 38 #[vR b, vI (2 : Int32), vR d, vI ((1 : Int32) + (1 : Int32)), vI (3 : Int32), vI (1 : Int32), vI c2] [])) (fun _ k => XS.iinc W4.here hx rfl (hb hby d5_35) rfl (l' := #[vR b, vI (2 : Int32), vR d, vI ((1 : Int32) + (1 : Int32)), vI (3 : Int32), vI (1 : Int32), vI c2]) rfl k) ?_
  rw [show ((1 : Int32) + (1 : Int32)) = (2 : Int32) from by decide]
  refine go (g' := (mkF m 41 #[vR b, vI (2 : Int32), vR d, vI (2 : Int32), vI (3 : Int32), vI ((1 : Int32) + (1 : Int32)), vI c2] [])) (fun _ k => XS.iinc W4.here hx rfl (hb hby d5_38) rfl (l' := #[vR b, vI (2 : Int32), vR d, vI (2 : Int32), vI (3 : Int32), vI ((1 : Int32) + (1 : Int32)), vI c2]) rfl k) ?_
  rw [show ((1 : Int32) + (1 : Int32)) = (2 : Int32) from by decide]
  refine go (g' := (mkF m 12 #[vR b, vI (2 : Int32), vR d, vI (2 : Int32), vI (3 : Int32), vI (2 : Int32), vI c2] [(.int (2 : Int32)), (.ref b)])) (fun _ k => XS.goto W4.here hx rfl (pc0 := 41) (pc' := 3) rfl (hb hby d5_41) (by decide) (by decide) (XS.iload W4.here hx rfl (hb hby d5_3) rfl (XS.iload W4.here hx rfl (hb hby d5_5) rfl (XS.icmpNo W4.here hx rfl (hb hby d5_7) rfl (tlt ((by decide) : (2 : Int32) < (3 : Int32))).2.1 (XS.aloadN W4.here hx rfl (hb hby d5_10) rfl rfl (XS.iloadN W4.here hx rfl (hb hby d5_11) rfl k)))))) ?_
  have f6 := f3.other R4 nbd
  refine go (g' := (mkF m 13 #[vR b, vI (2 : Int32), vR d, vI (2 : Int32), vI (3 : Int32), vI (2 : Int32), vI c2] [(.int c3)])) (own_cal W4 hx f6 (j := (2 : Int32)) ⟨by decide, by decide⟩ rfl (g := (mkF m 12 #[vR b, vI (2 : Int32), vR d, vI (2 : Int32), vI (3 : Int32), vI (2 : Int32), vI c2] [(.int (2 : Int32)), (.ref b)])) rfl rfl (hb hby d5_12)) ?_
  refine go (g' := (mkF m 25 #[vR b, vI (2 : Int32), vR d, vI (2 : Int32), vI (3 : Int32), vI (2 : Int32), vI c3] [(.int (2 : Int32))])) (fun _ k => XS.istore W4.here hx rfl (hb hby d5_13) rfl (l' := #[vR b, vI (2 : Int32), vR d, vI (2 : Int32), vI (3 : Int32), vI (2 : Int32), vI c3]) rfl (XS.iload W4.here hx rfl (hb hby d5_15) rfl (XS.sipush W4.here hx rfl (hb hby d5_17) (XS.icmpNo W4.here hx rfl (hb hby d5_20) rfl (tlt qw).2.2.2 (XS.iload W4.here hx rfl (hb hby d5_23) rfl k))))) ?_
  have KK7 : Keep h0 h4 [d] := (((Keep.refl h0 [d]).wr R1 (Or.inl (own_mi (i := 0) rfl))).wr R4 (Or.inl (own_mi (i := 0) rfl)))
  exact fin (v := some (.int (2 : Int32))) (so := []) W4 (nle rfl) (nle rfl) (⟨rfl, KK7⟩) (fun _ q => nomatch q) (fun q => nomatch q) (own_retI W4 hx hret (by decide) rfl (hb hby d5_25))
theorem rm_cm3_2 (C : Cx Z a0) (h0 : Heap) (b : Addr) (kb : ClassId) (c1 c2 c3 : Int32) (q1 : ¬ (255 : Int32) < c1) (q2 : ¬ (255 : Int32) < c2) (qw : (255 : Int32) < c3) (r1 : ¬ c1 < 0 ∧ ¬ (65535 : Int32) < c1) (r2 : ¬ c2 < 0 ∧ ¬ (65535 : Int32) < c2) (r3 : ¬ c3 < 0 ∧ ¬ (65535 : Int32) < c3) (Ab : Arv Z h0 b kb .char (3 : Int32) [(.int c1), (.int c2), (.int c3)] vZ) :
    Ct l Z a0 own_EL (⟨"java/lang/StringUTF16", "compress", "([CII)[B"⟩ : MethodName) jdk_52_method_16_code 6 (Option.some (Jvm.ClassFile.FieldType.array Jvm.ClassFile.FieldType.byte)) [] (rmm 3 2 9 40) #[(.ref b), vZ, (.int (3 : Int32))] h0 [] (fun v h so => ∃ (x : Addr) (kx : ClassId), v = some (.ref x) ∧ Ext h0 h ∧ h0.size ≤ x ∧ Arv Z h x kx .byte (6 : Int32) [(.int c1.toInt8.toInt32), (.int (StrChars.hi8 c1)), (.int c2.toInt8.toInt32), (.int (StrChars.hi8 c2)), (.int c3.toInt8.toInt32), (.int (StrChars.hi8 c3))] vZ) := by
  refine own_enter (plainFor_of_name pn_0) C.ew (F0 := fun m => mkF m 0 #[vR b, .val vZ, vI (3 : Int32), .unset, .unset, .unset] []) (fun m => by first | (simp [entryFrame, mkF, argsToLocals, Value.category]; done) | rfl) ?_
  intro p e s m below meth c s₁ G hx hby hml hret hnm W0 S0 go fin
  have z0 := W0.sz
  show G s₁ (mkF m 0 #[vR b, .val vZ, vI (3 : Int32), .unset, .unset, .unset] [])
  have lb : ltN b h0.size := Ab.lt
  refine go (g' := (mkF m 1 #[vR b, .val vZ, vI (3 : Int32), .unset, .unset, .unset] [(.int (3 : Int32))])) (fun _ k => XS.iloadN W0.here hx rfl (hb hby d6_0) rfl k) ?_
  obtain ⟨x1, T1, h1, k1, g1, W1, E1, A1, st1⟩ := own_newP W0 hx (aty := .byte) (w20 C) (g := (mkF m 1 #[vR b, .val vZ, vI (3 : Int32), .unset, .unset, .unset] [(.int (3 : Int32))])) rfl (hb hby d6_1) rfl (by decide) (cap := 3) (by decide) (nle rfl) (nle rfl) (nle rfl)
  have z2 : h0.size ≤ h1.size := E1.1
  have l1 : ltN x1 h1.size := A1.lt
  have V1 : Arv Z h1 x1 k1 .byte (3 : Int32) [vZ, vZ, vZ] vZ := A1.pad (pad_rep [] vZ 3)
  refine go (g' := (mkF m 3 #[vR b, .val vZ, vI (3 : Int32), .unset, .unset, .unset] [(.ref x1)])) (st1) ?_
  refine go (g' := (mkF m 9 #[vR b, .val vZ, vI (3 : Int32), vR x1, .unset, .unset] [(.int (3 : Int32)), vZ, (.ref x1), vZ, (.ref b)])) (fun _ k => XS.astoreN W1.here hx rfl (hb hby d6_3) rfl rfl (l' := #[vR b, .val vZ, vI (3 : Int32), vR x1, .unset, .unset]) rfl (XS.aloadN W1.here hx rfl (hb hby d6_4) rfl rfl (XS.iloadN W1.here hx rfl (hb hby d6_5) rfl (XS.aloadN W1.here hx rfl (hb hby d6_6) rfl rfl (XS.iconst W1.here hx rfl (hb hby d6_7) (XS.iloadN W1.here hx rfl (hb hby d6_8) rfl k)))))) ?_
  have X4 : Ext h0 h1 := own_xt (own_xr h0) E1
  have f5 := Ab.ext X4
  obtain ⟨v3, so3, vm3, T3, h3, W3, C3, q3, hso3, st3⟩ := own_static W1 hx (w21 C) (w22 C) (w18 C) (w23 C) (by decide) (rm_cmi3_2 C h1 b kb c1 c2 c3 q1 q2 qw r1 r2 r3 f5 x1 k1 V1 (by omega)) (allS (own_safeB W0 X4 (by omega)) all0) (Wd := 0) (nle rfl) (nle rfl) (nle rfl) (nle rfl) (g := (mkF m 9 #[vR b, .val vZ, vI (3 : Int32), vR x1, .unset, .unset] [(.int (3 : Int32)), vZ, (.ref x1), vZ, (.ref b)])) rfl (by rw [hml]; rfl) (argsL := [(.ref b), vZ, (.ref x1), vZ, (.int (3 : Int32))]) (rest := []) (lenOf pd_3 rfl) rfl rfl (nle rfl) (hb hby d6_9)
  obtain ⟨rfl, K3⟩ := q3
  have z6 : h1.size ≤ h3.size := K3.1
  have S3_x1 : Safe Z own_EL vm3 h3 x1 := C3.safe (olt (by omega)) (own_safeB W0 X4 (by omega))
  refine go (g' := (mkF m 12 #[vR b, .val vZ, vI (3 : Int32), vR x1, .unset, .unset] [(.int (2 : Int32))])) (st3) ?_
  refine go (g' := (mkF m 23 #[vR b, .val vZ, vI (3 : Int32), vR x1, vI (2 : Int32), .unset] [(.int (3 : Int32)), vZ, (.ref b)])) (fun _ k => XS.istore W3.here hx rfl (hb hby d6_12) rfl (l' := #[vR b, .val vZ, vI (3 : Int32), vR x1, vI (2 : Int32), .unset]) rfl (XS.iload W3.here hx rfl (hb hby d6_14) rfl (XS.iloadN W3.here hx rfl (hb hby d6_16) rfl (XS.icmpNo W3.here hx rfl (hb hby d6_17) rfl (feq ((by decide) : ¬ ((2 : Int32) = (3 : Int32)))).1 (XS.aloadN W3.here hx rfl (hb hby d6_20) rfl rfl (XS.iloadN W3.here hx rfl (hb hby d6_21) rfl (XS.iloadN W3.here hx rfl (hb hby d6_22) rfl k))))))) ?_
  have X8 : Ext h0 h3 := own_xk X4 K3 (allS (by omega) all0)
  have f9 := Ab.ext X8
  obtain ⟨v7, so7, vm7, T7, h7, W7, C7, q7, hso7, st7⟩ := own_static W3 hx (w199 C) (w200 C) (w18 C) (w201 C) (by decide) (rm_tb3 C h3 b kb c1 c2 c3 r1 r2 r3 f9) (fun _ q => nomatch q) (Wd := 0) (nle rfl) (nle rfl) (nle rfl) (nle rfl) (g := (mkF m 23 #[vR b, .val vZ, vI (3 : Int32), vR x1, vI (2 : Int32), .unset] [(.int (3 : Int32)), vZ, (.ref b)])) rfl (by rw [hml]; rfl) (argsL := [(.ref b), vZ, (.int (3 : Int32))]) (rest := []) (lenOf pd_4 rfl) rfl rfl (nle rfl) (hb hby d6_23)
  obtain ⟨x7, k7, rfl, E7, g7, V7⟩ := q7
  have z10 : h3.size ≤ h7.size := E7.1
  have S7_x1 : Safe Z own_EL vm7 h7 x1 := C7.safe (olt (by omega)) S3_x1
  refine go (g' := (mkF m 26 #[vR b, .val vZ, vI (3 : Int32), vR x1, vI (2 : Int32), .unset] [(.ref x7)])) (st7) ?_
  refine go (g' := (mkF m 32 #[vR b, .val vZ, vI (3 : Int32), vR x1, vI (2 : Int32), vR x7] [(.int (2 : Int32)), (.ref x7)])) (fun _ k => XS.astore W7.here hx rfl (hb hby d6_26) rfl rfl (l' := #[vR b, .val vZ, vI (3 : Int32), vR x1, vI (2 : Int32), vR x7]) rfl (XS.aload W7.here hx rfl (hb hby d6_28) rfl rfl (XS.iload W7.here hx rfl (hb hby d6_30) rfl k))) ?_
  obtain ⟨v11, so11, vm11, T11, h11, W11, C11, q11, hso11, st11⟩ := own_static W7 hx (w215 C) (w216 C) (w18 C) (w217 C) (by decide) (rm_getc C h7 x7 k7 6 2 [(.int c1.toInt8.toInt32), (.int (StrChars.hi8 c1)), (.int c2.toInt8.toInt32), (.int (StrChars.hi8 c2)), (.int c3.toInt8.toInt32), (.int (StrChars.hi8 c3))] (nle rfl) (by decide) (by decide) c3.toInt8.toInt32 (StrChars.hi8 c3) rfl rfl V7) (fun _ q => nomatch q) (Wd := 0) (nle rfl) (nle rfl) (nle rfl) (nle rfl) (g := (mkF m 32 #[vR b, .val vZ, vI (3 : Int32), vR x1, vI (2 : Int32), vR x7] [(.int (2 : Int32)), (.ref x7)])) rfl (by rw [hml]; rfl) (argsL := [(.ref x7), (.int (2 : Int32))]) (rest := []) (lenOf pd_5 rfl) rfl rfl (nle rfl) (hb hby d6_32)
  obtain ⟨rfl, rfl⟩ := q11
  have S11_x1 : Safe Z own_EL vm11 h7 x1 := C11.safe (olt (by omega)) S7_x1
  refine go (g' := (mkF m 35 #[vR b, .val vZ, vI (3 : Int32), vR x1, vI (2 : Int32), vR x7] [(.int (StrChars.pairCh c3.toInt8.toInt32 (StrChars.hi8 c3)))])) (st11) ?_
  rw [show (StrChars.pairCh c3.toInt8.toInt32 (StrChars.hi8 c3)) = c3 from StrChars.pair_says r3.1 r3.2]
  refine go (g' := (mkF m 56 #[vR b, .val vZ, vI (3 : Int32), vR x1, vI (2 : Int32), vR x7] [(.ref x7)])) (fun _ k => XS.sipush W11.here hx rfl (hb hby d6_35) (XS.icmpYes W11.here hx rfl (pc0 := 38) (pc' := 54) rfl (hb hby d6_38) rfl (tlt qw).2.2.1 (by decide) (by decide) (XS.aload W11.here hx rfl (hb hby d6_54) rfl rfl k))) ?_
  have X12 : Ext h0 h7 := own_xt X8 E7
  exact fin (v := some (.ref x7)) (so := []) W11 (nle rfl) (nle rfl) (⟨_, _, rfl, X12, by omega, V7⟩) (fun _ q => nomatch q) (fun q => nomatch q) (own_retA W11 hx hret rfl rfl rfl (hb hby d6_56))
theorem rm_cmx3 (C : Cx Z a0) (h0 : Heap) (b : Addr) (kb : ClassId) (c1 c2 c3 : Int32) (hw : (255 : Int32) < c1 ∨ (255 : Int32) < c2 ∨ (255 : Int32) < c3) (r1 : ¬ c1 < 0 ∧ ¬ (65535 : Int32) < c1) (r2 : ¬ c2 < 0 ∧ ¬ (65535 : Int32) < c2) (r3 : ¬ c3 < 0 ∧ ¬ (65535 : Int32) < c3) (Ab : Arv Z h0 b kb .char (3 : Int32) [(.int c1), (.int c2), (.int c3)] vZ) : Ct l Z a0 own_EL (⟨"java/lang/StringUTF16", "compress", "([CII)[B"⟩ : MethodName) jdk_52_method_16_code 6 (Option.some (Jvm.ClassFile.FieldType.array Jvm.ClassFile.FieldType.byte)) [] (rmm 3 2 9 40) #[(.ref b), vZ, (.int (3 : Int32))] h0 [] (fun v h so => ∃ (x : Addr) (kx : ClassId), v = some (.ref x) ∧ Ext h0 h ∧ h0.size ≤ x ∧ Arv Z h x kx .byte (6 : Int32) [(.int c1.toInt8.toInt32), (.int (StrChars.hi8 c1)), (.int c2.toInt8.toInt32), (.int (StrChars.hi8 c2)), (.int c3.toInt8.toInt32), (.int (StrChars.hi8 c3))] vZ) := by
  by_cases q1 : (255 : Int32) < c1
  · exact rm_cm3_0 C h0 b kb c1 c2 c3 q1 r1 r2 r3 Ab
  by_cases q2 : (255 : Int32) < c2
  · exact rm_cm3_1 C h0 b kb c1 c2 c3 q1 q2 r1 r2 r3 Ab
  exact rm_cm3_2 C h0 b kb c1 c2 c3 q1 q2 ((hw.resolve_left q1).resolve_left q2) r1 r2 r3 Ab
theorem rm_cfa3 (C : Cx Z a0) (h0 : Heap) (x : Addr) (kx : ClassId) (vs : List Value) (Vx : Arv Z h0 x kx .byte (6 : Int32) vs vZ) :
    Ct l Z a0 own_EL (⟨"java/lang/StringUTF16", "coderFromArrayLen", "([BI)B"⟩ : MethodName) jdk_52_method_15_code 2 (Option.some Jvm.ClassFile.FieldType.byte) [] (rmm 0 0 0 0) #[(.ref x), (.int (3 : Int32))] h0 [] (fun v h so => v = some (.int (1 : Int32)) ∧ h0 = h) := by
  refine own_enter (plainFor_of_name pn_0) C.ew (F0 := fun m => mkF m 0 #[vR x, vI (3 : Int32)] []) (fun m => by first | (simp [entryFrame, mkF, argsToLocals, Value.category]; done) | rfl) ?_
  intro p e s m below meth c s₁ G hx hby hml hret hnm W0 S0 go fin
  have z0 := W0.sz
  show G s₁ (mkF m 0 #[vR x, vI (3 : Int32)] [])
  refine go (g' := (mkF m 2 #[vR x, vI (3 : Int32)] [(.ref x), (.int (3 : Int32))])) (fun _ k => XS.iloadN W0.here hx rfl (hb hby d7_0) rfl (XS.aloadN W0.here hx rfl (hb hby d7_1) rfl rfl k)) ?_
  refine go (g' := (mkF m 3 #[vR x, vI (3 : Int32)] [(.int (6 : Int32)), (.int (3 : Int32))])) (own_alen W0 hx Vx (g := (mkF m 2 #[vR x, vI (3 : Int32)] [(.ref x), (.int (3 : Int32))])) rfl rfl (hb hby d7_2)) ?_
  refine go (g' := (mkF m 4 #[vR x, vI (3 : Int32)] [(.int ((3 : Int32) - (6 : Int32)))])) (fun _ k => XS.isub W0.here hx rfl (hb hby d7_3) rfl k) ?_
  rw [show ((3 : Int32) - (6 : Int32)) = (-3 : Int32) from by decide]
  refine go (g' := (mkF m 7 #[vR x, vI (3 : Int32)] [(.int (((-3 : Int32).toUInt32 >>> ((31 : Int32) &&& 31).toUInt32).toInt32))])) (fun _ k => XS.bipush W0.here hx rfl (hb hby d7_4) (XS.iushr W0.here hx rfl (hb hby d7_6) rfl k)) ?_
  rw [show (((-3 : Int32).toUInt32 >>> ((31 : Int32) &&& 31).toUInt32).toInt32) = (1 : Int32) from by decide]
  refine go (g' := (mkF m 8 #[vR x, vI (3 : Int32)] [(.int ((1 : Int32).toInt8.toInt32))])) (fun _ k => XS.i2b W0.here hx rfl (hb hby d7_7) rfl k) ?_
  rw [show ((1 : Int32).toInt8.toInt32) = (1 : Int32) from by decide]
  exact fin (v := some (.int (1 : Int32))) (so := []) W0 (nle rfl) (nle rfl) (⟨rfl, rfl⟩) (fun _ q => nomatch q) (fun q => nomatch q) (own_retI W0 hx hret (by decide) rfl (hb hby d7_8))
theorem rm_wi43 (C : Cx Z a0) (h0 : Heap) (x : Addr) (Ex : Exa Z h0 x "java/lang/String") (Fv : Fld Z h0 x "java/lang/String" "value" "[B" .null) (Fc : Fld Z h0 x "java/lang/String" "coder" "B" vZ) (nx : Z.heap.size ≤ x) (b : Addr) (kb : ClassId) (c1 c2 c3 : Int32) (hw : (255 : Int32) < c1 ∨ (255 : Int32) < c2 ∨ (255 : Int32) < c3) (r1 : ¬ c1 < 0 ∧ ¬ (65535 : Int32) < c1) (r2 : ¬ c2 < 0 ∧ ¬ (65535 : Int32) < c2) (r3 : ¬ c3 < 0 ∧ ¬ (65535 : Int32) < c3) (Ab : Arv Z h0 b kb .char (3 : Int32) [(.int c1), (.int c2), (.int c3)] vZ) :
    Ct l Z a0 own_EL (⟨"java/lang/String", "<init>", "([CIILjava/lang/Void;)V"⟩ : MethodName) jdk_42_method_149_code 6 (Option.none : Option Jvm.ClassFile.FieldType) [] (rmm 4 2 9 57) #[(.ref x), (.ref b), vZ, (.int (3 : Int32)), .null] h0 [x] (fun v h so => v = none ∧ Keep h0 h [x] ∧ StrW Z h x [c1, c2, c3]) := by
  refine own_enter (plainFor_of_name pn_1) C.ew (F0 := fun m => mkF m 0 #[vR x, vR b, .val vZ, vI (3 : Int32), .val .null, .unset] []) (fun m => by first | (simp [entryFrame, mkF, argsToLocals, Value.category]; done) | rfl) ?_
  intro p e s m below meth c s₁ G hx hby hml hret hnm W0 S0 go fin
  have z0 := W0.sz
  show G s₁ (mkF m 0 #[vR x, vR b, .val vZ, vI (3 : Int32), .val .null, .unset] [])
  have lx : ltN x h0.size := Ex.lt
  have lb : ltN b h0.size := Ab.lt
  have nbx : b ≠ x := Ne.symm (Exa.neArv Ex Ab (w2 C))
  refine go (g' := (mkF m 1 #[vR x, vR b, .val vZ, vI (3 : Int32), .val .null, .unset] [(.ref x)])) (fun _ k => XS.aloadN W0.here hx rfl (hb hby d8_0) rfl rfl k) ?_
  obtain ⟨T1, W1, st1⟩ := own_initO W0 hx (w12 C) (w13 C) (w14 C) (g := (mkF m 1 #[vR x, vR b, .val vZ, vI (3 : Int32), .val .null, .unset] [(.ref x)])) rfl (by rw [hml]; rfl) rfl (hb hby d8_1) (nle rfl) (Wd := 0) (nle rfl) (nle rfl)
  refine go (g' := (mkF m 4 #[vR x, vR b, .val vZ, vI (3 : Int32), .val .null, .unset] [])) (st1) ?_
  refine go (g' := (mkF m 27 #[vR x, vR b, .val vZ, vI (3 : Int32), .val .null, .unset] [])) (fun _ k => XS.iloadN W1.here hx rfl (hb hby d8_4) rfl (XS.ifYes W1.here hx rfl (pc0 := 5) (pc' := 27) rfl (hb hby d8_5) rfl ((if0 _ _).trans (feq ((by decide) : ¬ ((3 : Int32) = (0 : Int32)))).2) (by decide) (by decide) k)) ?_
  obtain ⟨gCS, OCS, nCS⟩ := C.cs
  obtain ⟨T2, W2, st2⟩ := own_getS W1 hx (host := "") (Or.inl (w15 C)) Via.refl OCS (g := (mkF m 27 #[vR x, vR b, .val vZ, vI (3 : Int32), .val .null, .unset] [])) rfl (hb hby d8_27)
  refine go (g' := (mkF m 30 #[vR x, vR b, .val vZ, vI (3 : Int32), .val .null, .unset] [(.int gCS)])) (st2) ?_
  refine go (g' := (mkF m 36 #[vR x, vR b, .val vZ, vI (3 : Int32), .val .null, .unset] [(.int (3 : Int32)), vZ, (.ref b)])) (fun _ k => XS.ifNo W2.here hx rfl (hb hby d8_30) rfl ((if0 _ _).trans (feq nCS).1) (XS.aloadN W2.here hx rfl (hb hby d8_33) rfl rfl (XS.iloadN W2.here hx rfl (hb hby d8_34) rfl (XS.iloadN W2.here hx rfl (hb hby d8_35) rfl k)))) ?_
  obtain ⟨v3, so3, vm3, T3, h3, W3, C3, q3, hso3, st3⟩ := own_static W2 hx (w16 C) (w17 C) (w18 C) (w19 C) (by decide) (rm_cmx3 C h0 b kb c1 c2 c3 hw r1 r2 r3 Ab) (fun _ q => nomatch q) (Wd := 0) (nle rfl) (nle rfl) (nle rfl) (nle rfl) (g := (mkF m 36 #[vR x, vR b, .val vZ, vI (3 : Int32), .val .null, .unset] [(.int (3 : Int32)), vZ, (.ref b)])) rfl (by rw [hml]; rfl) (argsL := [(.ref b), vZ, (.int (3 : Int32))]) (rest := []) (lenOf pd_4 rfl) rfl rfl (nle rfl) (hb hby d8_36)
  obtain ⟨x3, k3, rfl, E3, g3, V3⟩ := q3
  have z4 : h0.size ≤ h3.size := E3.1
  have S3_x : Safe Z own_EL vm3 h3 x := C3.safe (olt (by omega)) (S0 _ (own_mi (i := 0) rfl))
  refine go (g' := (mkF m 39 #[vR x, vR b, .val vZ, vI (3 : Int32), .val .null, .unset] [(.ref x3)])) (st3) ?_
  refine go (g' := (mkF m 45 #[vR x, vR b, .val vZ, vI (3 : Int32), .val .null, vR x3] [(.int (3 : Int32)), (.ref x3), (.ref x)])) (fun _ k => XS.astore W3.here hx rfl (hb hby d8_39) rfl rfl (l' := #[vR x, vR b, .val vZ, vI (3 : Int32), .val .null, vR x3]) rfl (XS.aloadN W3.here hx rfl (hb hby d8_41) rfl rfl (XS.aload W3.here hx rfl (hb hby d8_42) rfl rfl (XS.iloadN W3.here hx rfl (hb hby d8_44) rfl k)))) ?_
  obtain ⟨v5, so5, vm5, T5, h5, W5, C5, q5, hso5, st5⟩ := own_static W3 hx (w24 C) (w25 C) (w18 C) (w26 C) (by decide) (rm_cfa3 C h3 x3 k3 _ V3) (fun _ q => nomatch q) (Wd := 1) (nle rfl) (nle rfl) (nle rfl) (nle rfl) (g := (mkF m 45 #[vR x, vR b, .val vZ, vI (3 : Int32), .val .null, vR x3] [(.int (3 : Int32)), (.ref x3), (.ref x)])) rfl (by rw [hml]; rfl) (argsL := [(.ref x3), (.int (3 : Int32))]) (rest := [(.ref x)]) (lenOf pd_6 rfl) rfl rfl (nle rfl) (hb hby d8_45)
  obtain ⟨rfl, rfl⟩ := q5
  have S5_x : Safe Z own_EL vm5 h3 x := C5.safe (olt (by omega)) S3_x
  refine go (g' := (mkF m 48 #[vR x, vR b, .val vZ, vI (3 : Int32), .val .null, vR x3] [(.int (1 : Int32)), (.ref x)])) (st5) ?_
  have X6 : Ext h0 h3 := own_xt (own_xr h0) E3
  have f7 := Fc.ext X6
  have f8 := Ex.ext X6
  obtain ⟨T9, h9, W9, R9, F9, st9⟩ := own_put W5 hx (host := "") (Or.inl (w27 C)) Via.refl f7 f8 (Or.inr ⟨(w28 C), rfl, hnm⟩) (w2 C) (ty := .byte) (by decide) rfl (by decide) S5_x (by omega) (g := (mkF m 48 #[vR x, vR b, .val vZ, vI (3 : Int32), .val .null, vR x3] [(.int (1 : Int32)), (.ref x)])) rfl rfl (hb hby d8_48)
  have f10 := Fv.ext X6
  have z11 : h9.size = h3.size := R9.size
  have f12 := f8.wr R9
  have f13 := f10.other R9 (Or.inr (slot_ne (Or.inr (w30 C)) (Or.inr (w28 C)) (by decide) (t := (.array .byte)) (t' := .byte) (by decide) (by decide)))
  have S9 : Safe Z own_EL vm5 h9 x := Safe.wr R9 S5_x W5.ch S5_x
  refine go (g' := (mkF m 51 #[vR x, vR b, .val vZ, vI (3 : Int32), .val .null, vR x3] [])) (st9) ?_
  refine go (g' := (mkF m 54 #[vR x, vR b, .val vZ, vI (3 : Int32), .val .null, vR x3] [(.ref x3), (.ref x)])) (fun _ k => XS.aloadN W9.here hx rfl (hb hby d8_51) rfl rfl (XS.aload W9.here hx rfl (hb hby d8_52) rfl rfl k)) ?_
  obtain ⟨T14, h14, W14, R14, F14, st14⟩ := own_put W9 hx (host := "") (Or.inl (w29 C)) Via.refl f13 f12 (Or.inr ⟨(w30 C), rfl, hnm⟩) (w2 C) (ty := (.array .byte)) (by decide) rfl rfl S9 (by omega) (g := (mkF m 54 #[vR x, vR b, .val vZ, vI (3 : Int32), .val .null, vR x3] [(.ref x3), (.ref x)])) rfl rfl (hb hby d8_54)
  have z15 : h14.size = h9.size := R14.size
  have f16 := f12.wr R14
  have f17 := F9.other R14 (Or.inr (slot_ne (Or.inr (w28 C)) (Or.inr (w30 C)) (by decide) (t := .byte) (t' := (.array .byte)) (by decide) (by decide)))
  have S14 : Safe Z own_EL vm5 h14 x := Safe.wr R14 S9 W9.ch S9
  refine go (g' := (mkF m 57 #[vR x, vR b, .val vZ, vI (3 : Int32), .val .null, vR x3] [])) (st14) ?_
  have KK18 : Keep h0 h14 [x] := ((((Keep.refl h0 [x]).ext E3).wr R9 (Or.inl (own_mi (i := 0) rfl))).wr R14 (Or.inl (own_mi (i := 0) rfl)))
  have l20 : ltN x3 h3.size := V3.lt
  have f19 := V3.other R9 (one (by omega))
  have l22 : ltN x3 h3.size := V3.lt
  have f21 := f19.other R14 (one (by omega))
  exact fin (v := none) (so := []) W14 (nle rfl) (nle rfl) (⟨rfl, KK18, f16, f17, (own_alS r1 (own_alS r2 (own_alS r3 own_al0))), _, _, F14, f21⟩) (fun _ q => nomatch q) (fun _ => rfl) (own_retV W14 hx hret (hb hby d8_57))
theorem rm_wi3 (C : Cx Z a0) (h0 : Heap) (x : Addr) (Ex : Exa Z h0 x "java/lang/String") (Fv : Fld Z h0 x "java/lang/String" "value" "[B" .null) (Fc : Fld Z h0 x "java/lang/String" "coder" "B" vZ) (nx : Z.heap.size ≤ x) (b : Addr) (kb : ClassId) (c1 c2 c3 : Int32) (hw : (255 : Int32) < c1 ∨ (255 : Int32) < c2 ∨ (255 : Int32) < c3) (r1 : ¬ c1 < 0 ∧ ¬ (65535 : Int32) < c1) (r2 : ¬ c2 < 0 ∧ ¬ (65535 : Int32) < c2) (r3 : ¬ c3 < 0 ∧ ¬ (65535 : Int32) < c3) (Ab : Arv Z h0 b kb .char (3 : Int32) [(.int c1), (.int c2), (.int c3)] vZ) :
    Ct l Z a0 own_EL (⟨"java/lang/String", "<init>", "([C)V"⟩ : MethodName) jdk_42_method_3_code 2 (Option.none : Option Jvm.ClassFile.FieldType) [] (rmm 5 2 9 74) #[(.ref x), (.ref b)] h0 [x] (fun v h so => v = none ∧ Keep h0 h [x] ∧ StrW Z h x [c1, c2, c3]) := by
  refine own_enter (plainFor_of_name pn_1) C.ew (F0 := fun m => mkF m 0 #[vR x, vR b] []) (fun m => by first | (simp [entryFrame, mkF, argsToLocals, Value.category]; done) | rfl) ?_
  intro p e s m below meth c s₁ G hx hby hml hret hnm W0 S0 go fin
  have z0 := W0.sz
  show G s₁ (mkF m 0 #[vR x, vR b] [])
  have lx : ltN x h0.size := Ex.lt
  have lb : ltN b h0.size := Ab.lt
  have nbx : b ≠ x := Ne.symm (Exa.neArv Ex Ab (w2 C))
  refine go (g' := (mkF m 4 #[vR x, vR b] [(.ref b), vZ, (.ref b), (.ref x)])) (fun _ k => XS.aloadN W0.here hx rfl (hb hby d9_0) rfl rfl (XS.aloadN W0.here hx rfl (hb hby d9_1) rfl rfl (XS.iconst W0.here hx rfl (hb hby d9_2) (XS.aloadN W0.here hx rfl (hb hby d9_3) rfl rfl k)))) ?_
  refine go (g' := (mkF m 5 #[vR x, vR b] [(.int (3 : Int32)), vZ, (.ref b), (.ref x)])) (own_alen W0 hx Ab (g := (mkF m 4 #[vR x, vR b] [(.ref b), vZ, (.ref b), (.ref x)])) rfl rfl (hb hby d9_4)) ?_
  refine go (g' := (mkF m 6 #[vR x, vR b] [.null, (.int (3 : Int32)), vZ, (.ref b), (.ref x)])) (fun _ k => XS.aconstNull W0.here hx rfl (hb hby d9_5) k) ?_
  obtain ⟨v1, so1, vm1, T1, h1, W1, C1, q1, hso1, st1⟩ := own_special W0 hx (y := (⟨"java/lang/String", "<init>", "([CIILjava/lang/Void;)V"⟩ : MethodName)) rfl (w8 C) (w9 C) (w3 C) (w11 C) (by decide) (rm_wi43 C h0 x Ex Fv Fc (by omega) b kb c1 c2 c3 hw r1 r2 r3 Ab) (allS (S0 _ (own_mi (i := 0) rfl)) all0) (Wd := 0) (nle rfl) (nle rfl) (nle rfl) (nle rfl) (g := (mkF m 6 #[vR x, vR b] [.null, (.int (3 : Int32)), vZ, (.ref b), (.ref x)])) rfl (by rw [hml]; rfl) (a := x) (argsL := [(.ref b), vZ, (.int (3 : Int32)), .null]) (rest := []) (lenOf pd_7 rfl) rfl rfl (nle rfl) (hb hby d9_6)
  obtain ⟨rfl, K1, S1⟩ := q1
  have z2 : h0.size ≤ h1.size := K1.1
  have S1_x : Safe Z own_EL vm1 h1 x := C1.safe (olt (by omega)) (S0 _ (own_mi (i := 0) rfl))
  refine go (g' := (mkF m 9 #[vR x, vR b] [])) (st1) ?_
  have KK3 : Keep h0 h1 [x] := ((Keep.refl h0 [x]).trans K1 (allS (Or.inl (own_mi (i := 0) rfl)) all0))
  exact fin (v := none) (so := []) W1 (nle rfl) (nle rfl) (⟨rfl, KK3, S1⟩) (fun _ q => nomatch q) (fun _ => rfl) (own_retV W1 hx hret (hb hby d9_9))
theorem rm_asbinit (C : Cx Z a0) (h0 : Heap) (x : Addr) (Ex : Exa Z h0 x "java/lang/StringBuilder") (Fv : Fld Z h0 x "java/lang/AbstractStringBuilder" "value" "[B" .null) (Fc : Fld Z h0 x "java/lang/AbstractStringBuilder" "coder" "B" vZ) (Fn : Fld Z h0 x "java/lang/AbstractStringBuilder" "count" "I" vZ) (Fm : Fld Z h0 x "java/lang/AbstractStringBuilder" "maybeLatin1" "Z" vZ) (nx : Z.heap.size ≤ x) :
    Ct l Z a0 own_EL (⟨"java/lang/AbstractStringBuilder", "<init>", "(I)V"⟩ : MethodName) jdk_68_method_2_code 2 (Option.none : Option Jvm.ClassFile.FieldType) [] (rmm 1 1 16 12) #[(.ref x), (.int (16 : Int32))] h0 [] (fun v h so => v = none ∧ Keep h0 h [x] ∧ ∃ (t : Addr) (kt : ClassId), so = [t] ∧ h0.size ≤ t ∧ Bl Z h x t kt []) := by
  refine own_enter (plainFor_of_name pn_2) C.ew (F0 := fun m => mkF m 0 #[vR x, vI (16 : Int32)] []) (fun m => by first | (simp [entryFrame, mkF, argsToLocals, Value.category]; done) | rfl) ?_
  intro p e s m below meth c s₁ G hx hby hml hret hnm W0 S0 go fin
  have z0 := W0.sz
  show G s₁ (mkF m 0 #[vR x, vI (16 : Int32)] [])
  have lx : ltN x h0.size := Ex.lt
  refine go (g' := (mkF m 1 #[vR x, vI (16 : Int32)] [(.ref x)])) (fun _ k => XS.aloadN W0.here hx rfl (hb hby d10_0) rfl rfl k) ?_
  obtain ⟨T1, W1, st1⟩ := own_initO W0 hx (w66 C) (w13 C) (w14 C) (g := (mkF m 1 #[vR x, vI (16 : Int32)] [(.ref x)])) rfl (by rw [hml]; rfl) rfl (hb hby d10_1) (nle rfl) (Wd := 0) (nle rfl) (nle rfl)
  refine go (g' := (mkF m 4 #[vR x, vI (16 : Int32)] [])) (st1) ?_
  obtain ⟨gCS, OCS, nCS⟩ := C.cs
  obtain ⟨T2, W2, st2⟩ := own_getS W1 hx (host := "") (Or.inl (w67 C)) Via.refl OCS (g := (mkF m 4 #[vR x, vI (16 : Int32)] [])) rfl (hb hby d10_4)
  refine go (g' := (mkF m 7 #[vR x, vI (16 : Int32)] [(.int gCS)])) (st2) ?_
  refine go (g' := (mkF m 12 #[vR x, vI (16 : Int32)] [(.int (16 : Int32)), (.ref x)])) (fun _ k => XS.ifNo W2.here hx rfl (hb hby d10_7) rfl ((if0 _ _).trans (feq nCS).1) (XS.aloadN W2.here hx rfl (hb hby d10_10) rfl rfl (XS.iloadN W2.here hx rfl (hb hby d10_11) rfl k))) ?_
  obtain ⟨x3, T3, h3, k3, g3, W3, E3, A3, st3⟩ := own_newP W2 hx (aty := .byte) (w20 C) (g := (mkF m 12 #[vR x, vI (16 : Int32)] [(.int (16 : Int32)), (.ref x)])) rfl (hb hby d10_12) rfl (by decide) (cap := 16) (by decide) (nle rfl) (nle rfl) (nle rfl)
  have z4 : h0.size ≤ h3.size := E3.1
  have l3 : ltN x3 h3.size := A3.lt
  have V3 : Arv Z h3 x3 k3 .byte (16 : Int32) [vZ, vZ, vZ, vZ, vZ, vZ, vZ, vZ, vZ, vZ, vZ, vZ, vZ, vZ, vZ, vZ] vZ := A3.pad (pad_rep [] vZ 16)
  refine go (g' := (mkF m 14 #[vR x, vI (16 : Int32)] [(.ref x3), (.ref x)])) (st3) ?_
  have X5 : Ext h0 h3 := own_xt (own_xr h0) E3
  have f6 := Fv.ext X5
  have f7 := Ex.ext X5
  obtain ⟨T8, h8, W8, R8, F8, st8⟩ := own_put W3 hx (host := "") (Or.inl (w68 C)) Via.refl f6 f7 (Or.inl (w69 C)) (w55 C) (ty := (.array .byte)) (by decide) rfl rfl (own_safeE W3 f7 (by decide) (by decide)) (by omega) (g := (mkF m 14 #[vR x, vI (16 : Int32)] [(.ref x3), (.ref x)])) rfl rfl (hb hby d10_14)
  have f9 := Fc.ext X5
  have f10 := Fn.ext X5
  have f11 := Fm.ext X5
  have z12 : h8.size = h3.size := R8.size
  have f13 := f7.wr R8
  have f14 := f9.other R8 (Or.inr (slot_ne (Or.inl (w71 C)) (Or.inl (w69 C)) (by decide) (t := .byte) (t' := (.array .byte)) (by decide) (by decide)))
  have f15 := f10.other R8 (Or.inr (slot_ne (Or.inl (w96 C)) (Or.inl (w69 C)) (by decide) (t := .int) (t' := (.array .byte)) (by decide) (by decide)))
  have f16 := f11.other R8 (Or.inr (slot_ne (Or.inl (w245 C)) (Or.inl (w69 C)) (by decide) (t := .boolean) (t' := (.array .byte)) (by decide) (by decide)))
  have S8_x3 : Safe Z own_EL s.vm h8 x3 := Safe.wr R8 (own_safeE W3 f7 (by decide) (by decide)) W3.ch (own_safeB W2 X5 (by omega))
  refine go (g' := (mkF m 17 #[vR x, vI (16 : Int32)] [])) (st8) ?_
  refine go (g' := (mkF m 19 #[vR x, vI (16 : Int32)] [vZ, (.ref x)])) (fun _ k => XS.aloadN W8.here hx rfl (hb hby d10_17) rfl rfl (XS.iconst W8.here hx rfl (hb hby d10_18) k)) ?_
  obtain ⟨T17, h17, W17, R17, F17, st17⟩ := own_put W8 hx (host := "") (Or.inl (w70 C)) Via.refl f14 f13 (Or.inl (w71 C)) (w55 C) (ty := .byte) (by decide) rfl (by decide) (own_safeE W8 f13 (by decide) (by decide)) (by omega) (g := (mkF m 19 #[vR x, vI (16 : Int32)] [vZ, (.ref x)])) rfl rfl (hb hby d10_19)
  have z18 : h17.size = h8.size := R17.size
  have f19 := f13.wr R17
  have f20 := F8.other R17 (Or.inr (slot_ne (Or.inl (w69 C)) (Or.inl (w71 C)) (by decide) (t := (.array .byte)) (t' := .byte) (by decide) (by decide)))
  have f21 := f15.other R17 (Or.inr (slot_ne (Or.inl (w96 C)) (Or.inl (w71 C)) (by decide) (t := .int) (t' := .byte) (by decide) (by decide)))
  have f22 := f16.other R17 (Or.inr (slot_ne (Or.inl (w245 C)) (Or.inl (w71 C)) (by decide) (t := .boolean) (t' := .byte) (by decide) (by decide)))
  have S17_x3 : Safe Z own_EL s.vm h17 x3 := Safe.wr R17 (own_safeE W8 f13 (by decide) (by decide)) W8.ch S8_x3
  refine go (g' := (mkF m 22 #[vR x, vI (16 : Int32)] [])) (st17) ?_
  refine go (g' := (mkF m 38 #[vR x, vI (16 : Int32)] [])) (fun _ k => XS.goto W17.here hx rfl (pc0 := 22) (pc' := 38) rfl (hb hby d10_22) (by decide) (by decide) k) ?_
  have l25 : ltN x3 h3.size := V3.lt
  have f24 := V3.other R8 (one (by omega))
  have l27 : ltN x3 h3.size := V3.lt
  have f26 := f24.other R17 (one (by omega))
  have PV23 : Arv Z h17 x3 k3 .byte (16 : Int32) (([] : List Int32).map Value.int) vZ := Arv.pad (vs' := []) f26 (fun i => (pad_rep [] vZ 16 i).symm)
  have KK28 : Keep h0 h17 [x] := ((((Keep.refl h0 [x]).ext E3).wr R8 (Or.inl (own_mi (i := 0) rfl))).wr R17 (Or.inl (own_mi (i := 0) rfl)))
  exact fin (v := none) (so := [x3]) W17 (nle rfl) (nle rfl) (⟨rfl, KK28, x3, _, rfl, by omega, ⟨f19, f20, F17, f21, f22, PV23⟩⟩) (allS S17_x3 all0) (fun _ => rfl) (own_retV W17 hx hret (hb hby d10_38))
theorem rm_sbinit (C : Cx Z a0) (h0 : Heap) (x : Addr) (Ex : Exa Z h0 x "java/lang/StringBuilder") (Fv : Fld Z h0 x "java/lang/AbstractStringBuilder" "value" "[B" .null) (Fc : Fld Z h0 x "java/lang/AbstractStringBuilder" "coder" "B" vZ) (Fn : Fld Z h0 x "java/lang/AbstractStringBuilder" "count" "I" vZ) (Fm : Fld Z h0 x "java/lang/AbstractStringBuilder" "maybeLatin1" "Z" vZ) (nx : Z.heap.size ≤ x) :
    Ct l Z a0 own_EL (⟨"java/lang/StringBuilder", "<init>", "()V"⟩ : MethodName) jdk_67_method_1_code 1 (Option.none : Option Jvm.ClassFile.FieldType) [] (rmm 2 1 16 25) #[(.ref x)] h0 [] (fun v h so => v = none ∧ Keep h0 h [x] ∧ ∃ (t : Addr) (kt : ClassId), so = [t] ∧ h0.size ≤ t ∧ Bl Z h x t kt []) := by
  refine own_enter (plainFor_of_name pn_3) C.ew (F0 := fun m => mkF m 0 #[vR x] []) (fun m => by first | (simp [entryFrame, mkF, argsToLocals, Value.category]; done) | rfl) ?_
  intro p e s m below meth c s₁ G hx hby hml hret hnm W0 S0 go fin
  have z0 := W0.sz
  show G s₁ (mkF m 0 #[vR x] [])
  have lx : ltN x h0.size := Ex.lt
  refine go (g' := (mkF m 3 #[vR x] [(.int (16 : Int32)), (.ref x)])) (fun _ k => XS.aloadN W0.here hx rfl (hb hby d11_0) rfl rfl (XS.bipush W0.here hx rfl (hb hby d11_1) k)) ?_
  obtain ⟨v1, so1, vm1, T1, h1, W1, C1, q1, hso1, st1⟩ := own_special W0 hx (y := (⟨"java/lang/AbstractStringBuilder", "<init>", "(I)V"⟩ : MethodName)) rfl (w60 C) (w61 C) (w64 C) (w65 C) (by decide) (rm_asbinit C h0 x Ex Fv Fc Fn Fm (by omega)) (fun _ q => nomatch q) (Wd := 0) (nle rfl) (nle rfl) (nle rfl) (nle rfl) (g := (mkF m 3 #[vR x] [(.int (16 : Int32)), (.ref x)])) rfl (by rw [hml]; rfl) (a := x) (argsL := [(.int (16 : Int32))]) (rest := []) (lenOf pd_8 rfl) rfl rfl (nle rfl) (hb hby d11_3)
  obtain ⟨rfl, K1, t1, k1, rfl, g1, B1⟩ := q1
  have z2 : h0.size ≤ h1.size := K1.1
  have lt1 : ltN t1 h1.size := B1.2.2.2.2.2.lt
  refine go (g' := (mkF m 6 #[vR x] [])) (st1) ?_
  have KK3 : Keep h0 h1 [x] := ((Keep.refl h0 [x]).trans K1 (allS (Or.inl (own_mi (i := 0) rfl)) all0))
  exact fin (v := none) (so := [t1]) W1 (nle rfl) (nle rfl) (⟨rfl, KK3, t1, _, rfl, by omega, B1⟩) (allS (hso1 _ (own_mi (i := 0) rfl)) all0) (fun _ => rfl) (own_retV W1 hx hret (hb hby d11_6))
theorem rm_coder0 (C : Cx Z a0) (h0 : Heap) (a : Addr) (Fa : Fld Z h0 a "java/lang/String" "coder" "B" vZ) :
    Ct l Z a0 own_EL (⟨"java/lang/String", "coder", "()B"⟩ : MethodName) jdk_42_method_152_code 1 (Option.some Jvm.ClassFile.FieldType.byte) [] (rmm 0 0 0 0) #[(.ref a)] h0 [] (fun v h so => v = some vZ ∧ h0 = h) := by
  refine own_enter (plainFor_of_name pn_1) C.ew (F0 := fun m => mkF m 0 #[vR a] []) (fun m => by first | (simp [entryFrame, mkF, argsToLocals, Value.category]; done) | rfl) ?_
  intro p e s m below meth c s₁ G hx hby hml hret hnm W0 S0 go fin
  have z0 := W0.sz
  show G s₁ (mkF m 0 #[vR a] [])
  obtain ⟨gCS, OCS, nCS⟩ := C.cs
  obtain ⟨T1, W1, st1⟩ := own_getS W0 hx (host := "") (Or.inl (w15 C)) Via.refl OCS (g := (mkF m 0 #[vR a] [])) rfl (hb hby d12_0)
  refine go (g' := (mkF m 3 #[vR a] [(.int gCS)])) (st1) ?_
  refine go (g' := (mkF m 7 #[vR a] [(.ref a)])) (fun _ k => XS.ifNo W1.here hx rfl (hb hby d12_3) rfl ((if0 _ _).trans (feq nCS).1) (XS.aloadN W1.here hx rfl (hb hby d12_6) rfl rfl k)) ?_
  obtain ⟨T2, W2, st2⟩ := own_get W1 hx (host := "") (Or.inl (w27 C)) Via.refl Fa (g := (mkF m 7 #[vR a] [(.ref a)])) rfl rfl (hb hby d12_7)
  refine go (g' := (mkF m 10 #[vR a] [vZ])) (st2) ?_
  refine go (g' := (mkF m 14 #[vR a] [vZ])) (fun _ k => XS.goto W2.here hx rfl (pc0 := 10) (pc' := 14) rfl (hb hby d12_10) (by decide) (by decide) k) ?_
  exact fin (v := some vZ) (so := []) W2 (nle rfl) (nle rfl) (⟨rfl, rfl⟩) (fun _ q => nomatch q) (fun q => nomatch q) (own_retI W2 hx hret (by decide) rfl (hb hby d12_14))
theorem rm_coder1 (C : Cx Z a0) (h0 : Heap) (a : Addr) (Fa : Fld Z h0 a "java/lang/String" "coder" "B" (.int (1 : Int32))) :
    Ct l Z a0 own_EL (⟨"java/lang/String", "coder", "()B"⟩ : MethodName) jdk_42_method_152_code 1 (Option.some Jvm.ClassFile.FieldType.byte) [] (rmm 0 0 0 0) #[(.ref a)] h0 [] (fun v h so => v = some (.int (1 : Int32)) ∧ h0 = h) := by
  refine own_enter (plainFor_of_name pn_1) C.ew (F0 := fun m => mkF m 0 #[vR a] []) (fun m => by first | (simp [entryFrame, mkF, argsToLocals, Value.category]; done) | rfl) ?_
  intro p e s m below meth c s₁ G hx hby hml hret hnm W0 S0 go fin
  have z0 := W0.sz
  show G s₁ (mkF m 0 #[vR a] [])
  obtain ⟨gCS, OCS, nCS⟩ := C.cs
  obtain ⟨T1, W1, st1⟩ := own_getS W0 hx (host := "") (Or.inl (w15 C)) Via.refl OCS (g := (mkF m 0 #[vR a] [])) rfl (hb hby d12_0)
  refine go (g' := (mkF m 3 #[vR a] [(.int gCS)])) (st1) ?_
  refine go (g' := (mkF m 7 #[vR a] [(.ref a)])) (fun _ k => XS.ifNo W1.here hx rfl (hb hby d12_3) rfl ((if0 _ _).trans (feq nCS).1) (XS.aloadN W1.here hx rfl (hb hby d12_6) rfl rfl k)) ?_
  obtain ⟨T2, W2, st2⟩ := own_get W1 hx (host := "") (Or.inl (w27 C)) Via.refl Fa (g := (mkF m 7 #[vR a] [(.ref a)])) rfl rfl (hb hby d12_7)
  refine go (g' := (mkF m 10 #[vR a] [(.int (1 : Int32))])) (st2) ?_
  refine go (g' := (mkF m 14 #[vR a] [(.int (1 : Int32))])) (fun _ k => XS.goto W2.here hx rfl (pc0 := 10) (pc' := 14) rfl (hb hby d12_10) (by decide) (by decide) k) ?_
  exact fin (v := some (.int (1 : Int32))) (so := []) W2 (nle rfl) (nle rfl) (⟨rfl, rfl⟩) (fun _ q => nomatch q) (fun q => nomatch q) (own_retI W2 hx hret (by decide) rfl (hb hby d12_14))
theorem rm_ens0 (C : Cx Z a0) (h0 : Heap) (b t : Addr) (kt : ClassId) (vs : List Value) (n : Nat) (l1 : n ≤ 16) (Fv : Fld Z h0 b "java/lang/AbstractStringBuilder" "value" "[B" (.ref t)) (Fc : Fld Z h0 b "java/lang/AbstractStringBuilder" "coder" "B" vZ) (Vt : Arv Z h0 t kt .byte (16 : Int32) vs vZ) :
    Ct l Z a0 own_EL (⟨"java/lang/AbstractStringBuilder", "ensureCapacityInternal", "(I)V"⟩ : MethodName) jdk_68_method_9_code 3 (Option.none : Option Jvm.ClassFile.FieldType) [] (rmm 0 0 0 0) #[(.ref b), (.int (Int32.ofNat n))] h0 [] (fun v h so => v = none ∧ h0 = h) := by
  refine own_enter (plainFor_of_name pn_2) C.ew (F0 := fun m => mkF m 0 #[vR b, vI (Int32.ofNat n), .unset] []) (fun m => by first | (simp [entryFrame, mkF, argsToLocals, Value.category]; done) | rfl) ?_
  intro p e s m below meth c s₁ G hx hby hml hret hnm W0 S0 go fin
  have z0 := W0.sz
  show G s₁ (mkF m 0 #[vR b, vI (Int32.ofNat n), .unset] [])
  refine go (g' := (mkF m 1 #[vR b, vI (Int32.ofNat n), .unset] [(.ref b)])) (fun _ k => XS.aloadN W0.here hx rfl (hb hby d13_0) rfl rfl k) ?_
  obtain ⟨T1, W1, st1⟩ := own_get W0 hx (host := "") (Or.inl (w68 C)) Via.refl Fv (g := (mkF m 1 #[vR b, vI (Int32.ofNat n), .unset] [(.ref b)])) rfl rfl (hb hby d13_1)
  refine go (g' := (mkF m 4 #[vR b, vI (Int32.ofNat n), .unset] [(.ref t)])) (st1) ?_
  refine go (g' := (mkF m 5 #[vR b, vI (Int32.ofNat n), .unset] [(.int (16 : Int32))])) (own_alen W1 hx Vt (g := (mkF m 4 #[vR b, vI (Int32.ofNat n), .unset] [(.ref t)])) rfl rfl (hb hby d13_4)) ?_
  refine go (g' := (mkF m 6 #[vR b, vI (Int32.ofNat n), .unset] [(.ref b), (.int (16 : Int32))])) (fun _ k => XS.aloadN W1.here hx rfl (hb hby d13_5) rfl rfl k) ?_
  obtain ⟨T2, W2, st2⟩ := own_get W1 hx (host := "") (Or.inl (w70 C)) Via.refl Fc (g := (mkF m 6 #[vR b, vI (Int32.ofNat n), .unset] [(.ref b), (.int (16 : Int32))])) rfl rfl (hb hby d13_6)
  refine go (g' := (mkF m 9 #[vR b, vI (Int32.ofNat n), .unset] [vZ, (.int (16 : Int32))])) (st2) ?_
  refine go (g' := (mkF m 10 #[vR b, vI (Int32.ofNat n), .unset] [(.int ((16 : Int32) >>> ((0 : Int32) &&& 31)))])) (fun _ k => XS.ishr W2.here hx rfl (hb hby d13_9) rfl k) ?_
  rw [show ((16 : Int32) >>> ((0 : Int32) &&& 31)) = (16 : Int32) from by decide]
  refine go (g' := (mkF m 38 #[vR b, vI (Int32.ofNat n), vI (16 : Int32)] [])) (fun _ k => XS.istoreN W2.here hx rfl (hb hby d13_10) rfl (l' := #[vR b, vI (Int32.ofNat n), vI (16 : Int32)]) rfl (XS.iloadN W2.here hx rfl (hb hby d13_11) rfl (XS.iloadN W2.here hx rfl (hb hby d13_12) rfl (XS.isub W2.here hx rfl (hb hby d13_13) rfl (XS.ifYes W2.here hx rfl (pc0 := 14) (pc' := 38) rfl (hb hby d13_14) rfl ((if0 _ _).trans (flt (own_sle (cap := 16) l1 (by decide))).2.2.2) (by decide) (by decide) k))))) ?_
  exact fin (v := none) (so := []) W2 (nle rfl) (nle rfl) (⟨rfl, rfl⟩) (fun _ q => nomatch q) (fun _ => rfl) (own_retV W2 hx hret (hb hby d13_38))
theorem rm_ens1 (C : Cx Z a0) (h0 : Heap) (b t : Addr) (kt : ClassId) (vs : List Value) (n : Nat) (l1 : n ≤ 16) (Fv : Fld Z h0 b "java/lang/AbstractStringBuilder" "value" "[B" (.ref t)) (Fc : Fld Z h0 b "java/lang/AbstractStringBuilder" "coder" "B" (.int (1 : Int32))) (Vt : Arv Z h0 t kt .byte (32 : Int32) vs vZ) :
    Ct l Z a0 own_EL (⟨"java/lang/AbstractStringBuilder", "ensureCapacityInternal", "(I)V"⟩ : MethodName) jdk_68_method_9_code 3 (Option.none : Option Jvm.ClassFile.FieldType) [] (rmm 0 0 0 0) #[(.ref b), (.int (Int32.ofNat n))] h0 [] (fun v h so => v = none ∧ h0 = h) := by
  refine own_enter (plainFor_of_name pn_2) C.ew (F0 := fun m => mkF m 0 #[vR b, vI (Int32.ofNat n), .unset] []) (fun m => by first | (simp [entryFrame, mkF, argsToLocals, Value.category]; done) | rfl) ?_
  intro p e s m below meth c s₁ G hx hby hml hret hnm W0 S0 go fin
  have z0 := W0.sz
  show G s₁ (mkF m 0 #[vR b, vI (Int32.ofNat n), .unset] [])
  refine go (g' := (mkF m 1 #[vR b, vI (Int32.ofNat n), .unset] [(.ref b)])) (fun _ k => XS.aloadN W0.here hx rfl (hb hby d13_0) rfl rfl k) ?_
  obtain ⟨T1, W1, st1⟩ := own_get W0 hx (host := "") (Or.inl (w68 C)) Via.refl Fv (g := (mkF m 1 #[vR b, vI (Int32.ofNat n), .unset] [(.ref b)])) rfl rfl (hb hby d13_1)
  refine go (g' := (mkF m 4 #[vR b, vI (Int32.ofNat n), .unset] [(.ref t)])) (st1) ?_
  refine go (g' := (mkF m 5 #[vR b, vI (Int32.ofNat n), .unset] [(.int (32 : Int32))])) (own_alen W1 hx Vt (g := (mkF m 4 #[vR b, vI (Int32.ofNat n), .unset] [(.ref t)])) rfl rfl (hb hby d13_4)) ?_
  refine go (g' := (mkF m 6 #[vR b, vI (Int32.ofNat n), .unset] [(.ref b), (.int (32 : Int32))])) (fun _ k => XS.aloadN W1.here hx rfl (hb hby d13_5) rfl rfl k) ?_
  obtain ⟨T2, W2, st2⟩ := own_get W1 hx (host := "") (Or.inl (w70 C)) Via.refl Fc (g := (mkF m 6 #[vR b, vI (Int32.ofNat n), .unset] [(.ref b), (.int (32 : Int32))])) rfl rfl (hb hby d13_6)
  refine go (g' := (mkF m 9 #[vR b, vI (Int32.ofNat n), .unset] [(.int (1 : Int32)), (.int (32 : Int32))])) (st2) ?_
  refine go (g' := (mkF m 10 #[vR b, vI (Int32.ofNat n), .unset] [(.int ((32 : Int32) >>> ((1 : Int32) &&& 31)))])) (fun _ k => XS.ishr W2.here hx rfl (hb hby d13_9) rfl k) ?_
  rw [show ((32 : Int32) >>> ((1 : Int32) &&& 31)) = (16 : Int32) from by decide]
  refine go (g' := (mkF m 38 #[vR b, vI (Int32.ofNat n), vI (16 : Int32)] [])) (fun _ k => XS.istoreN W2.here hx rfl (hb hby d13_10) rfl (l' := #[vR b, vI (Int32.ofNat n), vI (16 : Int32)]) rfl (XS.iloadN W2.here hx rfl (hb hby d13_11) rfl (XS.iloadN W2.here hx rfl (hb hby d13_12) rfl (XS.isub W2.here hx rfl (hb hby d13_13) rfl (XS.ifYes W2.here hx rfl (pc0 := 14) (pc' := 38) rfl (hb hby d13_14) rfl ((if0 _ _).trans (flt (own_sle (cap := 16) l1 (by decide))).2.2.2) (by decide) (by decide) k))))) ?_
  exact fin (v := none) (so := []) W2 (nle rfl) (nle rfl) (⟨rfl, rfl⟩) (fun _ q => nomatch q) (fun _ => rfl) (own_retV W2 hx hret (hb hby d13_38))
theorem rm_gbl (C : Cx Z a0) (h0 : Heap) (a : Addr) (cs : List Int32) (Sa : Str Z h0 a cs) (t : Addr) (kt : ClassId) (ds : List Int32) (l1 : ds.length + cs.length ≤ 16) (Vt : Arv Z h0 t kt .byte (16 : Int32) (ds.map Value.int) vZ) (nt : Z.heap.size ≤ t) :
    Ct l Z a0 own_EL (⟨"java/lang/String", "getBytes", "([BIB)V"⟩ : MethodName) jdk_42_method_147_code 4 (Option.none : Option Jvm.ClassFile.FieldType) [] (rmm 1 0 0 30) #[(.ref a), (.ref t), (.int (Int32.ofNat ds.length)), vZ] h0 [t] (fun v h so => v = none ∧ Keep h0 h [t] ∧ Arv Z h t kt .byte (16 : Int32) ((ds ++ (cs.map fun c => c.toInt8.toInt32)).map Value.int) vZ) := by
  refine own_enter (plainFor_of_name pn_1) C.ew (F0 := fun m => mkF m 0 #[vR a, vR t, vI (Int32.ofNat ds.length), .val vZ] []) (fun m => by first | (simp [entryFrame, mkF, argsToLocals, Value.category]; done) | rfl) ?_
  intro p e s m below meth c s₁ G hx hby hml hret hnm W0 S0 go fin
  have z0 := W0.sz
  show G s₁ (mkF m 0 #[vR a, vR t, vI (Int32.ofNat ds.length), .val vZ] [])
  have hl_cs : cs.length ≤ 4000 := by omega
  have lt : ltN t h0.size := Vt.lt
  obtain ⟨sE1, sC1, sP1, t1, k1, sV1, sK1⟩ := id Sa
  have sA1 : Arv Z h0 t1 k1 .byte (Int32.ofNat cs.length) ((cs.map fun c => c.toInt8.toInt32).map Value.int) vZ := sK1
  refine go (g' := (mkF m 1 #[vR a, vR t, vI (Int32.ofNat ds.length), .val vZ] [(.ref a)])) (fun _ k => XS.aloadN W0.here hx rfl (hb hby d14_0) rfl rfl k) ?_
  obtain ⟨v2, so2, vm2, T2, h2, W2, C2, q2, hso2, st2⟩ := own_virtual W0 hx (w90 C) (w91 C) (w93 C) (w92 C) (w3 C) (w94 C) (by decide) (own_nf W0 (w93 C)) Sa.1 (rm_coder0 C h0 a sC1) (fun _ q => nomatch q) (Wd := 0) (nle rfl) (nle rfl) (nle rfl) (nle rfl) (g := (mkF m 1 #[vR a, vR t, vI (Int32.ofNat ds.length), .val vZ] [(.ref a)])) rfl (by rw [hml]; rfl) (argsL := []) (rest := []) (lenOf pd_9 rfl) rfl rfl (nle rfl) (hb hby d14_1)
  obtain ⟨rfl, rfl⟩ := q2
  have S2_t : Safe Z own_EL vm2 h0 t := C2.safe (olt (by omega)) (S0 _ (own_mi (i := 0) rfl))
  refine go (g' := (mkF m 4 #[vR a, vR t, vI (Int32.ofNat ds.length), .val vZ] [vZ])) (st2) ?_
  refine go (g' := (mkF m 9 #[vR a, vR t, vI (Int32.ofNat ds.length), .val vZ] [(.ref a)])) (fun _ k => XS.iloadN W2.here hx rfl (hb hby d14_4) rfl (XS.icmpNo W2.here hx rfl (hb hby d14_5) rfl (teq ((by decide) : (0 : Int32) = (0 : Int32))).2 (XS.aloadN W2.here hx rfl (hb hby d14_8) rfl rfl k))) ?_
  obtain ⟨T3, W3, st3⟩ := own_get W2 hx (host := "") (Or.inl (w29 C)) Via.refl sV1 (g := (mkF m 9 #[vR a, vR t, vI (Int32.ofNat ds.length), .val vZ] [(.ref a)])) rfl rfl (hb hby d14_9)
  refine go (g' := (mkF m 12 #[vR a, vR t, vI (Int32.ofNat ds.length), .val vZ] [(.ref t1)])) (st3) ?_
  refine go (g' := (mkF m 17 #[vR a, vR t, vI (Int32.ofNat ds.length), .val vZ] [(.int ((Int32.ofNat ds.length) <<< ((0 : Int32) &&& 31))), (.ref t), vZ, (.ref t1)])) (fun _ k => XS.iconst W3.here hx rfl (hb hby d14_12) (XS.aloadN W3.here hx rfl (hb hby d14_13) rfl rfl (XS.iloadN W3.here hx rfl (hb hby d14_14) rfl (XS.iloadN W3.here hx rfl (hb hby d14_15) rfl (XS.ishl W3.here hx rfl (hb hby d14_16) rfl k))))) ?_
  rw [show ((Int32.ofNat ds.length) <<< ((0 : Int32) &&& 31)) = (Int32.ofNat ds.length) from own_shl0 _]
  refine go (g' := (mkF m 18 #[vR a, vR t, vI (Int32.ofNat ds.length), .val vZ] [(.ref a), (.int (Int32.ofNat ds.length)), (.ref t), vZ, (.ref t1)])) (fun _ k => XS.aloadN W3.here hx rfl (hb hby d14_17) rfl rfl k) ?_
  obtain ⟨T4, W4, st4⟩ := own_get W3 hx (host := "") (Or.inl (w29 C)) Via.refl sV1 (g := (mkF m 18 #[vR a, vR t, vI (Int32.ofNat ds.length), .val vZ] [(.ref a), (.int (Int32.ofNat ds.length)), (.ref t), vZ, (.ref t1)])) rfl rfl (hb hby d14_18)
  refine go (g' := (mkF m 21 #[vR a, vR t, vI (Int32.ofNat ds.length), .val vZ] [(.ref t1), (.int (Int32.ofNat ds.length)), (.ref t), vZ, (.ref t1)])) (st4) ?_
  refine go (g' := (mkF m 22 #[vR a, vR t, vI (Int32.ofNat ds.length), .val vZ] [(.int (Int32.ofNat cs.length)), (.int (Int32.ofNat ds.length)), (.ref t), vZ, (.ref t1)])) (own_alen W4 hx sA1 (g := (mkF m 21 #[vR a, vR t, vI (Int32.ofNat ds.length), .val vZ] [(.ref t1), (.int (Int32.ofNat ds.length)), (.ref t), vZ, (.ref t1)])) rfl rfl (hb hby d14_21)) ?_
  have P5 : Arv Z h0 t kt .byte (16 : Int32) (ds.map Value.int ++ List.replicate cs.length vZ) vZ := Vt.pad (pad_rep _ _ _)
  have e0 : (0 : Int32).toNatClampNeg = 0 := by decide
  have e1 : (Int32.ofNat ds.length).toNatClampNeg = ds.length := own_cl (by omega)
  have e2 : (Int32.ofNat cs.length).toNatClampNeg = cs.length := own_cl (by omega)
  have e3 : (16 : Int32).toNatClampNeg = 16 := by decide
  obtain ⟨T5, h5, W5, K5, V5, st5⟩ := own_cp W4 hx (w118 C) (w121 C) (w119 C) (w120 C) sA1 P5 rfl S2_t (sp := (0 : Int32)) (dp := (Int32.ofNat ds.length)) (nn := (Int32.ofNat cs.length)) (by decide) (own_nn (by omega)) (own_nn (by omega)) (by rw [e0, e2]; omega) (by rw [e1, e2, e3]; omega) (us := (cs.map fun c => c.toInt8.toInt32).map Value.int) (by rw [e0, e2]; exact (own_rg0 (cs.map fun c => c.toInt8.toInt32) cs.length _ (by simp)).symm) (by rw [e1, e2]; simp) (by omega) (g := (mkF m 22 #[vR a, vR t, vI (Int32.ofNat ds.length), .val vZ] [(.int (Int32.ofNat cs.length)), (.int (Int32.ofNat ds.length)), (.ref t), vZ, (.ref t1)])) rfl (by rw [hml]; rfl) rfl (hb hby d14_22) (nle rfl) (Wd := 0) (nle rfl) (nle rfl)
  have z6 : h0.size ≤ h5.size := K5.1
  have U5 : Arv Z h5 t kt .byte (16 : Int32) ((ds ++ (cs.map fun c => c.toInt8.toInt32)).map Value.int) vZ := by have q := V5; rw [e1, e2, own_app0] at q; exact q
  refine go (g' := (mkF m 25 #[vR a, vR t, vI (Int32.ofNat ds.length), .val vZ] [])) (st5) ?_
  refine go (g' := (mkF m 43 #[vR a, vR t, vI (Int32.ofNat ds.length), .val vZ] [])) (fun _ k => XS.goto W5.here hx rfl (pc0 := 25) (pc' := 43) rfl (hb hby d14_25) (by decide) (by decide) k) ?_
  have KK7 : Keep h0 h5 [t] := ((Keep.refl h0 [t]).trans K5 (allS (Or.inl (own_mi (i := 0) rfl)) all0))
  exact fin (v := none) (so := []) W5 (nle rfl) (nle rfl) (⟨rfl, KK7, U5⟩) (fun _ q => nomatch q) (fun _ => rfl) (own_retV W5 hx hret (hb hby d14_43))
theorem rm_str0b (C : Cx Z a0) (h0 : Heap) (x b : Addr) (Ex : Exa Z h0 x "java/lang/String") (Fv : Fld Z h0 x "java/lang/String" "value" "[B" .null) (Fc : Fld Z h0 x "java/lang/String" "coder" "B" vZ) (nx : Z.heap.size ≤ x) :
    Ct l Z a0 own_EL (⟨"java/lang/String", "<init>", "([CIILjava/lang/Void;)V"⟩ : MethodName) jdk_42_method_149_code 6 (Option.none : Option Jvm.ClassFile.FieldType) [] (rmm 1 4 8 12) #[(.ref x), (.ref b), vZ, vZ, .null] h0 [x] (fun v h so => v = none ∧ Keep h0 h [x] ∧ Str Z h x []) := by
  refine own_enter (plainFor_of_name pn_1) C.ew (F0 := fun m => mkF m 0 #[vR x, vR b, .val vZ, .val vZ, .val .null, .unset] []) (fun m => by first | (simp [entryFrame, mkF, argsToLocals, Value.category]; done) | rfl) ?_
  intro p e s m below meth c s₁ G hx hby hml hret hnm W0 S0 go fin
  have z0 := W0.sz
  show G s₁ (mkF m 0 #[vR x, vR b, .val vZ, .val vZ, .val .null, .unset] [])
  have lx : ltN x h0.size := Ex.lt
  refine go (g' := (mkF m 1 #[vR x, vR b, .val vZ, .val vZ, .val .null, .unset] [(.ref x)])) (fun _ k => XS.aloadN W0.here hx rfl (hb hby d8_0) rfl rfl k) ?_
  obtain ⟨T1, W1, st1⟩ := own_initO W0 hx (w12 C) (w13 C) (w14 C) (g := (mkF m 1 #[vR x, vR b, .val vZ, .val vZ, .val .null, .unset] [(.ref x)])) rfl (by rw [hml]; rfl) rfl (hb hby d8_1) (nle rfl) (Wd := 0) (nle rfl) (nle rfl)
  refine go (g' := (mkF m 4 #[vR x, vR b, .val vZ, .val vZ, .val .null, .unset] [])) (st1) ?_
  refine go (g' := (mkF m 9 #[vR x, vR b, .val vZ, .val vZ, .val .null, .unset] [(.ref x)])) (fun _ k => XS.iloadN W1.here hx rfl (hb hby d8_4) rfl (XS.ifNo W1.here hx rfl (hb hby d8_5) rfl ((if0 _ _).trans (teq ((by decide) : (0 : Int32) = (0 : Int32))).2) (XS.aloadN W1.here hx rfl (hb hby d8_8) rfl rfl k))) ?_
  obtain ⟨x2, y2, k2, vm2, T2, h2, W2, E2, C2, A2, B2, D2, V2, N2, st2⟩ := own_ldcR W1 hx (w253 C) (own_wS C) (by decide) (vs := []) (z := (0 : Int32)) (by decide +kernel) (by decide) rfl (g := (mkF m 9 #[vR x, vR b, .val vZ, .val vZ, .val .null, .unset] [(.ref x)])) rfl (hb hby d8_9) (n := 0) (by decide) (nle rfl) (nle rfl) (nle rfl)
  have z3 : h0.size ≤ h2.size := E2.1
  have S2_x : Safe Z own_EL vm2 h2 x := C2.safe (olt (by omega)) (S0 _ (own_mi (i := 0) rfl))
  refine go (g' := (mkF m 11 #[vR x, vR b, .val vZ, .val vZ, .val .null, .unset] [(.ref x2), (.ref x)])) (st2) ?_
  obtain ⟨T4, W4, st4⟩ := own_get W2 hx (host := "") (Or.inl (w29 C)) Via.refl D2 (g := (mkF m 11 #[vR x, vR b, .val vZ, .val vZ, .val .null, .unset] [(.ref x2), (.ref x)])) rfl rfl (hb hby d8_11)
  refine go (g' := (mkF m 14 #[vR x, vR b, .val vZ, .val vZ, .val .null, .unset] [(.ref y2), (.ref x)])) (st4) ?_
  have X5 : Ext h0 h2 := own_xt (own_xr h0) E2
  have f6 := Fv.ext X5
  have f7 := Ex.ext X5
  obtain ⟨T8, h8, W8, R8, F8, st8⟩ := own_put W4 hx (host := "") (Or.inl (w29 C)) Via.refl f6 f7 (Or.inr ⟨(w30 C), rfl, hnm⟩) (w2 C) (ty := (.array .byte)) (by decide) rfl rfl S2_x (by omega) (g := (mkF m 14 #[vR x, vR b, .val vZ, .val vZ, .val .null, .unset] [(.ref y2), (.ref x)])) rfl rfl (hb hby d8_14)
  have f9 := Fc.ext X5
  have z10 : h8.size = h2.size := R8.size
  have f11 := f7.wr R8
  have f12 := f9.other R8 (Or.inr (slot_ne (Or.inr (w28 C)) (Or.inr (w30 C)) (by decide) (t := .byte) (t' := (.array .byte)) (by decide) (by decide)))
  have S8 : Safe Z own_EL vm2 h8 x := Safe.wr R8 S2_x W4.ch S2_x
  refine go (g' := (mkF m 17 #[vR x, vR b, .val vZ, .val vZ, .val .null, .unset] [])) (st8) ?_
  refine go (g' := (mkF m 18 #[vR x, vR b, .val vZ, .val vZ, .val .null, .unset] [(.ref x)])) (fun _ k => XS.aloadN W8.here hx rfl (hb hby d8_17) rfl rfl k) ?_
  obtain ⟨x13, y13, k13, vm13, T13, h13, W13, E13, C13, A13, B13, D13, V13, N13, st13⟩ := own_ldcR W8 hx (w253 C) (own_wS C) (by decide) (vs := []) (z := (0 : Int32)) (by decide +kernel) (by decide) rfl (g := (mkF m 18 #[vR x, vR b, .val vZ, .val vZ, .val .null, .unset] [(.ref x)])) rfl (hb hby d8_18) (n := 0) (by decide) (nle rfl) (nle rfl) (nle rfl)
  have z14 : h8.size ≤ h13.size := E13.1
  have S13_x : Safe Z own_EL vm13 h13 x := C13.safe (olt (by omega)) S8
  refine go (g' := (mkF m 20 #[vR x, vR b, .val vZ, .val vZ, .val .null, .unset] [(.ref x13), (.ref x)])) (st13) ?_
  obtain ⟨T15, W15, st15⟩ := own_get W13 hx (host := "") (Or.inl (w27 C)) Via.refl B13 (g := (mkF m 20 #[vR x, vR b, .val vZ, .val vZ, .val .null, .unset] [(.ref x13), (.ref x)])) rfl rfl (hb hby d8_20)
  refine go (g' := (mkF m 23 #[vR x, vR b, .val vZ, .val vZ, .val .null, .unset] [vZ, (.ref x)])) (st15) ?_
  have X16 : Ext h8 h13 := own_xt (own_xr h8) E13
  have f17 := f12.ext X16
  have f18 := f11.ext X16
  obtain ⟨T19, h19, W19, R19, F19, st19⟩ := own_put W15 hx (host := "") (Or.inl (w27 C)) Via.refl f17 f18 (Or.inr ⟨(w28 C), rfl, hnm⟩) (w2 C) (ty := .byte) (by decide) rfl (by decide) S13_x (by omega) (g := (mkF m 23 #[vR x, vR b, .val vZ, .val vZ, .val .null, .unset] [vZ, (.ref x)])) rfl rfl (hb hby d8_23)
  have f20 := F8.ext X16
  have z21 : h19.size = h13.size := R19.size
  have f22 := f18.wr R19
  have f23 := f20.other R19 (Or.inr (slot_ne (Or.inr (w30 C)) (Or.inr (w28 C)) (by decide) (t := (.array .byte)) (t' := .byte) (by decide) (by decide)))
  have S19 : Safe Z own_EL vm13 h19 x := Safe.wr R19 S13_x W15.ch S13_x
  refine go (g' := (mkF m 26 #[vR x, vR b, .val vZ, .val vZ, .val .null, .unset] [])) (st19) ?_
  have KK24 : Keep h0 h19 [x] := (((((Keep.refl h0 [x]).ext E2).wr R8 (Or.inl (own_mi (i := 0) rfl))).ext E13).wr R19 (Or.inl (own_mi (i := 0) rfl)))
  have f25 := V2.other R8 (fun q => (N2 _ S2_x).2 q.symm)
  have f26 := f25.ext E13
  have f27 := f26.other R19 (fun q => (N2 _ S2_x).2 q.symm)
  exact fin (v := none) (so := []) W19 (nle rfl) (nle rfl) (⟨rfl, KK24, f22, F19, own_al0, _, _, f23, f27⟩) (fun _ q => nomatch q) (fun _ => rfl) (own_retV W19 hx hret (hb hby d8_26))
theorem rm_str0 (C : Cx Z a0) (h0 : Heap) (x b : Addr) (kb : ClassId) (Ex : Exa Z h0 x "java/lang/String") (Fv : Fld Z h0 x "java/lang/String" "value" "[B" .null) (Fc : Fld Z h0 x "java/lang/String" "coder" "B" vZ) (Ab : Arv Z h0 b kb .char (0 : Int32) [] vZ) (nx : Z.heap.size ≤ x) :
    Ct l Z a0 own_EL (⟨"java/lang/String", "<init>", "([C)V"⟩ : MethodName) jdk_42_method_3_code 2 (Option.none : Option Jvm.ClassFile.FieldType) [] (rmm 2 4 8 29) #[(.ref x), (.ref b)] h0 [x] (fun v h so => v = none ∧ Keep h0 h [x] ∧ Str Z h x []) := by
  refine own_enter (plainFor_of_name pn_1) C.ew (F0 := fun m => mkF m 0 #[vR x, vR b] []) (fun m => by first | (simp [entryFrame, mkF, argsToLocals, Value.category]; done) | rfl) ?_
  intro p e s m below meth c s₁ G hx hby hml hret hnm W0 S0 go fin
  have z0 := W0.sz
  show G s₁ (mkF m 0 #[vR x, vR b] [])
  have lx : ltN x h0.size := Ex.lt
  refine go (g' := (mkF m 4 #[vR x, vR b] [(.ref b), vZ, (.ref b), (.ref x)])) (fun _ k => XS.aloadN W0.here hx rfl (hb hby d9_0) rfl rfl (XS.aloadN W0.here hx rfl (hb hby d9_1) rfl rfl (XS.iconst W0.here hx rfl (hb hby d9_2) (XS.aloadN W0.here hx rfl (hb hby d9_3) rfl rfl k)))) ?_
  refine go (g' := (mkF m 5 #[vR x, vR b] [vZ, vZ, (.ref b), (.ref x)])) (own_alen W0 hx Ab (g := (mkF m 4 #[vR x, vR b] [(.ref b), vZ, (.ref b), (.ref x)])) rfl rfl (hb hby d9_4)) ?_
  refine go (g' := (mkF m 6 #[vR x, vR b] [.null, vZ, vZ, (.ref b), (.ref x)])) (fun _ k => XS.aconstNull W0.here hx rfl (hb hby d9_5) k) ?_
  obtain ⟨v1, so1, vm1, T1, h1, W1, C1, q1, hso1, st1⟩ := own_special W0 hx (y := (⟨"java/lang/String", "<init>", "([CIILjava/lang/Void;)V"⟩ : MethodName)) rfl (w8 C) (w9 C) (w3 C) (w11 C) (by decide) (rm_str0b C h0 x b Ex Fv Fc (by omega)) (allS (S0 _ (own_mi (i := 0) rfl)) all0) (Wd := 0) (nle rfl) (nle rfl) (nle rfl) (nle rfl) (g := (mkF m 6 #[vR x, vR b] [.null, vZ, vZ, (.ref b), (.ref x)])) rfl (by rw [hml]; rfl) (a := x) (argsL := [(.ref b), vZ, vZ, .null]) (rest := []) (lenOf pd_7 rfl) rfl rfl (nle rfl) (hb hby d9_6)
  obtain ⟨rfl, K1, S1⟩ := q1
  have z2 : h0.size ≤ h1.size := K1.1
  have S1_x : Safe Z own_EL vm1 h1 x := C1.safe (olt (by omega)) (S0 _ (own_mi (i := 0) rfl))
  refine go (g' := (mkF m 9 #[vR x, vR b] [])) (st1) ?_
  have KK3 : Keep h0 h1 [x] := ((Keep.refl h0 [x]).trans K1 (allS (Or.inl (own_mi (i := 0) rfl)) all0))
  exact fin (v := none) (so := []) W1 (nle rfl) (nle rfl) (⟨rfl, KK3, S1⟩) (fun _ q => nomatch q) (fun _ => rfl) (own_retV W1 hx hret (hb hby d9_9))
theorem rm_lenl (C : Cx Z a0) (h0 : Heap) (a : Addr) (cs : List Int32) (Sa : Str Z h0 a cs) (l0 : cs.length ≤ 4000) :
    Ct l Z a0 own_EL (⟨"java/lang/String", "length", "()I"⟩ : MethodName) jdk_42_method_54_code 1 (Option.some Jvm.ClassFile.FieldType.int) [] (rmm 1 0 0 13) #[(.ref a)] h0 [] (fun v h so => v = some (.int (Int32.ofNat cs.length)) ∧ h0 = h) := by
  refine own_enter (plainFor_of_name pn_1) C.ew (F0 := fun m => mkF m 0 #[vR a] []) (fun m => by first | (simp [entryFrame, mkF, argsToLocals, Value.category]; done) | rfl) ?_
  intro p e s m below meth c s₁ G hx hby hml hret hnm W0 S0 go fin
  have z0 := W0.sz
  show G s₁ (mkF m 0 #[vR a] [])
  obtain ⟨Ea, Ca, pa, u, ku, Fa, Va0⟩ := id Sa
  have Va : Arv Z h0 u ku .byte (Int32.ofNat cs.length) ((cs.map fun c => c.toInt8.toInt32).map Value.int) vZ := Va0
  have la : ltN a h0.size := Ea.lt
  have lu : ltN u h0.size := Va.lt
  refine go (g' := (mkF m 1 #[vR a] [(.ref a)])) (fun _ k => XS.aloadN W0.here hx rfl (hb hby d15_0) rfl rfl k) ?_
  obtain ⟨T1, W1, st1⟩ := own_get W0 hx (host := "") (Or.inl (w29 C)) Via.refl Fa (g := (mkF m 1 #[vR a] [(.ref a)])) rfl rfl (hb hby d15_1)
  refine go (g' := (mkF m 4 #[vR a] [(.ref u)])) (st1) ?_
  refine go (g' := (mkF m 5 #[vR a] [(.int (Int32.ofNat cs.length))])) (own_alen W1 hx Va (g := (mkF m 4 #[vR a] [(.ref u)])) rfl rfl (hb hby d15_4)) ?_
  refine go (g' := (mkF m 6 #[vR a] [(.ref a), (.int (Int32.ofNat cs.length))])) (fun _ k => XS.aloadN W1.here hx rfl (hb hby d15_5) rfl rfl k) ?_
  obtain ⟨v2, so2, vm2, T2, h2, W2, C2, q2, hso2, st2⟩ := own_virtual W1 hx (w90 C) (w91 C) (w93 C) (w92 C) (w3 C) (w94 C) (by decide) (own_nf W1 (w93 C)) Ea (rm_coder0 C h0 a Ca) (fun _ q => nomatch q) (Wd := 1) (nle rfl) (nle rfl) (nle rfl) (nle rfl) (g := (mkF m 6 #[vR a] [(.ref a), (.int (Int32.ofNat cs.length))])) rfl (by rw [hml]; rfl) (argsL := []) (rest := [(.int (Int32.ofNat cs.length))]) (lenOf pd_9 rfl) rfl rfl (nle rfl) (hb hby d15_6)
  obtain ⟨rfl, rfl⟩ := q2
  refine go (g' := (mkF m 9 #[vR a] [vZ, (.int (Int32.ofNat cs.length))])) (st2) ?_
  refine go (g' := (mkF m 10 #[vR a] [(.int ((Int32.ofNat cs.length) >>> ((0 : Int32) &&& 31)))])) (fun _ k => XS.ishr W2.here hx rfl (hb hby d15_9) rfl k) ?_
  rw [show ((Int32.ofNat cs.length) >>> ((0 : Int32) &&& 31)) = (Int32.ofNat cs.length) from own_shr0 _]
  exact fin (v := some (.int (Int32.ofNat cs.length))) (so := []) W2 (nle rfl) (nle rfl) (⟨rfl, rfl⟩) (fun _ q => nomatch q) (fun q => nomatch q) (own_retI W2 hx hret (by decide) rfl (hb hby d15_10))
theorem rm_lenw (C : Cx Z a0) (h0 : Heap) (a : Addr) (cs : List Int32) (Sa : StrW Z h0 a cs) (l0 : cs.length ≤ 4000) :
    Ct l Z a0 own_EL (⟨"java/lang/String", "length", "()I"⟩ : MethodName) jdk_42_method_54_code 1 (Option.some Jvm.ClassFile.FieldType.int) [] (rmm 1 0 0 13) #[(.ref a)] h0 [] (fun v h so => v = some (.int (Int32.ofNat cs.length)) ∧ h0 = h) := by
  refine own_enter (plainFor_of_name pn_1) C.ew (F0 := fun m => mkF m 0 #[vR a] []) (fun m => by first | (simp [entryFrame, mkF, argsToLocals, Value.category]; done) | rfl) ?_
  intro p e s m below meth c s₁ G hx hby hml hret hnm W0 S0 go fin
  have z0 := W0.sz
  show G s₁ (mkF m 0 #[vR a] [])
  obtain ⟨Ea, Ca, pa, u, ku, Fa, Va⟩ := id Sa
  have la : ltN a h0.size := Ea.lt
  have lu : ltN u h0.size := Va.lt
  refine go (g' := (mkF m 1 #[vR a] [(.ref a)])) (fun _ k => XS.aloadN W0.here hx rfl (hb hby d15_0) rfl rfl k) ?_
  obtain ⟨T1, W1, st1⟩ := own_get W0 hx (host := "") (Or.inl (w29 C)) Via.refl Fa (g := (mkF m 1 #[vR a] [(.ref a)])) rfl rfl (hb hby d15_1)
  refine go (g' := (mkF m 4 #[vR a] [(.ref u)])) (st1) ?_
  refine go (g' := (mkF m 5 #[vR a] [(.int (Int32.ofNat (2 * cs.length)))])) (own_alen W1 hx Va (g := (mkF m 4 #[vR a] [(.ref u)])) rfl rfl (hb hby d15_4)) ?_
  refine go (g' := (mkF m 6 #[vR a] [(.ref a), (.int (Int32.ofNat (2 * cs.length)))])) (fun _ k => XS.aloadN W1.here hx rfl (hb hby d15_5) rfl rfl k) ?_
  obtain ⟨v2, so2, vm2, T2, h2, W2, C2, q2, hso2, st2⟩ := own_virtual W1 hx (w90 C) (w91 C) (w93 C) (w92 C) (w3 C) (w94 C) (by decide) (own_nf W1 (w93 C)) Ea (rm_coder1 C h0 a Ca) (fun _ q => nomatch q) (Wd := 1) (nle rfl) (nle rfl) (nle rfl) (nle rfl) (g := (mkF m 6 #[vR a] [(.ref a), (.int (Int32.ofNat (2 * cs.length)))])) rfl (by rw [hml]; rfl) (argsL := []) (rest := [(.int (Int32.ofNat (2 * cs.length)))]) (lenOf pd_9 rfl) rfl rfl (nle rfl) (hb hby d15_6)
  obtain ⟨rfl, rfl⟩ := q2
  refine go (g' := (mkF m 9 #[vR a] [(.int (1 : Int32)), (.int (Int32.ofNat (2 * cs.length)))])) (st2) ?_
  refine go (g' := (mkF m 10 #[vR a] [(.int ((Int32.ofNat (2 * cs.length)) >>> ((1 : Int32) &&& 31)))])) (fun _ k => XS.ishr W2.here hx rfl (hb hby d15_9) rfl k) ?_
  rw [show ((Int32.ofNat (2 * cs.length)) >>> ((1 : Int32) &&& 31)) = (Int32.ofNat cs.length) from own_shr1 (by omega)]
  exact fin (v := some (.int (Int32.ofNat cs.length))) (so := []) W2 (nle rfl) (nle rfl) (⟨rfl, rfl⟩) (fun _ q => nomatch q) (fun q => nomatch q) (own_retI W2 hx hret (by decide) rfl (hb hby d15_10))
theorem rm_lenx (C : Cx Z a0) (h0 : Heap) (a : Addr) (cs : List Int32) (Sa : Sx Z h0 a cs) (l0 : cs.length ≤ 4000) : Ct l Z a0 own_EL (⟨"java/lang/String", "length", "()I"⟩ : MethodName) jdk_42_method_54_code 1 (Option.some Jvm.ClassFile.FieldType.int) [] (rmm 1 0 0 13) #[(.ref a)] h0 [] (fun v h so => v = some (.int (Int32.ofNat cs.length)) ∧ h0 = h) := Sa.elim (fun S => rm_lenl C h0 a cs S l0) (fun S => rm_lenw C h0 a cs S l0)
theorem rm_ulen (C : Cx Z a0) (h0 : Heap) (t : Addr) (kt : ClassId) (vs : List Value) (n : Nat) (l0 : n ≤ 16) (Vt : Arv Z h0 t kt .byte (Int32.ofNat (2 * n)) vs vZ) :
    Ct l Z a0 own_EL (⟨"java/lang/StringUTF16", "length", "([B)I"⟩ : MethodName) jdk_52_method_6_code 1 (Option.some Jvm.ClassFile.FieldType.int) [] (rmm 0 0 0 0) #[(.ref t)] h0 [] (fun v h so => v = some (.int (Int32.ofNat n)) ∧ h0 = h) := by
  refine own_enter (plainFor_of_name pn_0) C.ew (F0 := fun m => mkF m 0 #[vR t] []) (fun m => by first | (simp [entryFrame, mkF, argsToLocals, Value.category]; done) | rfl) ?_
  intro p e s m below meth c s₁ G hx hby hml hret hnm W0 S0 go fin
  have z0 := W0.sz
  show G s₁ (mkF m 0 #[vR t] [])
  refine go (g' := (mkF m 1 #[vR t] [(.ref t)])) (fun _ k => XS.aloadN W0.here hx rfl (hb hby d16_0) rfl rfl k) ?_
  refine go (g' := (mkF m 2 #[vR t] [(.int (Int32.ofNat (2 * n)))])) (own_alen W0 hx Vt (g := (mkF m 1 #[vR t] [(.ref t)])) rfl rfl (hb hby d16_1)) ?_
  refine go (g' := (mkF m 4 #[vR t] [(.int ((Int32.ofNat (2 * n)) >>> ((1 : Int32) &&& 31)))])) (fun _ k => XS.iconst W0.here hx rfl (hb hby d16_2) (XS.ishr W0.here hx rfl (hb hby d16_3) rfl k)) ?_
  rw [show ((Int32.ofNat (2 * n)) >>> ((1 : Int32) &&& 31)) = (Int32.ofNat n) from own_shr1 (by omega)]
  exact fin (v := some (.int (Int32.ofNat n))) (so := []) W0 (nle rfl) (nle rfl) (⟨rfl, rfl⟩) (fun _ q => nomatch q) (fun q => nomatch q) (own_retI W0 hx hret (by decide) rfl (hb hby d16_4))
theorem rm_pci (C : Cx Z a0) (h0 : Heap) (i n : Nat) (h1 : i < n) (h2 : n ≤ 4000) (u : Value) (ru : u.isRef = true) :
    Ct l Z a0 own_EL (⟨"jdk/internal/util/Preconditions", "checkIndex", "(IILjava/util/function/BiFunction;)I"⟩ : MethodName) jdk_41_method_11_code 3 (Option.some Jvm.ClassFile.FieldType.int) [] (rmm 0 0 0 0) #[(.int (Int32.ofNat i)), (.int (Int32.ofNat n)), u] h0 [] (fun v h so => v = some (.int (Int32.ofNat i)) ∧ h0 = h) := by
  refine own_enter (plainFor_of_name pn_4) C.ew (F0 := fun m => mkF m 0 #[vI (Int32.ofNat i), vI (Int32.ofNat n), .val u] []) (fun m => by rcases ref_cases ru with rfl | ⟨_, rfl⟩ <;> rfl) ?_
  intro p e s m below meth c s₁ G hx hby hml hret hnm W0 S0 go fin
  have z0 := W0.sz
  show G s₁ (mkF m 0 #[vI (Int32.ofNat i), vI (Int32.ofNat n), .val u] [])
  refine go (g' := (mkF m 17 #[vI (Int32.ofNat i), vI (Int32.ofNat n), .val u] [(.int (Int32.ofNat i))])) (fun _ k => XS.iloadN W0.here hx rfl (hb hby d17_0) rfl (XS.ifNo W0.here hx rfl (hb hby d17_1) rfl ((if0 _ _).trans (flt (own_nn (by omega))).1) (XS.iloadN W0.here hx rfl (hb hby d17_4) rfl (XS.iloadN W0.here hx rfl (hb hby d17_5) rfl (XS.icmpYes W0.here hx rfl (pc0 := 6) (pc' := 16) rfl (hb hby d17_6) rfl (tlt ((own_ltn (by omega) (by omega)).mpr (by omega))).1 (by decide) (by decide) (XS.iloadN W0.here hx rfl (hb hby d17_16) rfl k)))))) ?_
  exact fin (v := some (.int (Int32.ofNat i))) (so := []) W0 (nle rfl) (nle rfl) (⟨rfl, rfl⟩) (fun _ q => nomatch q) (fun q => nomatch q) (own_retI W0 hx hret (by decide) rfl (hb hby d17_17))
theorem rm_sci (C : Cx Z a0) (h0 : Heap) (i n : Nat) (h1 : i < n) (h2 : n ≤ 4000) :
    Ct l Z a0 own_EL (⟨"java/lang/String", "checkIndex", "(II)V"⟩ : MethodName) jdk_42_method_155_code 2 (Option.none : Option Jvm.ClassFile.FieldType) [] (rmm 1 0 0 14) #[(.int (Int32.ofNat i)), (.int (Int32.ofNat n))] h0 [] (fun v h so => v = none ∧ h0 = h) := by
  refine own_enter (plainFor_of_name pn_1) C.ew (F0 := fun m => mkF m 0 #[vI (Int32.ofNat i), vI (Int32.ofNat n)] []) (fun m => by first | (simp [entryFrame, mkF, argsToLocals, Value.category]; done) | rfl) ?_
  intro p e s m below meth c s₁ G hx hby hml hret hnm W0 S0 go fin
  have z0 := W0.sz
  show G s₁ (mkF m 0 #[vI (Int32.ofNat i), vI (Int32.ofNat n)] [])
  refine go (g' := (mkF m 2 #[vI (Int32.ofNat i), vI (Int32.ofNat n)] [(.int (Int32.ofNat n)), (.int (Int32.ofNat i))])) (fun _ k => XS.iloadN W0.here hx rfl (hb hby d18_0) rfl (XS.iloadN W0.here hx rfl (hb hby d18_1) rfl k)) ?_
  obtain ⟨gSF, OSF, nSF⟩ := C.sf
  obtain ⟨T1, W1, st1⟩ := own_getS W0 hx (host := "") (Or.inl (w190 C)) Via.refl OSF (g := (mkF m 2 #[vI (Int32.ofNat i), vI (Int32.ofNat n)] [(.int (Int32.ofNat n)), (.int (Int32.ofNat i))])) rfl (hb hby d18_2)
  refine go (g' := (mkF m 5 #[vI (Int32.ofNat i), vI (Int32.ofNat n)] [gSF, (.int (Int32.ofNat n)), (.int (Int32.ofNat i))])) (st1) ?_
  obtain ⟨v2, so2, vm2, T2, h2, W2, C2, q2, hso2, st2⟩ := own_static W1 hx (w192 C) (w193 C) (w191 C) (w194 C) (by decide) (rm_pci C h0 i n (by omega) (by omega) gSF nSF) (fun _ q => nomatch q) (Wd := 0) (nle rfl) (nle rfl) (nle rfl) (nle rfl) (g := (mkF m 5 #[vI (Int32.ofNat i), vI (Int32.ofNat n)] [gSF, (.int (Int32.ofNat n)), (.int (Int32.ofNat i))])) rfl (by rw [hml]; rfl) (argsL := [(.int (Int32.ofNat i)), (.int (Int32.ofNat n)), gSF]) (rest := []) (lenOf pd_10 rfl) rfl rfl (nle rfl) (hb hby d18_5)
  obtain ⟨rfl, rfl⟩ := q2
  refine go (g' := (mkF m 8 #[vI (Int32.ofNat i), vI (Int32.ofNat n)] [(.int (Int32.ofNat i))])) (st2) ?_
  refine go (g' := (mkF m 9 #[vI (Int32.ofNat i), vI (Int32.ofNat n)] [])) (fun _ k => XS.pop W2.here hx rfl (hb hby d18_8) rfl rfl k) ?_
  exact fin (v := none) (so := []) W2 (nle rfl) (nle rfl) (⟨rfl, rfl⟩) (fun _ q => nomatch q) (fun _ => rfl) (own_retV W2 hx hret (hb hby d18_9))
theorem rm_uci (C : Cx Z a0) (h0 : Heap) (t : Addr) (kt : ClassId) (vs : List Value) (i n : Nat) (h1 : i < n) (l0 : n ≤ 16) (Vt : Arv Z h0 t kt .byte (Int32.ofNat (2 * n)) vs vZ) :
    Ct l Z a0 own_EL (⟨"java/lang/StringUTF16", "checkIndex", "(I[B)V"⟩ : MethodName) jdk_52_method_91_code 2 (Option.none : Option Jvm.ClassFile.FieldType) [] (rmm 2 0 0 27) #[(.int (Int32.ofNat i)), (.ref t)] h0 [] (fun v h so => v = none ∧ h0 = h) := by
  refine own_enter (plainFor_of_name pn_0) C.ew (F0 := fun m => mkF m 0 #[vI (Int32.ofNat i), vR t] []) (fun m => by first | (simp [entryFrame, mkF, argsToLocals, Value.category]; done) | rfl) ?_
  intro p e s m below meth c s₁ G hx hby hml hret hnm W0 S0 go fin
  have z0 := W0.sz
  show G s₁ (mkF m 0 #[vI (Int32.ofNat i), vR t] [])
  refine go (g' := (mkF m 2 #[vI (Int32.ofNat i), vR t] [(.ref t), (.int (Int32.ofNat i))])) (fun _ k => XS.iloadN W0.here hx rfl (hb hby d19_0) rfl (XS.aloadN W0.here hx rfl (hb hby d19_1) rfl rfl k)) ?_
  obtain ⟨v1, so1, vm1, T1, h1, W1, C1, q1, hso1, st1⟩ := own_static W0 hx (w234 C) (w235 C) (w18 C) (w236 C) (by decide) (rm_ulen C h0 t kt vs n (by omega) Vt) (fun _ q => nomatch q) (Wd := 1) (nle rfl) (nle rfl) (nle rfl) (nle rfl) (g := (mkF m 2 #[vI (Int32.ofNat i), vR t] [(.ref t), (.int (Int32.ofNat i))])) rfl (by rw [hml]; rfl) (argsL := [(.ref t)]) (rest := [(.int (Int32.ofNat i))]) (lenOf pd_11 rfl) rfl rfl (nle rfl) (hb hby d19_2)
  obtain ⟨rfl, rfl⟩ := q1
  refine go (g' := (mkF m 5 #[vI (Int32.ofNat i), vR t] [(.int (Int32.ofNat n)), (.int (Int32.ofNat i))])) (st1) ?_
  obtain ⟨v2, so2, vm2, T2, h2, W2, C2, q2, hso2, st2⟩ := own_static W1 hx (w252 C) (w188 C) (w3 C) (w189 C) (by decide) (rm_sci C h0 i n (by omega) (by omega)) (fun _ q => nomatch q) (Wd := 0) (nle rfl) (nle rfl) (nle rfl) (nle rfl) (g := (mkF m 5 #[vI (Int32.ofNat i), vR t] [(.int (Int32.ofNat n)), (.int (Int32.ofNat i))])) rfl (by rw [hml]; rfl) (argsL := [(.int (Int32.ofNat i)), (.int (Int32.ofNat n))]) (rest := []) (lenOf pd_12 rfl) rfl rfl (nle rfl) (hb hby d19_5)
  obtain ⟨rfl, rfl⟩ := q2
  refine go (g' := (mkF m 8 #[vI (Int32.ofNat i), vR t] [])) (st2) ?_
  exact fin (v := none) (so := []) W2 (nle rfl) (nle rfl) (⟨rfl, rfl⟩) (fun _ q => nomatch q) (fun _ => rfl) (own_retV W2 hx hret (hb hby d19_8))
theorem rm_cfi1 (C : Cx Z a0) (h0 : Heap) (i : Nat) (h1 : i + 1 ≤ 16) (u : Value) (ru : u.isRef = true) :
    Ct l Z a0 own_EL (⟨"jdk/internal/util/Preconditions", "checkFromIndexSize", "(IIILjava/util/function/BiFunction;)I"⟩ : MethodName) jdk_41_method_13_code 4 (Option.some Jvm.ClassFile.FieldType.int) [] (rmm 0 0 0 0) #[(.int (Int32.ofNat i)), (.int (1 : Int32)), (.int (16 : Int32)), u] h0 [] (fun v h so => v = some (.int (Int32.ofNat i)) ∧ h0 = h) := by
  refine own_enter (plainFor_of_name pn_4) C.ew (F0 := fun m => mkF m 0 #[vI (Int32.ofNat i), vI (1 : Int32), vI (16 : Int32), .val u] []) (fun m => by rcases ref_cases ru with rfl | ⟨_, rfl⟩ <;> rfl) ?_
  intro p e s m below meth c s₁ G hx hby hml hret hnm W0 S0 go fin
  have z0 := W0.sz
  show G s₁ (mkF m 0 #[vI (Int32.ofNat i), vI (1 : Int32), vI (16 : Int32), .val u] [])
  refine go (g' := (mkF m 10 #[vI (Int32.ofNat i), vI (1 : Int32), vI (16 : Int32), .val u] [(.int (16 : Int32)), (.int (1 : Int32))])) (fun _ k => XS.iloadN W0.here hx rfl (hb hby d20_0) rfl (XS.iloadN W0.here hx rfl (hb hby d20_1) rfl (XS.ior W0.here hx rfl (hb hby d20_2) rfl (XS.iloadN W0.here hx rfl (hb hby d20_3) rfl (XS.ior W0.here hx rfl (hb hby d20_4) rfl (XS.ifNo W0.here hx rfl (hb hby d20_5) rfl ((if0 _ _).trans (flt (own_fin (N := 17) (P := fun i => ¬ (((16 : Int32) ||| (Int32.ofNat i)) ||| (1 : Int32)) < (0 : Int32)) (by decide +kernel) (by omega))).1) (XS.iloadN W0.here hx rfl (hb hby d20_8) rfl (XS.iloadN W0.here hx rfl (hb hby d20_9) rfl k)))))))) ?_
  refine go (g' := (mkF m 24 #[vI (Int32.ofNat i), vI (1 : Int32), vI (16 : Int32), .val u] [(.int (Int32.ofNat i))])) (fun _ k => XS.iloadN W0.here hx rfl (hb hby d20_10) rfl (XS.isub W0.here hx rfl (hb hby d20_11) rfl (XS.icmpYes W0.here hx rfl (pc0 := 12) (pc' := 23) rfl (hb hby d20_12) rfl (flt (own_fin (N := 16) (P := fun i => ¬ ((16 : Int32) - (Int32.ofNat i)) < (1 : Int32)) (by decide +kernel) (by omega))).2.2.2 (by decide) (by decide) (XS.iloadN W0.here hx rfl (hb hby d20_23) rfl k)))) ?_
  exact fin (v := some (.int (Int32.ofNat i))) (so := []) W0 (nle rfl) (nle rfl) (⟨rfl, rfl⟩) (fun _ q => nomatch q) (fun q => nomatch q) (own_retI W0 hx hret (by decide) rfl (hb hby d20_24))
theorem rm_cbi1 (C : Cx Z a0) (h0 : Heap) (i : Nat) (h1 : i + 1 ≤ 16) :
    Ct l Z a0 own_EL (⟨"java/lang/String", "checkBoundsOffCount", "(III)I"⟩ : MethodName) jdk_42_method_157_code 3 (Option.some Jvm.ClassFile.FieldType.int) [] (rmm 1 0 0 15) #[(.int (Int32.ofNat i)), (.int (1 : Int32)), (.int (16 : Int32))] h0 [] (fun v h so => v = some (.int (Int32.ofNat i)) ∧ h0 = h) := by
  refine own_enter (plainFor_of_name pn_1) C.ew (F0 := fun m => mkF m 0 #[vI (Int32.ofNat i), vI (1 : Int32), vI (16 : Int32)] []) (fun m => by first | (simp [entryFrame, mkF, argsToLocals, Value.category]; done) | rfl) ?_
  intro p e s m below meth c s₁ G hx hby hml hret hnm W0 S0 go fin
  have z0 := W0.sz
  show G s₁ (mkF m 0 #[vI (Int32.ofNat i), vI (1 : Int32), vI (16 : Int32)] [])
  refine go (g' := (mkF m 3 #[vI (Int32.ofNat i), vI (1 : Int32), vI (16 : Int32)] [(.int (16 : Int32)), (.int (1 : Int32)), (.int (Int32.ofNat i))])) (fun _ k => XS.iloadN W0.here hx rfl (hb hby d21_0) rfl (XS.iloadN W0.here hx rfl (hb hby d21_1) rfl (XS.iloadN W0.here hx rfl (hb hby d21_2) rfl k))) ?_
  obtain ⟨gSF, OSF, nSF⟩ := C.sf
  obtain ⟨T1, W1, st1⟩ := own_getS W0 hx (host := "") (Or.inl (w190 C)) Via.refl OSF (g := (mkF m 3 #[vI (Int32.ofNat i), vI (1 : Int32), vI (16 : Int32)] [(.int (16 : Int32)), (.int (1 : Int32)), (.int (Int32.ofNat i))])) rfl (hb hby d21_3)
  refine go (g' := (mkF m 6 #[vI (Int32.ofNat i), vI (1 : Int32), vI (16 : Int32)] [gSF, (.int (16 : Int32)), (.int (1 : Int32)), (.int (Int32.ofNat i))])) (st1) ?_
  obtain ⟨v2, so2, vm2, T2, h2, W2, C2, q2, hso2, st2⟩ := own_static W1 hx (w240 C) (w241 C) (w191 C) (w242 C) (by decide) (rm_cfi1 C h0 i (by omega) gSF nSF) (fun _ q => nomatch q) (Wd := 0) (nle rfl) (nle rfl) (nle rfl) (nle rfl) (g := (mkF m 6 #[vI (Int32.ofNat i), vI (1 : Int32), vI (16 : Int32)] [gSF, (.int (16 : Int32)), (.int (1 : Int32)), (.int (Int32.ofNat i))])) rfl (by rw [hml]; rfl) (argsL := [(.int (Int32.ofNat i)), (.int (1 : Int32)), (.int (16 : Int32)), gSF]) (rest := []) (lenOf pd_13 rfl) rfl rfl (nle rfl) (hb hby d21_6)
  obtain ⟨rfl, rfl⟩ := q2
  refine go (g' := (mkF m 9 #[vI (Int32.ofNat i), vI (1 : Int32), vI (16 : Int32)] [(.int (Int32.ofNat i))])) (st2) ?_
  exact fin (v := some (.int (Int32.ofNat i))) (so := []) W2 (nle rfl) (nle rfl) (⟨rfl, rfl⟩) (fun _ q => nomatch q) (fun q => nomatch q) (own_retI W2 hx hret (by decide) rfl (hb hby d21_9))
theorem rm_ucb1 (C : Cx Z a0) (h0 : Heap) (t : Addr) (kt : ClassId) (vs : List Value) (i : Nat) (h1 : i + 1 ≤ 16) (Vt : Arv Z h0 t kt .byte (Int32.ofNat (2 * 16)) vs vZ) :
    Ct l Z a0 own_EL (⟨"java/lang/StringUTF16", "checkBoundsOffCount", "(II[B)V"⟩ : MethodName) jdk_52_method_94_code 3 (Option.none : Option Jvm.ClassFile.FieldType) [] (rmm 2 0 0 29) #[(.int (Int32.ofNat i)), (.int (1 : Int32)), (.ref t)] h0 [] (fun v h so => v = none ∧ h0 = h) := by
  refine own_enter (plainFor_of_name pn_0) C.ew (F0 := fun m => mkF m 0 #[vI (Int32.ofNat i), vI (1 : Int32), vR t] []) (fun m => by first | (simp [entryFrame, mkF, argsToLocals, Value.category]; done) | rfl) ?_
  intro p e s m below meth c s₁ G hx hby hml hret hnm W0 S0 go fin
  have z0 := W0.sz
  show G s₁ (mkF m 0 #[vI (Int32.ofNat i), vI (1 : Int32), vR t] [])
  refine go (g' := (mkF m 3 #[vI (Int32.ofNat i), vI (1 : Int32), vR t] [(.ref t), (.int (1 : Int32)), (.int (Int32.ofNat i))])) (fun _ k => XS.iloadN W0.here hx rfl (hb hby d22_0) rfl (XS.iloadN W0.here hx rfl (hb hby d22_1) rfl (XS.aloadN W0.here hx rfl (hb hby d22_2) rfl rfl k))) ?_
  obtain ⟨v1, so1, vm1, T1, h1, W1, C1, q1, hso1, st1⟩ := own_static W0 hx (w234 C) (w235 C) (w18 C) (w236 C) (by decide) (rm_ulen C h0 t kt vs 16 (by omega) Vt) (fun _ q => nomatch q) (Wd := 2) (nle rfl) (nle rfl) (nle rfl) (nle rfl) (g := (mkF m 3 #[vI (Int32.ofNat i), vI (1 : Int32), vR t] [(.ref t), (.int (1 : Int32)), (.int (Int32.ofNat i))])) rfl (by rw [hml]; rfl) (argsL := [(.ref t)]) (rest := [(.int (1 : Int32)), (.int (Int32.ofNat i))]) (lenOf pd_11 rfl) rfl rfl (nle rfl) (hb hby d22_3)
  obtain ⟨rfl, rfl⟩ := q1
  refine go (g' := (mkF m 6 #[vI (Int32.ofNat i), vI (1 : Int32), vR t] [(.int (Int32.ofNat 16)), (.int (1 : Int32)), (.int (Int32.ofNat i))])) (st1) ?_
  obtain ⟨v2, so2, vm2, T2, h2, W2, C2, q2, hso2, st2⟩ := own_static W1 hx (w237 C) (w238 C) (w3 C) (w239 C) (by decide) (rm_cbi1 C h0 i (by omega)) (fun _ q => nomatch q) (Wd := 0) (nle rfl) (nle rfl) (nle rfl) (nle rfl) (g := (mkF m 6 #[vI (Int32.ofNat i), vI (1 : Int32), vR t] [(.int (Int32.ofNat 16)), (.int (1 : Int32)), (.int (Int32.ofNat i))])) rfl (by rw [hml]; rfl) (argsL := [(.int (Int32.ofNat i)), (.int (1 : Int32)), (.int (Int32.ofNat 16))]) (rest := []) (lenOf pd_14 rfl) rfl rfl (nle rfl) (hb hby d22_6)
  obtain ⟨rfl, rfl⟩ := q2
  refine go (g' := (mkF m 9 #[vI (Int32.ofNat i), vI (1 : Int32), vR t] [(.int (Int32.ofNat i))])) (st2) ?_
  refine go (g' := (mkF m 10 #[vI (Int32.ofNat i), vI (1 : Int32), vR t] [])) (fun _ k => XS.pop W2.here hx rfl (hb hby d22_9) rfl rfl k) ?_
  exact fin (v := none) (so := []) W2 (nle rfl) (nle rfl) (⟨rfl, rfl⟩) (fun _ q => nomatch q) (fun _ => rfl) (own_retV W2 hx hret (hb hby d22_10))
theorem rm_cfi2 (C : Cx Z a0) (h0 : Heap) (i : Nat) (h1 : i + 2 ≤ 16) (u : Value) (ru : u.isRef = true) :
    Ct l Z a0 own_EL (⟨"jdk/internal/util/Preconditions", "checkFromIndexSize", "(IIILjava/util/function/BiFunction;)I"⟩ : MethodName) jdk_41_method_13_code 4 (Option.some Jvm.ClassFile.FieldType.int) [] (rmm 0 0 0 0) #[(.int (Int32.ofNat i)), (.int (2 : Int32)), (.int (16 : Int32)), u] h0 [] (fun v h so => v = some (.int (Int32.ofNat i)) ∧ h0 = h) := by
  refine own_enter (plainFor_of_name pn_4) C.ew (F0 := fun m => mkF m 0 #[vI (Int32.ofNat i), vI (2 : Int32), vI (16 : Int32), .val u] []) (fun m => by rcases ref_cases ru with rfl | ⟨_, rfl⟩ <;> rfl) ?_
  intro p e s m below meth c s₁ G hx hby hml hret hnm W0 S0 go fin
  have z0 := W0.sz
  show G s₁ (mkF m 0 #[vI (Int32.ofNat i), vI (2 : Int32), vI (16 : Int32), .val u] [])
  refine go (g' := (mkF m 10 #[vI (Int32.ofNat i), vI (2 : Int32), vI (16 : Int32), .val u] [(.int (16 : Int32)), (.int (2 : Int32))])) (fun _ k => XS.iloadN W0.here hx rfl (hb hby d20_0) rfl (XS.iloadN W0.here hx rfl (hb hby d20_1) rfl (XS.ior W0.here hx rfl (hb hby d20_2) rfl (XS.iloadN W0.here hx rfl (hb hby d20_3) rfl (XS.ior W0.here hx rfl (hb hby d20_4) rfl (XS.ifNo W0.here hx rfl (hb hby d20_5) rfl ((if0 _ _).trans (flt (own_fin (N := 17) (P := fun i => ¬ (((16 : Int32) ||| (Int32.ofNat i)) ||| (2 : Int32)) < (0 : Int32)) (by decide +kernel) (by omega))).1) (XS.iloadN W0.here hx rfl (hb hby d20_8) rfl (XS.iloadN W0.here hx rfl (hb hby d20_9) rfl k)))))))) ?_
  refine go (g' := (mkF m 24 #[vI (Int32.ofNat i), vI (2 : Int32), vI (16 : Int32), .val u] [(.int (Int32.ofNat i))])) (fun _ k => XS.iloadN W0.here hx rfl (hb hby d20_10) rfl (XS.isub W0.here hx rfl (hb hby d20_11) rfl (XS.icmpYes W0.here hx rfl (pc0 := 12) (pc' := 23) rfl (hb hby d20_12) rfl (flt (own_fin (N := 15) (P := fun i => ¬ ((16 : Int32) - (Int32.ofNat i)) < (2 : Int32)) (by decide +kernel) (by omega))).2.2.2 (by decide) (by decide) (XS.iloadN W0.here hx rfl (hb hby d20_23) rfl k)))) ?_
  exact fin (v := some (.int (Int32.ofNat i))) (so := []) W0 (nle rfl) (nle rfl) (⟨rfl, rfl⟩) (fun _ q => nomatch q) (fun q => nomatch q) (own_retI W0 hx hret (by decide) rfl (hb hby d20_24))
theorem rm_cbi2 (C : Cx Z a0) (h0 : Heap) (i : Nat) (h1 : i + 2 ≤ 16) :
    Ct l Z a0 own_EL (⟨"java/lang/String", "checkBoundsOffCount", "(III)I"⟩ : MethodName) jdk_42_method_157_code 3 (Option.some Jvm.ClassFile.FieldType.int) [] (rmm 1 0 0 15) #[(.int (Int32.ofNat i)), (.int (2 : Int32)), (.int (16 : Int32))] h0 [] (fun v h so => v = some (.int (Int32.ofNat i)) ∧ h0 = h) := by
  refine own_enter (plainFor_of_name pn_1) C.ew (F0 := fun m => mkF m 0 #[vI (Int32.ofNat i), vI (2 : Int32), vI (16 : Int32)] []) (fun m => by first | (simp [entryFrame, mkF, argsToLocals, Value.category]; done) | rfl) ?_
  intro p e s m below meth c s₁ G hx hby hml hret hnm W0 S0 go fin
  have z0 := W0.sz
  show G s₁ (mkF m 0 #[vI (Int32.ofNat i), vI (2 : Int32), vI (16 : Int32)] [])
  refine go (g' := (mkF m 3 #[vI (Int32.ofNat i), vI (2 : Int32), vI (16 : Int32)] [(.int (16 : Int32)), (.int (2 : Int32)), (.int (Int32.ofNat i))])) (fun _ k => XS.iloadN W0.here hx rfl (hb hby d21_0) rfl (XS.iloadN W0.here hx rfl (hb hby d21_1) rfl (XS.iloadN W0.here hx rfl (hb hby d21_2) rfl k))) ?_
  obtain ⟨gSF, OSF, nSF⟩ := C.sf
  obtain ⟨T1, W1, st1⟩ := own_getS W0 hx (host := "") (Or.inl (w190 C)) Via.refl OSF (g := (mkF m 3 #[vI (Int32.ofNat i), vI (2 : Int32), vI (16 : Int32)] [(.int (16 : Int32)), (.int (2 : Int32)), (.int (Int32.ofNat i))])) rfl (hb hby d21_3)
  refine go (g' := (mkF m 6 #[vI (Int32.ofNat i), vI (2 : Int32), vI (16 : Int32)] [gSF, (.int (16 : Int32)), (.int (2 : Int32)), (.int (Int32.ofNat i))])) (st1) ?_
  obtain ⟨v2, so2, vm2, T2, h2, W2, C2, q2, hso2, st2⟩ := own_static W1 hx (w240 C) (w241 C) (w191 C) (w242 C) (by decide) (rm_cfi2 C h0 i (by omega) gSF nSF) (fun _ q => nomatch q) (Wd := 0) (nle rfl) (nle rfl) (nle rfl) (nle rfl) (g := (mkF m 6 #[vI (Int32.ofNat i), vI (2 : Int32), vI (16 : Int32)] [gSF, (.int (16 : Int32)), (.int (2 : Int32)), (.int (Int32.ofNat i))])) rfl (by rw [hml]; rfl) (argsL := [(.int (Int32.ofNat i)), (.int (2 : Int32)), (.int (16 : Int32)), gSF]) (rest := []) (lenOf pd_13 rfl) rfl rfl (nle rfl) (hb hby d21_6)
  obtain ⟨rfl, rfl⟩ := q2
  refine go (g' := (mkF m 9 #[vI (Int32.ofNat i), vI (2 : Int32), vI (16 : Int32)] [(.int (Int32.ofNat i))])) (st2) ?_
  exact fin (v := some (.int (Int32.ofNat i))) (so := []) W2 (nle rfl) (nle rfl) (⟨rfl, rfl⟩) (fun _ q => nomatch q) (fun q => nomatch q) (own_retI W2 hx hret (by decide) rfl (hb hby d21_9))
theorem rm_ucb2 (C : Cx Z a0) (h0 : Heap) (t : Addr) (kt : ClassId) (vs : List Value) (i : Nat) (h1 : i + 2 ≤ 16) (Vt : Arv Z h0 t kt .byte (Int32.ofNat (2 * 16)) vs vZ) :
    Ct l Z a0 own_EL (⟨"java/lang/StringUTF16", "checkBoundsOffCount", "(II[B)V"⟩ : MethodName) jdk_52_method_94_code 3 (Option.none : Option Jvm.ClassFile.FieldType) [] (rmm 2 0 0 29) #[(.int (Int32.ofNat i)), (.int (2 : Int32)), (.ref t)] h0 [] (fun v h so => v = none ∧ h0 = h) := by
  refine own_enter (plainFor_of_name pn_0) C.ew (F0 := fun m => mkF m 0 #[vI (Int32.ofNat i), vI (2 : Int32), vR t] []) (fun m => by first | (simp [entryFrame, mkF, argsToLocals, Value.category]; done) | rfl) ?_
  intro p e s m below meth c s₁ G hx hby hml hret hnm W0 S0 go fin
  have z0 := W0.sz
  show G s₁ (mkF m 0 #[vI (Int32.ofNat i), vI (2 : Int32), vR t] [])
  refine go (g' := (mkF m 3 #[vI (Int32.ofNat i), vI (2 : Int32), vR t] [(.ref t), (.int (2 : Int32)), (.int (Int32.ofNat i))])) (fun _ k => XS.iloadN W0.here hx rfl (hb hby d22_0) rfl (XS.iloadN W0.here hx rfl (hb hby d22_1) rfl (XS.aloadN W0.here hx rfl (hb hby d22_2) rfl rfl k))) ?_
  obtain ⟨v1, so1, vm1, T1, h1, W1, C1, q1, hso1, st1⟩ := own_static W0 hx (w234 C) (w235 C) (w18 C) (w236 C) (by decide) (rm_ulen C h0 t kt vs 16 (by omega) Vt) (fun _ q => nomatch q) (Wd := 2) (nle rfl) (nle rfl) (nle rfl) (nle rfl) (g := (mkF m 3 #[vI (Int32.ofNat i), vI (2 : Int32), vR t] [(.ref t), (.int (2 : Int32)), (.int (Int32.ofNat i))])) rfl (by rw [hml]; rfl) (argsL := [(.ref t)]) (rest := [(.int (2 : Int32)), (.int (Int32.ofNat i))]) (lenOf pd_11 rfl) rfl rfl (nle rfl) (hb hby d22_3)
  obtain ⟨rfl, rfl⟩ := q1
  refine go (g' := (mkF m 6 #[vI (Int32.ofNat i), vI (2 : Int32), vR t] [(.int (Int32.ofNat 16)), (.int (2 : Int32)), (.int (Int32.ofNat i))])) (st1) ?_
  obtain ⟨v2, so2, vm2, T2, h2, W2, C2, q2, hso2, st2⟩ := own_static W1 hx (w237 C) (w238 C) (w3 C) (w239 C) (by decide) (rm_cbi2 C h0 i (by omega)) (fun _ q => nomatch q) (Wd := 0) (nle rfl) (nle rfl) (nle rfl) (nle rfl) (g := (mkF m 6 #[vI (Int32.ofNat i), vI (2 : Int32), vR t] [(.int (Int32.ofNat 16)), (.int (2 : Int32)), (.int (Int32.ofNat i))])) rfl (by rw [hml]; rfl) (argsL := [(.int (Int32.ofNat i)), (.int (2 : Int32)), (.int (Int32.ofNat 16))]) (rest := []) (lenOf pd_14 rfl) rfl rfl (nle rfl) (hb hby d22_6)
  obtain ⟨rfl, rfl⟩ := q2
  refine go (g' := (mkF m 9 #[vI (Int32.ofNat i), vI (2 : Int32), vR t] [(.int (Int32.ofNat i))])) (st2) ?_
  refine go (g' := (mkF m 10 #[vI (Int32.ofNat i), vI (2 : Int32), vR t] [])) (fun _ k => XS.pop W2.here hx rfl (hb hby d22_9) rfl rfl k) ?_
  exact fin (v := none) (so := []) W2 (nle rfl) (nle rfl) (⟨rfl, rfl⟩) (fun _ q => nomatch q) (fun _ => rfl) (own_retV W2 hx hret (hb hby d22_10))
theorem rm_uca (C : Cx Z a0) (h0 : Heap) (t : Addr) (kt : ClassId) (cs : List Int32) (i : Nat) (hi : i < cs.length) (l0 : cs.length ≤ 16) (Vt : Arv Z h0 t kt .byte (Int32.ofNat (2 * cs.length)) (wb cs) vZ) :
    Ct l Z a0 own_EL (⟨"java/lang/StringUTF16", "charAt", "([BI)C"⟩ : MethodName) jdk_52_method_83_code 2 (Option.some Jvm.ClassFile.FieldType.char) [] (rmm 3 0 0 40) #[(.ref t), (.int (Int32.ofNat i))] h0 [] (fun v h so => v = some (.int (StrChars.pairCh (cs.getD i 0).toInt8.toInt32 (StrChars.hi8 (cs.getD i 0)))) ∧ h0 = h) := by
  refine own_enter (plainFor_of_name pn_0) C.ew (F0 := fun m => mkF m 0 #[vR t, vI (Int32.ofNat i)] []) (fun m => by first | (simp [entryFrame, mkF, argsToLocals, Value.category]; done) | rfl) ?_
  intro p e s m below meth c s₁ G hx hby hml hret hnm W0 S0 go fin
  have z0 := W0.sz
  show G s₁ (mkF m 0 #[vR t, vI (Int32.ofNat i)] [])
  refine go (g' := (mkF m 2 #[vR t, vI (Int32.ofNat i)] [(.ref t), (.int (Int32.ofNat i))])) (fun _ k => XS.iloadN W0.here hx rfl (hb hby d23_0) rfl (XS.aloadN W0.here hx rfl (hb hby d23_1) rfl rfl k)) ?_
  obtain ⟨v1, so1, vm1, T1, h1, W1, C1, q1, hso1, st1⟩ := own_static W0 hx (w249 C) (w250 C) (w18 C) (w251 C) (by decide) (rm_uci C h0 t kt (wb cs) i cs.length (by omega) (by omega) Vt) (fun _ q => nomatch q) (Wd := 0) (nle rfl) (nle rfl) (nle rfl) (nle rfl) (g := (mkF m 2 #[vR t, vI (Int32.ofNat i)] [(.ref t), (.int (Int32.ofNat i))])) rfl (by rw [hml]; rfl) (argsL := [(.int (Int32.ofNat i)), (.ref t)]) (rest := []) (lenOf pd_15 rfl) rfl rfl (nle rfl) (hb hby d23_2)
  obtain ⟨rfl, rfl⟩ := q1
  refine go (g' := (mkF m 5 #[vR t, vI (Int32.ofNat i)] [])) (st1) ?_
  refine go (g' := (mkF m 7 #[vR t, vI (Int32.ofNat i)] [(.int (Int32.ofNat i)), (.ref t)])) (fun _ k => XS.aloadN W1.here hx rfl (hb hby d23_5) rfl rfl (XS.iloadN W1.here hx rfl (hb hby d23_6) rfl k)) ?_
  obtain ⟨v2, so2, vm2, T2, h2, W2, C2, q2, hso2, st2⟩ := own_static W1 hx (w215 C) (w216 C) (w18 C) (w217 C) (by decide) (rm_getc C h0 t kt (2 * cs.length) i (wb cs) (by rw [own_wbl]; omega) (by omega) (by omega) (cs.getD i 0).toInt8.toInt32 (StrChars.hi8 (cs.getD i 0)) (own_wb0 _ cs i hi) (own_wb1 _ cs i hi) Vt) (fun _ q => nomatch q) (Wd := 0) (nle rfl) (nle rfl) (nle rfl) (nle rfl) (g := (mkF m 7 #[vR t, vI (Int32.ofNat i)] [(.int (Int32.ofNat i)), (.ref t)])) rfl (by rw [hml]; rfl) (argsL := [(.ref t), (.int (Int32.ofNat i))]) (rest := []) (lenOf pd_5 rfl) rfl rfl (nle rfl) (hb hby d23_7)
  obtain ⟨rfl, rfl⟩ := q2
  refine go (g' := (mkF m 10 #[vR t, vI (Int32.ofNat i)] [(.int (StrChars.pairCh (cs.getD i 0).toInt8.toInt32 (StrChars.hi8 (cs.getD i 0))))])) (st2) ?_
  exact fin (v := some (.int (StrChars.pairCh (cs.getD i 0).toInt8.toInt32 (StrChars.hi8 (cs.getD i 0))))) (so := []) W2 (nle rfl) (nle rfl) (⟨rfl, rfl⟩) (fun _ q => nomatch q) (fun q => nomatch q) (own_retI W2 hx hret (by decide) (own_narc _) (hb hby d23_10))
theorem rm_sl0 (C : Cx Z a0) (h0 : Heap) (a : Addr) (Fa : Fld Z h0 a "java/lang/String" "coder" "B" vZ) :
    Ct l Z a0 own_EL (⟨"java/lang/String", "isLatin1", "()Z"⟩ : MethodName) jdk_42_method_154_code 1 (Option.some Jvm.ClassFile.FieldType.boolean) [] (rmm 0 0 0 0) #[(.ref a)] h0 [] (fun v h so => v = some (.int (1 : Int32)) ∧ h0 = h) := by
  refine own_enter (plainFor_of_name pn_1) C.ew (F0 := fun m => mkF m 0 #[vR a] []) (fun m => by first | (simp [entryFrame, mkF, argsToLocals, Value.category]; done) | rfl) ?_
  intro p e s m below meth c s₁ G hx hby hml hret hnm W0 S0 go fin
  have z0 := W0.sz
  show G s₁ (mkF m 0 #[vR a] [])
  obtain ⟨gCS, OCS, nCS⟩ := C.cs
  obtain ⟨T1, W1, st1⟩ := own_getS W0 hx (host := "") (Or.inl (w15 C)) Via.refl OCS (g := (mkF m 0 #[vR a] [])) rfl (hb hby d24_0)
  refine go (g' := (mkF m 3 #[vR a] [(.int gCS)])) (st1) ?_
  refine go (g' := (mkF m 7 #[vR a] [(.ref a)])) (fun _ k => XS.ifNo W1.here hx rfl (hb hby d24_3) rfl ((if0 _ _).trans (feq nCS).1) (XS.aloadN W1.here hx rfl (hb hby d24_6) rfl rfl k)) ?_
  obtain ⟨T2, W2, st2⟩ := own_get W1 hx (host := "") (Or.inl (w27 C)) Via.refl Fa (g := (mkF m 7 #[vR a] [(.ref a)])) rfl rfl (hb hby d24_7)
  refine go (g' := (mkF m 10 #[vR a] [vZ])) (st2) ?_
  refine go (g' := (mkF m 18 #[vR a] [(.int (1 : Int32))])) (fun _ k => XS.ifNo W2.here hx rfl (hb hby d24_10) rfl ((if0 _ _).trans (teq ((by decide) : (0 : Int32) = (0 : Int32))).2) (XS.iconst W2.here hx rfl (hb hby d24_13) (XS.goto W2.here hx rfl (pc0 := 14) (pc' := 18) rfl (hb hby d24_14) (by decide) (by decide) k))) ?_
  exact fin (v := some (.int (1 : Int32))) (so := []) W2 (nle rfl) (nle rfl) (⟨rfl, rfl⟩) (fun _ q => nomatch q) (fun q => nomatch q) (own_retI W2 hx hret (by decide) rfl (hb hby d24_18))
theorem rm_sl1 (C : Cx Z a0) (h0 : Heap) (a : Addr) (Fa : Fld Z h0 a "java/lang/String" "coder" "B" (.int (1 : Int32))) :
    Ct l Z a0 own_EL (⟨"java/lang/String", "isLatin1", "()Z"⟩ : MethodName) jdk_42_method_154_code 1 (Option.some Jvm.ClassFile.FieldType.boolean) [] (rmm 0 0 0 0) #[(.ref a)] h0 [] (fun v h so => v = some vZ ∧ h0 = h) := by
  refine own_enter (plainFor_of_name pn_1) C.ew (F0 := fun m => mkF m 0 #[vR a] []) (fun m => by first | (simp [entryFrame, mkF, argsToLocals, Value.category]; done) | rfl) ?_
  intro p e s m below meth c s₁ G hx hby hml hret hnm W0 S0 go fin
  have z0 := W0.sz
  show G s₁ (mkF m 0 #[vR a] [])
  obtain ⟨gCS, OCS, nCS⟩ := C.cs
  obtain ⟨T1, W1, st1⟩ := own_getS W0 hx (host := "") (Or.inl (w15 C)) Via.refl OCS (g := (mkF m 0 #[vR a] [])) rfl (hb hby d24_0)
  refine go (g' := (mkF m 3 #[vR a] [(.int gCS)])) (st1) ?_
  refine go (g' := (mkF m 7 #[vR a] [(.ref a)])) (fun _ k => XS.ifNo W1.here hx rfl (hb hby d24_3) rfl ((if0 _ _).trans (feq nCS).1) (XS.aloadN W1.here hx rfl (hb hby d24_6) rfl rfl k)) ?_
  obtain ⟨T2, W2, st2⟩ := own_get W1 hx (host := "") (Or.inl (w27 C)) Via.refl Fa (g := (mkF m 7 #[vR a] [(.ref a)])) rfl rfl (hb hby d24_7)
  refine go (g' := (mkF m 10 #[vR a] [(.int (1 : Int32))])) (st2) ?_
  refine go (g' := (mkF m 18 #[vR a] [vZ])) (fun _ k => XS.ifYes W2.here hx rfl (pc0 := 10) (pc' := 17) rfl (hb hby d24_10) rfl ((if0 _ _).trans (feq ((by decide) : ¬ ((1 : Int32) = (0 : Int32)))).2) (by decide) (by decide) (XS.iconst W2.here hx rfl (hb hby d24_17) k)) ?_
  exact fin (v := some vZ) (so := []) W2 (nle rfl) (nle rfl) (⟨rfl, rfl⟩) (fun _ q => nomatch q) (fun q => nomatch q) (own_retI W2 hx hret (by decide) rfl (hb hby d24_18))
theorem rm_chw (C : Cx Z a0) (h0 : Heap) (a : Addr) (cs : List Int32) (Sa : StrW Z h0 a cs) (i : Nat) (hi : i < cs.length) (l0 : cs.length ≤ 16) :
    Ct l Z a0 own_EL (⟨"java/lang/String", "charAt", "(I)C"⟩ : MethodName) jdk_42_method_56_code 2 (Option.some Jvm.ClassFile.FieldType.char) [] (rmm 4 0 0 53) #[(.ref a), (.int (Int32.ofNat i))] h0 [] (fun v h so => v = some (.int (cs.getD i 0)) ∧ h0 = h) := by
  refine own_enter (plainFor_of_name pn_1) C.ew (F0 := fun m => mkF m 0 #[vR a, vI (Int32.ofNat i)] []) (fun m => by first | (simp [entryFrame, mkF, argsToLocals, Value.category]; done) | rfl) ?_
  intro p e s m below meth c s₁ G hx hby hml hret hnm W0 S0 go fin
  have z0 := W0.sz
  show G s₁ (mkF m 0 #[vR a, vI (Int32.ofNat i)] [])
  obtain ⟨Ea, Ca, pa, u, ku, Fa, Va⟩ := id Sa
  have la : ltN a h0.size := Ea.lt
  have lu : ltN u h0.size := Va.lt
  have hr := own_gd pa hi
  refine go (g' := (mkF m 1 #[vR a, vI (Int32.ofNat i)] [(.ref a)])) (fun _ k => XS.aloadN W0.here hx rfl (hb hby d25_0) rfl rfl k) ?_
  obtain ⟨v1, so1, vm1, T1, h1, W1, C1, q1, hso1, st1⟩ := own_virtual W0 hx (w178 C) (w179 C) (w181 C) (w180 C) (w3 C) (w182 C) (by decide) (own_nf W0 (w181 C)) Ea (rm_sl1 C h0 a Ca) (fun _ q => nomatch q) (Wd := 0) (nle rfl) (nle rfl) (nle rfl) (nle rfl) (g := (mkF m 1 #[vR a, vI (Int32.ofNat i)] [(.ref a)])) rfl (by rw [hml]; rfl) (argsL := []) (rest := []) (lenOf pd_16 rfl) rfl rfl (nle rfl) (hb hby d25_1)
  obtain ⟨rfl, rfl⟩ := q1
  refine go (g' := (mkF m 4 #[vR a, vI (Int32.ofNat i)] [vZ])) (st1) ?_
  refine go (g' := (mkF m 17 #[vR a, vI (Int32.ofNat i)] [(.ref a)])) (fun _ k => XS.ifYes W1.here hx rfl (pc0 := 4) (pc' := 16) rfl (hb hby d25_4) rfl ((if0 _ _).trans (teq ((by decide) : (0 : Int32) = (0 : Int32))).1) (by decide) (by decide) (XS.aloadN W1.here hx rfl (hb hby d25_16) rfl rfl k)) ?_
  obtain ⟨T2, W2, st2⟩ := own_get W1 hx (host := "") (Or.inl (w29 C)) Via.refl Fa (g := (mkF m 17 #[vR a, vI (Int32.ofNat i)] [(.ref a)])) rfl rfl (hb hby d25_17)
  refine go (g' := (mkF m 20 #[vR a, vI (Int32.ofNat i)] [(.ref u)])) (st2) ?_
  refine go (g' := (mkF m 21 #[vR a, vI (Int32.ofNat i)] [(.int (Int32.ofNat i)), (.ref u)])) (fun _ k => XS.iloadN W2.here hx rfl (hb hby d25_20) rfl k) ?_
  obtain ⟨v3, so3, vm3, T3, h3, W3, C3, q3, hso3, st3⟩ := own_static W2 hx (w246 C) (w247 C) (w18 C) (w248 C) (by decide) (rm_uca C h0 u ku cs i hi (by omega) Va) (fun _ q => nomatch q) (Wd := 0) (nle rfl) (nle rfl) (nle rfl) (nle rfl) (g := (mkF m 21 #[vR a, vI (Int32.ofNat i)] [(.int (Int32.ofNat i)), (.ref u)])) rfl (by rw [hml]; rfl) (argsL := [(.ref u), (.int (Int32.ofNat i))]) (rest := []) (lenOf pd_5 rfl) rfl rfl (nle rfl) (hb hby d25_21)
  obtain ⟨rfl, rfl⟩ := q3
  refine go (g' := (mkF m 24 #[vR a, vI (Int32.ofNat i)] [(.int (StrChars.pairCh (cs.getD i 0).toInt8.toInt32 (StrChars.hi8 (cs.getD i 0))))])) (st3) ?_
  exact fin (v := some (.int (StrChars.pairCh (cs.getD i 0).toInt8.toInt32 (StrChars.hi8 (cs.getD i 0))))) (so := []) W3 (nle rfl) (nle rfl) (⟨congrArg (fun z => some (Value.int z)) (StrChars.pair_says hr.1 hr.2), rfl⟩) (fun _ q => nomatch q) (fun q => nomatch q) (own_retI W3 hx hret (by decide) (own_narc _) (hb hby d25_24))
theorem rm_ui60 (C : Cx Z a0) (h0 : Heap) (u d : Addr) (ku kd : ClassId) (vs : List Value) (i : Nat) (h1 : i + 1 ≤ 16) (hv : 2 * i + 2 ≤ vs.length) (Vu : Arv Z h0 u ku .byte (16 : Int32) [(.int (60 : Int32))] vZ) (Vd : Arv Z h0 d kd .byte (Int32.ofNat 32) vs vZ) (nd : Z.heap.size ≤ d) (nud : u ≠ d) :
    Ct l Z a0 own_EL (⟨"java/lang/StringUTF16", "inflate", "([BI[BII)V"⟩ : MethodName) jdk_52_method_86_code 6 (Option.none : Option Jvm.ClassFile.FieldType) [] (rmm 3 0 0 43) #[(.ref u), vZ, (.ref d), (.int (Int32.ofNat i)), (.int (1 : Int32))] h0 [d] (fun v h so => v = none ∧ Keep h0 h [d] ∧ Arv Z h d kd .byte (Int32.ofNat 32) ((vs.set (2 * i) (.int (60 : Int32).toInt8.toInt32)).set (2 * i + 1) (.int (StrChars.hi8 (60 : Int32)))) vZ) := by
  refine own_enter (plainFor_of_name pn_0) C.ew (F0 := fun m => mkF m 0 #[vR u, .val vZ, vR d, vI (Int32.ofNat i), vI (1 : Int32), .unset] []) (fun m => by first | (simp [entryFrame, mkF, argsToLocals, Value.category]; done) | rfl) ?_
  intro p e s m below meth c s₁ G hx hby hml hret hnm W0 S0 go fin
  have z0 := W0.sz
  show G s₁ (mkF m 0 #[vR u, .val vZ, vR d, vI (Int32.ofNat i), vI (1 : Int32), .unset] [])
  have ld : ltN d h0.size := Vd.lt
  have lu : ltN u h0.size := Vu.lt
  refine go (g' := (mkF m 4 #[vR u, .val vZ, vR d, vI (Int32.ofNat i), vI (1 : Int32), .unset] [(.ref d), (.int (1 : Int32)), (.int (Int32.ofNat i))])) (fun _ k => XS.iloadN W0.here hx rfl (hb hby d26_0) rfl (XS.iload W0.here hx rfl (hb hby d26_1) rfl (XS.aloadN W0.here hx rfl (hb hby d26_3) rfl rfl k))) ?_
  obtain ⟨v1, so1, vm1, T1, h1, W1, C1, q1, hso1, st1⟩ := own_static W0 hx (w231 C) (w232 C) (w18 C) (w233 C) (by decide) (rm_ucb1 C h0 d kd vs i (by omega) Vd) (fun _ q => nomatch q) (Wd := 0) (nle rfl) (nle rfl) (nle rfl) (nle rfl) (g := (mkF m 4 #[vR u, .val vZ, vR d, vI (Int32.ofNat i), vI (1 : Int32), .unset] [(.ref d), (.int (1 : Int32)), (.int (Int32.ofNat i))])) rfl (by rw [hml]; rfl) (argsL := [(.int (Int32.ofNat i)), (.int (1 : Int32)), (.ref d)]) (rest := []) (lenOf pd_17 rfl) rfl rfl (nle rfl) (hb hby d26_4)
  obtain ⟨rfl, rfl⟩ := q1
  have S1_d : Safe Z own_EL vm1 h0 d := C1.safe (olt (by omega)) (S0 _ (own_mi (i := 0) rfl))
  refine go (g' := (mkF m 7 #[vR u, .val vZ, vR d, vI (Int32.ofNat i), vI (1 : Int32), .unset] [])) (st1) ?_
  refine go (g' := (mkF m 22 #[vR u, .val vZ, vR d, vI ((Int32.ofNat i) + (1 : Int32)), vI (1 : Int32), .val vZ] [(.int (Int32.ofNat i)), (.ref d)])) (fun _ k => XS.iconst W1.here hx rfl (hb hby d26_7) (XS.istore W1.here hx rfl (hb hby d26_8) rfl (l' := #[vR u, .val vZ, vR d, vI (Int32.ofNat i), vI (1 : Int32), .val vZ]) rfl (XS.iload W1.here hx rfl (hb hby d26_10) rfl (XS.iload W1.here hx rfl (hb hby d26_12) rfl (XS.icmpNo W1.here hx rfl (hb hby d26_14) rfl (tlt ((by decide) : (0 : Int32) < (1 : Int32))).2.1 (XS.aloadN W1.here hx rfl (hb hby d26_17) rfl rfl (XS.iloadN W1.here hx rfl (hb hby d26_18) rfl (XS.iinc W1.here hx rfl (hb hby d26_19) rfl (l' := #[vR u, .val vZ, vR d, vI ((Int32.ofNat i) + (1 : Int32)), vI (1 : Int32), .val vZ]) rfl k)))))))) ?_
  rw [show ((Int32.ofNat i) + (1 : Int32)) = (Int32.ofNat (i + 1)) from own_inc _]
  refine go (g' := (mkF m 27 #[vR u, vI ((0 : Int32) + (1 : Int32)), vR d, vI (Int32.ofNat (i + 1)), vI (1 : Int32), .val vZ] [vZ, (.ref u), (.int (Int32.ofNat i)), (.ref d)])) (fun _ k => XS.aloadN W1.here hx rfl (hb hby d26_22) rfl rfl (XS.iloadN W1.here hx rfl (hb hby d26_23) rfl (XS.iinc W1.here hx rfl (hb hby d26_24) rfl (l' := #[vR u, vI ((0 : Int32) + (1 : Int32)), vR d, vI (Int32.ofNat (i + 1)), vI (1 : Int32), .val vZ]) rfl k))) ?_
  rw [show ((0 : Int32) + (1 : Int32)) = (1 : Int32) from by decide]
  refine go (g' := (mkF m 28 #[vR u, vI (1 : Int32), vR d, vI (Int32.ofNat (i + 1)), vI (1 : Int32), .val vZ] [(.int (60 : Int32)), (.int (Int32.ofNat i)), (.ref d)])) (own_bal W1 hx Vu (j := (0 : Int32)) ⟨by decide, by decide⟩ rfl (g := (mkF m 27 #[vR u, vI (1 : Int32), vR d, vI (Int32.ofNat (i + 1)), vI (1 : Int32), .val vZ] [vZ, (.ref u), (.int (Int32.ofNat i)), (.ref d)])) rfl rfl (hb hby d26_27)) ?_
  refine go (g' := (mkF m 32 #[vR u, vI (1 : Int32), vR d, vI (Int32.ofNat (i + 1)), vI (1 : Int32), .val vZ] [(.int ((60 : Int32) &&& (255 : Int32))), (.int (Int32.ofNat i)), (.ref d)])) (fun _ k => XS.sipush W1.here hx rfl (hb hby d26_28) (XS.iand W1.here hx rfl (hb hby d26_31) rfl k)) ?_
  rw [show ((60 : Int32) &&& (255 : Int32)) = (60 : Int32) from by decide]
  obtain ⟨v2, so2, vm2, T2, h2, W2, C2, q2, hso2, st2⟩ := own_static W1 hx (w209 C) (w210 C) (w18 C) (w211 C) (by decide) (rm_putc C h0 d kd 32 i vs (by omega) (by omega) (by omega) (60 : Int32) Vd (by omega)) (allS S1_d all0) (Wd := 0) (nle rfl) (nle rfl) (nle rfl) (nle rfl) (g := (mkF m 32 #[vR u, vI (1 : Int32), vR d, vI (Int32.ofNat (i + 1)), vI (1 : Int32), .val vZ] [(.int (60 : Int32)), (.int (Int32.ofNat i)), (.ref d)])) rfl (by rw [hml]; rfl) (argsL := [(.ref d), (.int (Int32.ofNat i)), (.int (60 : Int32))]) (rest := []) (lenOf pd_2 rfl) rfl rfl (nle rfl) (hb hby d26_32)
  obtain ⟨rfl, K2, V2⟩ := q2
  have z3 : h0.size ≤ h2.size := K2.1
  have S2_d : Safe Z own_EL vm2 h2 d := C2.safe (olt (by omega)) S1_d
  refine go (g' := (mkF m 35 #[vR u, vI (1 : Int32), vR d, vI (Int32.ofNat (i + 1)), vI (1 : Int32), .val vZ] [])) (st2) ?_
  refine go (g' := (mkF m 38 #[vR u, vI (1 : Int32), vR d, vI (Int32.ofNat (i + 1)), vI (1 : Int32), vI ((0 : Int32) + (1 : Int32))] [])) (fun _ k => XS.iinc W2.here hx rfl (hb hby d26_35) rfl (l' := #[vR u, vI (1 : Int32), vR d, vI (Int32.ofNat (i + 1)), vI (1 : Int32), vI ((0 : Int32) + (1 : Int32))]) rfl k) ?_
  rw [show ((0 : Int32) + (1 : Int32)) = (1 : Int32) from by decide]
  refine go (g' := (mkF m 41 #[vR u, vI (1 : Int32), vR d, vI (Int32.ofNat (i + 1)), vI (1 : Int32), vI (1 : Int32)] [])) (fun _ k => XS.goto W2.here hx rfl (pc0 := 38) (pc' := 10) rfl (hb hby d26_38) (by decide) (by decide) (XS.iload W2.here hx rfl (hb hby d26_10) rfl (XS.iload W2.here hx rfl (hb hby d26_12) rfl (XS.icmpYes W2.here hx rfl (pc0 := 14) (pc' := 41) rfl (hb hby d26_14) rfl (flt ((by decide) : ¬ ((1 : Int32) < (1 : Int32)))).2.1 (by decide) (by decide) k)))) ?_
  have KK4 : Keep h0 h2 [d] := ((Keep.refl h0 [d]).trans K2 (allS (Or.inl (own_mi (i := 0) rfl)) all0))
  exact fin (v := none) (so := []) W2 (nle rfl) (nle rfl) (⟨rfl, KK4, V2⟩) (fun _ q => nomatch q) (fun _ => rfl) (own_retV W2 hx hret (hb hby d26_41))
theorem rm_li60 (C : Cx Z a0) (h0 : Heap) (u d : Addr) (ku kd : ClassId) (vs : List Value) (i : Nat) (h1 : i + 1 ≤ 16) (hv : 2 * i + 2 ≤ vs.length) (Vu : Arv Z h0 u ku .byte (16 : Int32) [(.int (60 : Int32))] vZ) (Vd : Arv Z h0 d kd .byte (Int32.ofNat 32) vs vZ) (nd : Z.heap.size ≤ d) (nud : u ≠ d) :
    Ct l Z a0 own_EL (⟨"java/lang/StringLatin1", "inflate", "([BI[BII)V"⟩ : MethodName) jdk_43_method_50_code 5 (Option.none : Option Jvm.ClassFile.FieldType) [] (rmm 4 0 0 60) #[(.ref u), vZ, (.ref d), (.int (Int32.ofNat i)), (.int (1 : Int32))] h0 [d] (fun v h so => v = none ∧ Keep h0 h [d] ∧ Arv Z h d kd .byte (Int32.ofNat 32) ((vs.set (2 * i) (.int (60 : Int32).toInt8.toInt32)).set (2 * i + 1) (.int (StrChars.hi8 (60 : Int32)))) vZ) := by
  refine own_enter (plainFor_of_name pn_5) C.ew (F0 := fun m => mkF m 0 #[vR u, .val vZ, vR d, vI (Int32.ofNat i), vI (1 : Int32)] []) (fun m => by first | (simp [entryFrame, mkF, argsToLocals, Value.category]; done) | rfl) ?_
  intro p e s m below meth c s₁ G hx hby hml hret hnm W0 S0 go fin
  have z0 := W0.sz
  show G s₁ (mkF m 0 #[vR u, .val vZ, vR d, vI (Int32.ofNat i), vI (1 : Int32)] [])
  have ld : ltN d h0.size := Vd.lt
  have lu : ltN u h0.size := Vu.lt
  refine go (g' := (mkF m 6 #[vR u, .val vZ, vR d, vI (Int32.ofNat i), vI (1 : Int32)] [(.int (1 : Int32)), (.int (Int32.ofNat i)), (.ref d), vZ, (.ref u)])) (fun _ k => XS.aloadN W0.here hx rfl (hb hby d27_0) rfl rfl (XS.iloadN W0.here hx rfl (hb hby d27_1) rfl (XS.aloadN W0.here hx rfl (hb hby d27_2) rfl rfl (XS.iloadN W0.here hx rfl (hb hby d27_3) rfl (XS.iload W0.here hx rfl (hb hby d27_4) rfl k))))) ?_
  obtain ⟨v1, so1, vm1, T1, h1, W1, C1, q1, hso1, st1⟩ := own_static W0 hx (w228 C) (w229 C) (w18 C) (w230 C) (by decide) (rm_ui60 C h0 u d ku kd vs i (by omega) hv Vu Vd (by omega) nud) (allS (S0 _ (own_mi (i := 0) rfl)) all0) (Wd := 0) (nle rfl) (nle rfl) (nle rfl) (nle rfl) (g := (mkF m 6 #[vR u, .val vZ, vR d, vI (Int32.ofNat i), vI (1 : Int32)] [(.int (1 : Int32)), (.int (Int32.ofNat i)), (.ref d), vZ, (.ref u)])) rfl (by rw [hml]; rfl) (argsL := [(.ref u), vZ, (.ref d), (.int (Int32.ofNat i)), (.int (1 : Int32))]) (rest := []) (lenOf pd_18 rfl) rfl rfl (nle rfl) (hb hby d27_6)
  obtain ⟨rfl, K1, V1⟩ := q1
  have z2 : h0.size ≤ h1.size := K1.1
  have S1_d : Safe Z own_EL vm1 h1 d := C1.safe (olt (by omega)) (S0 _ (own_mi (i := 0) rfl))
  refine go (g' := (mkF m 9 #[vR u, .val vZ, vR d, vI (Int32.ofNat i), vI (1 : Int32)] [])) (st1) ?_
  have KK3 : Keep h0 h1 [d] := ((Keep.refl h0 [d]).trans K1 (allS (Or.inl (own_mi (i := 0) rfl)) all0))
  exact fin (v := none) (so := []) W1 (nle rfl) (nle rfl) (⟨rfl, KK3, V1⟩) (fun _ q => nomatch q) (fun _ => rfl) (own_retV W1 hx hret (hb hby d27_9))
theorem rm_ui60_47 (C : Cx Z a0) (h0 : Heap) (u d : Addr) (ku kd : ClassId) (vs : List Value) (i : Nat) (h1 : i + 2 ≤ 16) (hv : 2 * i + 4 ≤ vs.length) (Vu : Arv Z h0 u ku .byte (16 : Int32) [(.int (60 : Int32)), (.int (47 : Int32))] vZ) (Vd : Arv Z h0 d kd .byte (Int32.ofNat 32) vs vZ) (nd : Z.heap.size ≤ d) (nud : u ≠ d) :
    Ct l Z a0 own_EL (⟨"java/lang/StringUTF16", "inflate", "([BI[BII)V"⟩ : MethodName) jdk_52_method_86_code 6 (Option.none : Option Jvm.ClassFile.FieldType) [] (rmm 3 0 0 43) #[(.ref u), vZ, (.ref d), (.int (Int32.ofNat i)), (.int (2 : Int32))] h0 [d] (fun v h so => v = none ∧ Keep h0 h [d] ∧ Arv Z h d kd .byte (Int32.ofNat 32) ((((vs.set (2 * i) (.int (60 : Int32).toInt8.toInt32)).set (2 * i + 1) (.int (StrChars.hi8 (60 : Int32)))).set (2 * (i + 1)) (.int (47 : Int32).toInt8.toInt32)).set (2 * (i + 1) + 1) (.int (StrChars.hi8 (47 : Int32)))) vZ) := by
  refine own_enter (plainFor_of_name pn_0) C.ew (F0 := fun m => mkF m 0 #[vR u, .val vZ, vR d, vI (Int32.ofNat i), vI (2 : Int32), .unset] []) (fun m => by first | (simp [entryFrame, mkF, argsToLocals, Value.category]; done) | rfl) ?_
  intro p e s m below meth c s₁ G hx hby hml hret hnm W0 S0 go fin
  have z0 := W0.sz
  show G s₁ (mkF m 0 #[vR u, .val vZ, vR d, vI (Int32.ofNat i), vI (2 : Int32), .unset] [])
  have ld : ltN d h0.size := Vd.lt
  have lu : ltN u h0.size := Vu.lt
  refine go (g' := (mkF m 4 #[vR u, .val vZ, vR d, vI (Int32.ofNat i), vI (2 : Int32), .unset] [(.ref d), (.int (2 : Int32)), (.int (Int32.ofNat i))])) (fun _ k => XS.iloadN W0.here hx rfl (hb hby d26_0) rfl (XS.iload W0.here hx rfl (hb hby d26_1) rfl (XS.aloadN W0.here hx rfl (hb hby d26_3) rfl rfl k))) ?_
  obtain ⟨v1, so1, vm1, T1, h1, W1, C1, q1, hso1, st1⟩ := own_static W0 hx (w231 C) (w232 C) (w18 C) (w233 C) (by decide) (rm_ucb2 C h0 d kd vs i (by omega) Vd) (fun _ q => nomatch q) (Wd := 0) (nle rfl) (nle rfl) (nle rfl) (nle rfl) (g := (mkF m 4 #[vR u, .val vZ, vR d, vI (Int32.ofNat i), vI (2 : Int32), .unset] [(.ref d), (.int (2 : Int32)), (.int (Int32.ofNat i))])) rfl (by rw [hml]; rfl) (argsL := [(.int (Int32.ofNat i)), (.int (2 : Int32)), (.ref d)]) (rest := []) (lenOf pd_17 rfl) rfl rfl (nle rfl) (hb hby d26_4)
  obtain ⟨rfl, rfl⟩ := q1
  have S1_d : Safe Z own_EL vm1 h0 d := C1.safe (olt (by omega)) (S0 _ (own_mi (i := 0) rfl))
  refine go (g' := (mkF m 7 #[vR u, .val vZ, vR d, vI (Int32.ofNat i), vI (2 : Int32), .unset] [])) (st1) ?_
  refine go (g' := (mkF m 22 #[vR u, .val vZ, vR d, vI ((Int32.ofNat i) + (1 : Int32)), vI (2 : Int32), .val vZ] [(.int (Int32.ofNat i)), (.ref d)])) (fun _ k => XS.iconst W1.here hx rfl (hb hby d26_7) (XS.istore W1.here hx rfl (hb hby d26_8) rfl (l' := #[vR u, .val vZ, vR d, vI (Int32.ofNat i), vI (2 : Int32), .val vZ]) rfl (XS.iload W1.here hx rfl (hb hby d26_10) rfl (XS.iload W1.here hx rfl (hb hby d26_12) rfl (XS.icmpNo W1.here hx rfl (hb hby d26_14) rfl (tlt ((by decide) : (0 : Int32) < (2 : Int32))).2.1 (XS.aloadN W1.here hx rfl (hb hby d26_17) rfl rfl (XS.iloadN W1.here hx rfl (hb hby d26_18) rfl (XS.iinc W1.here hx rfl (hb hby d26_19) rfl (l' := #[vR u, .val vZ, vR d, vI ((Int32.ofNat i) + (1 : Int32)), vI (2 : Int32), .val vZ]) rfl k)))))))) ?_
  rw [show ((Int32.ofNat i) + (1 : Int32)) = (Int32.ofNat (i + 1)) from own_inc _]
  refine go (g' := (mkF m 27 #[vR u, vI ((0 : Int32) + (1 : Int32)), vR d, vI (Int32.ofNat (i + 1)), vI (2 : Int32), .val vZ] [vZ, (.ref u), (.int (Int32.ofNat i)), (.ref d)])) (fun _ k => XS.aloadN W1.here hx rfl (hb hby d26_22) rfl rfl (XS.iloadN W1.here hx rfl (hb hby d26_23) rfl (XS.iinc W1.here hx rfl (hb hby d26_24) rfl (l' := #[vR u, vI ((0 : Int32) + (1 : Int32)), vR d, vI (Int32.ofNat (i + 1)), vI (2 : Int32), .val vZ]) rfl k))) ?_
  rw [show ((0 : Int32) + (1 : Int32)) = (1 : Int32) from by decide]
  refine go (g' := (mkF m 28 #[vR u, vI (1 : Int32), vR d, vI (Int32.ofNat (i + 1)), vI (2 : Int32), .val vZ] [(.int (60 : Int32)), (.int (Int32.ofNat i)), (.ref d)])) (own_bal W1 hx Vu (j := (0 : Int32)) ⟨by decide, by decide⟩ rfl (g := (mkF m 27 #[vR u, vI (1 : Int32), vR d, vI (Int32.ofNat (i + 1)), vI (2 : Int32), .val vZ] [vZ, (.ref u), (.int (Int32.ofNat i)), (.ref d)])) rfl rfl (hb hby d26_27)) ?_
  refine go (g' := (mkF m 32 #[vR u, vI (1 : Int32), vR d, vI (Int32.ofNat (i + 1)), vI (2 : Int32), .val vZ] [(.int ((60 : Int32) &&& (255 : Int32))), (.int (Int32.ofNat i)), (.ref d)])) (fun _ k => XS.sipush W1.here hx rfl (hb hby d26_28) (XS.iand W1.here hx rfl (hb hby d26_31) rfl k)) ?_
  rw [show ((60 : Int32) &&& (255 : Int32)) = (60 : Int32) from by decide]
  obtain ⟨v2, so2, vm2, T2, h2, W2, C2, q2, hso2, st2⟩ := own_static W1 hx (w209 C) (w210 C) (w18 C) (w211 C) (by decide) (rm_putc C h0 d kd 32 i vs (by omega) (by omega) (by omega) (60 : Int32) Vd (by omega)) (allS S1_d all0) (Wd := 0) (nle rfl) (nle rfl) (nle rfl) (nle rfl) (g := (mkF m 32 #[vR u, vI (1 : Int32), vR d, vI (Int32.ofNat (i + 1)), vI (2 : Int32), .val vZ] [(.int (60 : Int32)), (.int (Int32.ofNat i)), (.ref d)])) rfl (by rw [hml]; rfl) (argsL := [(.ref d), (.int (Int32.ofNat i)), (.int (60 : Int32))]) (rest := []) (lenOf pd_2 rfl) rfl rfl (nle rfl) (hb hby d26_32)
  obtain ⟨rfl, K2, V2⟩ := q2
  have z3 : h0.size ≤ h2.size := K2.1
  have S2_d : Safe Z own_EL vm2 h2 d := C2.safe (olt (by omega)) S1_d
  refine go (g' := (mkF m 35 #[vR u, vI (1 : Int32), vR d, vI (Int32.ofNat (i + 1)), vI (2 : Int32), .val vZ] [])) (st2) ?_
  refine go (g' := (mkF m 38 #[vR u, vI (1 : Int32), vR d, vI (Int32.ofNat (i + 1)), vI (2 : Int32), vI ((0 : Int32) + (1 : Int32))] [])) (fun _ k => XS.iinc W2.here hx rfl (hb hby d26_35) rfl (l' := #[vR u, vI (1 : Int32), vR d, vI (Int32.ofNat (i + 1)), vI (2 : Int32), vI ((0 : Int32) + (1 : Int32))]) rfl k) ?_
  rw [show ((0 : Int32) + (1 : Int32)) = (1 : Int32) from by decide]
  refine go (g' := (mkF m 22 #[vR u, vI (1 : Int32), vR d, vI ((Int32.ofNat (i + 1)) + (1 : Int32)), vI (2 : Int32), vI (1 : Int32)] [(.int (Int32.ofNat (i + 1))), (.ref d)])) (fun _ k => XS.goto W2.here hx rfl (pc0 := 38) (pc' := 10) rfl (hb hby d26_38) (by decide) (by decide) (XS.iload W2.here hx rfl (hb hby d26_10) rfl (XS.iload W2.here hx rfl (hb hby d26_12) rfl (XS.icmpNo W2.here hx rfl (hb hby d26_14) rfl (tlt ((by decide) : (1 : Int32) < (2 : Int32))).2.1 (XS.aloadN W2.here hx rfl (hb hby d26_17) rfl rfl (XS.iloadN W2.here hx rfl (hb hby d26_18) rfl (XS.iinc W2.here hx rfl (hb hby d26_19) rfl (l' := #[vR u, vI (1 : Int32), vR d, vI ((Int32.ofNat (i + 1)) + (1 : Int32)), vI (2 : Int32), vI (1 : Int32)]) rfl k))))))) ?_
  rw [show ((Int32.ofNat (i + 1)) + (1 : Int32)) = (Int32.ofNat ((i + 1) + 1)) from own_inc _]
  refine go (g' := (mkF m 27 #[vR u, vI ((1 : Int32) + (1 : Int32)), vR d, vI (Int32.ofNat ((i + 1) + 1)), vI (2 : Int32), vI (1 : Int32)] [(.int (1 : Int32)), (.ref u), (.int (Int32.ofNat (i + 1))), (.ref d)])) (fun _ k => XS.aloadN W2.here hx rfl (hb hby d26_22) rfl rfl (XS.iloadN W2.here hx rfl (hb hby d26_23) rfl (XS.iinc W2.here hx rfl (hb hby d26_24) rfl (l' := #[vR u, vI ((1 : Int32) + (1 : Int32)), vR d, vI (Int32.ofNat ((i + 1) + 1)), vI (2 : Int32), vI (1 : Int32)]) rfl k))) ?_
  rw [show ((1 : Int32) + (1 : Int32)) = (2 : Int32) from by decide]
  have f4 := Vu.keep K2 (ninS nud nin0)
  refine go (g' := (mkF m 28 #[vR u, vI (2 : Int32), vR d, vI (Int32.ofNat ((i + 1) + 1)), vI (2 : Int32), vI (1 : Int32)] [(.int (47 : Int32)), (.int (Int32.ofNat (i + 1))), (.ref d)])) (own_bal W2 hx f4 (j := (1 : Int32)) ⟨by decide, by decide⟩ rfl (g := (mkF m 27 #[vR u, vI (2 : Int32), vR d, vI (Int32.ofNat ((i + 1) + 1)), vI (2 : Int32), vI (1 : Int32)] [(.int (1 : Int32)), (.ref u), (.int (Int32.ofNat (i + 1))), (.ref d)])) rfl rfl (hb hby d26_27)) ?_
  refine go (g' := (mkF m 32 #[vR u, vI (2 : Int32), vR d, vI (Int32.ofNat ((i + 1) + 1)), vI (2 : Int32), vI (1 : Int32)] [(.int ((47 : Int32) &&& (255 : Int32))), (.int (Int32.ofNat (i + 1))), (.ref d)])) (fun _ k => XS.sipush W2.here hx rfl (hb hby d26_28) (XS.iand W2.here hx rfl (hb hby d26_31) rfl k)) ?_
  rw [show ((47 : Int32) &&& (255 : Int32)) = (47 : Int32) from by decide]
  obtain ⟨v5, so5, vm5, T5, h5, W5, C5, q5, hso5, st5⟩ := own_static W2 hx (w209 C) (w210 C) (w18 C) (w211 C) (by decide) (rm_putc C h2 d kd 32 (i + 1) ((vs.set (2 * i) (.int (60 : Int32).toInt8.toInt32)).set (2 * i + 1) (.int (StrChars.hi8 (60 : Int32)))) (by simp only [List.length_set]; omega) (by omega) (by omega) (47 : Int32) V2 (by omega)) (allS S2_d all0) (Wd := 0) (nle rfl) (nle rfl) (nle rfl) (nle rfl) (g := (mkF m 32 #[vR u, vI (2 : Int32), vR d, vI (Int32.ofNat ((i + 1) + 1)), vI (2 : Int32), vI (1 : Int32)] [(.int (47 : Int32)), (.int (Int32.ofNat (i + 1))), (.ref d)])) rfl (by rw [hml]; rfl) (argsL := [(.ref d), (.int (Int32.ofNat (i + 1))), (.int (47 : Int32))]) (rest := []) (lenOf pd_2 rfl) rfl rfl (nle rfl) (hb hby d26_32)
  obtain ⟨rfl, K5, V5⟩ := q5
  have z6 : h2.size ≤ h5.size := K5.1
  have S5_d : Safe Z own_EL vm5 h5 d := C5.safe (olt (by omega)) S2_d
  refine go (g' := (mkF m 35 #[vR u, vI (2 : Int32), vR d, vI (Int32.ofNat ((i + 1) + 1)), vI (2 : Int32), vI (1 : Int32)] [])) (st5) ?_
  refine go (g' := (mkF m 38 #[vR u, vI (2 : Int32), vR d, vI (Int32.ofNat ((i + 1) + 1)), vI (2 : Int32), vI ((1 : Int32) + (1 : Int32))] [])) (fun _ k => XS.iinc W5.here hx rfl (hb hby d26_35) rfl (l' := #[vR u, vI (2 : Int32), vR d, vI (Int32.ofNat ((i + 1) + 1)), vI (2 : Int32), vI ((1 : Int32) + (1 : Int32))]) rfl k) ?_
  rw [show ((1 : Int32) + (1 : Int32)) = (2 : Int32) from by decide]
  refine go (g' := (mkF m 41 #[vR u, vI (2 : Int32), vR d, vI (Int32.ofNat ((i + 1) + 1)), vI (2 : Int32), vI (2 : Int32)] [])) (fun _ k => XS.goto W5.here hx rfl (pc0 := 38) (pc' := 10) rfl (hb hby d26_38) (by decide) (by decide) (XS.iload W5.here hx rfl (hb hby d26_10) rfl (XS.iload W5.here hx rfl (hb hby d26_12) rfl (XS.icmpYes W5.here hx rfl (pc0 := 14) (pc' := 41) rfl (hb hby d26_14) rfl (flt ((by decide) : ¬ ((2 : Int32) < (2 : Int32)))).2.1 (by decide) (by decide) k)))) ?_
  have KK7 : Keep h0 h5 [d] := (((Keep.refl h0 [d]).trans K2 (allS (Or.inl (own_mi (i := 0) rfl)) all0)).trans K5 (allS (Or.inl (own_mi (i := 0) rfl)) all0))
  exact fin (v := none) (so := []) W5 (nle rfl) (nle rfl) (⟨rfl, KK7, V5⟩) (fun _ q => nomatch q) (fun _ => rfl) (own_retV W5 hx hret (hb hby d26_41))
theorem rm_li60_47 (C : Cx Z a0) (h0 : Heap) (u d : Addr) (ku kd : ClassId) (vs : List Value) (i : Nat) (h1 : i + 2 ≤ 16) (hv : 2 * i + 4 ≤ vs.length) (Vu : Arv Z h0 u ku .byte (16 : Int32) [(.int (60 : Int32)), (.int (47 : Int32))] vZ) (Vd : Arv Z h0 d kd .byte (Int32.ofNat 32) vs vZ) (nd : Z.heap.size ≤ d) (nud : u ≠ d) :
    Ct l Z a0 own_EL (⟨"java/lang/StringLatin1", "inflate", "([BI[BII)V"⟩ : MethodName) jdk_43_method_50_code 5 (Option.none : Option Jvm.ClassFile.FieldType) [] (rmm 4 0 0 60) #[(.ref u), vZ, (.ref d), (.int (Int32.ofNat i)), (.int (2 : Int32))] h0 [d] (fun v h so => v = none ∧ Keep h0 h [d] ∧ Arv Z h d kd .byte (Int32.ofNat 32) ((((vs.set (2 * i) (.int (60 : Int32).toInt8.toInt32)).set (2 * i + 1) (.int (StrChars.hi8 (60 : Int32)))).set (2 * (i + 1)) (.int (47 : Int32).toInt8.toInt32)).set (2 * (i + 1) + 1) (.int (StrChars.hi8 (47 : Int32)))) vZ) := by
  refine own_enter (plainFor_of_name pn_5) C.ew (F0 := fun m => mkF m 0 #[vR u, .val vZ, vR d, vI (Int32.ofNat i), vI (2 : Int32)] []) (fun m => by first | (simp [entryFrame, mkF, argsToLocals, Value.category]; done) | rfl) ?_
  intro p e s m below meth c s₁ G hx hby hml hret hnm W0 S0 go fin
  have z0 := W0.sz
  show G s₁ (mkF m 0 #[vR u, .val vZ, vR d, vI (Int32.ofNat i), vI (2 : Int32)] [])
  have ld : ltN d h0.size := Vd.lt
  have lu : ltN u h0.size := Vu.lt
  refine go (g' := (mkF m 6 #[vR u, .val vZ, vR d, vI (Int32.ofNat i), vI (2 : Int32)] [(.int (2 : Int32)), (.int (Int32.ofNat i)), (.ref d), vZ, (.ref u)])) (fun _ k => XS.aloadN W0.here hx rfl (hb hby d27_0) rfl rfl (XS.iloadN W0.here hx rfl (hb hby d27_1) rfl (XS.aloadN W0.here hx rfl (hb hby d27_2) rfl rfl (XS.iloadN W0.here hx rfl (hb hby d27_3) rfl (XS.iload W0.here hx rfl (hb hby d27_4) rfl k))))) ?_
  obtain ⟨v1, so1, vm1, T1, h1, W1, C1, q1, hso1, st1⟩ := own_static W0 hx (w228 C) (w229 C) (w18 C) (w230 C) (by decide) (rm_ui60_47 C h0 u d ku kd vs i (by omega) hv Vu Vd (by omega) nud) (allS (S0 _ (own_mi (i := 0) rfl)) all0) (Wd := 0) (nle rfl) (nle rfl) (nle rfl) (nle rfl) (g := (mkF m 6 #[vR u, .val vZ, vR d, vI (Int32.ofNat i), vI (2 : Int32)] [(.int (2 : Int32)), (.int (Int32.ofNat i)), (.ref d), vZ, (.ref u)])) rfl (by rw [hml]; rfl) (argsL := [(.ref u), vZ, (.ref d), (.int (Int32.ofNat i)), (.int (2 : Int32))]) (rest := []) (lenOf pd_18 rfl) rfl rfl (nle rfl) (hb hby d27_6)
  obtain ⟨rfl, K1, V1⟩ := q1
  have z2 : h0.size ≤ h1.size := K1.1
  have S1_d : Safe Z own_EL vm1 h1 d := C1.safe (olt (by omega)) (S0 _ (own_mi (i := 0) rfl))
  refine go (g' := (mkF m 9 #[vR u, .val vZ, vR d, vI (Int32.ofNat i), vI (2 : Int32)] [])) (st1) ?_
  have KK3 : Keep h0 h1 [d] := ((Keep.refl h0 [d]).trans K1 (allS (Or.inl (own_mi (i := 0) rfl)) all0))
  exact fin (v := none) (so := []) W1 (nle rfl) (nle rfl) (⟨rfl, KK3, V1⟩) (fun _ q => nomatch q) (fun _ => rfl) (own_retV W1 hx hret (hb hby d27_9))
theorem rm_ui62 (C : Cx Z a0) (h0 : Heap) (u d : Addr) (ku kd : ClassId) (vs : List Value) (i : Nat) (h1 : i + 1 ≤ 16) (hv : 2 * i + 2 ≤ vs.length) (Vu : Arv Z h0 u ku .byte (1 : Int32) [(.int (62 : Int32))] vZ) (Vd : Arv Z h0 d kd .byte (Int32.ofNat 32) vs vZ) (nd : Z.heap.size ≤ d) (nud : u ≠ d) :
    Ct l Z a0 own_EL (⟨"java/lang/StringUTF16", "inflate", "([BI[BII)V"⟩ : MethodName) jdk_52_method_86_code 6 (Option.none : Option Jvm.ClassFile.FieldType) [] (rmm 3 0 0 43) #[(.ref u), vZ, (.ref d), (.int (Int32.ofNat i)), (.int (1 : Int32))] h0 [d] (fun v h so => v = none ∧ Keep h0 h [d] ∧ Arv Z h d kd .byte (Int32.ofNat 32) ((vs.set (2 * i) (.int (62 : Int32).toInt8.toInt32)).set (2 * i + 1) (.int (StrChars.hi8 (62 : Int32)))) vZ) := by
  refine own_enter (plainFor_of_name pn_0) C.ew (F0 := fun m => mkF m 0 #[vR u, .val vZ, vR d, vI (Int32.ofNat i), vI (1 : Int32), .unset] []) (fun m => by first | (simp [entryFrame, mkF, argsToLocals, Value.category]; done) | rfl) ?_
  intro p e s m below meth c s₁ G hx hby hml hret hnm W0 S0 go fin
  have z0 := W0.sz
  show G s₁ (mkF m 0 #[vR u, .val vZ, vR d, vI (Int32.ofNat i), vI (1 : Int32), .unset] [])
  have ld : ltN d h0.size := Vd.lt
  have lu : ltN u h0.size := Vu.lt
  refine go (g' := (mkF m 4 #[vR u, .val vZ, vR d, vI (Int32.ofNat i), vI (1 : Int32), .unset] [(.ref d), (.int (1 : Int32)), (.int (Int32.ofNat i))])) (fun _ k => XS.iloadN W0.here hx rfl (hb hby d26_0) rfl (XS.iload W0.here hx rfl (hb hby d26_1) rfl (XS.aloadN W0.here hx rfl (hb hby d26_3) rfl rfl k))) ?_
  obtain ⟨v1, so1, vm1, T1, h1, W1, C1, q1, hso1, st1⟩ := own_static W0 hx (w231 C) (w232 C) (w18 C) (w233 C) (by decide) (rm_ucb1 C h0 d kd vs i (by omega) Vd) (fun _ q => nomatch q) (Wd := 0) (nle rfl) (nle rfl) (nle rfl) (nle rfl) (g := (mkF m 4 #[vR u, .val vZ, vR d, vI (Int32.ofNat i), vI (1 : Int32), .unset] [(.ref d), (.int (1 : Int32)), (.int (Int32.ofNat i))])) rfl (by rw [hml]; rfl) (argsL := [(.int (Int32.ofNat i)), (.int (1 : Int32)), (.ref d)]) (rest := []) (lenOf pd_17 rfl) rfl rfl (nle rfl) (hb hby d26_4)
  obtain ⟨rfl, rfl⟩ := q1
  have S1_d : Safe Z own_EL vm1 h0 d := C1.safe (olt (by omega)) (S0 _ (own_mi (i := 0) rfl))
  refine go (g' := (mkF m 7 #[vR u, .val vZ, vR d, vI (Int32.ofNat i), vI (1 : Int32), .unset] [])) (st1) ?_
  refine go (g' := (mkF m 22 #[vR u, .val vZ, vR d, vI ((Int32.ofNat i) + (1 : Int32)), vI (1 : Int32), .val vZ] [(.int (Int32.ofNat i)), (.ref d)])) (fun _ k => XS.iconst W1.here hx rfl (hb hby d26_7) (XS.istore W1.here hx rfl (hb hby d26_8) rfl (l' := #[vR u, .val vZ, vR d, vI (Int32.ofNat i), vI (1 : Int32), .val vZ]) rfl (XS.iload W1.here hx rfl (hb hby d26_10) rfl (XS.iload W1.here hx rfl (hb hby d26_12) rfl (XS.icmpNo W1.here hx rfl (hb hby d26_14) rfl (tlt ((by decide) : (0 : Int32) < (1 : Int32))).2.1 (XS.aloadN W1.here hx rfl (hb hby d26_17) rfl rfl (XS.iloadN W1.here hx rfl (hb hby d26_18) rfl (XS.iinc W1.here hx rfl (hb hby d26_19) rfl (l' := #[vR u, .val vZ, vR d, vI ((Int32.ofNat i) + (1 : Int32)), vI (1 : Int32), .val vZ]) rfl k)))))))) ?_
  rw [show ((Int32.ofNat i) + (1 : Int32)) = (Int32.ofNat (i + 1)) from own_inc _]
  refine go (g' := (mkF m 27 #[vR u, vI ((0 : Int32) + (1 : Int32)), vR d, vI (Int32.ofNat (i + 1)), vI (1 : Int32), .val vZ] [vZ, (.ref u), (.int (Int32.ofNat i)), (.ref d)])) (fun _ k => XS.aloadN W1.here hx rfl (hb hby d26_22) rfl rfl (XS.iloadN W1.here hx rfl (hb hby d26_23) rfl (XS.iinc W1.here hx rfl (hb hby d26_24) rfl (l' := #[vR u, vI ((0 : Int32) + (1 : Int32)), vR d, vI (Int32.ofNat (i + 1)), vI (1 : Int32), .val vZ]) rfl k))) ?_
  rw [show ((0 : Int32) + (1 : Int32)) = (1 : Int32) from by decide]
  refine go (g' := (mkF m 28 #[vR u, vI (1 : Int32), vR d, vI (Int32.ofNat (i + 1)), vI (1 : Int32), .val vZ] [(.int (62 : Int32)), (.int (Int32.ofNat i)), (.ref d)])) (own_bal W1 hx Vu (j := (0 : Int32)) ⟨by decide, by decide⟩ rfl (g := (mkF m 27 #[vR u, vI (1 : Int32), vR d, vI (Int32.ofNat (i + 1)), vI (1 : Int32), .val vZ] [vZ, (.ref u), (.int (Int32.ofNat i)), (.ref d)])) rfl rfl (hb hby d26_27)) ?_
  refine go (g' := (mkF m 32 #[vR u, vI (1 : Int32), vR d, vI (Int32.ofNat (i + 1)), vI (1 : Int32), .val vZ] [(.int ((62 : Int32) &&& (255 : Int32))), (.int (Int32.ofNat i)), (.ref d)])) (fun _ k => XS.sipush W1.here hx rfl (hb hby d26_28) (XS.iand W1.here hx rfl (hb hby d26_31) rfl k)) ?_
  rw [show ((62 : Int32) &&& (255 : Int32)) = (62 : Int32) from by decide]
  obtain ⟨v2, so2, vm2, T2, h2, W2, C2, q2, hso2, st2⟩ := own_static W1 hx (w209 C) (w210 C) (w18 C) (w211 C) (by decide) (rm_putc C h0 d kd 32 i vs (by omega) (by omega) (by omega) (62 : Int32) Vd (by omega)) (allS S1_d all0) (Wd := 0) (nle rfl) (nle rfl) (nle rfl) (nle rfl) (g := (mkF m 32 #[vR u, vI (1 : Int32), vR d, vI (Int32.ofNat (i + 1)), vI (1 : Int32), .val vZ] [(.int (62 : Int32)), (.int (Int32.ofNat i)), (.ref d)])) rfl (by rw [hml]; rfl) (argsL := [(.ref d), (.int (Int32.ofNat i)), (.int (62 : Int32))]) (rest := []) (lenOf pd_2 rfl) rfl rfl (nle rfl) (hb hby d26_32)
  obtain ⟨rfl, K2, V2⟩ := q2
  have z3 : h0.size ≤ h2.size := K2.1
  have S2_d : Safe Z own_EL vm2 h2 d := C2.safe (olt (by omega)) S1_d
  refine go (g' := (mkF m 35 #[vR u, vI (1 : Int32), vR d, vI (Int32.ofNat (i + 1)), vI (1 : Int32), .val vZ] [])) (st2) ?_
  refine go (g' := (mkF m 38 #[vR u, vI (1 : Int32), vR d, vI (Int32.ofNat (i + 1)), vI (1 : Int32), vI ((0 : Int32) + (1 : Int32))] [])) (fun _ k => XS.iinc W2.here hx rfl (hb hby d26_35) rfl (l' := #[vR u, vI (1 : Int32), vR d, vI (Int32.ofNat (i + 1)), vI (1 : Int32), vI ((0 : Int32) + (1 : Int32))]) rfl k) ?_
  rw [show ((0 : Int32) + (1 : Int32)) = (1 : Int32) from by decide]
  refine go (g' := (mkF m 41 #[vR u, vI (1 : Int32), vR d, vI (Int32.ofNat (i + 1)), vI (1 : Int32), vI (1 : Int32)] [])) (fun _ k => XS.goto W2.here hx rfl (pc0 := 38) (pc' := 10) rfl (hb hby d26_38) (by decide) (by decide) (XS.iload W2.here hx rfl (hb hby d26_10) rfl (XS.iload W2.here hx rfl (hb hby d26_12) rfl (XS.icmpYes W2.here hx rfl (pc0 := 14) (pc' := 41) rfl (hb hby d26_14) rfl (flt ((by decide) : ¬ ((1 : Int32) < (1 : Int32)))).2.1 (by decide) (by decide) k)))) ?_
  have KK4 : Keep h0 h2 [d] := ((Keep.refl h0 [d]).trans K2 (allS (Or.inl (own_mi (i := 0) rfl)) all0))
  exact fin (v := none) (so := []) W2 (nle rfl) (nle rfl) (⟨rfl, KK4, V2⟩) (fun _ q => nomatch q) (fun _ => rfl) (own_retV W2 hx hret (hb hby d26_41))
theorem rm_li62 (C : Cx Z a0) (h0 : Heap) (u d : Addr) (ku kd : ClassId) (vs : List Value) (i : Nat) (h1 : i + 1 ≤ 16) (hv : 2 * i + 2 ≤ vs.length) (Vu : Arv Z h0 u ku .byte (1 : Int32) [(.int (62 : Int32))] vZ) (Vd : Arv Z h0 d kd .byte (Int32.ofNat 32) vs vZ) (nd : Z.heap.size ≤ d) (nud : u ≠ d) :
    Ct l Z a0 own_EL (⟨"java/lang/StringLatin1", "inflate", "([BI[BII)V"⟩ : MethodName) jdk_43_method_50_code 5 (Option.none : Option Jvm.ClassFile.FieldType) [] (rmm 4 0 0 60) #[(.ref u), vZ, (.ref d), (.int (Int32.ofNat i)), (.int (1 : Int32))] h0 [d] (fun v h so => v = none ∧ Keep h0 h [d] ∧ Arv Z h d kd .byte (Int32.ofNat 32) ((vs.set (2 * i) (.int (62 : Int32).toInt8.toInt32)).set (2 * i + 1) (.int (StrChars.hi8 (62 : Int32)))) vZ) := by
  refine own_enter (plainFor_of_name pn_5) C.ew (F0 := fun m => mkF m 0 #[vR u, .val vZ, vR d, vI (Int32.ofNat i), vI (1 : Int32)] []) (fun m => by first | (simp [entryFrame, mkF, argsToLocals, Value.category]; done) | rfl) ?_
  intro p e s m below meth c s₁ G hx hby hml hret hnm W0 S0 go fin
  have z0 := W0.sz
  show G s₁ (mkF m 0 #[vR u, .val vZ, vR d, vI (Int32.ofNat i), vI (1 : Int32)] [])
  have ld : ltN d h0.size := Vd.lt
  have lu : ltN u h0.size := Vu.lt
  refine go (g' := (mkF m 6 #[vR u, .val vZ, vR d, vI (Int32.ofNat i), vI (1 : Int32)] [(.int (1 : Int32)), (.int (Int32.ofNat i)), (.ref d), vZ, (.ref u)])) (fun _ k => XS.aloadN W0.here hx rfl (hb hby d27_0) rfl rfl (XS.iloadN W0.here hx rfl (hb hby d27_1) rfl (XS.aloadN W0.here hx rfl (hb hby d27_2) rfl rfl (XS.iloadN W0.here hx rfl (hb hby d27_3) rfl (XS.iload W0.here hx rfl (hb hby d27_4) rfl k))))) ?_
  obtain ⟨v1, so1, vm1, T1, h1, W1, C1, q1, hso1, st1⟩ := own_static W0 hx (w228 C) (w229 C) (w18 C) (w230 C) (by decide) (rm_ui62 C h0 u d ku kd vs i (by omega) hv Vu Vd (by omega) nud) (allS (S0 _ (own_mi (i := 0) rfl)) all0) (Wd := 0) (nle rfl) (nle rfl) (nle rfl) (nle rfl) (g := (mkF m 6 #[vR u, .val vZ, vR d, vI (Int32.ofNat i), vI (1 : Int32)] [(.int (1 : Int32)), (.int (Int32.ofNat i)), (.ref d), vZ, (.ref u)])) rfl (by rw [hml]; rfl) (argsL := [(.ref u), vZ, (.ref d), (.int (Int32.ofNat i)), (.int (1 : Int32))]) (rest := []) (lenOf pd_18 rfl) rfl rfl (nle rfl) (hb hby d27_6)
  obtain ⟨rfl, K1, V1⟩ := q1
  have z2 : h0.size ≤ h1.size := K1.1
  have S1_d : Safe Z own_EL vm1 h1 d := C1.safe (olt (by omega)) (S0 _ (own_mi (i := 0) rfl))
  refine go (g' := (mkF m 9 #[vR u, .val vZ, vR d, vI (Int32.ofNat i), vI (1 : Int32)] [])) (st1) ?_
  have KK3 : Keep h0 h1 [d] := ((Keep.refl h0 [d]).trans K1 (allS (Or.inl (own_mi (i := 0) rfl)) all0))
  exact fin (v := none) (so := []) W1 (nle rfl) (nle rfl) (⟨rfl, KK3, V1⟩) (fun _ q => nomatch q) (fun _ => rfl) (own_retV W1 hx hret (hb hby d27_9))
theorem rm_bl10 (C : Cx Z a0) (h0 : Heap) (b : Addr) (Fc : Fld Z h0 b "java/lang/AbstractStringBuilder" "coder" "B" vZ) :
    Ct l Z a0 own_EL (⟨"java/lang/AbstractStringBuilder", "isLatin1", "()Z"⟩ : MethodName) jdk_68_method_68_code 1 (Option.some Jvm.ClassFile.FieldType.boolean) [] (rmm 0 0 0 0) #[(.ref b)] h0 [] (fun v h so => v = some (.int (1 : Int32)) ∧ h0 = h) := by
  refine own_enter (plainFor_of_name pn_2) C.ew (F0 := fun m => mkF m 0 #[vR b] []) (fun m => by first | (simp [entryFrame, mkF, argsToLocals, Value.category]; done) | rfl) ?_
  intro p e s m below meth c s₁ G hx hby hml hret hnm W0 S0 go fin
  have z0 := W0.sz
  show G s₁ (mkF m 0 #[vR b] [])
  obtain ⟨gCS, OCS, nCS⟩ := C.cs
  obtain ⟨T1, W1, st1⟩ := own_getS W0 hx (host := "") (Or.inl (w67 C)) Via.refl OCS (g := (mkF m 0 #[vR b] [])) rfl (hb hby d28_0)
  refine go (g' := (mkF m 3 #[vR b] [(.int gCS)])) (st1) ?_
  refine go (g' := (mkF m 7 #[vR b] [(.ref b)])) (fun _ k => XS.ifNo W1.here hx rfl (hb hby d28_3) rfl ((if0 _ _).trans (feq nCS).1) (XS.aloadN W1.here hx rfl (hb hby d28_6) rfl rfl k)) ?_
  obtain ⟨T2, W2, st2⟩ := own_get W1 hx (host := "") (Or.inl (w70 C)) Via.refl Fc (g := (mkF m 7 #[vR b] [(.ref b)])) rfl rfl (hb hby d28_7)
  refine go (g' := (mkF m 10 #[vR b] [vZ])) (st2) ?_
  refine go (g' := (mkF m 18 #[vR b] [(.int (1 : Int32))])) (fun _ k => XS.ifNo W2.here hx rfl (hb hby d28_10) rfl ((if0 _ _).trans (teq ((by decide) : (0 : Int32) = (0 : Int32))).2) (XS.iconst W2.here hx rfl (hb hby d28_13) (XS.goto W2.here hx rfl (pc0 := 14) (pc' := 18) rfl (hb hby d28_14) (by decide) (by decide) k))) ?_
  exact fin (v := some (.int (1 : Int32))) (so := []) W2 (nle rfl) (nle rfl) (⟨rfl, rfl⟩) (fun _ q => nomatch q) (fun q => nomatch q) (own_retI W2 hx hret (by decide) rfl (hb hby d28_18))
theorem rm_bl11 (C : Cx Z a0) (h0 : Heap) (b : Addr) (Fc : Fld Z h0 b "java/lang/AbstractStringBuilder" "coder" "B" (.int (1 : Int32))) :
    Ct l Z a0 own_EL (⟨"java/lang/AbstractStringBuilder", "isLatin1", "()Z"⟩ : MethodName) jdk_68_method_68_code 1 (Option.some Jvm.ClassFile.FieldType.boolean) [] (rmm 0 0 0 0) #[(.ref b)] h0 [] (fun v h so => v = some vZ ∧ h0 = h) := by
  refine own_enter (plainFor_of_name pn_2) C.ew (F0 := fun m => mkF m 0 #[vR b] []) (fun m => by first | (simp [entryFrame, mkF, argsToLocals, Value.category]; done) | rfl) ?_
  intro p e s m below meth c s₁ G hx hby hml hret hnm W0 S0 go fin
  have z0 := W0.sz
  show G s₁ (mkF m 0 #[vR b] [])
  obtain ⟨gCS, OCS, nCS⟩ := C.cs
  obtain ⟨T1, W1, st1⟩ := own_getS W0 hx (host := "") (Or.inl (w67 C)) Via.refl OCS (g := (mkF m 0 #[vR b] [])) rfl (hb hby d28_0)
  refine go (g' := (mkF m 3 #[vR b] [(.int gCS)])) (st1) ?_
  refine go (g' := (mkF m 7 #[vR b] [(.ref b)])) (fun _ k => XS.ifNo W1.here hx rfl (hb hby d28_3) rfl ((if0 _ _).trans (feq nCS).1) (XS.aloadN W1.here hx rfl (hb hby d28_6) rfl rfl k)) ?_
  obtain ⟨T2, W2, st2⟩ := own_get W1 hx (host := "") (Or.inl (w70 C)) Via.refl Fc (g := (mkF m 7 #[vR b] [(.ref b)])) rfl rfl (hb hby d28_7)
  refine go (g' := (mkF m 10 #[vR b] [(.int (1 : Int32))])) (st2) ?_
  refine go (g' := (mkF m 18 #[vR b] [vZ])) (fun _ k => XS.ifYes W2.here hx rfl (pc0 := 10) (pc' := 17) rfl (hb hby d28_10) rfl ((if0 _ _).trans (feq ((by decide) : ¬ ((1 : Int32) = (0 : Int32)))).2) (by decide) (by decide) (XS.iconst W2.here hx rfl (hb hby d28_17) k)) ?_
  exact fin (v := some vZ) (so := []) W2 (nle rfl) (nle rfl) (⟨rfl, rfl⟩) (fun _ q => nomatch q) (fun q => nomatch q) (own_retI W2 hx hret (by decide) rfl (hb hby d28_18))
theorem rm_infw (C : Cx Z a0) (h0 : Heap) (b : Addr) (Eb : Exa Z h0 b "java/lang/StringBuilder") (Fc : Fld Z h0 b "java/lang/AbstractStringBuilder" "coder" "B" (.int (1 : Int32))) :
    Ct l Z a0 own_EL (⟨"java/lang/AbstractStringBuilder", "inflate", "()V"⟩ : MethodName) jdk_68_method_11_code 2 (Option.none : Option Jvm.ClassFile.FieldType) [] (rmm 1 0 0 12) #[(.ref b)] h0 [] (fun v h so => v = none ∧ h0 = h) := by
  refine own_enter (plainFor_of_name pn_2) C.ew (F0 := fun m => mkF m 0 #[vR b, .unset] []) (fun m => by first | (simp [entryFrame, mkF, argsToLocals, Value.category]; done) | rfl) ?_
  intro p e s m below meth c s₁ G hx hby hml hret hnm W0 S0 go fin
  have z0 := W0.sz
  show G s₁ (mkF m 0 #[vR b, .unset] [])
  refine go (g' := (mkF m 1 #[vR b, .unset] [(.ref b)])) (fun _ k => XS.aloadN W0.here hx rfl (hb hby d29_0) rfl rfl k) ?_
  obtain ⟨v1, so1, vm1, T1, h1, W1, C1, q1, hso1, st1⟩ := own_virtual W0 hx (w223 C) (w149 C) (w151 C) (w150 C) (w64 C) (w152 C) (by decide) (own_nf W0 (w151 C)) Eb (rm_bl11 C h0 b Fc) (fun _ q => nomatch q) (Wd := 0) (nle rfl) (nle rfl) (nle rfl) (nle rfl) (g := (mkF m 1 #[vR b, .unset] [(.ref b)])) rfl (by rw [hml]; rfl) (argsL := []) (rest := []) (lenOf pd_16 rfl) rfl rfl (nle rfl) (hb hby d29_1)
  obtain ⟨rfl, rfl⟩ := q1
  refine go (g' := (mkF m 4 #[vR b, .unset] [vZ])) (st1) ?_
  refine go (g' := (mkF m 7 #[vR b, .unset] [])) (fun _ k => XS.ifNo W1.here hx rfl (hb hby d29_4) rfl ((if0 _ _).trans (teq ((by decide) : (0 : Int32) = (0 : Int32))).2) k) ?_
  exact fin (v := none) (so := []) W1 (nle rfl) (nle rfl) (⟨rfl, rfl⟩) (fun _ q => nomatch q) (fun _ => rfl) (own_retV W1 hx hret (hb hby d29_7))
theorem rm_nbl16 (C : Cx Z a0) (h0 : Heap) :
    Ct l Z a0 own_EL (⟨"java/lang/StringUTF16", "newBytesLength", "(I)I"⟩ : MethodName) jdk_52_method_3_code 1 (Option.some Jvm.ClassFile.FieldType.int) [] (rmm 0 0 0 0) #[(.int (16 : Int32))] h0 [] (fun v h so => v = some (.int (32 : Int32)) ∧ h0 = h) := by
  refine own_enter (plainFor_of_name pn_0) C.ew (F0 := fun m => mkF m 0 #[vI (16 : Int32)] []) (fun m => by first | (simp [entryFrame, mkF, argsToLocals, Value.category]; done) | rfl) ?_
  intro p e s m below meth c s₁ G hx hby hml hret hnm W0 S0 go fin
  have z0 := W0.sz
  show G s₁ (mkF m 0 #[vI (16 : Int32)] [])
  refine go (g' := (mkF m 13 #[vI (16 : Int32)] [(.int (16 : Int32))])) (fun _ k => XS.iloadN W0.here hx rfl (hb hby d2_0) rfl (XS.ifYes W0.here hx rfl (pc0 := 1) (pc' := 12) rfl (hb hby d2_1) rfl ((if0 _ _).trans (flt ((by decide) : ¬ ((16 : Int32) < (0 : Int32)))).2.1) (by decide) (by decide) (XS.iloadN W0.here hx rfl (hb hby d2_12) rfl k))) ?_
  refine go (g' := (mkF m 15 #[vI (16 : Int32)] [(.int (1073741823 : Int32)), (.int (16 : Int32))])) (own_ldcI W0 hx (w208 C) (g := (mkF m 13 #[vI (16 : Int32)] [(.int (16 : Int32))])) rfl (hb hby d2_13)) ?_
  refine go (g' := (mkF m 58 #[vI (16 : Int32)] [(.int ((16 : Int32) <<< ((1 : Int32) &&& 31)))])) (fun _ k => XS.icmpYes W0.here hx rfl (pc0 := 15) (pc' := 55) rfl (hb hby d2_15) rfl (tlt ((by decide) : (16 : Int32) < (1073741823 : Int32))).1 (by decide) (by decide) (XS.iloadN W0.here hx rfl (hb hby d2_55) rfl (XS.iconst W0.here hx rfl (hb hby d2_56) (XS.ishl W0.here hx rfl (hb hby d2_57) rfl k)))) ?_
  rw [show ((16 : Int32) <<< ((1 : Int32) &&& 31)) = (32 : Int32) from by decide]
  exact fin (v := some (.int (32 : Int32))) (so := []) W0 (nle rfl) (nle rfl) (⟨rfl, rfl⟩) (fun _ q => nomatch q) (fun q => nomatch q) (own_retI W0 hx hret (by decide) rfl (hb hby d2_58))
theorem rm_nbf16 (C : Cx Z a0) (h0 : Heap) :
    Ct l Z a0 own_EL (⟨"java/lang/StringUTF16", "newBytesFor", "(I)[B"⟩ : MethodName) jdk_52_method_2_code 1 (Option.some (Jvm.ClassFile.FieldType.array Jvm.ClassFile.FieldType.byte)) [] (rmm 1 1 32 12) #[(.int (16 : Int32))] h0 [] (fun v h so => ∃ (x : Addr) (kx : ClassId), so = [x] ∧ v = some (.ref x) ∧ Ext h0 h ∧ h0.size ≤ x ∧ Arv Z h x kx .byte (32 : Int32) [vZ, vZ, vZ, vZ, vZ, vZ, vZ, vZ, vZ, vZ, vZ, vZ, vZ, vZ, vZ, vZ, vZ, vZ, vZ, vZ, vZ, vZ, vZ, vZ, vZ, vZ, vZ, vZ, vZ, vZ, vZ, vZ] vZ) := by
  refine own_enter (plainFor_of_name pn_0) C.ew (F0 := fun m => mkF m 0 #[vI (16 : Int32)] []) (fun m => by first | (simp [entryFrame, mkF, argsToLocals, Value.category]; done) | rfl) ?_
  intro p e s m below meth c s₁ G hx hby hml hret hnm W0 S0 go fin
  have z0 := W0.sz
  show G s₁ (mkF m 0 #[vI (16 : Int32)] [])
  refine go (g' := (mkF m 1 #[vI (16 : Int32)] [(.int (16 : Int32))])) (fun _ k => XS.iloadN W0.here hx rfl (hb hby d3_0) rfl k) ?_
  obtain ⟨v1, so1, vm1, T1, h1, W1, C1, q1, hso1, st1⟩ := own_static W0 hx (w205 C) (w206 C) (w18 C) (w207 C) (by decide) (rm_nbl16 C h0) (fun _ q => nomatch q) (Wd := 0) (nle rfl) (nle rfl) (nle rfl) (nle rfl) (g := (mkF m 1 #[vI (16 : Int32)] [(.int (16 : Int32))])) rfl (by rw [hml]; rfl) (argsL := [(.int (16 : Int32))]) (rest := []) (lenOf pd_0 rfl) rfl rfl (nle rfl) (hb hby d3_1)
  obtain ⟨rfl, rfl⟩ := q1
  refine go (g' := (mkF m 4 #[vI (16 : Int32)] [(.int (32 : Int32))])) (st1) ?_
  obtain ⟨x2, T2, h2, k2, g2, W2, E2, A2, st2⟩ := own_newP W1 hx (aty := .byte) (w20 C) (g := (mkF m 4 #[vI (16 : Int32)] [(.int (32 : Int32))])) rfl (hb hby d3_4) rfl (by decide) (cap := 32) (by decide) (nle rfl) (nle rfl) (nle rfl)
  have z3 : h0.size ≤ h2.size := E2.1
  have l2 : ltN x2 h2.size := A2.lt
  have V2 : Arv Z h2 x2 k2 .byte (32 : Int32) [vZ, vZ, vZ, vZ, vZ, vZ, vZ, vZ, vZ, vZ, vZ, vZ, vZ, vZ, vZ, vZ, vZ, vZ, vZ, vZ, vZ, vZ, vZ, vZ, vZ, vZ, vZ, vZ, vZ, vZ, vZ, vZ] vZ := A2.pad (pad_rep [] vZ 32)
  refine go (g' := (mkF m 6 #[vI (16 : Int32)] [(.ref x2)])) (st2) ?_
  have X4 : Ext h0 h2 := own_xt (own_xr h0) E2
  exact fin (v := some (.ref x2)) (so := [x2]) W2 (nle rfl) (nle rfl) (⟨_, _, rfl, rfl, X4, by omega, V2⟩) (allS (own_safeB W1 X4 (by omega)) all0) (fun q => nomatch q) (own_retA W2 hx hret rfl rfl rfl (hb hby d3_6))
theorem rm_infl60 (C : Cx Z a0) (h0 : Heap) (b t : Addr) (kt : ClassId) (Bb : Bl Z h0 b t kt [(60 : Int32)]) (nb : Z.heap.size ≤ b) :
    Ct l Z a0 own_EL (⟨"java/lang/AbstractStringBuilder", "inflate", "()V"⟩ : MethodName) jdk_68_method_11_code 2 (Option.none : Option Jvm.ClassFile.FieldType) [] (rmm 5 1 32 76) #[(.ref b)] h0 [] (fun v h so => v = none ∧ Keep h0 h [b] ∧ ∃ (t' : Addr) (kt' : ClassId), so = [t'] ∧ h0.size ≤ t' ∧ Bw Z h b t' kt' [(60 : Int32)]) := by
  refine own_enter (plainFor_of_name pn_2) C.ew (F0 := fun m => mkF m 0 #[vR b, .unset] []) (fun m => by first | (simp [entryFrame, mkF, argsToLocals, Value.category]; done) | rfl) ?_
  intro p e s m below meth c s₁ G hx hby hml hret hnm W0 S0 go fin
  have z0 := W0.sz
  show G s₁ (mkF m 0 #[vR b, .unset] [])
  obtain ⟨Eb, Fv, Fc, Fn, Fm, Vt⟩ := id Bb
  have lt : ltN t h0.size := Vt.lt
  have lb : ltN b h0.size := Eb.lt
  have nbt : b ≠ t := Exa.neArv Eb Vt (w55 C)
  refine go (g' := (mkF m 1 #[vR b, .unset] [(.ref b)])) (fun _ k => XS.aloadN W0.here hx rfl (hb hby d29_0) rfl rfl k) ?_
  obtain ⟨v1, so1, vm1, T1, h1, W1, C1, q1, hso1, st1⟩ := own_virtual W0 hx (w223 C) (w149 C) (w151 C) (w150 C) (w64 C) (w152 C) (by decide) (own_nf W0 (w151 C)) Eb (rm_bl10 C h0 b Fc) (fun _ q => nomatch q) (Wd := 0) (nle rfl) (nle rfl) (nle rfl) (nle rfl) (g := (mkF m 1 #[vR b, .unset] [(.ref b)])) rfl (by rw [hml]; rfl) (argsL := []) (rest := []) (lenOf pd_16 rfl) rfl rfl (nle rfl) (hb hby d29_1)
  obtain ⟨rfl, rfl⟩ := q1
  refine go (g' := (mkF m 4 #[vR b, .unset] [(.int (1 : Int32))])) (st1) ?_
  refine go (g' := (mkF m 9 #[vR b, .unset] [(.ref b)])) (fun _ k => XS.ifYes W1.here hx rfl (pc0 := 4) (pc' := 8) rfl (hb hby d29_4) rfl ((if0 _ _).trans (feq ((by decide) : ¬ ((1 : Int32) = (0 : Int32)))).2) (by decide) (by decide) (XS.aloadN W1.here hx rfl (hb hby d29_8) rfl rfl k)) ?_
  obtain ⟨T2, W2, st2⟩ := own_get W1 hx (host := "") (Or.inl (w68 C)) Via.refl Fv (g := (mkF m 9 #[vR b, .unset] [(.ref b)])) rfl rfl (hb hby d29_9)
  refine go (g' := (mkF m 12 #[vR b, .unset] [(.ref t)])) (st2) ?_
  refine go (g' := (mkF m 13 #[vR b, .unset] [(.int (16 : Int32))])) (own_alen W2 hx Vt (g := (mkF m 12 #[vR b, .unset] [(.ref t)])) rfl rfl (hb hby d29_12)) ?_
  obtain ⟨v3, so3, vm3, T3, h3, W3, C3, q3, hso3, st3⟩ := own_static W2 hx (w224 C) (w203 C) (w18 C) (w204 C) (by decide) (rm_nbf16 C h0) (fun _ q => nomatch q) (Wd := 0) (nle rfl) (nle rfl) (nle rfl) (nle rfl) (g := (mkF m 13 #[vR b, .unset] [(.int (16 : Int32))])) rfl (by rw [hml]; rfl) (argsL := [(.int (16 : Int32))]) (rest := []) (lenOf pd_1 rfl) rfl rfl (nle rfl) (hb hby d29_13)
  obtain ⟨x3, k3, rfl, rfl, E3, g3, V3⟩ := q3
  have z4 : h0.size ≤ h3.size := E3.1
  have l3 : ltN x3 h3.size := V3.lt
  refine go (g' := (mkF m 16 #[vR b, .unset] [(.ref x3)])) (st3) ?_
  have Vg5 : Arv Z h3 x3 k3 .byte (Int32.ofNat 32) (List.replicate 2 vZ) vZ := Arv.pad (vs' := List.replicate 2 vZ) V3 (own_zz 2 32)
  refine go (g' := (mkF m 18 #[vR b, vR x3] [(.ref b)])) (fun _ k => XS.astoreN W3.here hx rfl (hb hby d29_16) rfl rfl (l' := #[vR b, vR x3]) rfl (XS.aloadN W3.here hx rfl (hb hby d29_17) rfl rfl k)) ?_
  have X6 : Ext h0 h3 := own_xt (own_xr h0) E3
  have f7 := Fv.ext X6
  obtain ⟨T8, W8, st8⟩ := own_get W3 hx (host := "") (Or.inl (w68 C)) Via.refl f7 (g := (mkF m 18 #[vR b, vR x3] [(.ref b)])) rfl rfl (hb hby d29_18)
  refine go (g' := (mkF m 21 #[vR b, vR x3] [(.ref t)])) (st8) ?_
  refine go (g' := (mkF m 25 #[vR b, vR x3] [(.ref b), vZ, (.ref x3), vZ, (.ref t)])) (fun _ k => XS.iconst W8.here hx rfl (hb hby d29_21) (XS.aloadN W8.here hx rfl (hb hby d29_22) rfl rfl (XS.iconst W8.here hx rfl (hb hby d29_23) (XS.aloadN W8.here hx rfl (hb hby d29_24) rfl rfl k)))) ?_
  have f9 := Fn.ext X6
  obtain ⟨T10, W10, st10⟩ := own_get W8 hx (host := "") (Or.inl (w95 C)) Via.refl f9 (g := (mkF m 25 #[vR b, vR x3] [(.ref b), vZ, (.ref x3), vZ, (.ref t)])) rfl rfl (hb hby d29_25)
  refine go (g' := (mkF m 28 #[vR b, vR x3] [(.int (Int32.ofNat [(60 : Int32)].length)), vZ, (.ref x3), vZ, (.ref t)])) (st10) ?_
  have f12 := Vt.ext X6
  obtain ⟨v11, so11, vm11, T11, h11, W11, C11, q11, hso11, st11⟩ := own_static W10 hx (w225 C) (w226 C) (w185 C) (w227 C) (by decide) (rm_li60 C h3 t x3 kt k3 (List.replicate 2 vZ) 0 (by omega) (nle rfl) f12 Vg5 (by omega) (one (by omega))) (allS (hso3 _ (own_mi (i := 0) rfl)) all0) (Wd := 0) (nle rfl) (nle rfl) (nle rfl) (nle rfl) (g := (mkF m 28 #[vR b, vR x3] [(.int (Int32.ofNat [(60 : Int32)].length)), vZ, (.ref x3), vZ, (.ref t)])) rfl (by rw [hml]; rfl) (argsL := [(.ref t), vZ, (.ref x3), vZ, (.int (Int32.ofNat [(60 : Int32)].length))]) (rest := []) (lenOf pd_18 rfl) rfl rfl (nle rfl) (hb hby d29_28)
  obtain ⟨rfl, K11, V11⟩ := q11
  have z13 : h3.size ≤ h11.size := K11.1
  have S11_x3 : Safe Z own_EL vm11 h11 x3 := C11.safe (olt (by omega)) (hso3 _ (own_mi (i := 0) rfl))
  refine go (g' := (mkF m 31 #[vR b, vR x3] [])) (st11) ?_
  have Vw14 : Arv Z h11 x3 k3 .byte (32 : Int32) (wb [(60 : Int32)]) vZ := V11
  refine go (g' := (mkF m 33 #[vR b, vR x3] [(.ref x3), (.ref b)])) (fun _ k => XS.aloadN W11.here hx rfl (hb hby d29_31) rfl rfl (XS.aloadN W11.here hx rfl (hb hby d29_32) rfl rfl k)) ?_
  have X15 : Ext h0 h11 := own_xk X6 K11 (allS (by omega) all0)
  have f16 := Fv.ext X15
  have f17 := Eb.ext X15
  obtain ⟨T18, h18, W18, R18, F18, st18⟩ := own_put W11 hx (host := "") (Or.inl (w68 C)) Via.refl f16 f17 (Or.inl (w69 C)) (w55 C) (ty := (.array .byte)) (by decide) rfl rfl (own_safeE W11 f17 (by decide) (by decide)) (by omega) (g := (mkF m 33 #[vR b, vR x3] [(.ref x3), (.ref b)])) rfl rfl (hb hby d29_33)
  have f19 := Fc.ext X15
  have f20 := Fn.ext X15
  have f21 := Fm.ext X15
  have z22 : h18.size = h11.size := R18.size
  have f23 := f17.wr R18
  have f24 := f19.other R18 (Or.inr (slot_ne (Or.inl (w71 C)) (Or.inl (w69 C)) (by decide) (t := .byte) (t' := (.array .byte)) (by decide) (by decide)))
  have f25 := f20.other R18 (Or.inr (slot_ne (Or.inl (w96 C)) (Or.inl (w69 C)) (by decide) (t := .int) (t' := (.array .byte)) (by decide) (by decide)))
  have f26 := f21.other R18 (Or.inr (slot_ne (Or.inl (w245 C)) (Or.inl (w69 C)) (by decide) (t := .boolean) (t' := (.array .byte)) (by decide) (by decide)))
  have S18_x3 : Safe Z own_EL vm11 h18 x3 := Safe.wr R18 (own_safeE W11 f17 (by decide) (by decide)) W11.ch S11_x3
  refine go (g' := (mkF m 36 #[vR b, vR x3] [])) (st18) ?_
  refine go (g' := (mkF m 38 #[vR b, vR x3] [(.int (1 : Int32)), (.ref b)])) (fun _ k => XS.aloadN W18.here hx rfl (hb hby d29_36) rfl rfl (XS.iconst W18.here hx rfl (hb hby d29_37) k)) ?_
  obtain ⟨T27, h27, W27, R27, F27, st27⟩ := own_put W18 hx (host := "") (Or.inl (w70 C)) Via.refl f24 f23 (Or.inl (w71 C)) (w55 C) (ty := .byte) (by decide) rfl (by decide) (own_safeE W18 f23 (by decide) (by decide)) (by omega) (g := (mkF m 38 #[vR b, vR x3] [(.int (1 : Int32)), (.ref b)])) rfl rfl (hb hby d29_38)
  have z28 : h27.size = h18.size := R27.size
  have f29 := f23.wr R27
  have f30 := F18.other R27 (Or.inr (slot_ne (Or.inl (w69 C)) (Or.inl (w71 C)) (by decide) (t := (.array .byte)) (t' := .byte) (by decide) (by decide)))
  have f31 := f25.other R27 (Or.inr (slot_ne (Or.inl (w96 C)) (Or.inl (w71 C)) (by decide) (t := .int) (t' := .byte) (by decide) (by decide)))
  have f32 := f26.other R27 (Or.inr (slot_ne (Or.inl (w245 C)) (Or.inl (w71 C)) (by decide) (t := .boolean) (t' := .byte) (by decide) (by decide)))
  have S27_x3 : Safe Z own_EL vm11 h27 x3 := Safe.wr R27 (own_safeE W18 f23 (by decide) (by decide)) W18.ch S18_x3
  refine go (g' := (mkF m 41 #[vR b, vR x3] [])) (st27) ?_
  have KK33 : Keep h0 h27 [b] := (((((Keep.refl h0 [b]).ext E3).trans K11 (allS (Or.inr (by omega)) all0)).wr R18 (Or.inl (own_mi (i := 0) rfl))).wr R27 (Or.inl (own_mi (i := 0) rfl)))
  have l35 : ltN x3 h11.size := Vw14.lt
  have f34 := Vw14.other R18 (one (by omega))
  have l37 : ltN x3 h11.size := Vw14.lt
  have f36 := f34.other R27 (one (by omega))
  exact fin (v := none) (so := [x3]) W27 (nle rfl) (nle rfl) (⟨rfl, KK33, _, _, rfl, by omega, f29, f30, F27, f31, f32, f36⟩) (allS S27_x3 all0) (fun _ => rfl) (own_retV W27 hx hret (hb hby d29_41))
theorem rm_infl6047 (C : Cx Z a0) (h0 : Heap) (b t : Addr) (kt : ClassId) (Bb : Bl Z h0 b t kt [(60 : Int32), (47 : Int32)]) (nb : Z.heap.size ≤ b) :
    Ct l Z a0 own_EL (⟨"java/lang/AbstractStringBuilder", "inflate", "()V"⟩ : MethodName) jdk_68_method_11_code 2 (Option.none : Option Jvm.ClassFile.FieldType) [] (rmm 5 1 32 76) #[(.ref b)] h0 [] (fun v h so => v = none ∧ Keep h0 h [b] ∧ ∃ (t' : Addr) (kt' : ClassId), so = [t'] ∧ h0.size ≤ t' ∧ Bw Z h b t' kt' [(60 : Int32), (47 : Int32)]) := by
  refine own_enter (plainFor_of_name pn_2) C.ew (F0 := fun m => mkF m 0 #[vR b, .unset] []) (fun m => by first | (simp [entryFrame, mkF, argsToLocals, Value.category]; done) | rfl) ?_
  intro p e s m below meth c s₁ G hx hby hml hret hnm W0 S0 go fin
  have z0 := W0.sz
  show G s₁ (mkF m 0 #[vR b, .unset] [])
  obtain ⟨Eb, Fv, Fc, Fn, Fm, Vt⟩ := id Bb
  have lt : ltN t h0.size := Vt.lt
  have lb : ltN b h0.size := Eb.lt
  have nbt : b ≠ t := Exa.neArv Eb Vt (w55 C)
  refine go (g' := (mkF m 1 #[vR b, .unset] [(.ref b)])) (fun _ k => XS.aloadN W0.here hx rfl (hb hby d29_0) rfl rfl k) ?_
  obtain ⟨v1, so1, vm1, T1, h1, W1, C1, q1, hso1, st1⟩ := own_virtual W0 hx (w223 C) (w149 C) (w151 C) (w150 C) (w64 C) (w152 C) (by decide) (own_nf W0 (w151 C)) Eb (rm_bl10 C h0 b Fc) (fun _ q => nomatch q) (Wd := 0) (nle rfl) (nle rfl) (nle rfl) (nle rfl) (g := (mkF m 1 #[vR b, .unset] [(.ref b)])) rfl (by rw [hml]; rfl) (argsL := []) (rest := []) (lenOf pd_16 rfl) rfl rfl (nle rfl) (hb hby d29_1)
  obtain ⟨rfl, rfl⟩ := q1
  refine go (g' := (mkF m 4 #[vR b, .unset] [(.int (1 : Int32))])) (st1) ?_
  refine go (g' := (mkF m 9 #[vR b, .unset] [(.ref b)])) (fun _ k => XS.ifYes W1.here hx rfl (pc0 := 4) (pc' := 8) rfl (hb hby d29_4) rfl ((if0 _ _).trans (feq ((by decide) : ¬ ((1 : Int32) = (0 : Int32)))).2) (by decide) (by decide) (XS.aloadN W1.here hx rfl (hb hby d29_8) rfl rfl k)) ?_
  obtain ⟨T2, W2, st2⟩ := own_get W1 hx (host := "") (Or.inl (w68 C)) Via.refl Fv (g := (mkF m 9 #[vR b, .unset] [(.ref b)])) rfl rfl (hb hby d29_9)
  refine go (g' := (mkF m 12 #[vR b, .unset] [(.ref t)])) (st2) ?_
  refine go (g' := (mkF m 13 #[vR b, .unset] [(.int (16 : Int32))])) (own_alen W2 hx Vt (g := (mkF m 12 #[vR b, .unset] [(.ref t)])) rfl rfl (hb hby d29_12)) ?_
  obtain ⟨v3, so3, vm3, T3, h3, W3, C3, q3, hso3, st3⟩ := own_static W2 hx (w224 C) (w203 C) (w18 C) (w204 C) (by decide) (rm_nbf16 C h0) (fun _ q => nomatch q) (Wd := 0) (nle rfl) (nle rfl) (nle rfl) (nle rfl) (g := (mkF m 13 #[vR b, .unset] [(.int (16 : Int32))])) rfl (by rw [hml]; rfl) (argsL := [(.int (16 : Int32))]) (rest := []) (lenOf pd_1 rfl) rfl rfl (nle rfl) (hb hby d29_13)
  obtain ⟨x3, k3, rfl, rfl, E3, g3, V3⟩ := q3
  have z4 : h0.size ≤ h3.size := E3.1
  have l3 : ltN x3 h3.size := V3.lt
  refine go (g' := (mkF m 16 #[vR b, .unset] [(.ref x3)])) (st3) ?_
  have Vg5 : Arv Z h3 x3 k3 .byte (Int32.ofNat 32) (List.replicate 4 vZ) vZ := Arv.pad (vs' := List.replicate 4 vZ) V3 (own_zz 4 32)
  refine go (g' := (mkF m 18 #[vR b, vR x3] [(.ref b)])) (fun _ k => XS.astoreN W3.here hx rfl (hb hby d29_16) rfl rfl (l' := #[vR b, vR x3]) rfl (XS.aloadN W3.here hx rfl (hb hby d29_17) rfl rfl k)) ?_
  have X6 : Ext h0 h3 := own_xt (own_xr h0) E3
  have f7 := Fv.ext X6
  obtain ⟨T8, W8, st8⟩ := own_get W3 hx (host := "") (Or.inl (w68 C)) Via.refl f7 (g := (mkF m 18 #[vR b, vR x3] [(.ref b)])) rfl rfl (hb hby d29_18)
  refine go (g' := (mkF m 21 #[vR b, vR x3] [(.ref t)])) (st8) ?_
  refine go (g' := (mkF m 25 #[vR b, vR x3] [(.ref b), vZ, (.ref x3), vZ, (.ref t)])) (fun _ k => XS.iconst W8.here hx rfl (hb hby d29_21) (XS.aloadN W8.here hx rfl (hb hby d29_22) rfl rfl (XS.iconst W8.here hx rfl (hb hby d29_23) (XS.aloadN W8.here hx rfl (hb hby d29_24) rfl rfl k)))) ?_
  have f9 := Fn.ext X6
  obtain ⟨T10, W10, st10⟩ := own_get W8 hx (host := "") (Or.inl (w95 C)) Via.refl f9 (g := (mkF m 25 #[vR b, vR x3] [(.ref b), vZ, (.ref x3), vZ, (.ref t)])) rfl rfl (hb hby d29_25)
  refine go (g' := (mkF m 28 #[vR b, vR x3] [(.int (Int32.ofNat [(60 : Int32), (47 : Int32)].length)), vZ, (.ref x3), vZ, (.ref t)])) (st10) ?_
  have f12 := Vt.ext X6
  obtain ⟨v11, so11, vm11, T11, h11, W11, C11, q11, hso11, st11⟩ := own_static W10 hx (w225 C) (w226 C) (w185 C) (w227 C) (by decide) (rm_li60_47 C h3 t x3 kt k3 (List.replicate 4 vZ) 0 (by omega) (nle rfl) f12 Vg5 (by omega) (one (by omega))) (allS (hso3 _ (own_mi (i := 0) rfl)) all0) (Wd := 0) (nle rfl) (nle rfl) (nle rfl) (nle rfl) (g := (mkF m 28 #[vR b, vR x3] [(.int (Int32.ofNat [(60 : Int32), (47 : Int32)].length)), vZ, (.ref x3), vZ, (.ref t)])) rfl (by rw [hml]; rfl) (argsL := [(.ref t), vZ, (.ref x3), vZ, (.int (Int32.ofNat [(60 : Int32), (47 : Int32)].length))]) (rest := []) (lenOf pd_18 rfl) rfl rfl (nle rfl) (hb hby d29_28)
  obtain ⟨rfl, K11, V11⟩ := q11
  have z13 : h3.size ≤ h11.size := K11.1
  have S11_x3 : Safe Z own_EL vm11 h11 x3 := C11.safe (olt (by omega)) (hso3 _ (own_mi (i := 0) rfl))
  refine go (g' := (mkF m 31 #[vR b, vR x3] [])) (st11) ?_
  have Vw14 : Arv Z h11 x3 k3 .byte (32 : Int32) (wb [(60 : Int32), (47 : Int32)]) vZ := V11
  refine go (g' := (mkF m 33 #[vR b, vR x3] [(.ref x3), (.ref b)])) (fun _ k => XS.aloadN W11.here hx rfl (hb hby d29_31) rfl rfl (XS.aloadN W11.here hx rfl (hb hby d29_32) rfl rfl k)) ?_
  have X15 : Ext h0 h11 := own_xk X6 K11 (allS (by omega) all0)
  have f16 := Fv.ext X15
  have f17 := Eb.ext X15
  obtain ⟨T18, h18, W18, R18, F18, st18⟩ := own_put W11 hx (host := "") (Or.inl (w68 C)) Via.refl f16 f17 (Or.inl (w69 C)) (w55 C) (ty := (.array .byte)) (by decide) rfl rfl (own_safeE W11 f17 (by decide) (by decide)) (by omega) (g := (mkF m 33 #[vR b, vR x3] [(.ref x3), (.ref b)])) rfl rfl (hb hby d29_33)
  have f19 := Fc.ext X15
  have f20 := Fn.ext X15
  have f21 := Fm.ext X15
  have z22 : h18.size = h11.size := R18.size
  have f23 := f17.wr R18
  have f24 := f19.other R18 (Or.inr (slot_ne (Or.inl (w71 C)) (Or.inl (w69 C)) (by decide) (t := .byte) (t' := (.array .byte)) (by decide) (by decide)))
  have f25 := f20.other R18 (Or.inr (slot_ne (Or.inl (w96 C)) (Or.inl (w69 C)) (by decide) (t := .int) (t' := (.array .byte)) (by decide) (by decide)))
  have f26 := f21.other R18 (Or.inr (slot_ne (Or.inl (w245 C)) (Or.inl (w69 C)) (by decide) (t := .boolean) (t' := (.array .byte)) (by decide) (by decide)))
  have S18_x3 : Safe Z own_EL vm11 h18 x3 := Safe.wr R18 (own_safeE W11 f17 (by decide) (by decide)) W11.ch S11_x3
  refine go (g' := (mkF m 36 #[vR b, vR x3] [])) (st18) ?_
  refine go (g' := (mkF m 38 #[vR b, vR x3] [(.int (1 : Int32)), (.ref b)])) (fun _ k => XS.aloadN W18.here hx rfl (hb hby d29_36) rfl rfl (XS.iconst W18.here hx rfl (hb hby d29_37) k)) ?_
  obtain ⟨T27, h27, W27, R27, F27, st27⟩ := own_put W18 hx (host := "") (Or.inl (w70 C)) Via.refl f24 f23 (Or.inl (w71 C)) (w55 C) (ty := .byte) (by decide) rfl (by decide) (own_safeE W18 f23 (by decide) (by decide)) (by omega) (g := (mkF m 38 #[vR b, vR x3] [(.int (1 : Int32)), (.ref b)])) rfl rfl (hb hby d29_38)
  have z28 : h27.size = h18.size := R27.size
  have f29 := f23.wr R27
  have f30 := F18.other R27 (Or.inr (slot_ne (Or.inl (w69 C)) (Or.inl (w71 C)) (by decide) (t := (.array .byte)) (t' := .byte) (by decide) (by decide)))
  have f31 := f25.other R27 (Or.inr (slot_ne (Or.inl (w96 C)) (Or.inl (w71 C)) (by decide) (t := .int) (t' := .byte) (by decide) (by decide)))
  have f32 := f26.other R27 (Or.inr (slot_ne (Or.inl (w245 C)) (Or.inl (w71 C)) (by decide) (t := .boolean) (t' := .byte) (by decide) (by decide)))
  have S27_x3 : Safe Z own_EL vm11 h27 x3 := Safe.wr R27 (own_safeE W18 f23 (by decide) (by decide)) W18.ch S18_x3
  refine go (g' := (mkF m 41 #[vR b, vR x3] [])) (st27) ?_
  have KK33 : Keep h0 h27 [b] := (((((Keep.refl h0 [b]).ext E3).trans K11 (allS (Or.inr (by omega)) all0)).wr R18 (Or.inl (own_mi (i := 0) rfl))).wr R27 (Or.inl (own_mi (i := 0) rfl)))
  have l35 : ltN x3 h11.size := Vw14.lt
  have f34 := Vw14.other R18 (one (by omega))
  have l37 : ltN x3 h11.size := Vw14.lt
  have f36 := f34.other R27 (one (by omega))
  exact fin (v := none) (so := [x3]) W27 (nle rfl) (nle rfl) (⟨rfl, KK33, _, _, rfl, by omega, f29, f30, F27, f31, f32, f36⟩) (allS S27_x3 all0) (fun _ => rfl) (own_retV W27 hx hret (hb hby d29_41))
theorem rm_inflx (C : Cx Z a0) (h0 : Heap) (b t : Addr) (kt : ClassId) (ds : List Int32) (hd : ds = [(60 : Int32)] ∨ ds = [(60 : Int32), (47 : Int32)]) (Bb : Bl Z h0 b t kt ds) (nb : Z.heap.size ≤ b) : Ct l Z a0 own_EL (⟨"java/lang/AbstractStringBuilder", "inflate", "()V"⟩ : MethodName) jdk_68_method_11_code 2 (Option.none : Option Jvm.ClassFile.FieldType) [] (rmm 5 1 32 76) #[(.ref b)] h0 [] (fun v h so => v = none ∧ Keep h0 h [b] ∧ ∃ (t' : Addr) (kt' : ClassId), so = [t'] ∧ h0.size ≤ t' ∧ Bw Z h b t' kt' ds) := by
  rcases hd with rfl | rfl
  · exact rm_infl60 C h0 b t kt Bb nb
  · exact rm_infl6047 C h0 b t kt Bb nb
theorem rm_ifn00 (C : Cx Z a0) (h0 : Heap) (b : Addr) (Eb : Exa Z h0 b "java/lang/StringBuilder") (Fc : Fld Z h0 b "java/lang/AbstractStringBuilder" "coder" "B" vZ) (a : Addr) (Ea : Exa Z h0 a "java/lang/String") (Ca : Fld Z h0 a "java/lang/String" "coder" "B" vZ) :
    Ct l Z a0 own_EL (⟨"java/lang/AbstractStringBuilder", "inflateIfNeededFor", "(Ljava/lang/String;)V"⟩ : MethodName) jdk_68_method_71_code 2 (Option.none : Option Jvm.ClassFile.FieldType) [] (rmm 1 0 0 13) #[(.ref b), (.ref a)] h0 [] (fun v h so => v = none ∧ h0 = h) := by
  refine own_enter (plainFor_of_name pn_2) C.ew (F0 := fun m => mkF m 0 #[vR b, vR a] []) (fun m => by first | (simp [entryFrame, mkF, argsToLocals, Value.category]; done) | rfl) ?_
  intro p e s m below meth c s₁ G hx hby hml hret hnm W0 S0 go fin
  have z0 := W0.sz
  show G s₁ (mkF m 0 #[vR b, vR a] [])
  obtain ⟨gCS, OCS, nCS⟩ := C.cs
  obtain ⟨T1, W1, st1⟩ := own_getS W0 hx (host := "") (Or.inl (w67 C)) Via.refl OCS (g := (mkF m 0 #[vR b, vR a] [])) rfl (hb hby d30_0)
  refine go (g' := (mkF m 3 #[vR b, vR a] [(.int gCS)])) (st1) ?_
  refine go (g' := (mkF m 7 #[vR b, vR a] [(.ref b)])) (fun _ k => XS.ifNo W1.here hx rfl (hb hby d30_3) rfl ((if0 _ _).trans (feq nCS).1) (XS.aloadN W1.here hx rfl (hb hby d30_6) rfl rfl k)) ?_
  obtain ⟨T2, W2, st2⟩ := own_get W1 hx (host := "") (Or.inl (w70 C)) Via.refl Fc (g := (mkF m 7 #[vR b, vR a] [(.ref b)])) rfl rfl (hb hby d30_7)
  refine go (g' := (mkF m 10 #[vR b, vR a] [vZ])) (st2) ?_
  refine go (g' := (mkF m 11 #[vR b, vR a] [(.ref a), vZ])) (fun _ k => XS.aloadN W2.here hx rfl (hb hby d30_10) rfl rfl k) ?_
  obtain ⟨v3, so3, vm3, T3, h3, W3, C3, q3, hso3, st3⟩ := own_virtual W2 hx (w112 C) (w91 C) (w93 C) (w92 C) (w3 C) (w94 C) (by decide) (own_nf W2 (w93 C)) Ea (rm_coder0 C h0 a Ca) (fun _ q => nomatch q) (Wd := 1) (nle rfl) (nle rfl) (nle rfl) (nle rfl) (g := (mkF m 11 #[vR b, vR a] [(.ref a), vZ])) rfl (by rw [hml]; rfl) (argsL := []) (rest := [vZ]) (lenOf pd_9 rfl) rfl rfl (nle rfl) (hb hby d30_11)
  obtain ⟨rfl, rfl⟩ := q3
  refine go (g' := (mkF m 14 #[vR b, vR a] [vZ, vZ])) (st3) ?_
  refine go (g' := (mkF m 21 #[vR b, vR a] [])) (fun _ k => XS.icmpYes W3.here hx rfl (pc0 := 14) (pc' := 21) rfl (hb hby d30_14) rfl (teq ((by decide) : (0 : Int32) = (0 : Int32))).1 (by decide) (by decide) k) ?_
  exact fin (v := none) (so := []) W3 (nle rfl) (nle rfl) (⟨rfl, rfl⟩) (fun _ q => nomatch q) (fun _ => rfl) (own_retV W3 hx hret (hb hby d30_21))
theorem rm_ifn10 (C : Cx Z a0) (h0 : Heap) (b : Addr) (Eb : Exa Z h0 b "java/lang/StringBuilder") (Fc : Fld Z h0 b "java/lang/AbstractStringBuilder" "coder" "B" (.int (1 : Int32))) (a : Addr) (Ea : Exa Z h0 a "java/lang/String") (Ca : Fld Z h0 a "java/lang/String" "coder" "B" vZ) :
    Ct l Z a0 own_EL (⟨"java/lang/AbstractStringBuilder", "inflateIfNeededFor", "(Ljava/lang/String;)V"⟩ : MethodName) jdk_68_method_71_code 2 (Option.none : Option Jvm.ClassFile.FieldType) [] (rmm 2 0 0 25) #[(.ref b), (.ref a)] h0 [] (fun v h so => v = none ∧ h0 = h) := by
  refine own_enter (plainFor_of_name pn_2) C.ew (F0 := fun m => mkF m 0 #[vR b, vR a] []) (fun m => by first | (simp [entryFrame, mkF, argsToLocals, Value.category]; done) | rfl) ?_
  intro p e s m below meth c s₁ G hx hby hml hret hnm W0 S0 go fin
  have z0 := W0.sz
  show G s₁ (mkF m 0 #[vR b, vR a] [])
  obtain ⟨gCS, OCS, nCS⟩ := C.cs
  obtain ⟨T1, W1, st1⟩ := own_getS W0 hx (host := "") (Or.inl (w67 C)) Via.refl OCS (g := (mkF m 0 #[vR b, vR a] [])) rfl (hb hby d30_0)
  refine go (g' := (mkF m 3 #[vR b, vR a] [(.int gCS)])) (st1) ?_
  refine go (g' := (mkF m 7 #[vR b, vR a] [(.ref b)])) (fun _ k => XS.ifNo W1.here hx rfl (hb hby d30_3) rfl ((if0 _ _).trans (feq nCS).1) (XS.aloadN W1.here hx rfl (hb hby d30_6) rfl rfl k)) ?_
  obtain ⟨T2, W2, st2⟩ := own_get W1 hx (host := "") (Or.inl (w70 C)) Via.refl Fc (g := (mkF m 7 #[vR b, vR a] [(.ref b)])) rfl rfl (hb hby d30_7)
  refine go (g' := (mkF m 10 #[vR b, vR a] [(.int (1 : Int32))])) (st2) ?_
  refine go (g' := (mkF m 11 #[vR b, vR a] [(.ref a), (.int (1 : Int32))])) (fun _ k => XS.aloadN W2.here hx rfl (hb hby d30_10) rfl rfl k) ?_
  obtain ⟨v3, so3, vm3, T3, h3, W3, C3, q3, hso3, st3⟩ := own_virtual W2 hx (w112 C) (w91 C) (w93 C) (w92 C) (w3 C) (w94 C) (by decide) (own_nf W2 (w93 C)) Ea (rm_coder0 C h0 a Ca) (fun _ q => nomatch q) (Wd := 1) (nle rfl) (nle rfl) (nle rfl) (nle rfl) (g := (mkF m 11 #[vR b, vR a] [(.ref a), (.int (1 : Int32))])) rfl (by rw [hml]; rfl) (argsL := []) (rest := [(.int (1 : Int32))]) (lenOf pd_9 rfl) rfl rfl (nle rfl) (hb hby d30_11)
  obtain ⟨rfl, rfl⟩ := q3
  refine go (g' := (mkF m 14 #[vR b, vR a] [vZ, (.int (1 : Int32))])) (st3) ?_
  refine go (g' := (mkF m 18 #[vR b, vR a] [(.ref b)])) (fun _ k => XS.icmpNo W3.here hx rfl (hb hby d30_14) rfl (feq ((by decide) : ¬ ((1 : Int32) = (0 : Int32)))).1 (XS.aloadN W3.here hx rfl (hb hby d30_17) rfl rfl k)) ?_
  obtain ⟨v4, so4, vm4, T4, h4, W4, C4, q4, hso4, st4⟩ := own_virtual W3 hx (w218 C) (own_decl (w219 C) (w222 C)) (w221 C) (w219 C) (w64 C) (w222 C) (by decide) (own_nf W3 (w221 C)) Eb (rm_infw C h0 b Eb Fc) (fun _ q => nomatch q) (Wd := 0) (nle rfl) (nle rfl) (nle rfl) (nle rfl) (g := (mkF m 18 #[vR b, vR a] [(.ref b)])) rfl (by rw [hml]; rfl) (argsL := []) (rest := []) (lenOf pd_19 rfl) rfl rfl (nle rfl) (hb hby d30_18)
  obtain ⟨rfl, rfl⟩ := q4
  refine go (g' := (mkF m 21 #[vR b, vR a] [])) (st4) ?_
  exact fin (v := none) (so := []) W4 (nle rfl) (nle rfl) (⟨rfl, rfl⟩) (fun _ q => nomatch q) (fun _ => rfl) (own_retV W4 hx hret (hb hby d30_21))
theorem rm_ifn01 (C : Cx Z a0) (h0 : Heap) (b t : Addr) (kt : ClassId) (ds : List Int32) (hd : ds = [(60 : Int32)] ∨ ds = [(60 : Int32), (47 : Int32)]) (Bb : Bl Z h0 b t kt ds) (nb : Z.heap.size ≤ b) (a : Addr) (Ea : Exa Z h0 a "java/lang/String") (Ca : Fld Z h0 a "java/lang/String" "coder" "B" (.int (1 : Int32))) :
    Ct l Z a0 own_EL (⟨"java/lang/AbstractStringBuilder", "inflateIfNeededFor", "(Ljava/lang/String;)V"⟩ : MethodName) jdk_68_method_71_code 2 (Option.none : Option Jvm.ClassFile.FieldType) [] (rmm 6 1 32 89) #[(.ref b), (.ref a)] h0 [] (fun v h so => v = none ∧ Keep h0 h [b] ∧ ∃ (t' : Addr) (kt' : ClassId), so = [t'] ∧ h0.size ≤ t' ∧ Bw Z h b t' kt' ds) := by
  refine own_enter (plainFor_of_name pn_2) C.ew (F0 := fun m => mkF m 0 #[vR b, vR a] []) (fun m => by first | (simp [entryFrame, mkF, argsToLocals, Value.category]; done) | rfl) ?_
  intro p e s m below meth c s₁ G hx hby hml hret hnm W0 S0 go fin
  have z0 := W0.sz
  show G s₁ (mkF m 0 #[vR b, vR a] [])
  obtain ⟨Eb, Fv, Fc, Fn, Fm, Vt⟩ := id Bb
  have lt : ltN t h0.size := Vt.lt
  have lb : ltN b h0.size := Eb.lt
  have nbt : b ≠ t := Exa.neArv Eb Vt (w55 C)
  obtain ⟨gCS, OCS, nCS⟩ := C.cs
  obtain ⟨T1, W1, st1⟩ := own_getS W0 hx (host := "") (Or.inl (w67 C)) Via.refl OCS (g := (mkF m 0 #[vR b, vR a] [])) rfl (hb hby d30_0)
  refine go (g' := (mkF m 3 #[vR b, vR a] [(.int gCS)])) (st1) ?_
  refine go (g' := (mkF m 7 #[vR b, vR a] [(.ref b)])) (fun _ k => XS.ifNo W1.here hx rfl (hb hby d30_3) rfl ((if0 _ _).trans (feq nCS).1) (XS.aloadN W1.here hx rfl (hb hby d30_6) rfl rfl k)) ?_
  obtain ⟨T2, W2, st2⟩ := own_get W1 hx (host := "") (Or.inl (w70 C)) Via.refl Fc (g := (mkF m 7 #[vR b, vR a] [(.ref b)])) rfl rfl (hb hby d30_7)
  refine go (g' := (mkF m 10 #[vR b, vR a] [vZ])) (st2) ?_
  refine go (g' := (mkF m 11 #[vR b, vR a] [(.ref a), vZ])) (fun _ k => XS.aloadN W2.here hx rfl (hb hby d30_10) rfl rfl k) ?_
  obtain ⟨v3, so3, vm3, T3, h3, W3, C3, q3, hso3, st3⟩ := own_virtual W2 hx (w112 C) (w91 C) (w93 C) (w92 C) (w3 C) (w94 C) (by decide) (own_nf W2 (w93 C)) Ea (rm_coder1 C h0 a Ca) (fun _ q => nomatch q) (Wd := 1) (nle rfl) (nle rfl) (nle rfl) (nle rfl) (g := (mkF m 11 #[vR b, vR a] [(.ref a), vZ])) rfl (by rw [hml]; rfl) (argsL := []) (rest := [vZ]) (lenOf pd_9 rfl) rfl rfl (nle rfl) (hb hby d30_11)
  obtain ⟨rfl, rfl⟩ := q3
  refine go (g' := (mkF m 14 #[vR b, vR a] [(.int (1 : Int32)), vZ])) (st3) ?_
  refine go (g' := (mkF m 18 #[vR b, vR a] [(.ref b)])) (fun _ k => XS.icmpNo W3.here hx rfl (hb hby d30_14) rfl (feq ((by decide) : ¬ ((0 : Int32) = (1 : Int32)))).1 (XS.aloadN W3.here hx rfl (hb hby d30_17) rfl rfl k)) ?_
  obtain ⟨v4, so4, vm4, T4, h4, W4, C4, q4, hso4, st4⟩ := own_virtual W3 hx (w218 C) (own_decl (w219 C) (w222 C)) (w221 C) (w219 C) (w64 C) (w222 C) (by decide) (own_nf W3 (w221 C)) Eb (rm_inflx C h0 b t kt ds hd Bb (by omega)) (fun _ q => nomatch q) (Wd := 0) (nle rfl) (nle rfl) (nle rfl) (nle rfl) (g := (mkF m 18 #[vR b, vR a] [(.ref b)])) rfl (by rw [hml]; rfl) (argsL := []) (rest := []) (lenOf pd_19 rfl) rfl rfl (nle rfl) (hb hby d30_18)
  obtain ⟨rfl, K4, t4, k4, rfl, g4, B4⟩ := q4
  have z5 : h0.size ≤ h4.size := K4.1
  have lt4 : ltN t4 h4.size := B4.2.2.2.2.2.lt
  obtain ⟨oE6, oV6, oC6, oN6, oM6, oA6⟩ := id B4
  refine go (g' := (mkF m 21 #[vR b, vR a] [])) (st4) ?_
  have KK7 : Keep h0 h4 [b] := ((Keep.refl h0 [b]).trans K4 (allS (Or.inl (own_mi (i := 0) rfl)) all0))
  exact fin (v := none) (so := [t4]) W4 (nle rfl) (nle rfl) (⟨rfl, KK7, _, _, rfl, by omega, B4⟩) (allS (hso4 _ (own_mi (i := 0) rfl)) all0) (fun _ => rfl) (own_retV W4 hx hret (hb hby d30_21))
theorem rm_gbw (C : Cx Z a0) (h0 : Heap) (a : Addr) (cs : List Int32) (Sa : StrW Z h0 a cs) (t : Addr) (kt : ClassId) (ds : List Int32) (l1 : ds.length + cs.length ≤ 16) (Vt : Arv Z h0 t kt .byte (32 : Int32) (wb ds) vZ) (nt : Z.heap.size ≤ t) :
    Ct l Z a0 own_EL (⟨"java/lang/String", "getBytes", "([BIB)V"⟩ : MethodName) jdk_42_method_147_code 4 (Option.none : Option Jvm.ClassFile.FieldType) [] (rmm 1 0 0 30) #[(.ref a), (.ref t), (.int (Int32.ofNat ds.length)), (.int (1 : Int32))] h0 [t] (fun v h so => v = none ∧ Keep h0 h [t] ∧ Arv Z h t kt .byte (32 : Int32) (wb (ds ++ cs)) vZ) := by
  refine own_enter (plainFor_of_name pn_1) C.ew (F0 := fun m => mkF m 0 #[vR a, vR t, vI (Int32.ofNat ds.length), vI (1 : Int32)] []) (fun m => by first | (simp [entryFrame, mkF, argsToLocals, Value.category]; done) | rfl) ?_
  intro p e s m below meth c s₁ G hx hby hml hret hnm W0 S0 go fin
  have z0 := W0.sz
  show G s₁ (mkF m 0 #[vR a, vR t, vI (Int32.ofNat ds.length), vI (1 : Int32)] [])
  obtain ⟨Ea, Ca, pa, u, ku, Fa, Va⟩ := id Sa
  have la : ltN a h0.size := Ea.lt
  have lu : ltN u h0.size := Va.lt
  have lt : ltN t h0.size := Vt.lt
  refine go (g' := (mkF m 1 #[vR a, vR t, vI (Int32.ofNat ds.length), vI (1 : Int32)] [(.ref a)])) (fun _ k => XS.aloadN W0.here hx rfl (hb hby d14_0) rfl rfl k) ?_
  obtain ⟨v1, so1, vm1, T1, h1, W1, C1, q1, hso1, st1⟩ := own_virtual W0 hx (w90 C) (w91 C) (w93 C) (w92 C) (w3 C) (w94 C) (by decide) (own_nf W0 (w93 C)) Ea (rm_coder1 C h0 a Ca) (fun _ q => nomatch q) (Wd := 0) (nle rfl) (nle rfl) (nle rfl) (nle rfl) (g := (mkF m 1 #[vR a, vR t, vI (Int32.ofNat ds.length), vI (1 : Int32)] [(.ref a)])) rfl (by rw [hml]; rfl) (argsL := []) (rest := []) (lenOf pd_9 rfl) rfl rfl (nle rfl) (hb hby d14_1)
  obtain ⟨rfl, rfl⟩ := q1
  have S1_t : Safe Z own_EL vm1 h0 t := C1.safe (olt (by omega)) (S0 _ (own_mi (i := 0) rfl))
  refine go (g' := (mkF m 4 #[vR a, vR t, vI (Int32.ofNat ds.length), vI (1 : Int32)] [(.int (1 : Int32))])) (st1) ?_
  refine go (g' := (mkF m 9 #[vR a, vR t, vI (Int32.ofNat ds.length), vI (1 : Int32)] [(.ref a)])) (fun _ k => XS.iloadN W1.here hx rfl (hb hby d14_4) rfl (XS.icmpNo W1.here hx rfl (hb hby d14_5) rfl (teq ((by decide) : (1 : Int32) = (1 : Int32))).2 (XS.aloadN W1.here hx rfl (hb hby d14_8) rfl rfl k))) ?_
  obtain ⟨T2, W2, st2⟩ := own_get W1 hx (host := "") (Or.inl (w29 C)) Via.refl Fa (g := (mkF m 9 #[vR a, vR t, vI (Int32.ofNat ds.length), vI (1 : Int32)] [(.ref a)])) rfl rfl (hb hby d14_9)
  refine go (g' := (mkF m 12 #[vR a, vR t, vI (Int32.ofNat ds.length), vI (1 : Int32)] [(.ref u)])) (st2) ?_
  refine go (g' := (mkF m 17 #[vR a, vR t, vI (Int32.ofNat ds.length), vI (1 : Int32)] [(.int ((Int32.ofNat ds.length) <<< ((1 : Int32) &&& 31))), (.ref t), vZ, (.ref u)])) (fun _ k => XS.iconst W2.here hx rfl (hb hby d14_12) (XS.aloadN W2.here hx rfl (hb hby d14_13) rfl rfl (XS.iloadN W2.here hx rfl (hb hby d14_14) rfl (XS.iloadN W2.here hx rfl (hb hby d14_15) rfl (XS.ishl W2.here hx rfl (hb hby d14_16) rfl k))))) ?_
  rw [show ((Int32.ofNat ds.length) <<< ((1 : Int32) &&& 31)) = (Int32.ofNat (2 * ds.length)) from own_shl1 _]
  refine go (g' := (mkF m 18 #[vR a, vR t, vI (Int32.ofNat ds.length), vI (1 : Int32)] [(.ref a), (.int (Int32.ofNat (2 * ds.length))), (.ref t), vZ, (.ref u)])) (fun _ k => XS.aloadN W2.here hx rfl (hb hby d14_17) rfl rfl k) ?_
  obtain ⟨T3, W3, st3⟩ := own_get W2 hx (host := "") (Or.inl (w29 C)) Via.refl Fa (g := (mkF m 18 #[vR a, vR t, vI (Int32.ofNat ds.length), vI (1 : Int32)] [(.ref a), (.int (Int32.ofNat (2 * ds.length))), (.ref t), vZ, (.ref u)])) rfl rfl (hb hby d14_18)
  refine go (g' := (mkF m 21 #[vR a, vR t, vI (Int32.ofNat ds.length), vI (1 : Int32)] [(.ref u), (.int (Int32.ofNat (2 * ds.length))), (.ref t), vZ, (.ref u)])) (st3) ?_
  refine go (g' := (mkF m 22 #[vR a, vR t, vI (Int32.ofNat ds.length), vI (1 : Int32)] [(.int (Int32.ofNat (2 * cs.length))), (.int (Int32.ofNat (2 * ds.length))), (.ref t), vZ, (.ref u)])) (own_alen W3 hx Va (g := (mkF m 21 #[vR a, vR t, vI (Int32.ofNat ds.length), vI (1 : Int32)] [(.ref u), (.int (Int32.ofNat (2 * ds.length))), (.ref t), vZ, (.ref u)])) rfl rfl (hb hby d14_21)) ?_
  have P4 : Arv Z h0 t kt .byte (32 : Int32) (wb ds ++ List.replicate (2 * cs.length) vZ) vZ := Vt.pad (pad_rep _ _ _)
  have e0 : (0 : Int32).toNatClampNeg = 0 := by decide
  have e1 : (Int32.ofNat (2 * ds.length)).toNatClampNeg = 2 * ds.length := own_cl (by omega)
  have e2 : (Int32.ofNat (2 * cs.length)).toNatClampNeg = 2 * cs.length := own_cl (by omega)
  have e3 : (32 : Int32).toNatClampNeg = 32 := by decide
  obtain ⟨T4, h4, W4, K4, V4, st4⟩ := own_cp W3 hx (w118 C) (w121 C) (w119 C) (w120 C) Va P4 rfl S1_t (sp := (0 : Int32)) (dp := (Int32.ofNat (2 * ds.length))) (nn := (Int32.ofNat (2 * cs.length))) (by decide) (own_nn (by omega)) (own_nn (by omega)) (by rw [e0, e2]; omega) (by rw [e1, e2, e3]; omega) (us := wb cs) (by rw [e0, e2]; exact (own_rgv (wb cs) (2 * cs.length) _ (own_wbl cs)).symm) (by rw [e1, e2, List.length_append, own_wbl, List.length_replicate]; omega) (by omega) (g := (mkF m 22 #[vR a, vR t, vI (Int32.ofNat ds.length), vI (1 : Int32)] [(.int (Int32.ofNat (2 * cs.length))), (.int (Int32.ofNat (2 * ds.length))), (.ref t), vZ, (.ref u)])) rfl (by rw [hml]; rfl) rfl (hb hby d14_22) (nle rfl) (Wd := 0) (nle rfl) (nle rfl)
  have z5 : h0.size ≤ h4.size := K4.1
  have U4 : Arv Z h4 t kt .byte (32 : Int32) (wb (ds ++ cs)) vZ := by have q := V4; rw [e1, e2, own_appw] at q; exact q
  refine go (g' := (mkF m 25 #[vR a, vR t, vI (Int32.ofNat ds.length), vI (1 : Int32)] [])) (st4) ?_
  refine go (g' := (mkF m 43 #[vR a, vR t, vI (Int32.ofNat ds.length), vI (1 : Int32)] [])) (fun _ k => XS.goto W4.here hx rfl (pc0 := 25) (pc' := 43) rfl (hb hby d14_25) (by decide) (by decide) k) ?_
  have KK6 : Keep h0 h4 [t] := ((Keep.refl h0 [t]).trans K4 (allS (Or.inl (own_mi (i := 0) rfl)) all0))
  exact fin (v := none) (so := []) W4 (nle rfl) (nle rfl) (⟨rfl, KK6, U4⟩) (fun _ q => nomatch q) (fun _ => rfl) (own_retV W4 hx hret (hb hby d14_43))
theorem rm_gbi (C : Cx Z a0) (h0 : Heap) (a u : Addr) (ku : ClassId) (Ea : Exa Z h0 a "java/lang/String") (Ca : Fld Z h0 a "java/lang/String" "coder" "B" vZ) (Fa : Fld Z h0 a "java/lang/String" "value" "[B" (.ref u)) (Va : Arv Z h0 u ku .byte (1 : Int32) [(.int (62 : Int32))] vZ) (t : Addr) (kt : ClassId) (ds : List Int32) (l1 : ds.length + [(62 : Int32)].length ≤ 16) (Vt : Arv Z h0 t kt .byte (32 : Int32) (wb ds) vZ) (nt : Z.heap.size ≤ t) (nut : u ≠ t) :
    Ct l Z a0 own_EL (⟨"java/lang/String", "getBytes", "([BIB)V"⟩ : MethodName) jdk_42_method_147_code 4 (Option.none : Option Jvm.ClassFile.FieldType) [] (rmm 5 0 0 76) #[(.ref a), (.ref t), (.int (Int32.ofNat ds.length)), (.int (1 : Int32))] h0 [t] (fun v h so => v = none ∧ Keep h0 h [t] ∧ Arv Z h t kt .byte (32 : Int32) (wb (ds ++ [(62 : Int32)])) vZ) := by
  refine own_enter (plainFor_of_name pn_1) C.ew (F0 := fun m => mkF m 0 #[vR a, vR t, vI (Int32.ofNat ds.length), vI (1 : Int32)] []) (fun m => by first | (simp [entryFrame, mkF, argsToLocals, Value.category]; done) | rfl) ?_
  intro p e s m below meth c s₁ G hx hby hml hret hnm W0 S0 go fin
  have z0 := W0.sz
  show G s₁ (mkF m 0 #[vR a, vR t, vI (Int32.ofNat ds.length), vI (1 : Int32)] [])
  have Sa : Str Z h0 a [(62 : Int32)] := own_litS (cs := [(62 : Int32)]) Ea Ca Fa Va rfl (own_alS ⟨by decide, by decide⟩ own_al0) (by decide)
  have la : ltN a h0.size := Ea.lt
  have lu : ltN u h0.size := Va.lt
  have l2 : ds.length + 1 ≤ 16 := l1
  have lt : ltN t h0.size := Vt.lt
  refine go (g' := (mkF m 1 #[vR a, vR t, vI (Int32.ofNat ds.length), vI (1 : Int32)] [(.ref a)])) (fun _ k => XS.aloadN W0.here hx rfl (hb hby d14_0) rfl rfl k) ?_
  obtain ⟨v1, so1, vm1, T1, h1, W1, C1, q1, hso1, st1⟩ := own_virtual W0 hx (w90 C) (w91 C) (w93 C) (w92 C) (w3 C) (w94 C) (by decide) (own_nf W0 (w93 C)) Ea (rm_coder0 C h0 a Ca) (fun _ q => nomatch q) (Wd := 0) (nle rfl) (nle rfl) (nle rfl) (nle rfl) (g := (mkF m 1 #[vR a, vR t, vI (Int32.ofNat ds.length), vI (1 : Int32)] [(.ref a)])) rfl (by rw [hml]; rfl) (argsL := []) (rest := []) (lenOf pd_9 rfl) rfl rfl (nle rfl) (hb hby d14_1)
  obtain ⟨rfl, rfl⟩ := q1
  have S1_t : Safe Z own_EL vm1 h0 t := C1.safe (olt (by omega)) (S0 _ (own_mi (i := 0) rfl))
  refine go (g' := (mkF m 4 #[vR a, vR t, vI (Int32.ofNat ds.length), vI (1 : Int32)] [vZ])) (st1) ?_
  refine go (g' := (mkF m 29 #[vR a, vR t, vI (Int32.ofNat ds.length), vI (1 : Int32)] [(.ref a)])) (fun _ k => XS.iloadN W1.here hx rfl (hb hby d14_4) rfl (XS.icmpYes W1.here hx rfl (pc0 := 5) (pc' := 28) rfl (hb hby d14_5) rfl (feq ((by decide) : ¬ ((0 : Int32) = (1 : Int32)))).2 (by decide) (by decide) (XS.aloadN W1.here hx rfl (hb hby d14_28) rfl rfl k))) ?_
  obtain ⟨T2, W2, st2⟩ := own_get W1 hx (host := "") (Or.inl (w29 C)) Via.refl Fa (g := (mkF m 29 #[vR a, vR t, vI (Int32.ofNat ds.length), vI (1 : Int32)] [(.ref a)])) rfl rfl (hb hby d14_29)
  refine go (g' := (mkF m 32 #[vR a, vR t, vI (Int32.ofNat ds.length), vI (1 : Int32)] [(.ref u)])) (st2) ?_
  refine go (g' := (mkF m 36 #[vR a, vR t, vI (Int32.ofNat ds.length), vI (1 : Int32)] [(.ref a), (.int (Int32.ofNat ds.length)), (.ref t), vZ, (.ref u)])) (fun _ k => XS.iconst W2.here hx rfl (hb hby d14_32) (XS.aloadN W2.here hx rfl (hb hby d14_33) rfl rfl (XS.iloadN W2.here hx rfl (hb hby d14_34) rfl (XS.aloadN W2.here hx rfl (hb hby d14_35) rfl rfl k)))) ?_
  obtain ⟨T3, W3, st3⟩ := own_get W2 hx (host := "") (Or.inl (w29 C)) Via.refl Fa (g := (mkF m 36 #[vR a, vR t, vI (Int32.ofNat ds.length), vI (1 : Int32)] [(.ref a), (.int (Int32.ofNat ds.length)), (.ref t), vZ, (.ref u)])) rfl rfl (hb hby d14_36)
  refine go (g' := (mkF m 39 #[vR a, vR t, vI (Int32.ofNat ds.length), vI (1 : Int32)] [(.ref u), (.int (Int32.ofNat ds.length)), (.ref t), vZ, (.ref u)])) (st3) ?_
  refine go (g' := (mkF m 40 #[vR a, vR t, vI (Int32.ofNat ds.length), vI (1 : Int32)] [(.int (1 : Int32)), (.int (Int32.ofNat ds.length)), (.ref t), vZ, (.ref u)])) (own_alen W3 hx Va (g := (mkF m 39 #[vR a, vR t, vI (Int32.ofNat ds.length), vI (1 : Int32)] [(.ref u), (.int (Int32.ofNat ds.length)), (.ref t), vZ, (.ref u)])) rfl rfl (hb hby d14_39)) ?_
  have P4 : Arv Z h0 t kt .byte (Int32.ofNat 32) (wb ds ++ List.replicate 2 vZ) vZ := Vt.pad (pad_rep _ _ _)
  obtain ⟨v5, so5, vm5, T5, h5, W5, C5, q5, hso5, st5⟩ := own_static W3 hx (w243 C) (w226 C) (w185 C) (w227 C) (by decide) (rm_li62 C h0 u t ku kt (wb ds ++ List.replicate 2 vZ) ds.length (by omega) (by rw [List.length_append, own_wbl, List.length_replicate]; omega) Va P4 (by omega) nut) (allS S1_t all0) (Wd := 0) (nle rfl) (nle rfl) (nle rfl) (nle rfl) (g := (mkF m 40 #[vR a, vR t, vI (Int32.ofNat ds.length), vI (1 : Int32)] [(.int (1 : Int32)), (.int (Int32.ofNat ds.length)), (.ref t), vZ, (.ref u)])) rfl (by rw [hml]; rfl) (argsL := [(.ref u), vZ, (.ref t), (.int (Int32.ofNat ds.length)), (.int (1 : Int32))]) (rest := []) (lenOf pd_18 rfl) rfl rfl (nle rfl) (hb hby d14_40)
  obtain ⟨rfl, K5, V5⟩ := q5
  have z6 : h0.size ≤ h5.size := K5.1
  have S5_t : Safe Z own_EL vm5 h5 t := C5.safe (olt (by omega)) S1_t
  refine go (g' := (mkF m 43 #[vR a, vR t, vI (Int32.ofNat ds.length), vI (1 : Int32)] [])) (st5) ?_
  have U7 : Arv Z h5 t kt .byte (32 : Int32) (wb (ds ++ [(62 : Int32)])) vZ := by have q := V5; rw [own_wbs] at q; exact q
  have KK8 : Keep h0 h5 [t] := ((Keep.refl h0 [t]).trans K5 (allS (Or.inl (own_mi (i := 0) rfl)) all0))
  exact fin (v := none) (so := []) W5 (nle rfl) (nle rfl) (⟨rfl, KK8, U7⟩) (fun _ q => nomatch q) (fun _ => rfl) (own_retV W5 hx hret (hb hby d14_43))
theorem rm_ps00 (C : Cx Z a0) (h0 : Heap) (b t : Addr) (kt : ClassId) (ds : List Int32) (a : Addr) (cs : List Int32) (Sa : Str Z h0 a cs) (l1 : ds.length + cs.length ≤ 16) (Bb : Bl Z h0 b t kt ds) (nb : Z.heap.size ≤ b) (nt : Z.heap.size ≤ t) :
    Ct l Z a0 own_EL (⟨"java/lang/AbstractStringBuilder", "putStringAt", "(ILjava/lang/String;)V"⟩ : MethodName) jdk_68_method_73_code 3 (Option.none : Option Jvm.ClassFile.FieldType) [] (rmm 2 0 0 45) #[(.ref b), (.int (Int32.ofNat ds.length)), (.ref a)] h0 [t] (fun v h so => v = none ∧ Keep h0 h [t] ∧ Arv Z h t kt .byte (16 : Int32) ((ds ++ (cs.map fun c => c.toInt8.toInt32)).map Value.int) vZ) := by
  refine own_enter (plainFor_of_name pn_2) C.ew (F0 := fun m => mkF m 0 #[vR b, vI (Int32.ofNat ds.length), vR a] []) (fun m => by first | (simp [entryFrame, mkF, argsToLocals, Value.category]; done) | rfl) ?_
  intro p e s m below meth c s₁ G hx hby hml hret hnm W0 S0 go fin
  have z0 := W0.sz
  show G s₁ (mkF m 0 #[vR b, vI (Int32.ofNat ds.length), vR a] [])
  obtain ⟨Eb, Fv, Fc, Fn, Fm, Vt⟩ := id Bb
  have lt : ltN t h0.size := Vt.lt
  have lb : ltN b h0.size := Eb.lt
  have nbt : b ≠ t := Exa.neArv Eb Vt (w55 C)
  obtain ⟨Ea, Ca, pa, u, ku, Fa, Va0⟩ := id Sa
  have Va : Arv Z h0 u ku .byte (Int32.ofNat cs.length) ((cs.map fun c => c.toInt8.toInt32).map Value.int) vZ := Va0
  have la : ltN a h0.size := Ea.lt
  have lu : ltN u h0.size := Va.lt
  have nab : a ≠ b := Exa.ne Ea Eb (by decide)
  have nub : u ≠ b := Ne.symm (Exa.neArv Eb Va (w55 C))
  have hl_cs : cs.length ≤ 4000 := by omega
  refine go (g' := (mkF m 2 #[vR b, vI (Int32.ofNat ds.length), vR a] [(.ref a), (.ref b)])) (fun _ k => XS.aloadN W0.here hx rfl (hb hby d31_0) rfl rfl (XS.aloadN W0.here hx rfl (hb hby d31_1) rfl rfl k)) ?_
  obtain ⟨v1, so1, vm1, T1, h1, W1, C1, q1, hso1, st1⟩ := own_virtual W0 hx (w107 C) (own_decl (w108 C) (w111 C)) (w110 C) (w108 C) (w64 C) (w111 C) (by decide) (own_nf W0 (w110 C)) Eb (rm_ifn00 C h0 b Eb Fc a Ea Ca) (fun _ q => nomatch q) (Wd := 0) (nle rfl) (nle rfl) (nle rfl) (nle rfl) (g := (mkF m 2 #[vR b, vI (Int32.ofNat ds.length), vR a] [(.ref a), (.ref b)])) rfl (by rw [hml]; rfl) (argsL := [(.ref a)]) (rest := []) (lenOf pd_20 rfl) rfl rfl (nle rfl) (hb hby d31_2)
  obtain ⟨rfl, rfl⟩ := q1
  have S1_t : Safe Z own_EL vm1 h0 t := C1.safe (olt (by omega)) (S0 _ (own_mi (i := 0) rfl))
  refine go (g' := (mkF m 5 #[vR b, vI (Int32.ofNat ds.length), vR a] [])) (st1) ?_
  refine go (g' := (mkF m 7 #[vR b, vI (Int32.ofNat ds.length), vR a] [(.ref b), (.ref a)])) (fun _ k => XS.aloadN W1.here hx rfl (hb hby d31_5) rfl rfl (XS.aloadN W1.here hx rfl (hb hby d31_6) rfl rfl k)) ?_
  obtain ⟨T2, W2, st2⟩ := own_get W1 hx (host := "") (Or.inl (w68 C)) Via.refl Fv (g := (mkF m 7 #[vR b, vI (Int32.ofNat ds.length), vR a] [(.ref b), (.ref a)])) rfl rfl (hb hby d31_7)
  refine go (g' := (mkF m 10 #[vR b, vI (Int32.ofNat ds.length), vR a] [(.ref t), (.ref a)])) (st2) ?_
  refine go (g' := (mkF m 12 #[vR b, vI (Int32.ofNat ds.length), vR a] [(.ref b), (.int (Int32.ofNat ds.length)), (.ref t), (.ref a)])) (fun _ k => XS.iloadN W2.here hx rfl (hb hby d31_10) rfl (XS.aloadN W2.here hx rfl (hb hby d31_11) rfl rfl k)) ?_
  obtain ⟨T3, W3, st3⟩ := own_get W2 hx (host := "") (Or.inl (w70 C)) Via.refl Fc (g := (mkF m 12 #[vR b, vI (Int32.ofNat ds.length), vR a] [(.ref b), (.int (Int32.ofNat ds.length)), (.ref t), (.ref a)])) rfl rfl (hb hby d31_12)
  refine go (g' := (mkF m 15 #[vR b, vI (Int32.ofNat ds.length), vR a] [vZ, (.int (Int32.ofNat ds.length)), (.ref t), (.ref a)])) (st3) ?_
  obtain ⟨v4, so4, vm4, T4, h4, W4, C4, q4, hso4, st4⟩ := own_virtual W3 hx (w113 C) (w114 C) (w116 C) (w115 C) (w3 C) (w117 C) (by decide) (own_nf W3 (w116 C)) Ea (rm_gbl C h0 a cs Sa t kt ds l1 Vt (by omega)) (allS S1_t all0) (Wd := 0) (nle rfl) (nle rfl) (nle rfl) (nle rfl) (g := (mkF m 15 #[vR b, vI (Int32.ofNat ds.length), vR a] [vZ, (.int (Int32.ofNat ds.length)), (.ref t), (.ref a)])) rfl (by rw [hml]; rfl) (argsL := [(.ref t), (.int (Int32.ofNat ds.length)), vZ]) (rest := []) (lenOf pd_21 rfl) rfl rfl (nle rfl) (hb hby d31_15)
  obtain ⟨rfl, K4, V4⟩ := q4
  have z5 : h0.size ≤ h4.size := K4.1
  have S4_t : Safe Z own_EL vm4 h4 t := C4.safe (olt (by omega)) S1_t
  refine go (g' := (mkF m 18 #[vR b, vI (Int32.ofNat ds.length), vR a] [])) (st4) ?_
  have KK6 : Keep h0 h4 [t] := ((Keep.refl h0 [t]).trans K4 (allS (Or.inl (own_mi (i := 0) rfl)) all0))
  exact fin (v := none) (so := []) W4 (nle rfl) (nle rfl) (⟨rfl, KK6, V4⟩) (fun _ q => nomatch q) (fun _ => rfl) (own_retV W4 hx hret (hb hby d31_18))
theorem rm_ap00 (C : Cx Z a0) (h0 : Heap) (b t : Addr) (kt : ClassId) (ds : List Int32) (a : Addr) (cs : List Int32) (Sa : Str Z h0 a cs) (l1 : ds.length + cs.length ≤ 16) (Bb : Bl Z h0 b t kt ds) (nb : Z.heap.size ≤ b) (nt : Z.heap.size ≤ t) :
    Ct l Z a0 own_EL (⟨"java/lang/AbstractStringBuilder", "append", "(Ljava/lang/String;)Ljava/lang/AbstractStringBuilder;"⟩ : MethodName) jdk_68_method_22_code 3 (Option.some (Jvm.ClassFile.FieldType.object "java/lang/AbstractStringBuilder")) [] (rmm 3 0 0 59) #[(.ref b), (.ref a)] h0 [t] (fun v h so => v = some (.ref b) ∧ Keep h0 h [b, t] ∧ Bl Z h b t kt (ds ++ (cs.map fun c => c.toInt8.toInt32))) := by
  refine own_enter (plainFor_of_name pn_2) C.ew (F0 := fun m => mkF m 0 #[vR b, vR a, .unset] []) (fun m => by first | (simp [entryFrame, mkF, argsToLocals, Value.category]; done) | rfl) ?_
  intro p e s m below meth c s₁ G hx hby hml hret hnm W0 S0 go fin
  have z0 := W0.sz
  show G s₁ (mkF m 0 #[vR b, vR a, .unset] [])
  obtain ⟨Eb, Fv, Fc, Fn, Fm, Vt⟩ := id Bb
  have lt : ltN t h0.size := Vt.lt
  have lb : ltN b h0.size := Eb.lt
  have nbt : b ≠ t := Exa.neArv Eb Vt (w55 C)
  obtain ⟨Ea, Ca, pa, u, ku, Fa, Va0⟩ := id Sa
  have Va : Arv Z h0 u ku .byte (Int32.ofNat cs.length) ((cs.map fun c => c.toInt8.toInt32).map Value.int) vZ := Va0
  have la : ltN a h0.size := Ea.lt
  have lu : ltN u h0.size := Va.lt
  have nab : a ≠ b := Exa.ne Ea Eb (by decide)
  have nub : u ≠ b := Ne.symm (Exa.neArv Eb Va (w55 C))
  have hl_cs : cs.length ≤ 4000 := by omega
  refine go (g' := (mkF m 10 #[vR b, vR a, .unset] [(.ref a)])) (fun _ k => XS.aloadN W0.here hx rfl (hb hby d32_0) rfl rfl (XS.ifnonnullYes W0.here hx rfl (pc0 := 1) (pc' := 9) rfl (hb hby d32_1) rfl (by decide) (by decide) (XS.aloadN W0.here hx rfl (hb hby d32_9) rfl rfl k))) ?_
  obtain ⟨v1, so1, vm1, T1, h1, W1, C1, q1, hso1, st1⟩ := own_virtual W0 hx (w85 C) (w86 C) (w88 C) (w87 C) (w3 C) (w89 C) (by decide) (own_nf W0 (w88 C)) Ea (rm_lenl C h0 a cs Sa hl_cs) (fun _ q => nomatch q) (Wd := 0) (nle rfl) (nle rfl) (nle rfl) (nle rfl) (g := (mkF m 10 #[vR b, vR a, .unset] [(.ref a)])) rfl (by rw [hml]; rfl) (argsL := []) (rest := []) (lenOf pd_22 rfl) rfl rfl (nle rfl) (hb hby d32_10)
  obtain ⟨rfl, rfl⟩ := q1
  have S1_t : Safe Z own_EL vm1 h0 t := C1.safe (olt (by omega)) (S0 _ (own_mi (i := 0) rfl))
  refine go (g' := (mkF m 13 #[vR b, vR a, .unset] [(.int (Int32.ofNat cs.length))])) (st1) ?_
  refine go (g' := (mkF m 16 #[vR b, vR a, vI (Int32.ofNat cs.length)] [(.ref b), (.ref b)])) (fun _ k => XS.istoreN W1.here hx rfl (hb hby d32_13) rfl (l' := #[vR b, vR a, vI (Int32.ofNat cs.length)]) rfl (XS.aloadN W1.here hx rfl (hb hby d32_14) rfl rfl (XS.aloadN W1.here hx rfl (hb hby d32_15) rfl rfl k))) ?_
  obtain ⟨T2, W2, st2⟩ := own_get W1 hx (host := "") (Or.inl (w95 C)) Via.refl Fn (g := (mkF m 16 #[vR b, vR a, vI (Int32.ofNat cs.length)] [(.ref b), (.ref b)])) rfl rfl (hb hby d32_16)
  refine go (g' := (mkF m 19 #[vR b, vR a, vI (Int32.ofNat cs.length)] [(.int (Int32.ofNat ds.length)), (.ref b)])) (st2) ?_
  refine go (g' := (mkF m 21 #[vR b, vR a, vI (Int32.ofNat cs.length)] [(.int ((Int32.ofNat ds.length) + (Int32.ofNat cs.length))), (.ref b)])) (fun _ k => XS.iloadN W2.here hx rfl (hb hby d32_19) rfl (XS.iadd W2.here hx rfl (hb hby d32_20) rfl k)) ?_
  rw [show ((Int32.ofNat ds.length) + (Int32.ofNat cs.length)) = (Int32.ofNat (ds.length + cs.length)) from own_addn ds.length cs.length]
  obtain ⟨v3, so3, vm3, T3, h3, W3, C3, q3, hso3, st3⟩ := own_virtual W2 hx (w97 C) (own_decl (w98 C) (w101 C)) (w100 C) (w98 C) (w64 C) (w101 C) (by decide) (own_nf W2 (w100 C)) Eb (rm_ens0 C h0 b t kt _ (ds.length + cs.length) l1 Fv Fc Vt) (fun _ q => nomatch q) (Wd := 0) (nle rfl) (nle rfl) (nle rfl) (nle rfl) (g := (mkF m 21 #[vR b, vR a, vI (Int32.ofNat cs.length)] [(.int (Int32.ofNat (ds.length + cs.length))), (.ref b)])) rfl (by rw [hml]; rfl) (argsL := [(.int (Int32.ofNat (ds.length + cs.length)))]) (rest := []) (lenOf pd_8 rfl) rfl rfl (nle rfl) (hb hby d32_21)
  obtain ⟨rfl, rfl⟩ := q3
  have S3_t : Safe Z own_EL vm3 h0 t := C3.safe (olt (by omega)) S1_t
  refine go (g' := (mkF m 24 #[vR b, vR a, vI (Int32.ofNat cs.length)] [])) (st3) ?_
  refine go (g' := (mkF m 26 #[vR b, vR a, vI (Int32.ofNat cs.length)] [(.ref b), (.ref b)])) (fun _ k => XS.aloadN W3.here hx rfl (hb hby d32_24) rfl rfl (XS.aloadN W3.here hx rfl (hb hby d32_25) rfl rfl k)) ?_
  obtain ⟨T4, W4, st4⟩ := own_get W3 hx (host := "") (Or.inl (w95 C)) Via.refl Fn (g := (mkF m 26 #[vR b, vR a, vI (Int32.ofNat cs.length)] [(.ref b), (.ref b)])) rfl rfl (hb hby d32_26)
  refine go (g' := (mkF m 29 #[vR b, vR a, vI (Int32.ofNat cs.length)] [(.int (Int32.ofNat ds.length)), (.ref b)])) (st4) ?_
  refine go (g' := (mkF m 30 #[vR b, vR a, vI (Int32.ofNat cs.length)] [(.ref a), (.int (Int32.ofNat ds.length)), (.ref b)])) (fun _ k => XS.aloadN W4.here hx rfl (hb hby d32_29) rfl rfl k) ?_
  obtain ⟨v5, so5, vm5, T5, h5, W5, C5, q5, hso5, st5⟩ := own_virtual W4 hx (w102 C) (own_decl (w103 C) (w106 C)) (w105 C) (w103 C) (w64 C) (w106 C) (by decide) (own_nf W4 (w105 C)) Eb (rm_ps00 C h0 b t kt ds a cs Sa l1 Bb (by omega) (by omega)) (allS S3_t all0) (Wd := 0) (nle rfl) (nle rfl) (nle rfl) (nle rfl) (g := (mkF m 30 #[vR b, vR a, vI (Int32.ofNat cs.length)] [(.ref a), (.int (Int32.ofNat ds.length)), (.ref b)])) rfl (by rw [hml]; rfl) (argsL := [(.int (Int32.ofNat ds.length)), (.ref a)]) (rest := []) (lenOf pd_23 rfl) rfl rfl (nle rfl) (hb hby d32_30)
  obtain ⟨rfl, K5, V5⟩ := q5
  have z6 : h0.size ≤ h5.size := K5.1
  have S5_t : Safe Z own_EL vm5 h5 t := C5.safe (olt (by omega)) S3_t
  refine go (g' := (mkF m 33 #[vR b, vR a, vI (Int32.ofNat cs.length)] [])) (st5) ?_
  refine go (g' := (mkF m 35 #[vR b, vR a, vI (Int32.ofNat cs.length)] [(.ref b), (.ref b)])) (fun _ k => XS.aloadN W5.here hx rfl (hb hby d32_33) rfl rfl (XS.dup W5.here hx rfl (hb hby d32_34) rfl rfl k)) ?_
  have f7 := Fn.keep K5 (ninS nbt nin0)
  obtain ⟨T8, W8, st8⟩ := own_get W5 hx (host := "") (Or.inl (w95 C)) Via.refl f7 (g := (mkF m 35 #[vR b, vR a, vI (Int32.ofNat cs.length)] [(.ref b), (.ref b)])) rfl rfl (hb hby d32_35)
  refine go (g' := (mkF m 38 #[vR b, vR a, vI (Int32.ofNat cs.length)] [(.int (Int32.ofNat ds.length)), (.ref b)])) (st8) ?_
  refine go (g' := (mkF m 40 #[vR b, vR a, vI (Int32.ofNat cs.length)] [(.int ((Int32.ofNat ds.length) + (Int32.ofNat cs.length))), (.ref b)])) (fun _ k => XS.iloadN W8.here hx rfl (hb hby d32_38) rfl (XS.iadd W8.here hx rfl (hb hby d32_39) rfl k)) ?_
  rw [show ((Int32.ofNat ds.length) + (Int32.ofNat cs.length)) = (Int32.ofNat (ds.length + cs.length)) from own_addn ds.length cs.length]
  have f9 := Eb.keep K5
  obtain ⟨T10, h10, W10, R10, F10, st10⟩ := own_put W8 hx (host := "") (Or.inl (w95 C)) Via.refl f7 f9 (Or.inl (w96 C)) (w55 C) (ty := .int) (by decide) rfl rfl (own_safeE W8 f9 (by decide) (by decide)) (by omega) (g := (mkF m 40 #[vR b, vR a, vI (Int32.ofNat cs.length)] [(.int (Int32.ofNat (ds.length + cs.length))), (.ref b)])) rfl rfl (hb hby d32_40)
  have f11 := Fv.keep K5 (ninS nbt nin0)
  have f12 := Fc.keep K5 (ninS nbt nin0)
  have f13 := Fm.keep K5 (ninS nbt nin0)
  have z14 : h10.size = h5.size := R10.size
  have f15 := f9.wr R10
  have f16 := f11.other R10 (Or.inr (slot_ne (Or.inl (w69 C)) (Or.inl (w96 C)) (by decide) (t := (.array .byte)) (t' := .int) (by decide) (by decide)))
  have f17 := f12.other R10 (Or.inr (slot_ne (Or.inl (w71 C)) (Or.inl (w96 C)) (by decide) (t := .byte) (t' := .int) (by decide) (by decide)))
  have f18 := f13.other R10 (Or.inr (slot_ne (Or.inl (w245 C)) (Or.inl (w96 C)) (by decide) (t := .boolean) (t' := .int) (by decide) (by decide)))
  have S10_t : Safe Z own_EL vm5 h10 t := Safe.wr R10 (own_safeE W8 f9 (by decide) (by decide)) W8.ch S5_t
  refine go (g' := (mkF m 43 #[vR b, vR a, vI (Int32.ofNat cs.length)] [])) (st10) ?_
  refine go (g' := (mkF m 44 #[vR b, vR a, vI (Int32.ofNat cs.length)] [(.ref b)])) (fun _ k => XS.aloadN W10.here hx rfl (hb hby d32_43) rfl rfl k) ?_
  have KK19 : Keep h0 h10 [b, t] := (((Keep.refl h0 [b, t]).trans K5 (allS (Or.inl (own_mi (i := 1) rfl)) all0)).wr R10 (Or.inl (own_mi (i := 0) rfl)))
  have f20 := V5.other R10 (Ne.symm nbt)
  exact fin (v := some (.ref b)) (so := []) W10 (nle rfl) (nle rfl) (⟨rfl, KK19, ⟨f15, f16, f17, own_cntA F10, f18, f20⟩⟩) (fun _ q => nomatch q) (fun q => nomatch q) (own_retA W10 hx hret rfl rfl rfl (hb hby d32_44))
theorem rm_sap00 (C : Cx Z a0) (h0 : Heap) (b t : Addr) (kt : ClassId) (ds : List Int32) (a : Addr) (cs : List Int32) (Sa : Str Z h0 a cs) (l1 : ds.length + cs.length ≤ 16) (Bb : Bl Z h0 b t kt ds) (nb : Z.heap.size ≤ b) (nt : Z.heap.size ≤ t) :
    Ct l Z a0 own_EL (⟨"java/lang/StringBuilder", "append", "(Ljava/lang/String;)Ljava/lang/StringBuilder;"⟩ : MethodName) jdk_67_method_7_code 2 (Option.some (Jvm.ClassFile.FieldType.object "java/lang/StringBuilder")) [] (rmm 4 0 0 73) #[(.ref b), (.ref a)] h0 [t] (fun v h so => v = some (.ref b) ∧ Keep h0 h [b, t] ∧ Bl Z h b t kt (ds ++ (cs.map fun c => c.toInt8.toInt32))) := by
  refine own_enter (plainFor_of_name pn_3) C.ew (F0 := fun m => mkF m 0 #[vR b, vR a] []) (fun m => by first | (simp [entryFrame, mkF, argsToLocals, Value.category]; done) | rfl) ?_
  intro p e s m below meth c s₁ G hx hby hml hret hnm W0 S0 go fin
  have z0 := W0.sz
  show G s₁ (mkF m 0 #[vR b, vR a] [])
  obtain ⟨Eb, Fv, Fc, Fn, Fm, Vt⟩ := id Bb
  have lt : ltN t h0.size := Vt.lt
  have lb : ltN b h0.size := Eb.lt
  have nbt : b ≠ t := Exa.neArv Eb Vt (w55 C)
  obtain ⟨Ea, Ca, pa, u, ku, Fa, Va0⟩ := id Sa
  have Va : Arv Z h0 u ku .byte (Int32.ofNat cs.length) ((cs.map fun c => c.toInt8.toInt32).map Value.int) vZ := Va0
  have la : ltN a h0.size := Ea.lt
  have lu : ltN u h0.size := Va.lt
  have nab : a ≠ b := Exa.ne Ea Eb (by decide)
  have nub : u ≠ b := Ne.symm (Exa.neArv Eb Va (w55 C))
  have hl_cs : cs.length ≤ 4000 := by omega
  refine go (g' := (mkF m 2 #[vR b, vR a] [(.ref a), (.ref b)])) (fun _ k => XS.aloadN W0.here hx rfl (hb hby d33_0) rfl rfl (XS.aloadN W0.here hx rfl (hb hby d33_1) rfl rfl k)) ?_
  obtain ⟨v1, so1, vm1, T1, h1, W1, C1, q1, hso1, st1⟩ := own_super W0 hx (y := (⟨"java/lang/AbstractStringBuilder", "append", "(Ljava/lang/String;)Ljava/lang/AbstractStringBuilder;"⟩ : MethodName)) (w80 C) (own_sameM (y := (⟨"java/lang/AbstractStringBuilder", "append", "(Ljava/lang/String;)Ljava/lang/AbstractStringBuilder;"⟩ : MethodName)) (w83 C) (w100 C) rfl (by decide)) (w81 C) (w82 C) (by decide) (w64 C) (w84 C) (Ins.self Eb) (rm_ap00 C h0 b t kt ds a cs Sa l1 Bb (by omega) (by omega)) (allS (S0 _ (own_mi (i := 0) rfl)) all0) (Wd := 0) (nle rfl) (nle rfl) (nle rfl) (nle rfl) (g := (mkF m 2 #[vR b, vR a] [(.ref a), (.ref b)])) rfl (by rw [hml]; rfl) (argsL := [(.ref a)]) (rest := []) (lenOf pd_24 rfl) rfl rfl (nle rfl) (hb hby d33_2)
  obtain ⟨rfl, K1, B1⟩ := q1
  have z2 : h0.size ≤ h1.size := K1.1
  have S1_t : Safe Z own_EL vm1 h1 t := C1.safe (olt (by omega)) (S0 _ (own_mi (i := 0) rfl))
  refine go (g' := (mkF m 5 #[vR b, vR a] [(.ref b)])) (st1) ?_
  refine go (g' := (mkF m 7 #[vR b, vR a] [(.ref b)])) (fun _ k => XS.pop W1.here hx rfl (hb hby d33_5) rfl rfl (XS.aloadN W1.here hx rfl (hb hby d33_6) rfl rfl k)) ?_
  have KK3 : Keep h0 h1 [b, t] := ((Keep.refl h0 [b, t]).trans K1 (allS (Or.inl (own_mi (i := 0) rfl)) (allS (Or.inl (own_mi (i := 1) rfl)) all0)))
  exact fin (v := some (.ref b)) (so := []) W1 (nle rfl) (nle rfl) (⟨rfl, KK3, B1⟩) (fun _ q => nomatch q) (fun q => nomatch q) (own_retA W1 hx hret rfl rfl rfl (hb hby d33_7))
theorem rm_ps01 (C : Cx Z a0) (h0 : Heap) (b t : Addr) (kt : ClassId) (ds : List Int32) (hd : ds = [(60 : Int32)] ∨ ds = [(60 : Int32), (47 : Int32)]) (a : Addr) (cs : List Int32) (Sa : StrW Z h0 a cs) (l1 : ds.length + cs.length ≤ 16) (Bb : Bl Z h0 b t kt ds) (nb : Z.heap.size ≤ b) (nt : Z.heap.size ≤ t) :
    Ct l Z a0 own_EL (⟨"java/lang/AbstractStringBuilder", "putStringAt", "(ILjava/lang/String;)V"⟩ : MethodName) jdk_68_method_73_code 3 (Option.none : Option Jvm.ClassFile.FieldType) [] (rmm 7 1 32 102) #[(.ref b), (.int (Int32.ofNat ds.length)), (.ref a)] h0 [] (fun v h so => v = none ∧ Keep h0 h [b] ∧ ∃ (t' : Addr) (kt' : ClassId), so = [t'] ∧ h0.size ≤ t' ∧ Exa Z h b "java/lang/StringBuilder" ∧ Fld Z h b "java/lang/AbstractStringBuilder" "value" "[B" (.ref t') ∧ Fld Z h b "java/lang/AbstractStringBuilder" "coder" "B" (.int (1 : Int32)) ∧ Fld Z h b "java/lang/AbstractStringBuilder" "count" "I" (.int (Int32.ofNat ds.length)) ∧ Fld Z h b "java/lang/AbstractStringBuilder" "maybeLatin1" "Z" vZ ∧ Arv Z h t' kt' .byte (32 : Int32) (wb (ds ++ cs)) vZ) := by
  refine own_enter (plainFor_of_name pn_2) C.ew (F0 := fun m => mkF m 0 #[vR b, vI (Int32.ofNat ds.length), vR a] []) (fun m => by first | (simp [entryFrame, mkF, argsToLocals, Value.category]; done) | rfl) ?_
  intro p e s m below meth c s₁ G hx hby hml hret hnm W0 S0 go fin
  have z0 := W0.sz
  show G s₁ (mkF m 0 #[vR b, vI (Int32.ofNat ds.length), vR a] [])
  obtain ⟨Eb, Fv, Fc, Fn, Fm, Vt⟩ := id Bb
  have lt : ltN t h0.size := Vt.lt
  have lb : ltN b h0.size := Eb.lt
  have nbt : b ≠ t := Exa.neArv Eb Vt (w55 C)
  obtain ⟨Ea, Ca, pa, u, ku, Fa, Va⟩ := id Sa
  have la : ltN a h0.size := Ea.lt
  have lu : ltN u h0.size := Va.lt
  have nab : a ≠ b := Exa.ne Ea Eb (by decide)
  have nub : u ≠ b := Ne.symm (Exa.neArv Eb Va (w55 C))
  have hl_cs : cs.length ≤ 4000 := by omega
  refine go (g' := (mkF m 2 #[vR b, vI (Int32.ofNat ds.length), vR a] [(.ref a), (.ref b)])) (fun _ k => XS.aloadN W0.here hx rfl (hb hby d31_0) rfl rfl (XS.aloadN W0.here hx rfl (hb hby d31_1) rfl rfl k)) ?_
  obtain ⟨v1, so1, vm1, T1, h1, W1, C1, q1, hso1, st1⟩ := own_virtual W0 hx (w107 C) (own_decl (w108 C) (w111 C)) (w110 C) (w108 C) (w64 C) (w111 C) (by decide) (own_nf W0 (w110 C)) Eb (rm_ifn01 C h0 b t kt ds hd Bb (by omega) a Ea Ca) (fun _ q => nomatch q) (Wd := 0) (nle rfl) (nle rfl) (nle rfl) (nle rfl) (g := (mkF m 2 #[vR b, vI (Int32.ofNat ds.length), vR a] [(.ref a), (.ref b)])) rfl (by rw [hml]; rfl) (argsL := [(.ref a)]) (rest := []) (lenOf pd_20 rfl) rfl rfl (nle rfl) (hb hby d31_2)
  obtain ⟨rfl, K1, t1, k1, rfl, g1, B1⟩ := q1
  have z2 : h0.size ≤ h1.size := K1.1
  have lt1 : ltN t1 h1.size := B1.2.2.2.2.2.lt
  obtain ⟨oE3, oV3, oC3, oN3, oM3, oA3⟩ := id B1
  have f5 := Ea.keep K1
  have f6 := Ca.keep K1 (ninS nab nin0)
  have f7 := Fa.keep K1 (ninS nab nin0)
  have f8 := Va.keep K1 (ninS nub nin0)
  have SW4 : StrW Z h1 a cs := ⟨f5, f6, pa, _, _, f7, f8⟩
  refine go (g' := (mkF m 5 #[vR b, vI (Int32.ofNat ds.length), vR a] [])) (st1) ?_
  refine go (g' := (mkF m 7 #[vR b, vI (Int32.ofNat ds.length), vR a] [(.ref b), (.ref a)])) (fun _ k => XS.aloadN W1.here hx rfl (hb hby d31_5) rfl rfl (XS.aloadN W1.here hx rfl (hb hby d31_6) rfl rfl k)) ?_
  obtain ⟨T9, W9, st9⟩ := own_get W1 hx (host := "") (Or.inl (w68 C)) Via.refl oV3 (g := (mkF m 7 #[vR b, vI (Int32.ofNat ds.length), vR a] [(.ref b), (.ref a)])) rfl rfl (hb hby d31_7)
  refine go (g' := (mkF m 10 #[vR b, vI (Int32.ofNat ds.length), vR a] [(.ref t1), (.ref a)])) (st9) ?_
  refine go (g' := (mkF m 12 #[vR b, vI (Int32.ofNat ds.length), vR a] [(.ref b), (.int (Int32.ofNat ds.length)), (.ref t1), (.ref a)])) (fun _ k => XS.iloadN W9.here hx rfl (hb hby d31_10) rfl (XS.aloadN W9.here hx rfl (hb hby d31_11) rfl rfl k)) ?_
  obtain ⟨T10, W10, st10⟩ := own_get W9 hx (host := "") (Or.inl (w70 C)) Via.refl oC3 (g := (mkF m 12 #[vR b, vI (Int32.ofNat ds.length), vR a] [(.ref b), (.int (Int32.ofNat ds.length)), (.ref t1), (.ref a)])) rfl rfl (hb hby d31_12)
  refine go (g' := (mkF m 15 #[vR b, vI (Int32.ofNat ds.length), vR a] [(.int (1 : Int32)), (.int (Int32.ofNat ds.length)), (.ref t1), (.ref a)])) (st10) ?_
  obtain ⟨v11, so11, vm11, T11, h11, W11, C11, q11, hso11, st11⟩ := own_virtual W10 hx (w113 C) (w114 C) (w116 C) (w115 C) (w3 C) (w117 C) (by decide) (own_nf W10 (w116 C)) f5 (rm_gbw C h1 a cs SW4 t1 k1 ds l1 oA3 (by omega)) (allS (hso1 _ (own_mi (i := 0) rfl)) all0) (Wd := 0) (nle rfl) (nle rfl) (nle rfl) (nle rfl) (g := (mkF m 15 #[vR b, vI (Int32.ofNat ds.length), vR a] [(.int (1 : Int32)), (.int (Int32.ofNat ds.length)), (.ref t1), (.ref a)])) rfl (by rw [hml]; rfl) (argsL := [(.ref t1), (.int (Int32.ofNat ds.length)), (.int (1 : Int32))]) (rest := []) (lenOf pd_21 rfl) rfl rfl (nle rfl) (hb hby d31_15)
  obtain ⟨rfl, K11, V11⟩ := q11
  have z12 : h1.size ≤ h11.size := K11.1
  have S11_t1 : Safe Z own_EL vm11 h11 t1 := C11.safe (olt (by omega)) (hso1 _ (own_mi (i := 0) rfl))
  refine go (g' := (mkF m 18 #[vR b, vI (Int32.ofNat ds.length), vR a] [])) (st11) ?_
  have KK13 : Keep h0 h11 [b] := (((Keep.refl h0 [b]).trans K1 (allS (Or.inl (own_mi (i := 0) rfl)) all0)).trans K11 (allS (Or.inr (by omega)) all0))
  have f14 := oE3.keep K11
  have l16 : ltN b h1.size := oV3.lt
  have f15 := oV3.keep K11 (ninS (one (by omega)) nin0)
  have l18 : ltN b h1.size := oC3.lt
  have f17 := oC3.keep K11 (ninS (one (by omega)) nin0)
  have l20 : ltN b h1.size := oN3.lt
  have f19 := oN3.keep K11 (ninS (one (by omega)) nin0)
  have l22 : ltN b h1.size := oM3.lt
  have f21 := oM3.keep K11 (ninS (one (by omega)) nin0)
  exact fin (v := none) (so := [t1]) W11 (nle rfl) (nle rfl) (⟨rfl, KK13, _, _, rfl, by omega, f14, f15, f17, f19, f21, V11⟩) (allS S11_t1 all0) (fun _ => rfl) (own_retV W11 hx hret (hb hby d31_18))
theorem rm_ap01 (C : Cx Z a0) (h0 : Heap) (b t : Addr) (kt : ClassId) (ds : List Int32) (hd : ds = [(60 : Int32)] ∨ ds = [(60 : Int32), (47 : Int32)]) (a : Addr) (cs : List Int32) (Sa : StrW Z h0 a cs) (l1 : ds.length + cs.length ≤ 16) (Bb : Bl Z h0 b t kt ds) (nb : Z.heap.size ≤ b) (nt : Z.heap.size ≤ t) :
    Ct l Z a0 own_EL (⟨"java/lang/AbstractStringBuilder", "append", "(Ljava/lang/String;)Ljava/lang/AbstractStringBuilder;"⟩ : MethodName) jdk_68_method_22_code 3 (Option.some (Jvm.ClassFile.FieldType.object "java/lang/AbstractStringBuilder")) [] (rmm 8 1 32 116) #[(.ref b), (.ref a)] h0 [] (fun v h so => v = some (.ref b) ∧ Keep h0 h [b] ∧ ∃ (t' : Addr) (kt' : ClassId), so = [t'] ∧ h0.size ≤ t' ∧ Bw Z h b t' kt' (ds ++ cs)) := by
  refine own_enter (plainFor_of_name pn_2) C.ew (F0 := fun m => mkF m 0 #[vR b, vR a, .unset] []) (fun m => by first | (simp [entryFrame, mkF, argsToLocals, Value.category]; done) | rfl) ?_
  intro p e s m below meth c s₁ G hx hby hml hret hnm W0 S0 go fin
  have z0 := W0.sz
  show G s₁ (mkF m 0 #[vR b, vR a, .unset] [])
  obtain ⟨Eb, Fv, Fc, Fn, Fm, Vt⟩ := id Bb
  have lt : ltN t h0.size := Vt.lt
  have lb : ltN b h0.size := Eb.lt
  have nbt : b ≠ t := Exa.neArv Eb Vt (w55 C)
  obtain ⟨Ea, Ca, pa, u, ku, Fa, Va⟩ := id Sa
  have la : ltN a h0.size := Ea.lt
  have lu : ltN u h0.size := Va.lt
  have nab : a ≠ b := Exa.ne Ea Eb (by decide)
  have nub : u ≠ b := Ne.symm (Exa.neArv Eb Va (w55 C))
  have hl_cs : cs.length ≤ 4000 := by omega
  refine go (g' := (mkF m 10 #[vR b, vR a, .unset] [(.ref a)])) (fun _ k => XS.aloadN W0.here hx rfl (hb hby d32_0) rfl rfl (XS.ifnonnullYes W0.here hx rfl (pc0 := 1) (pc' := 9) rfl (hb hby d32_1) rfl (by decide) (by decide) (XS.aloadN W0.here hx rfl (hb hby d32_9) rfl rfl k))) ?_
  obtain ⟨v1, so1, vm1, T1, h1, W1, C1, q1, hso1, st1⟩ := own_virtual W0 hx (w85 C) (w86 C) (w88 C) (w87 C) (w3 C) (w89 C) (by decide) (own_nf W0 (w88 C)) Ea (rm_lenw C h0 a cs Sa hl_cs) (fun _ q => nomatch q) (Wd := 0) (nle rfl) (nle rfl) (nle rfl) (nle rfl) (g := (mkF m 10 #[vR b, vR a, .unset] [(.ref a)])) rfl (by rw [hml]; rfl) (argsL := []) (rest := []) (lenOf pd_22 rfl) rfl rfl (nle rfl) (hb hby d32_10)
  obtain ⟨rfl, rfl⟩ := q1
  refine go (g' := (mkF m 13 #[vR b, vR a, .unset] [(.int (Int32.ofNat cs.length))])) (st1) ?_
  refine go (g' := (mkF m 16 #[vR b, vR a, vI (Int32.ofNat cs.length)] [(.ref b), (.ref b)])) (fun _ k => XS.istoreN W1.here hx rfl (hb hby d32_13) rfl (l' := #[vR b, vR a, vI (Int32.ofNat cs.length)]) rfl (XS.aloadN W1.here hx rfl (hb hby d32_14) rfl rfl (XS.aloadN W1.here hx rfl (hb hby d32_15) rfl rfl k))) ?_
  obtain ⟨T2, W2, st2⟩ := own_get W1 hx (host := "") (Or.inl (w95 C)) Via.refl Fn (g := (mkF m 16 #[vR b, vR a, vI (Int32.ofNat cs.length)] [(.ref b), (.ref b)])) rfl rfl (hb hby d32_16)
  refine go (g' := (mkF m 19 #[vR b, vR a, vI (Int32.ofNat cs.length)] [(.int (Int32.ofNat ds.length)), (.ref b)])) (st2) ?_
  refine go (g' := (mkF m 21 #[vR b, vR a, vI (Int32.ofNat cs.length)] [(.int ((Int32.ofNat ds.length) + (Int32.ofNat cs.length))), (.ref b)])) (fun _ k => XS.iloadN W2.here hx rfl (hb hby d32_19) rfl (XS.iadd W2.here hx rfl (hb hby d32_20) rfl k)) ?_
  rw [show ((Int32.ofNat ds.length) + (Int32.ofNat cs.length)) = (Int32.ofNat (ds.length + cs.length)) from own_addn ds.length cs.length]
  obtain ⟨v3, so3, vm3, T3, h3, W3, C3, q3, hso3, st3⟩ := own_virtual W2 hx (w97 C) (own_decl (w98 C) (w101 C)) (w100 C) (w98 C) (w64 C) (w101 C) (by decide) (own_nf W2 (w100 C)) Eb (rm_ens0 C h0 b t kt _ (ds.length + cs.length) l1 Fv Fc Vt) (fun _ q => nomatch q) (Wd := 0) (nle rfl) (nle rfl) (nle rfl) (nle rfl) (g := (mkF m 21 #[vR b, vR a, vI (Int32.ofNat cs.length)] [(.int (Int32.ofNat (ds.length + cs.length))), (.ref b)])) rfl (by rw [hml]; rfl) (argsL := [(.int (Int32.ofNat (ds.length + cs.length)))]) (rest := []) (lenOf pd_8 rfl) rfl rfl (nle rfl) (hb hby d32_21)
  obtain ⟨rfl, rfl⟩ := q3
  refine go (g' := (mkF m 24 #[vR b, vR a, vI (Int32.ofNat cs.length)] [])) (st3) ?_
  refine go (g' := (mkF m 26 #[vR b, vR a, vI (Int32.ofNat cs.length)] [(.ref b), (.ref b)])) (fun _ k => XS.aloadN W3.here hx rfl (hb hby d32_24) rfl rfl (XS.aloadN W3.here hx rfl (hb hby d32_25) rfl rfl k)) ?_
  obtain ⟨T4, W4, st4⟩ := own_get W3 hx (host := "") (Or.inl (w95 C)) Via.refl Fn (g := (mkF m 26 #[vR b, vR a, vI (Int32.ofNat cs.length)] [(.ref b), (.ref b)])) rfl rfl (hb hby d32_26)
  refine go (g' := (mkF m 29 #[vR b, vR a, vI (Int32.ofNat cs.length)] [(.int (Int32.ofNat ds.length)), (.ref b)])) (st4) ?_
  refine go (g' := (mkF m 30 #[vR b, vR a, vI (Int32.ofNat cs.length)] [(.ref a), (.int (Int32.ofNat ds.length)), (.ref b)])) (fun _ k => XS.aloadN W4.here hx rfl (hb hby d32_29) rfl rfl k) ?_
  obtain ⟨v5, so5, vm5, T5, h5, W5, C5, q5, hso5, st5⟩ := own_virtual W4 hx (w102 C) (own_decl (w103 C) (w106 C)) (w105 C) (w103 C) (w64 C) (w106 C) (by decide) (own_nf W4 (w105 C)) Eb (rm_ps01 C h0 b t kt ds hd a cs Sa l1 Bb (by omega) (by omega)) (fun _ q => nomatch q) (Wd := 0) (nle rfl) (nle rfl) (nle rfl) (nle rfl) (g := (mkF m 30 #[vR b, vR a, vI (Int32.ofNat cs.length)] [(.ref a), (.int (Int32.ofNat ds.length)), (.ref b)])) rfl (by rw [hml]; rfl) (argsL := [(.int (Int32.ofNat ds.length)), (.ref a)]) (rest := []) (lenOf pd_23 rfl) rfl rfl (nle rfl) (hb hby d32_30)
  obtain ⟨rfl, K5, t5, k5, rfl, g5, oE5, oV5, oC5, oN5, oM5, oA5⟩ := q5
  have z6 : h0.size ≤ h5.size := K5.1
  have lt5 : ltN t5 h5.size := oA5.lt
  refine go (g' := (mkF m 33 #[vR b, vR a, vI (Int32.ofNat cs.length)] [])) (st5) ?_
  refine go (g' := (mkF m 35 #[vR b, vR a, vI (Int32.ofNat cs.length)] [(.ref b), (.ref b)])) (fun _ k => XS.aloadN W5.here hx rfl (hb hby d32_33) rfl rfl (XS.dup W5.here hx rfl (hb hby d32_34) rfl rfl k)) ?_
  obtain ⟨T7, W7, st7⟩ := own_get W5 hx (host := "") (Or.inl (w95 C)) Via.refl oN5 (g := (mkF m 35 #[vR b, vR a, vI (Int32.ofNat cs.length)] [(.ref b), (.ref b)])) rfl rfl (hb hby d32_35)
  refine go (g' := (mkF m 38 #[vR b, vR a, vI (Int32.ofNat cs.length)] [(.int (Int32.ofNat ds.length)), (.ref b)])) (st7) ?_
  refine go (g' := (mkF m 40 #[vR b, vR a, vI (Int32.ofNat cs.length)] [(.int ((Int32.ofNat ds.length) + (Int32.ofNat cs.length))), (.ref b)])) (fun _ k => XS.iloadN W7.here hx rfl (hb hby d32_38) rfl (XS.iadd W7.here hx rfl (hb hby d32_39) rfl k)) ?_
  rw [show ((Int32.ofNat ds.length) + (Int32.ofNat cs.length)) = (Int32.ofNat (ds.length + cs.length)) from own_addn ds.length cs.length]
  obtain ⟨T8, h8, W8, R8, F8, st8⟩ := own_put W7 hx (host := "") (Or.inl (w95 C)) Via.refl oN5 oE5 (Or.inl (w96 C)) (w55 C) (ty := .int) (by decide) rfl rfl (own_safeE W7 oE5 (by decide) (by decide)) (by omega) (g := (mkF m 40 #[vR b, vR a, vI (Int32.ofNat cs.length)] [(.int (Int32.ofNat (ds.length + cs.length))), (.ref b)])) rfl rfl (hb hby d32_40)
  have z9 : h8.size = h5.size := R8.size
  have f10 := oE5.wr R8
  have f11 := oV5.other R8 (Or.inr (slot_ne (Or.inl (w69 C)) (Or.inl (w96 C)) (by decide) (t := (.array .byte)) (t' := .int) (by decide) (by decide)))
  have f12 := oC5.other R8 (Or.inr (slot_ne (Or.inl (w71 C)) (Or.inl (w96 C)) (by decide) (t := .byte) (t' := .int) (by decide) (by decide)))
  have f13 := oM5.other R8 (Or.inr (slot_ne (Or.inl (w245 C)) (Or.inl (w96 C)) (by decide) (t := .boolean) (t' := .int) (by decide) (by decide)))
  have S8_t5 : Safe Z own_EL vm5 h8 t5 := Safe.wr R8 (own_safeE W7 oE5 (by decide) (by decide)) W7.ch (hso5 _ (own_mi (i := 0) rfl))
  refine go (g' := (mkF m 43 #[vR b, vR a, vI (Int32.ofNat cs.length)] [])) (st8) ?_
  refine go (g' := (mkF m 44 #[vR b, vR a, vI (Int32.ofNat cs.length)] [(.ref b)])) (fun _ k => XS.aloadN W8.here hx rfl (hb hby d32_43) rfl rfl k) ?_
  have KK14 : Keep h0 h8 [b] := (((Keep.refl h0 [b]).trans K5 (allS (Or.inl (own_mi (i := 0) rfl)) all0)).wr R8 (Or.inl (own_mi (i := 0) rfl)))
  have f15 := oA5.other R8 (one (by omega))
  exact fin (v := some (.ref b)) (so := [t5]) W8 (nle rfl) (nle rfl) (⟨rfl, KK14, _, _, rfl, by omega, ⟨f10, f11, f12, own_cntW F8, f13, f15⟩⟩) (allS S8_t5 all0) (fun q => nomatch q) (own_retA W8 hx hret rfl rfl rfl (hb hby d32_44))
theorem rm_sap01 (C : Cx Z a0) (h0 : Heap) (b t : Addr) (kt : ClassId) (ds : List Int32) (hd : ds = [(60 : Int32)] ∨ ds = [(60 : Int32), (47 : Int32)]) (a : Addr) (cs : List Int32) (Sa : StrW Z h0 a cs) (l1 : ds.length + cs.length ≤ 16) (Bb : Bl Z h0 b t kt ds) (nb : Z.heap.size ≤ b) (nt : Z.heap.size ≤ t) :
    Ct l Z a0 own_EL (⟨"java/lang/StringBuilder", "append", "(Ljava/lang/String;)Ljava/lang/StringBuilder;"⟩ : MethodName) jdk_67_method_7_code 2 (Option.some (Jvm.ClassFile.FieldType.object "java/lang/StringBuilder")) [] (rmm 9 1 32 130) #[(.ref b), (.ref a)] h0 [] (fun v h so => v = some (.ref b) ∧ Keep h0 h [b] ∧ ∃ (t' : Addr) (kt' : ClassId), so = [t'] ∧ h0.size ≤ t' ∧ Bw Z h b t' kt' (ds ++ cs)) := by
  refine own_enter (plainFor_of_name pn_3) C.ew (F0 := fun m => mkF m 0 #[vR b, vR a] []) (fun m => by first | (simp [entryFrame, mkF, argsToLocals, Value.category]; done) | rfl) ?_
  intro p e s m below meth c s₁ G hx hby hml hret hnm W0 S0 go fin
  have z0 := W0.sz
  show G s₁ (mkF m 0 #[vR b, vR a] [])
  obtain ⟨Eb, Fv, Fc, Fn, Fm, Vt⟩ := id Bb
  have lt : ltN t h0.size := Vt.lt
  have lb : ltN b h0.size := Eb.lt
  have nbt : b ≠ t := Exa.neArv Eb Vt (w55 C)
  obtain ⟨Ea, Ca, pa, u, ku, Fa, Va⟩ := id Sa
  have la : ltN a h0.size := Ea.lt
  have lu : ltN u h0.size := Va.lt
  have nab : a ≠ b := Exa.ne Ea Eb (by decide)
  have nub : u ≠ b := Ne.symm (Exa.neArv Eb Va (w55 C))
  have hl_cs : cs.length ≤ 4000 := by omega
  refine go (g' := (mkF m 2 #[vR b, vR a] [(.ref a), (.ref b)])) (fun _ k => XS.aloadN W0.here hx rfl (hb hby d33_0) rfl rfl (XS.aloadN W0.here hx rfl (hb hby d33_1) rfl rfl k)) ?_
  obtain ⟨v1, so1, vm1, T1, h1, W1, C1, q1, hso1, st1⟩ := own_super W0 hx (y := (⟨"java/lang/AbstractStringBuilder", "append", "(Ljava/lang/String;)Ljava/lang/AbstractStringBuilder;"⟩ : MethodName)) (w80 C) (own_sameM (y := (⟨"java/lang/AbstractStringBuilder", "append", "(Ljava/lang/String;)Ljava/lang/AbstractStringBuilder;"⟩ : MethodName)) (w83 C) (w100 C) rfl (by decide)) (w81 C) (w82 C) (by decide) (w64 C) (w84 C) (Ins.self Eb) (rm_ap01 C h0 b t kt ds hd a cs Sa l1 Bb (by omega) (by omega)) (fun _ q => nomatch q) (Wd := 0) (nle rfl) (nle rfl) (nle rfl) (nle rfl) (g := (mkF m 2 #[vR b, vR a] [(.ref a), (.ref b)])) rfl (by rw [hml]; rfl) (argsL := [(.ref a)]) (rest := []) (lenOf pd_24 rfl) rfl rfl (nle rfl) (hb hby d33_2)
  obtain ⟨rfl, K1, t1, k1, rfl, g1, B1⟩ := q1
  have z2 : h0.size ≤ h1.size := K1.1
  have lt1 : ltN t1 h1.size := B1.2.2.2.2.2.lt
  refine go (g' := (mkF m 5 #[vR b, vR a] [(.ref b)])) (st1) ?_
  refine go (g' := (mkF m 7 #[vR b, vR a] [(.ref b)])) (fun _ k => XS.pop W1.here hx rfl (hb hby d33_5) rfl rfl (XS.aloadN W1.here hx rfl (hb hby d33_6) rfl rfl k)) ?_
  have KK3 : Keep h0 h1 [b] := ((Keep.refl h0 [b]).trans K1 (allS (Or.inl (own_mi (i := 0) rfl)) all0))
  exact fin (v := some (.ref b)) (so := [t1]) W1 (nle rfl) (nle rfl) (⟨rfl, KK3, _, _, rfl, by omega, B1⟩) (allS (hso1 _ (own_mi (i := 0) rfl)) all0) (fun q => nomatch q) (own_retA W1 hx hret rfl rfl rfl (hb hby d33_7))
theorem rm_ps10 (C : Cx Z a0) (h0 : Heap) (b t : Addr) (kt : ClassId) (ds : List Int32) (a u : Addr) (ku : ClassId) (Ea : Exa Z h0 a "java/lang/String") (Ca : Fld Z h0 a "java/lang/String" "coder" "B" vZ) (Fa : Fld Z h0 a "java/lang/String" "value" "[B" (.ref u)) (Va : Arv Z h0 u ku .byte (1 : Int32) [(.int (62 : Int32))] vZ) (l1 : ds.length + [(62 : Int32)].length ≤ 16) (Bb : Bw Z h0 b t kt ds) (nb : Z.heap.size ≤ b) (nt : Z.heap.size ≤ t) (nut : u ≠ t) :
    Ct l Z a0 own_EL (⟨"java/lang/AbstractStringBuilder", "putStringAt", "(ILjava/lang/String;)V"⟩ : MethodName) jdk_68_method_73_code 3 (Option.none : Option Jvm.ClassFile.FieldType) [] (rmm 6 0 0 91) #[(.ref b), (.int (Int32.ofNat ds.length)), (.ref a)] h0 [t] (fun v h so => v = none ∧ Keep h0 h [t] ∧ Arv Z h t kt .byte (32 : Int32) (wb (ds ++ [(62 : Int32)])) vZ) := by
  refine own_enter (plainFor_of_name pn_2) C.ew (F0 := fun m => mkF m 0 #[vR b, vI (Int32.ofNat ds.length), vR a] []) (fun m => by first | (simp [entryFrame, mkF, argsToLocals, Value.category]; done) | rfl) ?_
  intro p e s m below meth c s₁ G hx hby hml hret hnm W0 S0 go fin
  have z0 := W0.sz
  show G s₁ (mkF m 0 #[vR b, vI (Int32.ofNat ds.length), vR a] [])
  obtain ⟨Eb, Fv, Fc, Fn, Fm, Vt⟩ := id Bb
  have lt : ltN t h0.size := Vt.lt
  have lb : ltN b h0.size := Eb.lt
  have nbt : b ≠ t := Exa.neArv Eb Vt (w55 C)
  have Sa : Str Z h0 a [(62 : Int32)] := own_litS (cs := [(62 : Int32)]) Ea Ca Fa Va rfl (own_alS ⟨by decide, by decide⟩ own_al0) (by decide)
  have la : ltN a h0.size := Ea.lt
  have lu : ltN u h0.size := Va.lt
  have nab : a ≠ b := Exa.ne Ea Eb (by decide)
  have nub : u ≠ b := Ne.symm (Exa.neArv Eb Va (w55 C))
  have hl_cs : [(62 : Int32)].length ≤ 4000 := by omega
  refine go (g' := (mkF m 2 #[vR b, vI (Int32.ofNat ds.length), vR a] [(.ref a), (.ref b)])) (fun _ k => XS.aloadN W0.here hx rfl (hb hby d31_0) rfl rfl (XS.aloadN W0.here hx rfl (hb hby d31_1) rfl rfl k)) ?_
  obtain ⟨v1, so1, vm1, T1, h1, W1, C1, q1, hso1, st1⟩ := own_virtual W0 hx (w107 C) (own_decl (w108 C) (w111 C)) (w110 C) (w108 C) (w64 C) (w111 C) (by decide) (own_nf W0 (w110 C)) Eb (rm_ifn10 C h0 b Eb Fc a Ea Ca) (fun _ q => nomatch q) (Wd := 0) (nle rfl) (nle rfl) (nle rfl) (nle rfl) (g := (mkF m 2 #[vR b, vI (Int32.ofNat ds.length), vR a] [(.ref a), (.ref b)])) rfl (by rw [hml]; rfl) (argsL := [(.ref a)]) (rest := []) (lenOf pd_20 rfl) rfl rfl (nle rfl) (hb hby d31_2)
  obtain ⟨rfl, rfl⟩ := q1
  have S1_t : Safe Z own_EL vm1 h0 t := C1.safe (olt (by omega)) (S0 _ (own_mi (i := 0) rfl))
  refine go (g' := (mkF m 5 #[vR b, vI (Int32.ofNat ds.length), vR a] [])) (st1) ?_
  refine go (g' := (mkF m 7 #[vR b, vI (Int32.ofNat ds.length), vR a] [(.ref b), (.ref a)])) (fun _ k => XS.aloadN W1.here hx rfl (hb hby d31_5) rfl rfl (XS.aloadN W1.here hx rfl (hb hby d31_6) rfl rfl k)) ?_
  obtain ⟨T2, W2, st2⟩ := own_get W1 hx (host := "") (Or.inl (w68 C)) Via.refl Fv (g := (mkF m 7 #[vR b, vI (Int32.ofNat ds.length), vR a] [(.ref b), (.ref a)])) rfl rfl (hb hby d31_7)
  refine go (g' := (mkF m 10 #[vR b, vI (Int32.ofNat ds.length), vR a] [(.ref t), (.ref a)])) (st2) ?_
  refine go (g' := (mkF m 12 #[vR b, vI (Int32.ofNat ds.length), vR a] [(.ref b), (.int (Int32.ofNat ds.length)), (.ref t), (.ref a)])) (fun _ k => XS.iloadN W2.here hx rfl (hb hby d31_10) rfl (XS.aloadN W2.here hx rfl (hb hby d31_11) rfl rfl k)) ?_
  obtain ⟨T3, W3, st3⟩ := own_get W2 hx (host := "") (Or.inl (w70 C)) Via.refl Fc (g := (mkF m 12 #[vR b, vI (Int32.ofNat ds.length), vR a] [(.ref b), (.int (Int32.ofNat ds.length)), (.ref t), (.ref a)])) rfl rfl (hb hby d31_12)
  refine go (g' := (mkF m 15 #[vR b, vI (Int32.ofNat ds.length), vR a] [(.int (1 : Int32)), (.int (Int32.ofNat ds.length)), (.ref t), (.ref a)])) (st3) ?_
  obtain ⟨v4, so4, vm4, T4, h4, W4, C4, q4, hso4, st4⟩ := own_virtual W3 hx (w113 C) (w114 C) (w116 C) (w115 C) (w3 C) (w117 C) (by decide) (own_nf W3 (w116 C)) Ea (rm_gbi C h0 a u ku Ea Ca Fa Va t kt ds l1 Vt (by omega) nut) (allS S1_t all0) (Wd := 0) (nle rfl) (nle rfl) (nle rfl) (nle rfl) (g := (mkF m 15 #[vR b, vI (Int32.ofNat ds.length), vR a] [(.int (1 : Int32)), (.int (Int32.ofNat ds.length)), (.ref t), (.ref a)])) rfl (by rw [hml]; rfl) (argsL := [(.ref t), (.int (Int32.ofNat ds.length)), (.int (1 : Int32))]) (rest := []) (lenOf pd_21 rfl) rfl rfl (nle rfl) (hb hby d31_15)
  obtain ⟨rfl, K4, V4⟩ := q4
  have z5 : h0.size ≤ h4.size := K4.1
  have S4_t : Safe Z own_EL vm4 h4 t := C4.safe (olt (by omega)) S1_t
  refine go (g' := (mkF m 18 #[vR b, vI (Int32.ofNat ds.length), vR a] [])) (st4) ?_
  have KK6 : Keep h0 h4 [t] := ((Keep.refl h0 [t]).trans K4 (allS (Or.inl (own_mi (i := 0) rfl)) all0))
  exact fin (v := none) (so := []) W4 (nle rfl) (nle rfl) (⟨rfl, KK6, V4⟩) (fun _ q => nomatch q) (fun _ => rfl) (own_retV W4 hx hret (hb hby d31_18))
theorem rm_ap10 (C : Cx Z a0) (h0 : Heap) (b t : Addr) (kt : ClassId) (ds : List Int32) (a u : Addr) (ku : ClassId) (Ea : Exa Z h0 a "java/lang/String") (Ca : Fld Z h0 a "java/lang/String" "coder" "B" vZ) (Fa : Fld Z h0 a "java/lang/String" "value" "[B" (.ref u)) (Va : Arv Z h0 u ku .byte (1 : Int32) [(.int (62 : Int32))] vZ) (l1 : ds.length + [(62 : Int32)].length ≤ 16) (Bb : Bw Z h0 b t kt ds) (nb : Z.heap.size ≤ b) (nt : Z.heap.size ≤ t) (nut : u ≠ t) :
    Ct l Z a0 own_EL (⟨"java/lang/AbstractStringBuilder", "append", "(Ljava/lang/String;)Ljava/lang/AbstractStringBuilder;"⟩ : MethodName) jdk_68_method_22_code 3 (Option.some (Jvm.ClassFile.FieldType.object "java/lang/AbstractStringBuilder")) [] (rmm 7 0 0 105) #[(.ref b), (.ref a)] h0 [t] (fun v h so => v = some (.ref b) ∧ Keep h0 h [b, t] ∧ Bw Z h b t kt (ds ++ [(62 : Int32)])) := by
  refine own_enter (plainFor_of_name pn_2) C.ew (F0 := fun m => mkF m 0 #[vR b, vR a, .unset] []) (fun m => by first | (simp [entryFrame, mkF, argsToLocals, Value.category]; done) | rfl) ?_
  intro p e s m below meth c s₁ G hx hby hml hret hnm W0 S0 go fin
  have z0 := W0.sz
  show G s₁ (mkF m 0 #[vR b, vR a, .unset] [])
  obtain ⟨Eb, Fv, Fc, Fn, Fm, Vt⟩ := id Bb
  have lt : ltN t h0.size := Vt.lt
  have lb : ltN b h0.size := Eb.lt
  have nbt : b ≠ t := Exa.neArv Eb Vt (w55 C)
  have Sa : Str Z h0 a [(62 : Int32)] := own_litS (cs := [(62 : Int32)]) Ea Ca Fa Va rfl (own_alS ⟨by decide, by decide⟩ own_al0) (by decide)
  have la : ltN a h0.size := Ea.lt
  have lu : ltN u h0.size := Va.lt
  have nab : a ≠ b := Exa.ne Ea Eb (by decide)
  have nub : u ≠ b := Ne.symm (Exa.neArv Eb Va (w55 C))
  have hl_cs : [(62 : Int32)].length ≤ 4000 := by omega
  refine go (g' := (mkF m 10 #[vR b, vR a, .unset] [(.ref a)])) (fun _ k => XS.aloadN W0.here hx rfl (hb hby d32_0) rfl rfl (XS.ifnonnullYes W0.here hx rfl (pc0 := 1) (pc' := 9) rfl (hb hby d32_1) rfl (by decide) (by decide) (XS.aloadN W0.here hx rfl (hb hby d32_9) rfl rfl k))) ?_
  obtain ⟨v1, so1, vm1, T1, h1, W1, C1, q1, hso1, st1⟩ := own_virtual W0 hx (w85 C) (w86 C) (w88 C) (w87 C) (w3 C) (w89 C) (by decide) (own_nf W0 (w88 C)) Ea (rm_lenl C h0 a [(62 : Int32)] Sa (nle rfl)) (fun _ q => nomatch q) (Wd := 0) (nle rfl) (nle rfl) (nle rfl) (nle rfl) (g := (mkF m 10 #[vR b, vR a, .unset] [(.ref a)])) rfl (by rw [hml]; rfl) (argsL := []) (rest := []) (lenOf pd_22 rfl) rfl rfl (nle rfl) (hb hby d32_10)
  obtain ⟨rfl, rfl⟩ := q1
  have S1_t : Safe Z own_EL vm1 h0 t := C1.safe (olt (by omega)) (S0 _ (own_mi (i := 0) rfl))
  refine go (g' := (mkF m 13 #[vR b, vR a, .unset] [(.int (1 : Int32))])) (st1) ?_
  refine go (g' := (mkF m 16 #[vR b, vR a, vI (1 : Int32)] [(.ref b), (.ref b)])) (fun _ k => XS.istoreN W1.here hx rfl (hb hby d32_13) rfl (l' := #[vR b, vR a, vI (1 : Int32)]) rfl (XS.aloadN W1.here hx rfl (hb hby d32_14) rfl rfl (XS.aloadN W1.here hx rfl (hb hby d32_15) rfl rfl k))) ?_
  obtain ⟨T2, W2, st2⟩ := own_get W1 hx (host := "") (Or.inl (w95 C)) Via.refl Fn (g := (mkF m 16 #[vR b, vR a, vI (1 : Int32)] [(.ref b), (.ref b)])) rfl rfl (hb hby d32_16)
  refine go (g' := (mkF m 19 #[vR b, vR a, vI (1 : Int32)] [(.int (Int32.ofNat ds.length)), (.ref b)])) (st2) ?_
  refine go (g' := (mkF m 21 #[vR b, vR a, vI (1 : Int32)] [(.int ((Int32.ofNat ds.length) + (1 : Int32))), (.ref b)])) (fun _ k => XS.iloadN W2.here hx rfl (hb hby d32_19) rfl (XS.iadd W2.here hx rfl (hb hby d32_20) rfl k)) ?_
  rw [show ((Int32.ofNat ds.length) + (1 : Int32)) = (Int32.ofNat (ds.length + [(62 : Int32)].length)) from own_addn ds.length [(62 : Int32)].length]
  obtain ⟨v3, so3, vm3, T3, h3, W3, C3, q3, hso3, st3⟩ := own_virtual W2 hx (w97 C) (own_decl (w98 C) (w101 C)) (w100 C) (w98 C) (w64 C) (w101 C) (by decide) (own_nf W2 (w100 C)) Eb (rm_ens1 C h0 b t kt _ (ds.length + [(62 : Int32)].length) l1 Fv Fc Vt) (fun _ q => nomatch q) (Wd := 0) (nle rfl) (nle rfl) (nle rfl) (nle rfl) (g := (mkF m 21 #[vR b, vR a, vI (1 : Int32)] [(.int (Int32.ofNat (ds.length + [(62 : Int32)].length))), (.ref b)])) rfl (by rw [hml]; rfl) (argsL := [(.int (Int32.ofNat (ds.length + [(62 : Int32)].length)))]) (rest := []) (lenOf pd_8 rfl) rfl rfl (nle rfl) (hb hby d32_21)
  obtain ⟨rfl, rfl⟩ := q3
  have S3_t : Safe Z own_EL vm3 h0 t := C3.safe (olt (by omega)) S1_t
  refine go (g' := (mkF m 24 #[vR b, vR a, vI (1 : Int32)] [])) (st3) ?_
  refine go (g' := (mkF m 26 #[vR b, vR a, vI (1 : Int32)] [(.ref b), (.ref b)])) (fun _ k => XS.aloadN W3.here hx rfl (hb hby d32_24) rfl rfl (XS.aloadN W3.here hx rfl (hb hby d32_25) rfl rfl k)) ?_
  obtain ⟨T4, W4, st4⟩ := own_get W3 hx (host := "") (Or.inl (w95 C)) Via.refl Fn (g := (mkF m 26 #[vR b, vR a, vI (1 : Int32)] [(.ref b), (.ref b)])) rfl rfl (hb hby d32_26)
  refine go (g' := (mkF m 29 #[vR b, vR a, vI (1 : Int32)] [(.int (Int32.ofNat ds.length)), (.ref b)])) (st4) ?_
  refine go (g' := (mkF m 30 #[vR b, vR a, vI (1 : Int32)] [(.ref a), (.int (Int32.ofNat ds.length)), (.ref b)])) (fun _ k => XS.aloadN W4.here hx rfl (hb hby d32_29) rfl rfl k) ?_
  obtain ⟨v5, so5, vm5, T5, h5, W5, C5, q5, hso5, st5⟩ := own_virtual W4 hx (w102 C) (own_decl (w103 C) (w106 C)) (w105 C) (w103 C) (w64 C) (w106 C) (by decide) (own_nf W4 (w105 C)) Eb (rm_ps10 C h0 b t kt ds a u ku Ea Ca Fa Va l1 Bb (by omega) (by omega) nut) (allS S3_t all0) (Wd := 0) (nle rfl) (nle rfl) (nle rfl) (nle rfl) (g := (mkF m 30 #[vR b, vR a, vI (1 : Int32)] [(.ref a), (.int (Int32.ofNat ds.length)), (.ref b)])) rfl (by rw [hml]; rfl) (argsL := [(.int (Int32.ofNat ds.length)), (.ref a)]) (rest := []) (lenOf pd_23 rfl) rfl rfl (nle rfl) (hb hby d32_30)
  obtain ⟨rfl, K5, V5⟩ := q5
  have z6 : h0.size ≤ h5.size := K5.1
  have S5_t : Safe Z own_EL vm5 h5 t := C5.safe (olt (by omega)) S3_t
  refine go (g' := (mkF m 33 #[vR b, vR a, vI (1 : Int32)] [])) (st5) ?_
  refine go (g' := (mkF m 35 #[vR b, vR a, vI (1 : Int32)] [(.ref b), (.ref b)])) (fun _ k => XS.aloadN W5.here hx rfl (hb hby d32_33) rfl rfl (XS.dup W5.here hx rfl (hb hby d32_34) rfl rfl k)) ?_
  have f7 := Fn.keep K5 (ninS nbt nin0)
  obtain ⟨T8, W8, st8⟩ := own_get W5 hx (host := "") (Or.inl (w95 C)) Via.refl f7 (g := (mkF m 35 #[vR b, vR a, vI (1 : Int32)] [(.ref b), (.ref b)])) rfl rfl (hb hby d32_35)
  refine go (g' := (mkF m 38 #[vR b, vR a, vI (1 : Int32)] [(.int (Int32.ofNat ds.length)), (.ref b)])) (st8) ?_
  refine go (g' := (mkF m 40 #[vR b, vR a, vI (1 : Int32)] [(.int ((Int32.ofNat ds.length) + (1 : Int32))), (.ref b)])) (fun _ k => XS.iloadN W8.here hx rfl (hb hby d32_38) rfl (XS.iadd W8.here hx rfl (hb hby d32_39) rfl k)) ?_
  rw [show ((Int32.ofNat ds.length) + (1 : Int32)) = (Int32.ofNat (ds.length + [(62 : Int32)].length)) from own_addn ds.length [(62 : Int32)].length]
  have f9 := Eb.keep K5
  obtain ⟨T10, h10, W10, R10, F10, st10⟩ := own_put W8 hx (host := "") (Or.inl (w95 C)) Via.refl f7 f9 (Or.inl (w96 C)) (w55 C) (ty := .int) (by decide) rfl rfl (own_safeE W8 f9 (by decide) (by decide)) (by omega) (g := (mkF m 40 #[vR b, vR a, vI (1 : Int32)] [(.int (Int32.ofNat (ds.length + [(62 : Int32)].length))), (.ref b)])) rfl rfl (hb hby d32_40)
  have f11 := Fv.keep K5 (ninS nbt nin0)
  have f12 := Fc.keep K5 (ninS nbt nin0)
  have f13 := Fm.keep K5 (ninS nbt nin0)
  have z14 : h10.size = h5.size := R10.size
  have f15 := f9.wr R10
  have f16 := f11.other R10 (Or.inr (slot_ne (Or.inl (w69 C)) (Or.inl (w96 C)) (by decide) (t := (.array .byte)) (t' := .int) (by decide) (by decide)))
  have f17 := f12.other R10 (Or.inr (slot_ne (Or.inl (w71 C)) (Or.inl (w96 C)) (by decide) (t := .byte) (t' := .int) (by decide) (by decide)))
  have f18 := f13.other R10 (Or.inr (slot_ne (Or.inl (w245 C)) (Or.inl (w96 C)) (by decide) (t := .boolean) (t' := .int) (by decide) (by decide)))
  have S10_t : Safe Z own_EL vm5 h10 t := Safe.wr R10 (own_safeE W8 f9 (by decide) (by decide)) W8.ch S5_t
  refine go (g' := (mkF m 43 #[vR b, vR a, vI (1 : Int32)] [])) (st10) ?_
  refine go (g' := (mkF m 44 #[vR b, vR a, vI (1 : Int32)] [(.ref b)])) (fun _ k => XS.aloadN W10.here hx rfl (hb hby d32_43) rfl rfl k) ?_
  have KK19 : Keep h0 h10 [b, t] := (((Keep.refl h0 [b, t]).trans K5 (allS (Or.inl (own_mi (i := 1) rfl)) all0)).wr R10 (Or.inl (own_mi (i := 0) rfl)))
  have f20 := V5.other R10 (Ne.symm nbt)
  exact fin (v := some (.ref b)) (so := []) W10 (nle rfl) (nle rfl) (⟨rfl, KK19, ⟨f15, f16, f17, own_cntW F10, f18, f20⟩⟩) (fun _ q => nomatch q) (fun q => nomatch q) (own_retA W10 hx hret rfl rfl rfl (hb hby d32_44))
theorem rm_sap10 (C : Cx Z a0) (h0 : Heap) (b t : Addr) (kt : ClassId) (ds : List Int32) (a u : Addr) (ku : ClassId) (Ea : Exa Z h0 a "java/lang/String") (Ca : Fld Z h0 a "java/lang/String" "coder" "B" vZ) (Fa : Fld Z h0 a "java/lang/String" "value" "[B" (.ref u)) (Va : Arv Z h0 u ku .byte (1 : Int32) [(.int (62 : Int32))] vZ) (l1 : ds.length + [(62 : Int32)].length ≤ 16) (Bb : Bw Z h0 b t kt ds) (nb : Z.heap.size ≤ b) (nt : Z.heap.size ≤ t) (nut : u ≠ t) :
    Ct l Z a0 own_EL (⟨"java/lang/StringBuilder", "append", "(Ljava/lang/String;)Ljava/lang/StringBuilder;"⟩ : MethodName) jdk_67_method_7_code 2 (Option.some (Jvm.ClassFile.FieldType.object "java/lang/StringBuilder")) [] (rmm 8 0 0 119) #[(.ref b), (.ref a)] h0 [t] (fun v h so => v = some (.ref b) ∧ Keep h0 h [b, t] ∧ Bw Z h b t kt (ds ++ [(62 : Int32)])) := by
  refine own_enter (plainFor_of_name pn_3) C.ew (F0 := fun m => mkF m 0 #[vR b, vR a] []) (fun m => by first | (simp [entryFrame, mkF, argsToLocals, Value.category]; done) | rfl) ?_
  intro p e s m below meth c s₁ G hx hby hml hret hnm W0 S0 go fin
  have z0 := W0.sz
  show G s₁ (mkF m 0 #[vR b, vR a] [])
  obtain ⟨Eb, Fv, Fc, Fn, Fm, Vt⟩ := id Bb
  have lt : ltN t h0.size := Vt.lt
  have lb : ltN b h0.size := Eb.lt
  have nbt : b ≠ t := Exa.neArv Eb Vt (w55 C)
  have Sa : Str Z h0 a [(62 : Int32)] := own_litS (cs := [(62 : Int32)]) Ea Ca Fa Va rfl (own_alS ⟨by decide, by decide⟩ own_al0) (by decide)
  have la : ltN a h0.size := Ea.lt
  have lu : ltN u h0.size := Va.lt
  have nab : a ≠ b := Exa.ne Ea Eb (by decide)
  have nub : u ≠ b := Ne.symm (Exa.neArv Eb Va (w55 C))
  have hl_cs : [(62 : Int32)].length ≤ 4000 := by omega
  refine go (g' := (mkF m 2 #[vR b, vR a] [(.ref a), (.ref b)])) (fun _ k => XS.aloadN W0.here hx rfl (hb hby d33_0) rfl rfl (XS.aloadN W0.here hx rfl (hb hby d33_1) rfl rfl k)) ?_
  obtain ⟨v1, so1, vm1, T1, h1, W1, C1, q1, hso1, st1⟩ := own_super W0 hx (y := (⟨"java/lang/AbstractStringBuilder", "append", "(Ljava/lang/String;)Ljava/lang/AbstractStringBuilder;"⟩ : MethodName)) (w80 C) (own_sameM (y := (⟨"java/lang/AbstractStringBuilder", "append", "(Ljava/lang/String;)Ljava/lang/AbstractStringBuilder;"⟩ : MethodName)) (w83 C) (w100 C) rfl (by decide)) (w81 C) (w82 C) (by decide) (w64 C) (w84 C) (Ins.self Eb) (rm_ap10 C h0 b t kt ds a u ku Ea Ca Fa Va l1 Bb (by omega) (by omega) nut) (allS (S0 _ (own_mi (i := 0) rfl)) all0) (Wd := 0) (nle rfl) (nle rfl) (nle rfl) (nle rfl) (g := (mkF m 2 #[vR b, vR a] [(.ref a), (.ref b)])) rfl (by rw [hml]; rfl) (argsL := [(.ref a)]) (rest := []) (lenOf pd_24 rfl) rfl rfl (nle rfl) (hb hby d33_2)
  obtain ⟨rfl, K1, B1⟩ := q1
  have z2 : h0.size ≤ h1.size := K1.1
  have S1_t : Safe Z own_EL vm1 h1 t := C1.safe (olt (by omega)) (S0 _ (own_mi (i := 0) rfl))
  refine go (g' := (mkF m 5 #[vR b, vR a] [(.ref b)])) (st1) ?_
  refine go (g' := (mkF m 7 #[vR b, vR a] [(.ref b)])) (fun _ k => XS.pop W1.here hx rfl (hb hby d33_5) rfl rfl (XS.aloadN W1.here hx rfl (hb hby d33_6) rfl rfl k)) ?_
  have KK3 : Keep h0 h1 [b, t] := ((Keep.refl h0 [b, t]).trans K1 (allS (Or.inl (own_mi (i := 0) rfl)) (allS (Or.inl (own_mi (i := 1) rfl)) all0)))
  exact fin (v := some (.ref b)) (so := []) W1 (nle rfl) (nle rfl) (⟨rfl, KK3, B1⟩) (fun _ q => nomatch q) (fun q => nomatch q) (own_retA W1 hx hret rfl rfl rfl (hb hby d33_7))
theorem rm_chk (C : Cx Z a0) (h0 : Heap) (hi : Nat) (h2 : hi ≤ 4000) :
    Ct l Z a0 own_EL (⟨"java/util/Arrays", "checkLength", "(II)V"⟩ : MethodName) jdk_65_method_131_code 2 (Option.none : Option Jvm.ClassFile.FieldType) [] (rmm 0 0 0 0) #[vZ, (.int (Int32.ofNat hi))] h0 [] (fun v h so => v = none ∧ h0 = h) := by
  refine own_enter (plainFor_of_name pn_6) C.ew (F0 := fun m => mkF m 0 #[.val vZ, vI (Int32.ofNat hi)] []) (fun m => by first | (simp [entryFrame, mkF, argsToLocals, Value.category]; done) | rfl) ?_
  intro p e s m below meth c s₁ G hx hby hml hret hnm W0 S0 go fin
  have z0 := W0.sz
  show G s₁ (mkF m 0 #[.val vZ, vI (Int32.ofNat hi)] [])
  refine go (g' := (mkF m 37 #[.val vZ, vI (Int32.ofNat hi)] [])) (fun _ k => XS.iloadN W0.here hx rfl (hb hby d34_0) rfl (XS.iloadN W0.here hx rfl (hb hby d34_1) rfl (XS.icmpYes W0.here hx rfl (pc0 := 2) (pc' := 37) rfl (hb hby d34_2) rfl (flt (own_nn (by omega))).2.1 (by decide) (by decide) k))) ?_
  exact fin (v := none) (so := []) W0 (nle rfl) (nle rfl) (⟨rfl, rfl⟩) (fun _ q => nomatch q) (fun _ => rfl) (own_retV W0 hx hret (hb hby d34_37))
theorem rm_min (C : Cx Z a0) (h0 : Heap) (a b : Nat) (h1 : b < a) (h2 : a ≤ 4000) :
    Ct l Z a0 own_EL (⟨"java/lang/Math", "min", "(II)I"⟩ : MethodName) jdk_29_method_69_code 2 (Option.some Jvm.ClassFile.FieldType.int) [] (rmm 0 0 0 0) #[(.int (Int32.ofNat a)), (.int (Int32.ofNat b))] h0 [] (fun v h so => v = some (.int (Int32.ofNat b)) ∧ h0 = h) := by
  refine own_enter (Jvm.Free.JP.mathPlain rfl (by decide +kernel)) C.ew (F0 := fun m => mkF m 0 #[vI (Int32.ofNat a), vI (Int32.ofNat b)] []) (fun m => by first | (simp [entryFrame, mkF, argsToLocals, Value.category]; done) | rfl) ?_
  intro p e s m below meth c s₁ G hx hby hml hret hnm W0 S0 go fin
  have z0 := W0.sz
  show G s₁ (mkF m 0 #[vI (Int32.ofNat a), vI (Int32.ofNat b)] [])
  refine go (g' := (mkF m 10 #[vI (Int32.ofNat a), vI (Int32.ofNat b)] [(.int (Int32.ofNat b))])) (fun _ k => XS.iloadN W0.here hx rfl (hb hby d35_0) rfl (XS.iloadN W0.here hx rfl (hb hby d35_1) rfl (XS.icmpYes W0.here hx rfl (pc0 := 2) (pc' := 9) rfl (hb hby d35_2) rfl (tlt ((own_ltn (by omega) (by omega)).mpr (by omega))).2.2.1 (by decide) (by decide) (XS.iloadN W0.here hx rfl (hb hby d35_9) rfl k)))) ?_
  exact fin (v := some (.int (Int32.ofNat b))) (so := []) W0 (nle rfl) (nle rfl) (⟨rfl, rfl⟩) (fun _ q => nomatch q) (fun q => nomatch q) (own_retI W0 hx hret (by decide) rfl (hb hby d35_10))
theorem rm_corb (C : Cx Z a0) (h0 : Heap) (t : Addr) (kt : ClassId) (vs : List Value) (cap hi : Nat) (hz1 : 0 < hi) (hz2 : vs.length = hi) (hz3 : hi < cap) (hz4 : cap ≤ 32) (hz5 : hi ≤ 12) (Vt : Arv Z h0 t kt .byte (Int32.ofNat cap) vs vZ) :
    Ct l Z a0 own_EL (⟨"java/util/Arrays", "copyOfRangeByte", "([BII)[B"⟩ : MethodName) jdk_65_method_133_code 5 (Option.some (Jvm.ClassFile.FieldType.array Jvm.ClassFile.FieldType.byte)) [] (rmm 1 1 12 30) #[(.ref t), vZ, (.int (Int32.ofNat hi))] h0 [] (fun v h so => ∃ (x : Addr) (kx : ClassId), v = some (.ref x) ∧ Ext h0 h ∧ h0.size ≤ x ∧ Arv Z h x kx .byte (Int32.ofNat hi) vs vZ) := by
  refine own_enter (plainFor_of_name pn_6) C.ew (F0 := fun m => mkF m 0 #[vR t, .val vZ, vI (Int32.ofNat hi), .unset, .unset] []) (fun m => by first | (simp [entryFrame, mkF, argsToLocals, Value.category]; done) | rfl) ?_
  intro p e s m below meth c s₁ G hx hby hml hret hnm W0 S0 go fin
  have z0 := W0.sz
  show G s₁ (mkF m 0 #[vR t, .val vZ, vI (Int32.ofNat hi), .unset, .unset] [])
  have lt : ltN t h0.size := Vt.lt
  refine go (g' := (mkF m 2 #[vR t, .val vZ, vI (Int32.ofNat hi), .unset, .unset] [(.int (Int32.ofNat hi)), vZ])) (fun _ k => XS.iloadN W0.here hx rfl (hb hby d36_0) rfl (XS.iloadN W0.here hx rfl (hb hby d36_1) rfl k)) ?_
  obtain ⟨v1, so1, vm1, T1, h1, W1, C1, q1, hso1, st1⟩ := own_static W0 hx (w160 C) (w161 C) (w155 C) (w162 C) (by decide) (rm_chk C h0 hi (by omega)) (fun _ q => nomatch q) (Wd := 0) (nle rfl) (nle rfl) (nle rfl) (nle rfl) (g := (mkF m 2 #[vR t, .val vZ, vI (Int32.ofNat hi), .unset, .unset] [(.int (Int32.ofNat hi)), vZ])) rfl (by rw [hml]; rfl) (argsL := [vZ, (.int (Int32.ofNat hi))]) (rest := []) (lenOf pd_12 rfl) rfl rfl (nle rfl) (hb hby d36_2)
  obtain ⟨rfl, rfl⟩ := q1
  refine go (g' := (mkF m 5 #[vR t, .val vZ, vI (Int32.ofNat hi), .unset, .unset] [])) (st1) ?_
  refine go (g' := (mkF m 8 #[vR t, .val vZ, vI (Int32.ofNat hi), .unset, .unset] [(.int ((Int32.ofNat hi) - (0 : Int32)))])) (fun _ k => XS.iloadN W1.here hx rfl (hb hby d36_5) rfl (XS.iloadN W1.here hx rfl (hb hby d36_6) rfl (XS.isub W1.here hx rfl (hb hby d36_7) rfl k))) ?_
  rw [show ((Int32.ofNat hi) - (0 : Int32)) = (Int32.ofNat hi) from own_sub0 _]
  refine go (g' := (mkF m 10 #[vR t, .val vZ, vI (Int32.ofNat hi), vI (Int32.ofNat hi), .unset] [(.int (Int32.ofNat hi))])) (fun _ k => XS.istoreN W1.here hx rfl (hb hby d36_8) rfl (l' := #[vR t, .val vZ, vI (Int32.ofNat hi), vI (Int32.ofNat hi), .unset]) rfl (XS.iloadN W1.here hx rfl (hb hby d36_9) rfl k)) ?_
  obtain ⟨x2, T2, h2, k2, g2, W2, E2, A2, st2⟩ := own_newP W1 hx (aty := .byte) (w20 C) (g := (mkF m 10 #[vR t, .val vZ, vI (Int32.ofNat hi), vI (Int32.ofNat hi), .unset] [(.int (Int32.ofNat hi))])) rfl (hb hby d36_10) rfl (own_nn (by omega)) (cap := 12) (by rw [own_cl (by omega)]; omega) (nle rfl) (nle rfl) (nle rfl)
  have z3 : h0.size ≤ h2.size := E2.1
  have l2 : ltN x2 h2.size := A2.lt
  have V2 : Arv Z h2 x2 k2 .byte (Int32.ofNat hi) [] vZ := A2
  refine go (g' := (mkF m 12 #[vR t, .val vZ, vI (Int32.ofNat hi), vI (Int32.ofNat hi), .unset] [(.ref x2)])) (st2) ?_
  refine go (g' := (mkF m 20 #[vR t, .val vZ, vI (Int32.ofNat hi), vI (Int32.ofNat hi), vR x2] [(.ref t), vZ, (.ref x2), vZ, (.ref t)])) (fun _ k => XS.astore W2.here hx rfl (hb hby d36_12) rfl rfl (l' := #[vR t, .val vZ, vI (Int32.ofNat hi), vI (Int32.ofNat hi), vR x2]) rfl (XS.aloadN W2.here hx rfl (hb hby d36_14) rfl rfl (XS.iloadN W2.here hx rfl (hb hby d36_15) rfl (XS.aload W2.here hx rfl (hb hby d36_16) rfl rfl (XS.iconst W2.here hx rfl (hb hby d36_18) (XS.aloadN W2.here hx rfl (hb hby d36_19) rfl rfl k)))))) ?_
  have X4 : Ext h0 h2 := own_xt (own_xr h0) E2
  have f5 := Vt.ext X4
  refine go (g' := (mkF m 21 #[vR t, .val vZ, vI (Int32.ofNat hi), vI (Int32.ofNat hi), vR x2] [(.int (Int32.ofNat cap)), vZ, (.ref x2), vZ, (.ref t)])) (own_alen W2 hx f5 (g := (mkF m 20 #[vR t, .val vZ, vI (Int32.ofNat hi), vI (Int32.ofNat hi), vR x2] [(.ref t), vZ, (.ref x2), vZ, (.ref t)])) rfl rfl (hb hby d36_20)) ?_
  refine go (g' := (mkF m 23 #[vR t, .val vZ, vI (Int32.ofNat hi), vI (Int32.ofNat hi), vR x2] [(.int ((Int32.ofNat cap) - (0 : Int32))), vZ, (.ref x2), vZ, (.ref t)])) (fun _ k => XS.iloadN W2.here hx rfl (hb hby d36_21) rfl (XS.isub W2.here hx rfl (hb hby d36_22) rfl k)) ?_
  rw [show ((Int32.ofNat cap) - (0 : Int32)) = (Int32.ofNat cap) from own_sub0 _]
  refine go (g' := (mkF m 24 #[vR t, .val vZ, vI (Int32.ofNat hi), vI (Int32.ofNat hi), vR x2] [(.int (Int32.ofNat hi)), (.int (Int32.ofNat cap)), vZ, (.ref x2), vZ, (.ref t)])) (fun _ k => XS.iloadN W2.here hx rfl (hb hby d36_23) rfl k) ?_
  obtain ⟨v6, so6, vm6, T6, h6, W6, C6, q6, hso6, st6⟩ := own_static W2 hx (w163 C) (w164 C) (w165 C) (w166 C) (by decide) (rm_min C h2 cap hi (by omega) (by omega)) (fun _ q => nomatch q) (Wd := 4) (nle rfl) (nle rfl) (nle rfl) (nle rfl) (g := (mkF m 24 #[vR t, .val vZ, vI (Int32.ofNat hi), vI (Int32.ofNat hi), vR x2] [(.int (Int32.ofNat hi)), (.int (Int32.ofNat cap)), vZ, (.ref x2), vZ, (.ref t)])) rfl (by rw [hml]; rfl) (argsL := [(.int (Int32.ofNat cap)), (.int (Int32.ofNat hi))]) (rest := [vZ, (.ref x2), vZ, (.ref t)]) (lenOf pd_25 rfl) rfl rfl (nle rfl) (hb hby d36_24)
  obtain ⟨rfl, rfl⟩ := q6
  have S6_x2 : Safe Z own_EL vm6 h2 x2 := C6.safe (olt (by omega)) (own_safeB W1 X4 (by omega))
  refine go (g' := (mkF m 27 #[vR t, .val vZ, vI (Int32.ofNat hi), vI (Int32.ofNat hi), vR x2] [(.int (Int32.ofNat hi)), vZ, (.ref x2), vZ, (.ref t)])) (st6) ?_
  have P7 : Arv Z h2 x2 k2 .byte (Int32.ofNat hi) ([] ++ List.replicate hi vZ) vZ := V2.pad (pad_rep [] _ _)
  have e0 : (0 : Int32).toNatClampNeg = 0 := by decide
  have e2 : (Int32.ofNat hi).toNatClampNeg = hi := own_cl (by omega)
  have e3 : (Int32.ofNat cap).toNatClampNeg = cap := own_cl (by omega)
  obtain ⟨T7, h7, W7, K7, V7, st7⟩ := own_cp W6 hx (w167 C) (w121 C) (w119 C) (w120 C) f5 P7 rfl S6_x2 (sp := (0 : Int32)) (dp := (0 : Int32)) (nn := (Int32.ofNat hi)) (by decide) (by decide) (own_nn (by omega)) (by rw [e0, e2, e3]; omega) (by rw [e0, e2]; omega) (us := vs) (by rw [e0, e2]; exact (own_rgv vs hi _ hz2).symm) (by rw [e0, e2]; simp) (by omega) (g := (mkF m 27 #[vR t, .val vZ, vI (Int32.ofNat hi), vI (Int32.ofNat hi), vR x2] [(.int (Int32.ofNat hi)), vZ, (.ref x2), vZ, (.ref t)])) rfl (by rw [hml]; rfl) rfl (hb hby d36_27) (nle rfl) (Wd := 0) (nle rfl) (nle rfl)
  have z8 : h2.size ≤ h7.size := K7.1
  have U7 : Arv Z h7 x2 k2 .byte (Int32.ofNat hi) vs vZ := by have q := V7; rw [e0, e2, own_cpz] at q; exact q
  refine go (g' := (mkF m 30 #[vR t, .val vZ, vI (Int32.ofNat hi), vI (Int32.ofNat hi), vR x2] [])) (st7) ?_
  refine go (g' := (mkF m 32 #[vR t, .val vZ, vI (Int32.ofNat hi), vI (Int32.ofNat hi), vR x2] [(.ref x2)])) (fun _ k => XS.aload W7.here hx rfl (hb hby d36_30) rfl rfl k) ?_
  have X9 : Ext h0 h7 := own_xk X4 K7 (allS (by omega) all0)
  exact fin (v := some (.ref x2)) (so := []) W7 (nle rfl) (nle rfl) (⟨_, _, rfl, X9, by omega, U7⟩) (fun _ q => nomatch q) (fun q => nomatch q) (own_retA W7 hx hret rfl rfl rfl (hb hby d36_32))
theorem rm_cor (C : Cx Z a0) (h0 : Heap) (t : Addr) (kt : ClassId) (vs : List Value) (cap hi : Nat) (hz1 : 0 < hi) (hz2 : vs.length = hi) (hz3 : hi < cap) (hz4 : cap ≤ 32) (hz5 : hi ≤ 12) (Vt : Arv Z h0 t kt .byte (Int32.ofNat cap) vs vZ) :
    Ct l Z a0 own_EL (⟨"java/util/Arrays", "copyOfRange", "([BII)[B"⟩ : MethodName) jdk_65_method_132_code 3 (Option.some (Jvm.ClassFile.FieldType.array Jvm.ClassFile.FieldType.byte)) [] (rmm 2 1 12 46) #[(.ref t), vZ, (.int (Int32.ofNat hi))] h0 [] (fun v h so => ∃ (x : Addr) (kx : ClassId), v = some (.ref x) ∧ Ext h0 h ∧ h0.size ≤ x ∧ Arv Z h x kx .byte (Int32.ofNat hi) vs vZ) := by
  refine own_enter (plainFor_of_name pn_6) C.ew (F0 := fun m => mkF m 0 #[vR t, .val vZ, vI (Int32.ofNat hi)] []) (fun m => by first | (simp [entryFrame, mkF, argsToLocals, Value.category]; done) | rfl) ?_
  intro p e s m below meth c s₁ G hx hby hml hret hnm W0 S0 go fin
  have z0 := W0.sz
  show G s₁ (mkF m 0 #[vR t, .val vZ, vI (Int32.ofNat hi)] [])
  have lt : ltN t h0.size := Vt.lt
  refine go (g' := (mkF m 6 #[vR t, .val vZ, vI (Int32.ofNat hi)] [(.ref t), (.int (Int32.ofNat hi))])) (fun _ k => XS.iloadN W0.here hx rfl (hb hby d37_0) rfl (XS.ifNo W0.here hx rfl (hb hby d37_1) rfl ((if0 _ _).trans (teq ((by decide) : (0 : Int32) = (0 : Int32))).2) (XS.iloadN W0.here hx rfl (hb hby d37_4) rfl (XS.aloadN W0.here hx rfl (hb hby d37_5) rfl rfl k)))) ?_
  refine go (g' := (mkF m 7 #[vR t, .val vZ, vI (Int32.ofNat hi)] [(.int (Int32.ofNat cap)), (.int (Int32.ofNat hi))])) (own_alen W0 hx Vt (g := (mkF m 6 #[vR t, .val vZ, vI (Int32.ofNat hi)] [(.ref t), (.int (Int32.ofNat hi))])) rfl rfl (hb hby d37_6)) ?_
  refine go (g' := (mkF m 13 #[vR t, .val vZ, vI (Int32.ofNat hi)] [(.int (Int32.ofNat hi)), vZ, (.ref t)])) (fun _ k => XS.icmpNo W0.here hx rfl (hb hby d37_7) rfl (feq (fun q => absurd ((own_eqn (by omega) (by omega)).mp q) (by omega))).1 (XS.aloadN W0.here hx rfl (hb hby d37_10) rfl rfl (XS.iloadN W0.here hx rfl (hb hby d37_11) rfl (XS.iloadN W0.here hx rfl (hb hby d37_12) rfl k)))) ?_
  obtain ⟨v1, so1, vm1, T1, h1, W1, C1, q1, hso1, st1⟩ := own_static W0 hx (w157 C) (w158 C) (w155 C) (w159 C) (by decide) (rm_corb C h0 t kt vs cap hi hz1 hz2 hz3 hz4 hz5 Vt) (fun _ q => nomatch q) (Wd := 0) (nle rfl) (nle rfl) (nle rfl) (nle rfl) (g := (mkF m 13 #[vR t, .val vZ, vI (Int32.ofNat hi)] [(.int (Int32.ofNat hi)), vZ, (.ref t)])) rfl (by rw [hml]; rfl) (argsL := [(.ref t), vZ, (.int (Int32.ofNat hi))]) (rest := []) (lenOf pd_26 rfl) rfl rfl (nle rfl) (hb hby d37_13)
  obtain ⟨x1, k1, rfl, E1, g1, V1⟩ := q1
  have z2 : h0.size ≤ h1.size := E1.1
  refine go (g' := (mkF m 16 #[vR t, .val vZ, vI (Int32.ofNat hi)] [(.ref x1)])) (st1) ?_
  have X3 : Ext h0 h1 := own_xt (own_xr h0) E1
  exact fin (v := some (.ref x1)) (so := []) W1 (nle rfl) (nle rfl) (⟨_, _, rfl, X3, by omega, V1⟩) (fun _ q => nomatch q) (fun q => nomatch q) (own_retA W1 hx hret rfl rfl rfl (hb hby d37_16))
theorem rm_asb_getValue (C : Cx Z a0) (h0 : Heap) (a : Addr) (u : Value) (ru : u.isRef = true) (Fa : Fld Z h0 a "java/lang/AbstractStringBuilder" "value" "[B" u) :
    Ct l Z a0 own_EL (⟨"java/lang/AbstractStringBuilder", "getValue", "()[B"⟩ : MethodName) jdk_68_method_64_code 1 (Option.some (Jvm.ClassFile.FieldType.array Jvm.ClassFile.FieldType.byte)) [] (rmm 0 0 0 0) #[(.ref a)] h0 [] (fun v h so => v = some u ∧ h0 = h) := by
  refine own_enter (plainFor_of_name pn_2) C.ew (F0 := fun m => mkF m 0 #[vR a] []) (fun m => by first | (simp [entryFrame, mkF, argsToLocals, Value.category]; done) | rfl) ?_
  intro p e s m below meth c s₁ G hx hby hml hret hnm W0 S0 go fin
  have z0 := W0.sz
  show G s₁ (mkF m 0 #[vR a] [])
  refine go (g' := (mkF m 1 #[vR a] [(.ref a)])) (fun _ k => XS.aloadN W0.here hx rfl (hb hby d38_0) rfl rfl k) ?_
  obtain ⟨T1, W1, st1⟩ := own_get W0 hx (host := "") (Or.inl (w68 C)) Via.refl Fa (g := (mkF m 1 #[vR a] [(.ref a)])) rfl rfl (hb hby d38_1)
  refine go (g' := (mkF m 4 #[vR a] [u])) (st1) ?_
  exact fin (v := some u) (so := []) W1 (nle rfl) (nle rfl) (⟨rfl, rfl⟩) (fun _ q => nomatch q) (fun q => nomatch q) (own_retA W1 hx hret rfl ru (own_nrR ru rfl) (hb hby d38_4))
theorem rm_asb_length (C : Cx Z a0) (h0 : Heap) (a : Addr) (u : Int32) (Fa : Fld Z h0 a "java/lang/AbstractStringBuilder" "count" "I" (.int u)) :
    Ct l Z a0 own_EL (⟨"java/lang/AbstractStringBuilder", "length", "()I"⟩ : MethodName) jdk_68_method_6_code 1 (Option.some Jvm.ClassFile.FieldType.int) [] (rmm 0 0 0 0) #[(.ref a)] h0 [] (fun v h so => v = some (.int u) ∧ h0 = h) := by
  refine own_enter (plainFor_of_name pn_2) C.ew (F0 := fun m => mkF m 0 #[vR a] []) (fun m => by first | (simp [entryFrame, mkF, argsToLocals, Value.category]; done) | rfl) ?_
  intro p e s m below meth c s₁ G hx hby hml hret hnm W0 S0 go fin
  have z0 := W0.sz
  show G s₁ (mkF m 0 #[vR a] [])
  refine go (g' := (mkF m 1 #[vR a] [(.ref a)])) (fun _ k => XS.aloadN W0.here hx rfl (hb hby d39_0) rfl rfl k) ?_
  obtain ⟨T1, W1, st1⟩ := own_get W0 hx (host := "") (Or.inl (w95 C)) Via.refl Fa (g := (mkF m 1 #[vR a] [(.ref a)])) rfl rfl (hb hby d39_1)
  refine go (g' := (mkF m 4 #[vR a] [(.int u)])) (st1) ?_
  exact fin (v := some (.int u)) (so := []) W1 (nle rfl) (nle rfl) (⟨rfl, rfl⟩) (fun _ q => nomatch q) (fun q => nomatch q) (own_retI W1 hx hret (by decide) rfl (hb hby d39_4))
theorem rm_sblen (C : Cx Z a0) (h0 : Heap) (b : Addr) (u : Int32) (Eb : Exa Z h0 b "java/lang/StringBuilder") (Fn : Fld Z h0 b "java/lang/AbstractStringBuilder" "count" "I" (.int u)) :
    Ct l Z a0 own_EL (⟨"java/lang/StringBuilder", "length", "()I"⟩ : MethodName) jdk_67_method_93_code 1 (Option.some Jvm.ClassFile.FieldType.int) [] (rmm 1 0 0 12) #[(.ref b)] h0 [] (fun v h so => v = some (.int u) ∧ h0 = h) := by
  refine own_enter (plainFor_of_name pn_3) C.ew (F0 := fun m => mkF m 0 #[vR b] []) (fun m => by first | (simp [entryFrame, mkF, argsToLocals, Value.category]; done) | rfl) ?_
  intro p e s m below meth c s₁ G hx hby hml hret hnm W0 S0 go fin
  have z0 := W0.sz
  show G s₁ (mkF m 0 #[vR b] [])
  refine go (g' := (mkF m 1 #[vR b] [(.ref b)])) (fun _ k => XS.aloadN W0.here hx rfl (hb hby d40_0) rfl rfl k) ?_
  obtain ⟨v1, so1, vm1, T1, h1, W1, C1, q1, hso1, st1⟩ := own_super W0 hx (y := (⟨"java/lang/AbstractStringBuilder", "length", "()I"⟩ : MethodName)) (w146 C) (own_sameM (y := (⟨"java/lang/AbstractStringBuilder", "length", "()I"⟩ : MethodName)) (w141 C) (w100 C) rfl (by decide)) (w142 C) (w82 C) (by decide) (w64 C) (w147 C) (Ins.self Eb) (rm_asb_length C h0 b u Fn) (fun _ q => nomatch q) (Wd := 0) (nle rfl) (nle rfl) (nle rfl) (nle rfl) (g := (mkF m 1 #[vR b] [(.ref b)])) rfl (by rw [hml]; rfl) (argsL := []) (rest := []) (lenOf pd_22 rfl) rfl rfl (nle rfl) (hb hby d40_1)
  obtain ⟨rfl, rfl⟩ := q1
  refine go (g' := (mkF m 4 #[vR b] [(.int u)])) (st1) ?_
  exact fin (v := some (.int u)) (so := []) W1 (nle rfl) (nle rfl) (⟨rfl, rfl⟩) (fun _ q => nomatch q) (fun q => nomatch q) (own_retI W1 hx hret (by decide) rfl (hb hby d40_4))
theorem rm_sial (C : Cx Z a0) (h0 : Heap) (x : Addr) (Ex : Exa Z h0 x "java/lang/String") (Xv : Fld Z h0 x "java/lang/String" "value" "[B" .null) (Xc : Fld Z h0 x "java/lang/String" "coder" "B" vZ) (nx : Z.heap.size ≤ x) (b t : Addr) (kt : ClassId) (ds : List Int32) (hz0 : 0 < ds.length) (hz1 : ds.length ≤ 6) (Bb : Bl Z h0 b t kt ds) :
    Ct l Z a0 own_EL (⟨"java/lang/String", "<init>", "(Ljava/lang/AbstractStringBuilder;Ljava/lang/Void;)V"⟩ : MethodName) jdk_42_method_150_code 5 (Option.none : Option Jvm.ClassFile.FieldType) [] (rmm 3 1 12 61) #[(.ref x), (.ref b), .null] h0 [x] (fun v h so => v = none ∧ Keep h0 h [x] ∧ Exa Z h x "java/lang/String" ∧ Fld Z h x "java/lang/String" "coder" "B" vZ ∧ ∃ (u : Addr) (ku : ClassId), Fld Z h x "java/lang/String" "value" "[B" (.ref u) ∧ Arv Z h u ku .byte (Int32.ofNat ds.length) (ds.map Value.int) vZ) := by
  refine own_enter (plainFor_of_name pn_1) C.ew (F0 := fun m => mkF m 0 #[vR x, vR b, .val .null, .unset, .unset] []) (fun m => by first | (simp [entryFrame, mkF, argsToLocals, Value.category]; done) | rfl) ?_
  intro p e s m below meth c s₁ G hx hby hml hret hnm W0 S0 go fin
  have z0 := W0.sz
  show G s₁ (mkF m 0 #[vR x, vR b, .val .null, .unset, .unset] [])
  have lx : ltN x h0.size := Ex.lt
  obtain ⟨Eb, Fv, Fc, Fn, Fm, Vt⟩ := id Bb
  have lt : ltN t h0.size := Vt.lt
  have lb : ltN b h0.size := Eb.lt
  have nbt : b ≠ t := Exa.neArv Eb Vt (w55 C)
  have nbx : b ≠ x := Exa.ne Eb Ex (by decide)
  have ntx : t ≠ x := Ne.symm (Exa.neArv Ex Vt (w2 C))
  refine go (g' := (mkF m 1 #[vR x, vR b, .val .null, .unset, .unset] [(.ref x)])) (fun _ k => XS.aloadN W0.here hx rfl (hb hby d41_0) rfl rfl k) ?_
  obtain ⟨T1, W1, st1⟩ := own_initO W0 hx (w12 C) (w13 C) (w14 C) (g := (mkF m 1 #[vR x, vR b, .val .null, .unset, .unset] [(.ref x)])) rfl (by rw [hml]; rfl) rfl (hb hby d41_1) (nle rfl) (Wd := 0) (nle rfl) (nle rfl)
  refine go (g' := (mkF m 4 #[vR x, vR b, .val .null, .unset, .unset] [])) (st1) ?_
  refine go (g' := (mkF m 5 #[vR x, vR b, .val .null, .unset, .unset] [(.ref b)])) (fun _ k => XS.aloadN W1.here hx rfl (hb hby d41_4) rfl rfl k) ?_
  obtain ⟨v2, so2, vm2, T2, h2, W2, C2, q2, hso2, st2⟩ := own_virtual W1 hx (w135 C) (w136 C) (w138 C) (w137 C) (w64 C) (w139 C) (by decide) (own_nf W1 (w138 C)) Eb (rm_asb_getValue C h0 b (.ref t) rfl Fv) (fun _ q => nomatch q) (Wd := 0) (nle rfl) (nle rfl) (nle rfl) (nle rfl) (g := (mkF m 5 #[vR x, vR b, .val .null, .unset, .unset] [(.ref b)])) rfl (by rw [hml]; rfl) (argsL := []) (rest := []) (lenOf pd_27 rfl) rfl rfl (nle rfl) (hb hby d41_5)
  obtain ⟨rfl, rfl⟩ := q2
  have S2_x : Safe Z own_EL vm2 h0 x := C2.safe (olt (by omega)) (S0 _ (own_mi (i := 0) rfl))
  refine go (g' := (mkF m 8 #[vR x, vR b, .val .null, .unset, .unset] [(.ref t)])) (st2) ?_
  refine go (g' := (mkF m 10 #[vR x, vR b, .val .null, vR t, .unset] [(.ref b)])) (fun _ k => XS.astoreN W2.here hx rfl (hb hby d41_8) rfl rfl (l' := #[vR x, vR b, .val .null, vR t, .unset]) rfl (XS.aloadN W2.here hx rfl (hb hby d41_9) rfl rfl k)) ?_
  obtain ⟨v3, so3, vm3, T3, h3, W3, C3, q3, hso3, st3⟩ := own_virtual W2 hx (w140 C) (w141 C) (w143 C) (w144 C) (w56 C) (w145 C) (by decide) (own_nf2 W2 (y := (⟨"java/lang/AbstractStringBuilder", "length", "()I"⟩ : MethodName)) (w100 C) rfl) Eb (rm_sblen C h0 b (Int32.ofNat ds.length) Eb Fn) (fun _ q => nomatch q) (Wd := 0) (nle rfl) (nle rfl) (nle rfl) (nle rfl) (g := (mkF m 10 #[vR x, vR b, .val .null, vR t, .unset] [(.ref b)])) rfl (by rw [hml]; rfl) (argsL := []) (rest := []) (lenOf pd_22 rfl) rfl rfl (nle rfl) (hb hby d41_10)
  obtain ⟨rfl, rfl⟩ := q3
  have S3_x : Safe Z own_EL vm3 h0 x := C3.safe (olt (by omega)) S2_x
  refine go (g' := (mkF m 13 #[vR x, vR b, .val .null, vR t, .unset] [(.int (Int32.ofNat ds.length))])) (st3) ?_
  refine go (g' := (mkF m 16 #[vR x, vR b, .val .null, vR t, vI (Int32.ofNat ds.length)] [(.ref b)])) (fun _ k => XS.istore W3.here hx rfl (hb hby d41_13) rfl (l' := #[vR x, vR b, .val .null, vR t, vI (Int32.ofNat ds.length)]) rfl (XS.aloadN W3.here hx rfl (hb hby d41_15) rfl rfl k)) ?_
  obtain ⟨v4, so4, vm4, T4, h4, W4, C4, q4, hso4, st4⟩ := own_virtual W3 hx (w148 C) (w149 C) (w151 C) (w150 C) (w64 C) (w152 C) (by decide) (own_nf W3 (w151 C)) Eb (rm_bl10 C h0 b Fc) (fun _ q => nomatch q) (Wd := 0) (nle rfl) (nle rfl) (nle rfl) (nle rfl) (g := (mkF m 16 #[vR x, vR b, .val .null, vR t, vI (Int32.ofNat ds.length)] [(.ref b)])) rfl (by rw [hml]; rfl) (argsL := []) (rest := []) (lenOf pd_16 rfl) rfl rfl (nle rfl) (hb hby d41_16)
  obtain ⟨rfl, rfl⟩ := q4
  have S4_x : Safe Z own_EL vm4 h0 x := C4.safe (olt (by omega)) S3_x
  refine go (g' := (mkF m 19 #[vR x, vR b, .val .null, vR t, vI (Int32.ofNat ds.length)] [(.int (1 : Int32))])) (st4) ?_
  refine go (g' := (mkF m 24 #[vR x, vR b, .val .null, vR t, vI (Int32.ofNat ds.length)] [vZ, (.ref x)])) (fun _ k => XS.ifNo W4.here hx rfl (hb hby d41_19) rfl ((if0 _ _).trans (feq ((by decide) : ¬ ((1 : Int32) = (0 : Int32)))).1) (XS.aloadN W4.here hx rfl (hb hby d41_22) rfl rfl (XS.iconst W4.here hx rfl (hb hby d41_23) k))) ?_
  obtain ⟨T5, h5, W5, R5, F5, st5⟩ := own_put W4 hx (host := "") (Or.inl (w27 C)) Via.refl Xc Ex (Or.inr ⟨(w28 C), rfl, hnm⟩) (w2 C) (ty := .byte) (by decide) rfl (by decide) S4_x (by omega) (g := (mkF m 24 #[vR x, vR b, .val .null, vR t, vI (Int32.ofNat ds.length)] [vZ, (.ref x)])) rfl rfl (hb hby d41_24)
  have z6 : h5.size = h0.size := R5.size
  have f7 := Ex.wr R5
  have f8 := Xv.other R5 (Or.inr (slot_ne (Or.inr (w30 C)) (Or.inr (w28 C)) (by decide) (t := (.array .byte)) (t' := .byte) (by decide) (by decide)))
  have S5 : Safe Z own_EL vm4 h5 x := Safe.wr R5 S4_x W4.ch S4_x
  refine go (g' := (mkF m 27 #[vR x, vR b, .val .null, vR t, vI (Int32.ofNat ds.length)] [])) (st5) ?_
  refine go (g' := (mkF m 32 #[vR x, vR b, .val .null, vR t, vI (Int32.ofNat ds.length)] [(.int (Int32.ofNat ds.length)), vZ, (.ref t), (.ref x)])) (fun _ k => XS.aloadN W5.here hx rfl (hb hby d41_27) rfl rfl (XS.aloadN W5.here hx rfl (hb hby d41_28) rfl rfl (XS.iconst W5.here hx rfl (hb hby d41_29) (XS.iload W5.here hx rfl (hb hby d41_30) rfl k)))) ?_
  have f10 := Vt.other R5 ntx
  obtain ⟨v9, so9, vm9, T9, h9, W9, C9, q9, hso9, st9⟩ := own_static W5 hx (w153 C) (w154 C) (w155 C) (w156 C) (by decide) (rm_cor C h5 t kt (ds.map Value.int) 16 ds.length (by omega) (by simp) (by omega) (by omega) (by omega) f10) (fun _ q => nomatch q) (Wd := 1) (nle rfl) (nle rfl) (nle rfl) (nle rfl) (g := (mkF m 32 #[vR x, vR b, .val .null, vR t, vI (Int32.ofNat ds.length)] [(.int (Int32.ofNat ds.length)), vZ, (.ref t), (.ref x)])) rfl (by rw [hml]; rfl) (argsL := [(.ref t), vZ, (.int (Int32.ofNat ds.length))]) (rest := [(.ref x)]) (lenOf pd_26 rfl) rfl rfl (nle rfl) (hb hby d41_32)
  obtain ⟨x9, k9, rfl, E9, g9, V9⟩ := q9
  have z11 : h5.size ≤ h9.size := E9.1
  have S9_x : Safe Z own_EL vm9 h9 x := C9.safe (olt (by omega)) S5
  refine go (g' := (mkF m 35 #[vR x, vR b, .val .null, vR t, vI (Int32.ofNat ds.length)] [(.ref x9), (.ref x)])) (st9) ?_
  have X12 : Ext h5 h9 := own_xt (own_xr h5) E9
  have f13 := f8.ext X12
  have f14 := f7.ext X12
  obtain ⟨T15, h15, W15, R15, F15, st15⟩ := own_put W9 hx (host := "") (Or.inl (w29 C)) Via.refl f13 f14 (Or.inr ⟨(w30 C), rfl, hnm⟩) (w2 C) (ty := (.array .byte)) (by decide) rfl rfl S9_x (by omega) (g := (mkF m 35 #[vR x, vR b, .val .null, vR t, vI (Int32.ofNat ds.length)] [(.ref x9), (.ref x)])) rfl rfl (hb hby d41_35)
  have f16 := F5.ext X12
  have z17 : h15.size = h9.size := R15.size
  have f18 := f14.wr R15
  have f19 := f16.other R15 (Or.inr (slot_ne (Or.inr (w28 C)) (Or.inr (w30 C)) (by decide) (t := .byte) (t' := (.array .byte)) (by decide) (by decide)))
  have S15 : Safe Z own_EL vm9 h15 x := Safe.wr R15 S9_x W9.ch S9_x
  refine go (g' := (mkF m 38 #[vR x, vR b, .val .null, vR t, vI (Int32.ofNat ds.length)] [])) (st15) ?_
  refine go (g' := (mkF m 97 #[vR x, vR b, .val .null, vR t, vI (Int32.ofNat ds.length)] [])) (fun _ k => XS.goto W15.here hx rfl (pc0 := 38) (pc' := 97) rfl (hb hby d41_38) (by decide) (by decide) k) ?_
  have KK20 : Keep h0 h15 [x] := ((((Keep.refl h0 [x]).wr R5 (Or.inl (own_mi (i := 0) rfl))).ext E9).wr R15 (Or.inl (own_mi (i := 0) rfl)))
  have l22 : ltN x9 h9.size := V9.lt
  have f21 := V9.other R15 (one (by omega))
  exact fin (v := none) (so := []) W15 (nle rfl) (nle rfl) (⟨rfl, KK20, f18, f19, _, _, F15, f21⟩) (fun _ q => nomatch q) (fun _ => rfl) (own_retV W15 hx hret (hb hby d41_97))
theorem rm_sisl (C : Cx Z a0) (h0 : Heap) (x : Addr) (Ex : Exa Z h0 x "java/lang/String") (Xv : Fld Z h0 x "java/lang/String" "value" "[B" .null) (Xc : Fld Z h0 x "java/lang/String" "coder" "B" vZ) (nx : Z.heap.size ≤ x) (b t : Addr) (kt : ClassId) (ds : List Int32) (hz0 : 0 < ds.length) (hz1 : ds.length ≤ 6) (Bb : Bl Z h0 b t kt ds) :
    Ct l Z a0 own_EL (⟨"java/lang/String", "<init>", "(Ljava/lang/StringBuilder;)V"⟩ : MethodName) jdk_42_method_53_code 2 (Option.none : Option Jvm.ClassFile.FieldType) [] (rmm 4 1 12 77) #[(.ref x), (.ref b)] h0 [x] (fun v h so => v = none ∧ Keep h0 h [x] ∧ Exa Z h x "java/lang/String" ∧ Fld Z h x "java/lang/String" "coder" "B" vZ ∧ ∃ (u : Addr) (ku : ClassId), Fld Z h x "java/lang/String" "value" "[B" (.ref u) ∧ Arv Z h u ku .byte (Int32.ofNat ds.length) (ds.map Value.int) vZ) := by
  refine own_enter (plainFor_of_name pn_1) C.ew (F0 := fun m => mkF m 0 #[vR x, vR b] []) (fun m => by first | (simp [entryFrame, mkF, argsToLocals, Value.category]; done) | rfl) ?_
  intro p e s m below meth c s₁ G hx hby hml hret hnm W0 S0 go fin
  have z0 := W0.sz
  show G s₁ (mkF m 0 #[vR x, vR b] [])
  have lx : ltN x h0.size := Ex.lt
  obtain ⟨Eb, Fv, Fc, Fn, Fm, Vt⟩ := id Bb
  have lt : ltN t h0.size := Vt.lt
  have lb : ltN b h0.size := Eb.lt
  have nbt : b ≠ t := Exa.neArv Eb Vt (w55 C)
  have nbx : b ≠ x := Exa.ne Eb Ex (by decide)
  have ntx : t ≠ x := Ne.symm (Exa.neArv Ex Vt (w2 C))
  refine go (g' := (mkF m 3 #[vR x, vR b] [.null, (.ref b), (.ref x)])) (fun _ k => XS.aloadN W0.here hx rfl (hb hby d42_0) rfl rfl (XS.aloadN W0.here hx rfl (hb hby d42_1) rfl rfl (XS.aconstNull W0.here hx rfl (hb hby d42_2) k))) ?_
  obtain ⟨v1, so1, vm1, T1, h1, W1, C1, q1, hso1, st1⟩ := own_special W0 hx (y := (⟨"java/lang/String", "<init>", "(Ljava/lang/AbstractStringBuilder;Ljava/lang/Void;)V"⟩ : MethodName)) rfl (w132 C) (w133 C) (w3 C) (w134 C) (by decide) (rm_sial C h0 x Ex Xv Xc (by omega) b t kt ds hz0 hz1 Bb) (allS (S0 _ (own_mi (i := 0) rfl)) all0) (Wd := 0) (nle rfl) (nle rfl) (nle rfl) (nle rfl) (g := (mkF m 3 #[vR x, vR b] [.null, (.ref b), (.ref x)])) rfl (by rw [hml]; rfl) (a := x) (argsL := [(.ref b), .null]) (rest := []) (lenOf pd_28 rfl) rfl rfl (nle rfl) (hb hby d42_3)
  obtain ⟨rfl, K1, E1, Fc1, u1, ku1, Fv1, V1⟩ := q1
  have z2 : h0.size ≤ h1.size := K1.1
  have S1_x : Safe Z own_EL vm1 h1 x := C1.safe (olt (by omega)) (S0 _ (own_mi (i := 0) rfl))
  refine go (g' := (mkF m 6 #[vR x, vR b] [])) (st1) ?_
  have KK3 : Keep h0 h1 [x] := ((Keep.refl h0 [x]).trans K1 (allS (Or.inl (own_mi (i := 0) rfl)) all0))
  exact fin (v := none) (so := []) W1 (nle rfl) (nle rfl) (⟨rfl, KK3, E1, Fc1, _, _, Fv1, V1⟩) (fun _ q => nomatch q) (fun _ => rfl) (own_retV W1 hx hret (hb hby d42_6))
theorem rm_sbtsl (C : Cx Z a0) (h0 : Heap) (b t : Addr) (kt : ClassId) (ds : List Int32) (hz0 : 0 < ds.length) (hz1 : ds.length ≤ 6) (Bb : Bl Z h0 b t kt ds) :
    Ct l Z a0 own_EL (⟨"java/lang/StringBuilder", "toString", "()Ljava/lang/String;"⟩ : MethodName) jdk_67_method_42_code 1 (Option.some (Jvm.ClassFile.FieldType.object "java/lang/String")) [] (rmm 5 2 16 91) #[(.ref b)] h0 [] (fun v h so => ∃ x : Addr, v = some (.ref x) ∧ Ext h0 h ∧ Exa Z h x "java/lang/String" ∧ Fld Z h x "java/lang/String" "coder" "B" vZ ∧ ∃ (u : Addr) (ku : ClassId), Fld Z h x "java/lang/String" "value" "[B" (.ref u) ∧ Arv Z h u ku .byte (Int32.ofNat ds.length) (ds.map Value.int) vZ) := by
  refine own_enter (plainFor_of_name pn_3) C.ew (F0 := fun m => mkF m 0 #[vR b] []) (fun m => by first | (simp [entryFrame, mkF, argsToLocals, Value.category]; done) | rfl) ?_
  intro p e s m below meth c s₁ G hx hby hml hret hnm W0 S0 go fin
  have z0 := W0.sz
  show G s₁ (mkF m 0 #[vR b] [])
  obtain ⟨x1, T1, h1, g1, W1, E1, A1, D1, U1, st1⟩ := own_new W0 hx (w128 C) (w2 C) (w3 C) (g := (mkF m 0 #[vR b] [])) rfl (hb hby d43_0) (nle rfl) (nle rfl)
  have z2 : h0.size ≤ h1.size := E1.1
  have l1 : ltN x1 h1.size := A1.lt
  have F1_coder : Fld Z h1 x1 "java/lang/String" "coder" "B" vZ := D1 (Or.inr (w28 C)) (ty := .byte) (by decide)
  have F1_value : Fld Z h1 x1 "java/lang/String" "value" "[B" .null := D1 (Or.inr (w30 C)) (ty := (.array .byte)) (by decide)
  refine go (g' := (mkF m 3 #[vR b] [(.ref x1)])) (st1) ?_
  refine go (g' := (mkF m 5 #[vR b] [(.ref b), (.ref x1), (.ref x1)])) (fun _ k => XS.dup W1.here hx rfl (hb hby d43_3) rfl rfl (XS.aloadN W1.here hx rfl (hb hby d43_4) rfl rfl k)) ?_
  have X4 : Ext h0 h1 := own_xt (own_xr h0) E1
  have f5 := Bb.ext X4
  obtain ⟨v3, so3, vm3, T3, h3, W3, C3, q3, hso3, st3⟩ := own_special W1 hx (y := (⟨"java/lang/String", "<init>", "(Ljava/lang/StringBuilder;)V"⟩ : MethodName)) rfl (w129 C) (w130 C) (w3 C) (w131 C) (by decide) (rm_sisl C h1 x1 A1 F1_value F1_coder (by omega) b t kt ds hz0 hz1 f5) (allS (own_safeB W0 X4 (by omega)) all0) (Wd := 1) (nle rfl) (nle rfl) (nle rfl) (nle rfl) (g := (mkF m 5 #[vR b] [(.ref b), (.ref x1), (.ref x1)])) rfl (by rw [hml]; rfl) (a := x1) (argsL := [(.ref b)]) (rest := [(.ref x1)]) (lenOf pd_29 rfl) rfl rfl (nle rfl) (hb hby d43_5)
  obtain ⟨rfl, K3, E3, Fc3, u3, ku3, Fv3, V3⟩ := q3
  have z6 : h1.size ≤ h3.size := K3.1
  have S3_x1 : Safe Z own_EL vm3 h3 x1 := C3.safe (olt (by omega)) (own_safeB W0 X4 (by omega))
  refine go (g' := (mkF m 8 #[vR b] [(.ref x1)])) (st3) ?_
  have X7 : Ext h0 h3 := own_xk X4 K3 (allS (by omega) all0)
  exact fin (v := some (.ref x1)) (so := []) W3 (nle rfl) (nle rfl) (⟨_, rfl, X7, E3, Fc3, _, _, Fv3, V3⟩) (fun _ q => nomatch q) (fun q => nomatch q) (own_retA W3 hx hret rfl rfl rfl (hb hby d43_8))
theorem rm_siaw (C : Cx Z a0) (h0 : Heap) (x : Addr) (Ex : Exa Z h0 x "java/lang/String") (Xv : Fld Z h0 x "java/lang/String" "value" "[B" .null) (Xc : Fld Z h0 x "java/lang/String" "coder" "B" vZ) (nx : Z.heap.size ≤ x) (b t : Addr) (kt : ClassId) (ds : List Int32) (hz0 : 0 < ds.length) (hz1 : ds.length ≤ 6) (Bb : Bw Z h0 b t kt ds) :
    Ct l Z a0 own_EL (⟨"java/lang/String", "<init>", "(Ljava/lang/AbstractStringBuilder;Ljava/lang/Void;)V"⟩ : MethodName) jdk_42_method_150_code 5 (Option.none : Option Jvm.ClassFile.FieldType) [] (rmm 3 1 12 61) #[(.ref x), (.ref b), .null] h0 [x] (fun v h so => v = none ∧ Keep h0 h [x] ∧ Exa Z h x "java/lang/String" ∧ Fld Z h x "java/lang/String" "coder" "B" (.int (1 : Int32)) ∧ ∃ (u : Addr) (ku : ClassId), Fld Z h x "java/lang/String" "value" "[B" (.ref u) ∧ Arv Z h u ku .byte (Int32.ofNat (2 * ds.length)) (wb ds) vZ) := by
  refine own_enter (plainFor_of_name pn_1) C.ew (F0 := fun m => mkF m 0 #[vR x, vR b, .val .null, .unset, .unset] []) (fun m => by first | (simp [entryFrame, mkF, argsToLocals, Value.category]; done) | rfl) ?_
  intro p e s m below meth c s₁ G hx hby hml hret hnm W0 S0 go fin
  have z0 := W0.sz
  show G s₁ (mkF m 0 #[vR x, vR b, .val .null, .unset, .unset] [])
  have lx : ltN x h0.size := Ex.lt
  obtain ⟨Eb, Fv, Fc, Fn, Fm, Vt⟩ := id Bb
  have lt : ltN t h0.size := Vt.lt
  have lb : ltN b h0.size := Eb.lt
  have nbt : b ≠ t := Exa.neArv Eb Vt (w55 C)
  have nbx : b ≠ x := Exa.ne Eb Ex (by decide)
  have ntx : t ≠ x := Ne.symm (Exa.neArv Ex Vt (w2 C))
  refine go (g' := (mkF m 1 #[vR x, vR b, .val .null, .unset, .unset] [(.ref x)])) (fun _ k => XS.aloadN W0.here hx rfl (hb hby d41_0) rfl rfl k) ?_
  obtain ⟨T1, W1, st1⟩ := own_initO W0 hx (w12 C) (w13 C) (w14 C) (g := (mkF m 1 #[vR x, vR b, .val .null, .unset, .unset] [(.ref x)])) rfl (by rw [hml]; rfl) rfl (hb hby d41_1) (nle rfl) (Wd := 0) (nle rfl) (nle rfl)
  refine go (g' := (mkF m 4 #[vR x, vR b, .val .null, .unset, .unset] [])) (st1) ?_
  refine go (g' := (mkF m 5 #[vR x, vR b, .val .null, .unset, .unset] [(.ref b)])) (fun _ k => XS.aloadN W1.here hx rfl (hb hby d41_4) rfl rfl k) ?_
  obtain ⟨v2, so2, vm2, T2, h2, W2, C2, q2, hso2, st2⟩ := own_virtual W1 hx (w135 C) (w136 C) (w138 C) (w137 C) (w64 C) (w139 C) (by decide) (own_nf W1 (w138 C)) Eb (rm_asb_getValue C h0 b (.ref t) rfl Fv) (fun _ q => nomatch q) (Wd := 0) (nle rfl) (nle rfl) (nle rfl) (nle rfl) (g := (mkF m 5 #[vR x, vR b, .val .null, .unset, .unset] [(.ref b)])) rfl (by rw [hml]; rfl) (argsL := []) (rest := []) (lenOf pd_27 rfl) rfl rfl (nle rfl) (hb hby d41_5)
  obtain ⟨rfl, rfl⟩ := q2
  have S2_x : Safe Z own_EL vm2 h0 x := C2.safe (olt (by omega)) (S0 _ (own_mi (i := 0) rfl))
  refine go (g' := (mkF m 8 #[vR x, vR b, .val .null, .unset, .unset] [(.ref t)])) (st2) ?_
  refine go (g' := (mkF m 10 #[vR x, vR b, .val .null, vR t, .unset] [(.ref b)])) (fun _ k => XS.astoreN W2.here hx rfl (hb hby d41_8) rfl rfl (l' := #[vR x, vR b, .val .null, vR t, .unset]) rfl (XS.aloadN W2.here hx rfl (hb hby d41_9) rfl rfl k)) ?_
  obtain ⟨v3, so3, vm3, T3, h3, W3, C3, q3, hso3, st3⟩ := own_virtual W2 hx (w140 C) (w141 C) (w143 C) (w144 C) (w56 C) (w145 C) (by decide) (own_nf2 W2 (y := (⟨"java/lang/AbstractStringBuilder", "length", "()I"⟩ : MethodName)) (w100 C) rfl) Eb (rm_sblen C h0 b (Int32.ofNat ds.length) Eb Fn) (fun _ q => nomatch q) (Wd := 0) (nle rfl) (nle rfl) (nle rfl) (nle rfl) (g := (mkF m 10 #[vR x, vR b, .val .null, vR t, .unset] [(.ref b)])) rfl (by rw [hml]; rfl) (argsL := []) (rest := []) (lenOf pd_22 rfl) rfl rfl (nle rfl) (hb hby d41_10)
  obtain ⟨rfl, rfl⟩ := q3
  have S3_x : Safe Z own_EL vm3 h0 x := C3.safe (olt (by omega)) S2_x
  refine go (g' := (mkF m 13 #[vR x, vR b, .val .null, vR t, .unset] [(.int (Int32.ofNat ds.length))])) (st3) ?_
  refine go (g' := (mkF m 16 #[vR x, vR b, .val .null, vR t, vI (Int32.ofNat ds.length)] [(.ref b)])) (fun _ k => XS.istore W3.here hx rfl (hb hby d41_13) rfl (l' := #[vR x, vR b, .val .null, vR t, vI (Int32.ofNat ds.length)]) rfl (XS.aloadN W3.here hx rfl (hb hby d41_15) rfl rfl k)) ?_
  obtain ⟨v4, so4, vm4, T4, h4, W4, C4, q4, hso4, st4⟩ := own_virtual W3 hx (w148 C) (w149 C) (w151 C) (w150 C) (w64 C) (w152 C) (by decide) (own_nf W3 (w151 C)) Eb (rm_bl11 C h0 b Fc) (fun _ q => nomatch q) (Wd := 0) (nle rfl) (nle rfl) (nle rfl) (nle rfl) (g := (mkF m 16 #[vR x, vR b, .val .null, vR t, vI (Int32.ofNat ds.length)] [(.ref b)])) rfl (by rw [hml]; rfl) (argsL := []) (rest := []) (lenOf pd_16 rfl) rfl rfl (nle rfl) (hb hby d41_16)
  obtain ⟨rfl, rfl⟩ := q4
  have S4_x : Safe Z own_EL vm4 h0 x := C4.safe (olt (by omega)) S3_x
  refine go (g' := (mkF m 19 #[vR x, vR b, .val .null, vR t, vI (Int32.ofNat ds.length)] [vZ])) (st4) ?_
  refine go (g' := (mkF m 41 #[vR x, vR b, .val .null, vR t, vI (Int32.ofNat ds.length)] [])) (fun _ k => XS.ifYes W4.here hx rfl (pc0 := 19) (pc' := 41) rfl (hb hby d41_19) rfl ((if0 _ _).trans (teq ((by decide) : (0 : Int32) = (0 : Int32))).1) (by decide) (by decide) k) ?_
  obtain ⟨gCS, OCS, nCS⟩ := C.cs
  obtain ⟨T5, W5, st5⟩ := own_getS W4 hx (host := "") (Or.inl (w15 C)) Via.refl OCS (g := (mkF m 41 #[vR x, vR b, .val .null, vR t, vI (Int32.ofNat ds.length)] [])) rfl (hb hby d41_41)
  refine go (g' := (mkF m 44 #[vR x, vR b, .val .null, vR t, vI (Int32.ofNat ds.length)] [(.int gCS)])) (st5) ?_
  refine go (g' := (mkF m 48 #[vR x, vR b, .val .null, vR t, vI (Int32.ofNat ds.length)] [(.ref b)])) (fun _ k => XS.ifNo W5.here hx rfl (hb hby d41_44) rfl ((if0 _ _).trans (feq nCS).1) (XS.aloadN W5.here hx rfl (hb hby d41_47) rfl rfl k)) ?_
  obtain ⟨T6, W6, st6⟩ := own_get W5 hx (host := "") (Or.inl (w244 C)) Via.refl Fm (g := (mkF m 48 #[vR x, vR b, .val .null, vR t, vI (Int32.ofNat ds.length)] [(.ref b)])) rfl rfl (hb hby d41_48)
  refine go (g' := (mkF m 51 #[vR x, vR b, .val .null, vR t, vI (Int32.ofNat ds.length)] [vZ])) (st6) ?_
  refine go (g' := (mkF m 81 #[vR x, vR b, .val .null, vR t, vI (Int32.ofNat ds.length)] [(.int (1 : Int32)), (.ref x)])) (fun _ k => XS.ifYes W6.here hx rfl (pc0 := 51) (pc' := 79) rfl (hb hby d41_51) rfl ((if0 _ _).trans (teq ((by decide) : (0 : Int32) = (0 : Int32))).1) (by decide) (by decide) (XS.aloadN W6.here hx rfl (hb hby d41_79) rfl rfl (XS.iconst W6.here hx rfl (hb hby d41_80) k))) ?_
  obtain ⟨T7, h7, W7, R7, F7, st7⟩ := own_put W6 hx (host := "") (Or.inl (w27 C)) Via.refl Xc Ex (Or.inr ⟨(w28 C), rfl, hnm⟩) (w2 C) (ty := .byte) (by decide) rfl (by decide) S4_x (by omega) (g := (mkF m 81 #[vR x, vR b, .val .null, vR t, vI (Int32.ofNat ds.length)] [(.int (1 : Int32)), (.ref x)])) rfl rfl (hb hby d41_81)
  have z8 : h7.size = h0.size := R7.size
  have f9 := Ex.wr R7
  have f10 := Xv.other R7 (Or.inr (slot_ne (Or.inr (w30 C)) (Or.inr (w28 C)) (by decide) (t := (.array .byte)) (t' := .byte) (by decide) (by decide)))
  have S7 : Safe Z own_EL vm4 h7 x := Safe.wr R7 S4_x W6.ch S4_x
  refine go (g' := (mkF m 84 #[vR x, vR b, .val .null, vR t, vI (Int32.ofNat ds.length)] [])) (st7) ?_
  refine go (g' := (mkF m 91 #[vR x, vR b, .val .null, vR t, vI (Int32.ofNat ds.length)] [(.int ((Int32.ofNat ds.length) <<< ((1 : Int32) &&& 31))), vZ, (.ref t), (.ref x)])) (fun _ k => XS.aloadN W7.here hx rfl (hb hby d41_84) rfl rfl (XS.aloadN W7.here hx rfl (hb hby d41_85) rfl rfl (XS.iconst W7.here hx rfl (hb hby d41_86) (XS.iload W7.here hx rfl (hb hby d41_87) rfl (XS.iconst W7.here hx rfl (hb hby d41_89) (XS.ishl W7.here hx rfl (hb hby d41_90) rfl k)))))) ?_
  rw [show ((Int32.ofNat ds.length) <<< ((1 : Int32) &&& 31)) = (Int32.ofNat (2 * ds.length)) from own_shl1 _]
  have f12 := Vt.other R7 ntx
  obtain ⟨v11, so11, vm11, T11, h11, W11, C11, q11, hso11, st11⟩ := own_static W7 hx (w153 C) (w154 C) (w155 C) (w156 C) (by decide) (rm_cor C h7 t kt (wb ds) 32 (2 * ds.length) (by omega) (own_wbl ds) (by omega) (by omega) (by omega) f12) (fun _ q => nomatch q) (Wd := 1) (nle rfl) (nle rfl) (nle rfl) (nle rfl) (g := (mkF m 91 #[vR x, vR b, .val .null, vR t, vI (Int32.ofNat ds.length)] [(.int (Int32.ofNat (2 * ds.length))), vZ, (.ref t), (.ref x)])) rfl (by rw [hml]; rfl) (argsL := [(.ref t), vZ, (.int (Int32.ofNat (2 * ds.length)))]) (rest := [(.ref x)]) (lenOf pd_26 rfl) rfl rfl (nle rfl) (hb hby d41_91)
  obtain ⟨x11, k11, rfl, E11, g11, V11⟩ := q11
  have z13 : h7.size ≤ h11.size := E11.1
  have S11_x : Safe Z own_EL vm11 h11 x := C11.safe (olt (by omega)) S7
  refine go (g' := (mkF m 94 #[vR x, vR b, .val .null, vR t, vI (Int32.ofNat ds.length)] [(.ref x11), (.ref x)])) (st11) ?_
  have X14 : Ext h7 h11 := own_xt (own_xr h7) E11
  have f15 := f10.ext X14
  have f16 := f9.ext X14
  obtain ⟨T17, h17, W17, R17, F17, st17⟩ := own_put W11 hx (host := "") (Or.inl (w29 C)) Via.refl f15 f16 (Or.inr ⟨(w30 C), rfl, hnm⟩) (w2 C) (ty := (.array .byte)) (by decide) rfl rfl S11_x (by omega) (g := (mkF m 94 #[vR x, vR b, .val .null, vR t, vI (Int32.ofNat ds.length)] [(.ref x11), (.ref x)])) rfl rfl (hb hby d41_94)
  have f18 := F7.ext X14
  have z19 : h17.size = h11.size := R17.size
  have f20 := f16.wr R17
  have f21 := f18.other R17 (Or.inr (slot_ne (Or.inr (w28 C)) (Or.inr (w30 C)) (by decide) (t := .byte) (t' := (.array .byte)) (by decide) (by decide)))
  have S17 : Safe Z own_EL vm11 h17 x := Safe.wr R17 S11_x W11.ch S11_x
  refine go (g' := (mkF m 97 #[vR x, vR b, .val .null, vR t, vI (Int32.ofNat ds.length)] [])) (st17) ?_
  have KK22 : Keep h0 h17 [x] := ((((Keep.refl h0 [x]).wr R7 (Or.inl (own_mi (i := 0) rfl))).ext E11).wr R17 (Or.inl (own_mi (i := 0) rfl)))
  have l24 : ltN x11 h11.size := V11.lt
  have f23 := V11.other R17 (one (by omega))
  exact fin (v := none) (so := []) W17 (nle rfl) (nle rfl) (⟨rfl, KK22, f20, f21, _, _, F17, f23⟩) (fun _ q => nomatch q) (fun _ => rfl) (own_retV W17 hx hret (hb hby d41_97))
theorem rm_sisw (C : Cx Z a0) (h0 : Heap) (x : Addr) (Ex : Exa Z h0 x "java/lang/String") (Xv : Fld Z h0 x "java/lang/String" "value" "[B" .null) (Xc : Fld Z h0 x "java/lang/String" "coder" "B" vZ) (nx : Z.heap.size ≤ x) (b t : Addr) (kt : ClassId) (ds : List Int32) (hz0 : 0 < ds.length) (hz1 : ds.length ≤ 6) (Bb : Bw Z h0 b t kt ds) :
    Ct l Z a0 own_EL (⟨"java/lang/String", "<init>", "(Ljava/lang/StringBuilder;)V"⟩ : MethodName) jdk_42_method_53_code 2 (Option.none : Option Jvm.ClassFile.FieldType) [] (rmm 4 1 12 77) #[(.ref x), (.ref b)] h0 [x] (fun v h so => v = none ∧ Keep h0 h [x] ∧ Exa Z h x "java/lang/String" ∧ Fld Z h x "java/lang/String" "coder" "B" (.int (1 : Int32)) ∧ ∃ (u : Addr) (ku : ClassId), Fld Z h x "java/lang/String" "value" "[B" (.ref u) ∧ Arv Z h u ku .byte (Int32.ofNat (2 * ds.length)) (wb ds) vZ) := by
  refine own_enter (plainFor_of_name pn_1) C.ew (F0 := fun m => mkF m 0 #[vR x, vR b] []) (fun m => by first | (simp [entryFrame, mkF, argsToLocals, Value.category]; done) | rfl) ?_
  intro p e s m below meth c s₁ G hx hby hml hret hnm W0 S0 go fin
  have z0 := W0.sz
  show G s₁ (mkF m 0 #[vR x, vR b] [])
  have lx : ltN x h0.size := Ex.lt
  obtain ⟨Eb, Fv, Fc, Fn, Fm, Vt⟩ := id Bb
  have lt : ltN t h0.size := Vt.lt
  have lb : ltN b h0.size := Eb.lt
  have nbt : b ≠ t := Exa.neArv Eb Vt (w55 C)
  have nbx : b ≠ x := Exa.ne Eb Ex (by decide)
  have ntx : t ≠ x := Ne.symm (Exa.neArv Ex Vt (w2 C))
  refine go (g' := (mkF m 3 #[vR x, vR b] [.null, (.ref b), (.ref x)])) (fun _ k => XS.aloadN W0.here hx rfl (hb hby d42_0) rfl rfl (XS.aloadN W0.here hx rfl (hb hby d42_1) rfl rfl (XS.aconstNull W0.here hx rfl (hb hby d42_2) k))) ?_
  obtain ⟨v1, so1, vm1, T1, h1, W1, C1, q1, hso1, st1⟩ := own_special W0 hx (y := (⟨"java/lang/String", "<init>", "(Ljava/lang/AbstractStringBuilder;Ljava/lang/Void;)V"⟩ : MethodName)) rfl (w132 C) (w133 C) (w3 C) (w134 C) (by decide) (rm_siaw C h0 x Ex Xv Xc (by omega) b t kt ds hz0 hz1 Bb) (allS (S0 _ (own_mi (i := 0) rfl)) all0) (Wd := 0) (nle rfl) (nle rfl) (nle rfl) (nle rfl) (g := (mkF m 3 #[vR x, vR b] [.null, (.ref b), (.ref x)])) rfl (by rw [hml]; rfl) (a := x) (argsL := [(.ref b), .null]) (rest := []) (lenOf pd_28 rfl) rfl rfl (nle rfl) (hb hby d42_3)
  obtain ⟨rfl, K1, E1, Fc1, u1, ku1, Fv1, V1⟩ := q1
  have z2 : h0.size ≤ h1.size := K1.1
  have S1_x : Safe Z own_EL vm1 h1 x := C1.safe (olt (by omega)) (S0 _ (own_mi (i := 0) rfl))
  refine go (g' := (mkF m 6 #[vR x, vR b] [])) (st1) ?_
  have KK3 : Keep h0 h1 [x] := ((Keep.refl h0 [x]).trans K1 (allS (Or.inl (own_mi (i := 0) rfl)) all0))
  exact fin (v := none) (so := []) W1 (nle rfl) (nle rfl) (⟨rfl, KK3, E1, Fc1, _, _, Fv1, V1⟩) (fun _ q => nomatch q) (fun _ => rfl) (own_retV W1 hx hret (hb hby d42_6))
theorem rm_sbtsw (C : Cx Z a0) (h0 : Heap) (b t : Addr) (kt : ClassId) (ds : List Int32) (hz0 : 0 < ds.length) (hz1 : ds.length ≤ 6) (Bb : Bw Z h0 b t kt ds) :
    Ct l Z a0 own_EL (⟨"java/lang/StringBuilder", "toString", "()Ljava/lang/String;"⟩ : MethodName) jdk_67_method_42_code 1 (Option.some (Jvm.ClassFile.FieldType.object "java/lang/String")) [] (rmm 5 2 16 91) #[(.ref b)] h0 [] (fun v h so => ∃ x : Addr, v = some (.ref x) ∧ Ext h0 h ∧ Exa Z h x "java/lang/String" ∧ Fld Z h x "java/lang/String" "coder" "B" (.int (1 : Int32)) ∧ ∃ (u : Addr) (ku : ClassId), Fld Z h x "java/lang/String" "value" "[B" (.ref u) ∧ Arv Z h u ku .byte (Int32.ofNat (2 * ds.length)) (wb ds) vZ) := by
  refine own_enter (plainFor_of_name pn_3) C.ew (F0 := fun m => mkF m 0 #[vR b] []) (fun m => by first | (simp [entryFrame, mkF, argsToLocals, Value.category]; done) | rfl) ?_
  intro p e s m below meth c s₁ G hx hby hml hret hnm W0 S0 go fin
  have z0 := W0.sz
  show G s₁ (mkF m 0 #[vR b] [])
  obtain ⟨x1, T1, h1, g1, W1, E1, A1, D1, U1, st1⟩ := own_new W0 hx (w128 C) (w2 C) (w3 C) (g := (mkF m 0 #[vR b] [])) rfl (hb hby d43_0) (nle rfl) (nle rfl)
  have z2 : h0.size ≤ h1.size := E1.1
  have l1 : ltN x1 h1.size := A1.lt
  have F1_coder : Fld Z h1 x1 "java/lang/String" "coder" "B" vZ := D1 (Or.inr (w28 C)) (ty := .byte) (by decide)
  have F1_value : Fld Z h1 x1 "java/lang/String" "value" "[B" .null := D1 (Or.inr (w30 C)) (ty := (.array .byte)) (by decide)
  refine go (g' := (mkF m 3 #[vR b] [(.ref x1)])) (st1) ?_
  refine go (g' := (mkF m 5 #[vR b] [(.ref b), (.ref x1), (.ref x1)])) (fun _ k => XS.dup W1.here hx rfl (hb hby d43_3) rfl rfl (XS.aloadN W1.here hx rfl (hb hby d43_4) rfl rfl k)) ?_
  have X4 : Ext h0 h1 := own_xt (own_xr h0) E1
  have f5 := Bb.ext X4
  obtain ⟨v3, so3, vm3, T3, h3, W3, C3, q3, hso3, st3⟩ := own_special W1 hx (y := (⟨"java/lang/String", "<init>", "(Ljava/lang/StringBuilder;)V"⟩ : MethodName)) rfl (w129 C) (w130 C) (w3 C) (w131 C) (by decide) (rm_sisw C h1 x1 A1 F1_value F1_coder (by omega) b t kt ds hz0 hz1 f5) (allS (own_safeB W0 X4 (by omega)) all0) (Wd := 1) (nle rfl) (nle rfl) (nle rfl) (nle rfl) (g := (mkF m 5 #[vR b] [(.ref b), (.ref x1), (.ref x1)])) rfl (by rw [hml]; rfl) (a := x1) (argsL := [(.ref b)]) (rest := [(.ref x1)]) (lenOf pd_29 rfl) rfl rfl (nle rfl) (hb hby d43_5)
  obtain ⟨rfl, K3, E3, Fc3, u3, ku3, Fv3, V3⟩ := q3
  have z6 : h1.size ≤ h3.size := K3.1
  have S3_x1 : Safe Z own_EL vm3 h3 x1 := C3.safe (olt (by omega)) (own_safeB W0 X4 (by omega))
  refine go (g' := (mkF m 8 #[vR b] [(.ref x1)])) (st3) ?_
  have X7 : Ext h0 h3 := own_xk X4 K3 (allS (by omega) all0)
  exact fin (v := some (.ref x1)) (so := []) W3 (nle rfl) (nle rfl) (⟨_, rfl, X7, E3, Fc3, _, _, Fv3, V3⟩) (fun _ q => nomatch q) (fun q => nomatch q) (own_retA W3 hx hret rfl rfl rfl (hb hby d43_8))
theorem rm_record (C : Cx Z a0) (h0 : Heap) (x : Addr) :
    Ct l Z a0 own_EL (⟨"java/lang/Record", "<init>", "()V"⟩ : MethodName) jdk_30_method_1_code 1 (Option.none : Option Jvm.ClassFile.FieldType) [] (rmm 1 0 0 12) #[(.ref x)] h0 [] (fun v h so => v = none ∧ h0 = h) := by
  refine own_enter (plainFor_of_name pn_7) C.ew (F0 := fun m => mkF m 0 #[vR x] []) (fun m => by first | (simp [entryFrame, mkF, argsToLocals, Value.category]; done) | rfl) ?_
  intro p e s m below meth c s₁ G hx hby hml hret hnm W0 S0 go fin
  have z0 := W0.sz
  show G s₁ (mkF m 0 #[vR x] [])
  refine go (g' := (mkF m 1 #[vR x] [(.ref x)])) (fun _ k => XS.aloadN W0.here hx rfl (hb hby d44_0) rfl rfl k) ?_
  obtain ⟨T1, W1, st1⟩ := own_initO W0 hx (w42 C) (w13 C) (w14 C) (g := (mkF m 1 #[vR x] [(.ref x)])) rfl (by rw [hml]; rfl) rfl (hb hby d44_1) (nle rfl) (Wd := 0) (nle rfl) (nle rfl)
  refine go (g' := (mkF m 4 #[vR x] [])) (st1) ?_
  exact fin (v := none) (so := []) W1 (nle rfl) (nle rfl) (⟨rfl, rfl⟩) (fun _ q => nomatch q) (fun _ => rfl) (own_retV W1 hx hret (hb hby d44_4))
theorem rm_tag (C : Cx Z a0) (h0 : Heap) (x : Addr) (u0 : Value) (r0 : u0.isRef = true) (u1 : Int32) (n1 : narrow .boolean (.int u1) = .int u1 ∧ fits .boolean (.int u1) = true) (u2 : Int64) (F_name : Fld Z h0 x "com/example/aproape/aproape/io/MarkupReader$Tag" "name" "Ljava/lang/String;" .null) (F_closing : Fld Z h0 x "com/example/aproape/aproape/io/MarkupReader$Tag" "closing" "Z" vZ) (F_line : Fld Z h0 x "com/example/aproape/aproape/io/MarkupReader$Tag" "line" "J" (.long (0 : Int64))) (Ex : Exa Z h0 x "com/example/aproape/aproape/io/MarkupReader$Tag") (nx : Z.heap.size ≤ x) :
    Ct l Z a0 own_EL (⟨"com/example/aproape/aproape/io/MarkupReader$Tag", "<init>", "(Ljava/lang/String;ZJ)V"⟩ : MethodName) prog_16_method_1_code 5 (Option.none : Option Jvm.ClassFile.FieldType) [] (rmm 2 0 0 24) #[(.ref x), u0, (.int u1), (.long u2)] h0 [] (fun v h so => v = none ∧ Keep h0 h [x] ∧ Exa Z h x "com/example/aproape/aproape/io/MarkupReader$Tag" ∧ Fld Z h x "com/example/aproape/aproape/io/MarkupReader$Tag" "name" "Ljava/lang/String;" u0 ∧ Fld Z h x "com/example/aproape/aproape/io/MarkupReader$Tag" "closing" "Z" (.int u1) ∧ Fld Z h x "com/example/aproape/aproape/io/MarkupReader$Tag" "line" "J" (.long u2)) := by
  refine own_enter (plainFor_of_name pn_8) C.ew (F0 := fun m => mkF m 0 #[vR x, .val u0, vI u1, .val (.long u2), .second] []) (fun m => by rcases ref_cases r0 with rfl | ⟨_, rfl⟩ <;> rfl) ?_
  intro p e s m below meth c s₁ G hx hby hml hret hnm W0 S0 go fin
  have z0 := W0.sz
  show G s₁ (mkF m 0 #[vR x, .val u0, vI u1, .val (.long u2), .second] [])
  have lx : ltN x h0.size := Ex.lt
  refine go (g' := (mkF m 1 #[vR x, .val u0, vI u1, .val (.long u2), .second] [(.ref x)])) (fun _ k => XS.aloadN W0.here hx rfl (hb hby d45_0) rfl rfl k) ?_
  obtain ⟨v1, so1, vm1, T1, h1, W1, C1, q1, hso1, st1⟩ := own_special W0 hx (y := (⟨"java/lang/Record", "<init>", "()V"⟩ : MethodName)) rfl (w37 C) (w38 C) (w40 C) (w41 C) (by decide) (rm_record C h0 x) (fun _ q => nomatch q) (Wd := 0) (nle rfl) (nle rfl) (nle rfl) (nle rfl) (g := (mkF m 1 #[vR x, .val u0, vI u1, .val (.long u2), .second] [(.ref x)])) rfl (by rw [hml]; rfl) (a := x) (argsL := []) (rest := []) (lenOf pd_19 rfl) rfl rfl (nle rfl) (hb hby d45_1)
  obtain ⟨rfl, rfl⟩ := q1
  refine go (g' := (mkF m 4 #[vR x, .val u0, vI u1, .val (.long u2), .second] [])) (st1) ?_
  refine go (g' := (mkF m 6 #[vR x, .val u0, vI u1, .val (.long u2), .second] [u0, (.ref x)])) (fun _ k => XS.aloadN W1.here hx rfl (hb hby d45_4) rfl rfl (XS.aloadN W1.here hx rfl (hb hby d45_5) rfl r0 k)) ?_
  obtain ⟨T2, h2, W2, R2, F2, st2⟩ := own_put W1 hx (host := "") (Or.inl (w43 C)) Via.refl F_name Ex (Or.inr ⟨(w44 C), rfl, hnm⟩) (w32 C) (ty := (.object "java/lang/String")) (by decide) (own_nrR r0 rfl) (own_ftR r0 rfl) (own_safeE W1 Ex (by decide) (by decide)) (by omega) (g := (mkF m 6 #[vR x, .val u0, vI u1, .val (.long u2), .second] [u0, (.ref x)])) rfl rfl (hb hby d45_6)
  have z3 : h2.size = h0.size := R2.size
  have f4 := F_closing.other R2 (Or.inr (slot_ne (Or.inr (w46 C)) (Or.inr (w44 C)) (by decide) (t := .boolean) (t' := (.object "java/lang/String")) (by decide) (by decide)))
  have f5 := F_line.other R2 (Or.inr (slot_ne (Or.inr (w48 C)) (Or.inr (w44 C)) (by decide) (t := .long) (t' := (.object "java/lang/String")) (by decide) (by decide)))
  have f6 := Ex.wr R2
  refine go (g' := (mkF m 9 #[vR x, .val u0, vI u1, .val (.long u2), .second] [])) (st2) ?_
  refine go (g' := (mkF m 11 #[vR x, .val u0, vI u1, .val (.long u2), .second] [(.int u1), (.ref x)])) (fun _ k => XS.aloadN W2.here hx rfl (hb hby d45_9) rfl rfl (XS.iloadN W2.here hx rfl (hb hby d45_10) rfl k)) ?_
  obtain ⟨T7, h7, W7, R7, F7, st7⟩ := own_put W2 hx (host := "") (Or.inl (w45 C)) Via.refl f4 f6 (Or.inr ⟨(w46 C), rfl, hnm⟩) (w32 C) (ty := .boolean) (by decide) n1.1 n1.2 (own_safeE W2 f6 (by decide) (by decide)) (by omega) (g := (mkF m 11 #[vR x, .val u0, vI u1, .val (.long u2), .second] [(.int u1), (.ref x)])) rfl rfl (hb hby d45_11)
  have z8 : h7.size = h2.size := R7.size
  have f9 := F2.other R7 (Or.inr (slot_ne (Or.inr (w44 C)) (Or.inr (w46 C)) (by decide) (t := (.object "java/lang/String")) (t' := .boolean) (by decide) (by decide)))
  have f10 := f5.other R7 (Or.inr (slot_ne (Or.inr (w48 C)) (Or.inr (w46 C)) (by decide) (t := .long) (t' := .boolean) (by decide) (by decide)))
  have f11 := f6.wr R7
  refine go (g' := (mkF m 14 #[vR x, .val u0, vI u1, .val (.long u2), .second] [])) (st7) ?_
  refine go (g' := (mkF m 16 #[vR x, .val u0, vI u1, .val (.long u2), .second] [(.long u2), (.ref x)])) (fun _ k => XS.aloadN W7.here hx rfl (hb hby d45_14) rfl rfl (XS.lloadN W7.here hx rfl (hb hby d45_15) rfl k)) ?_
  obtain ⟨T12, h12, W12, R12, F12, st12⟩ := own_put W7 hx (host := "") (Or.inl (w47 C)) Via.refl f10 f11 (Or.inr ⟨(w48 C), rfl, hnm⟩) (w32 C) (ty := .long) (by decide) rfl rfl (own_safeE W7 f11 (by decide) (by decide)) (by omega) (g := (mkF m 16 #[vR x, .val u0, vI u1, .val (.long u2), .second] [(.long u2), (.ref x)])) rfl rfl (hb hby d45_16)
  have z13 : h12.size = h7.size := R12.size
  have f14 := f9.other R12 (Or.inr (slot_ne (Or.inr (w44 C)) (Or.inr (w48 C)) (by decide) (t := (.object "java/lang/String")) (t' := .long) (by decide) (by decide)))
  have f15 := F7.other R12 (Or.inr (slot_ne (Or.inr (w46 C)) (Or.inr (w48 C)) (by decide) (t := .boolean) (t' := .long) (by decide) (by decide)))
  have f16 := f11.wr R12
  refine go (g' := (mkF m 19 #[vR x, .val u0, vI u1, .val (.long u2), .second] [])) (st12) ?_
  have KK17 : Keep h0 h12 [x] := ((((Keep.refl h0 [x]).wr R2 (Or.inl (own_mi (i := 0) rfl))).wr R7 (Or.inl (own_mi (i := 0) rfl))).wr R12 (Or.inl (own_mi (i := 0) rfl)))
  exact fin (v := none) (so := []) W12 (nle rfl) (nle rfl) (⟨rfl, KK17, f16, f14, f15, F12⟩) (fun _ q => nomatch q) (fun _ => rfl) (own_retV W12 hx hret (hb hby d45_19))
theorem rm_ts0l (C : Cx Z a0) (h0 : Heap) (x a : Addr) (cs : List Int32) (Ex : Exa Z h0 x "com/example/aproape/aproape/io/MarkupReader$Tag") (Fo : Fld Z h0 x "com/example/aproape/aproape/io/MarkupReader$Tag" "closing" "Z" vZ) (Fx : Fld Z h0 x "com/example/aproape/aproape/io/MarkupReader$Tag" "name" "Ljava/lang/String;" (.ref a)) (l0 : cs.length ≤ 3) (Sa : Str Z h0 a cs) :
    Ct l Z a0 own_EL (⟨"com/example/aproape/aproape/io/MarkupReader$Tag", "toString", "()Ljava/lang/String;"⟩ : MethodName) prog_16_method_3_code 1 (Option.some (Jvm.ClassFile.FieldType.object "java/lang/String")) [] (rmm 10 9 84 143) #[(.ref x)] h0 [] (fun v h so => ∃ y : Addr, v = some (.ref y) ∧ Ext h0 h ∧ Sx Z h y (([(60 : Int32)] ++ cs) ++ [(62 : Int32)])) := by
  refine own_enter (plainFor_of_name pn_8) C.ew (F0 := fun m => mkF m 0 #[vR x] []) (fun m => by first | (simp [entryFrame, mkF, argsToLocals, Value.category]; done) | rfl) ?_
  intro p e s m below meth c s₁ G hx hby hml hret hnm W0 S0 go fin
  have z0 := W0.sz
  show G s₁ (mkF m 0 #[vR x] [])
  have hl_cs : cs.length ≤ 4000 := by omega
  obtain ⟨x1, T1, h1, g1, W1, E1, A1, D1, U1, st1⟩ := own_new W0 hx (w54 C) (w55 C) (w56 C) (g := (mkF m 0 #[vR x] [])) rfl (hb hby d46_0) (nle rfl) (nle rfl)
  have z2 : h0.size ≤ h1.size := E1.1
  have l1 : ltN x1 h1.size := A1.lt
  have F1_value : Fld Z h1 x1 "java/lang/AbstractStringBuilder" "value" "[B" .null := D1 (Or.inl (w69 C)) (ty := (.array .byte)) (by decide)
  have F1_coder : Fld Z h1 x1 "java/lang/AbstractStringBuilder" "coder" "B" vZ := D1 (Or.inl (w71 C)) (ty := .byte) (by decide)
  have F1_count : Fld Z h1 x1 "java/lang/AbstractStringBuilder" "count" "I" vZ := D1 (Or.inl (w96 C)) (ty := .int) (by decide)
  have F1_maybeLatin1 : Fld Z h1 x1 "java/lang/AbstractStringBuilder" "maybeLatin1" "Z" vZ := D1 (Or.inl (w245 C)) (ty := .boolean) (by decide)
  refine go (g' := (mkF m 3 #[vR x] [(.ref x1)])) (st1) ?_
  refine go (g' := (mkF m 4 #[vR x] [(.ref x1), (.ref x1)])) (fun _ k => XS.dup W1.here hx rfl (hb hby d46_3) rfl rfl k) ?_
  obtain ⟨v3, so3, vm3, T3, h3, W3, C3, q3, hso3, st3⟩ := own_special W1 hx (y := (⟨"java/lang/StringBuilder", "<init>", "()V"⟩ : MethodName)) rfl (w57 C) (w58 C) (w56 C) (w59 C) (by decide) (rm_sbinit C h1 x1 A1 F1_value F1_coder F1_count F1_maybeLatin1 (by omega)) (fun _ q => nomatch q) (Wd := 1) (nle rfl) (nle rfl) (nle rfl) (nle rfl) (g := (mkF m 4 #[vR x] [(.ref x1), (.ref x1)])) rfl (by rw [hml]; rfl) (a := x1) (argsL := []) (rest := [(.ref x1)]) (lenOf pd_19 rfl) rfl rfl (nle rfl) (hb hby d46_4)
  obtain ⟨rfl, K3, t3, k3, rfl, g3, B3⟩ := q3
  have z4 : h1.size ≤ h3.size := K3.1
  have lt3 : ltN t3 h3.size := B3.2.2.2.2.2.lt
  refine go (g' := (mkF m 7 #[vR x] [(.ref x1)])) (st3) ?_
  refine go (g' := (mkF m 8 #[vR x] [(.ref x), (.ref x1)])) (fun _ k => XS.aloadN W3.here hx rfl (hb hby d46_7) rfl rfl k) ?_
  have X5 : Ext h0 h1 := own_xt (own_xr h0) E1
  have X6 : Ext h0 h3 := own_xk X5 K3 (allS (by omega) all0)
  have f7 := Fo.ext X6
  obtain ⟨T8, W8, st8⟩ := own_get W3 hx (host := "") (Or.inl (w45 C)) Via.refl f7 (g := (mkF m 8 #[vR x] [(.ref x), (.ref x1)])) rfl rfl (hb hby d46_8)
  refine go (g' := (mkF m 11 #[vR x] [vZ, (.ref x1)])) (st8) ?_
  refine go (g' := (mkF m 19 #[vR x] [(.ref x1)])) (fun _ k => XS.ifYes W8.here hx rfl (pc0 := 11) (pc' := 19) rfl (hb hby d46_11) rfl ((if0 _ _).trans (teq ((by decide) : (0 : Int32) = (0 : Int32))).1) (by decide) (by decide) k) ?_
  obtain ⟨x9, y9, k9, vm9, T9, h9, W9, E9, C9, A9, B9, D9, V9, N9, st9⟩ := own_ldcR W8 hx (w72 C) (own_wS C) (by decide) (vs := [(.int (60 : Int32))]) (z := (1 : Int32)) (by decide +kernel) (by decide) rfl (g := (mkF m 19 #[vR x] [(.ref x1)])) rfl (hb hby d46_19) (n := 4) (by decide) (nle rfl) (nle rfl) (nle rfl)
  have z10 : h3.size ≤ h9.size := E9.1
  have S9_t3 : Safe Z own_EL vm9 h9 t3 := C9.safe (olt (by omega)) (hso3 _ (own_mi (i := 0) rfl))
  have S9_x1 : Safe Z own_EL vm9 h9 x1 := C9.safe (olt (by omega)) (own_safeE W8 B3.1 (by decide) (by decide))
  refine go (g' := (mkF m 21 #[vR x] [(.ref x9), (.ref x1)])) (st9) ?_
  have SL11 : Str Z h9 x9 [(60 : Int32)] := own_litS (cs := [(60 : Int32)]) A9 B9 D9 V9 rfl (own_alS ⟨by decide, by decide⟩ own_al0) (by decide)
  have X13 : Ext h3 h9 := own_xt (own_xr h3) E9
  have f14 := B3.ext X13
  have f15 := B3.1.ext X13
  obtain ⟨v12, so12, vm12, T12, h12, W12, C12, q12, hso12, st12⟩ := own_virtual W9 hx (w75 C) (w76 C) (w78 C) (w77 C) (w56 C) (w79 C) (by decide) (own_nf W9 (w78 C)) f15 (rm_sap00 C h9 x1 t3 k3 ([] : List Int32) x9 [(60 : Int32)] SL11 (nle rfl) f14 (by omega) (by omega)) (allS S9_t3 all0) (Wd := 0) (nle rfl) (nle rfl) (nle rfl) (nle rfl) (g := (mkF m 21 #[vR x] [(.ref x9), (.ref x1)])) rfl (by rw [hml]; rfl) (argsL := [(.ref x9)]) (rest := []) (lenOf pd_30 rfl) rfl rfl (nle rfl) (hb hby d46_21)
  obtain ⟨rfl, K12, B12⟩ := q12
  have z16 : h9.size ≤ h12.size := K12.1
  have S12_t3 : Safe Z own_EL vm12 h12 t3 := C12.safe (olt (by omega)) S9_t3
  refine go (g' := (mkF m 24 #[vR x] [(.ref x1)])) (st12) ?_
  have BL17 : Bl Z h12 x1 t3 k3 [(60 : Int32)] := by have q := B12; rw [show (([] : List Int32) ++ ([(60 : Int32)].map fun c => c.toInt8.toInt32)) = [(60 : Int32)] from by decide] at q; exact q
  refine go (g' := (mkF m 25 #[vR x] [(.ref x), (.ref x1)])) (fun _ k => XS.aloadN W12.here hx rfl (hb hby d46_24) rfl rfl k) ?_
  have X18 : Ext h0 h9 := own_xt X6 E9
  have X19 : Ext h0 h12 := own_xk X18 K12 (allS (by omega) (allS (by omega) all0))
  have f20 := Fx.ext X19
  obtain ⟨T21, W21, st21⟩ := own_get W12 hx (host := "") (Or.inl (w43 C)) Via.refl f20 (g := (mkF m 25 #[vR x] [(.ref x), (.ref x1)])) rfl rfl (hb hby d46_25)
  refine go (g' := (mkF m 28 #[vR x] [(.ref a), (.ref x1)])) (st21) ?_
  have f23 := Sa.ext X19
  obtain ⟨v22, so22, vm22, T22, h22, W22, C22, q22, hso22, st22⟩ := own_virtual W21 hx (w75 C) (w76 C) (w78 C) (w77 C) (w56 C) (w79 C) (by decide) (own_nf W21 (w78 C)) BL17.1 (rm_sap00 C h12 x1 t3 k3 [(60 : Int32)] a cs f23 (by simp only [List.length_cons, List.length_nil]; omega) BL17 (by omega) (by omega)) (allS S12_t3 all0) (Wd := 0) (nle rfl) (nle rfl) (nle rfl) (nle rfl) (g := (mkF m 28 #[vR x] [(.ref a), (.ref x1)])) rfl (by rw [hml]; rfl) (argsL := [(.ref a)]) (rest := []) (lenOf pd_30 rfl) rfl rfl (nle rfl) (hb hby d46_28)
  obtain ⟨rfl, K22, B22⟩ := q22
  have z24 : h12.size ≤ h22.size := K22.1
  have S22_t3 : Safe Z own_EL vm22 h22 t3 := C22.safe (olt (by omega)) S12_t3
  refine go (g' := (mkF m 31 #[vR x] [(.ref x1)])) (st22) ?_
  obtain ⟨x25, y25, k25, vm25, T25, h25, W25, E25, C25, A25, B25, D25, V25, N25, st25⟩ := own_ldcR W22 hx (w122 C) (own_wS C) (by decide) (vs := [(.int (62 : Int32))]) (z := (1 : Int32)) (by decide +kernel) (by decide) rfl (g := (mkF m 31 #[vR x] [(.ref x1)])) rfl (hb hby d46_31) (n := 4) (by decide) (nle rfl) (nle rfl) (nle rfl)
  have z26 : h22.size ≤ h25.size := E25.1
  have S25_t3 : Safe Z own_EL vm25 h25 t3 := C25.safe (olt (by omega)) S22_t3
  have S25_x1 : Safe Z own_EL vm25 h25 x1 := C25.safe (olt (by omega)) (own_safeE W22 B22.1 (by decide) (by decide))
  refine go (g' := (mkF m 33 #[vR x] [(.ref x25), (.ref x1)])) (st25) ?_
  have SL27 : Str Z h25 x25 [(62 : Int32)] := own_litS (cs := [(62 : Int32)]) A25 B25 D25 V25 rfl (own_alS ⟨by decide, by decide⟩ own_al0) (by decide)
  have X29 : Ext h22 h25 := own_xt (own_xr h22) E25
  have f30 := B22.ext X29
  have f31 := B22.1.ext X29
  obtain ⟨v28, so28, vm28, T28, h28, W28, C28, q28, hso28, st28⟩ := own_virtual W25 hx (w75 C) (w76 C) (w78 C) (w77 C) (w56 C) (w79 C) (by decide) (own_nf W25 (w78 C)) f31 (rm_sap00 C h25 x1 t3 k3 ([(60 : Int32)] ++ (cs.map fun c => c.toInt8.toInt32)) x25 [(62 : Int32)] SL27 (by simp only [List.length_append, List.length_map, List.length_cons, List.length_nil]; omega) f30 (by omega) (by omega)) (allS S25_t3 all0) (Wd := 0) (nle rfl) (nle rfl) (nle rfl) (nle rfl) (g := (mkF m 33 #[vR x] [(.ref x25), (.ref x1)])) rfl (by rw [hml]; rfl) (argsL := [(.ref x25)]) (rest := []) (lenOf pd_30 rfl) rfl rfl (nle rfl) (hb hby d46_33)
  obtain ⟨rfl, K28, B28⟩ := q28
  have z32 : h25.size ≤ h28.size := K28.1
  have S28_t3 : Safe Z own_EL vm28 h28 t3 := C28.safe (olt (by omega)) S25_t3
  refine go (g' := (mkF m 36 #[vR x] [(.ref x1)])) (st28) ?_
  obtain ⟨v33, so33, vm33, T33, h33, W33, C33, q33, hso33, st33⟩ := own_virtual W28 hx (w123 C) (w124 C) (w126 C) (w125 C) (w56 C) (w127 C) (by decide) (own_nf W28 (w126 C)) B28.1 (rm_sbtsl C h28 x1 t3 k3 (([(60 : Int32)] ++ (cs.map fun c => c.toInt8.toInt32)) ++ ([(62 : Int32)].map fun c => c.toInt8.toInt32)) (by simp only [List.length_append, List.length_map, List.length_cons, List.length_nil]; omega) (by simp only [List.length_append, List.length_map, List.length_cons, List.length_nil]; omega) B28) (fun _ q => nomatch q) (Wd := 0) (nle rfl) (nle rfl) (nle rfl) (nle rfl) (g := (mkF m 36 #[vR x] [(.ref x1)])) rfl (by rw [hml]; rfl) (argsL := []) (rest := []) (lenOf pd_31 rfl) rfl rfl (nle rfl) (hb hby d46_36)
  obtain ⟨x33, rfl, E33, A33, Fc33, u33, ku33, Fv33, V33⟩ := q33
  have z34 : h28.size ≤ h33.size := E33.1
  have S33_t3 : Safe Z own_EL vm33 h33 t3 := C33.safe (olt (by omega)) S28_t3
  refine go (g' := (mkF m 39 #[vR x] [(.ref x33)])) (st33) ?_
  have X35 : Ext h0 h22 := own_xk X19 K22 (allS (by omega) (allS (by omega) all0))
  have X36 : Ext h0 h25 := own_xt X35 E25
  have X37 : Ext h0 h28 := own_xk X36 K28 (allS (by omega) (allS (by omega) all0))
  have X38 : Ext h0 h33 := own_xt X37 E33
  exact fin (v := some (.ref x33)) (so := []) W33 (nle rfl) (nle rfl) (⟨_, rfl, X38, Or.inl ⟨A33, Fc33, own_allapp (own_allapp (own_alS ⟨by decide, by decide⟩ own_al0) Sa.2.2.1) (own_alS ⟨by decide, by decide⟩ own_al0), _, _, Fv33, own_out (e := (own_oute (by decide) cs)) V33⟩⟩) (fun _ q => nomatch q) (fun q => nomatch q) (own_retA W33 hx hret rfl rfl rfl (hb hby d46_39))
theorem rm_ts0w (C : Cx Z a0) (h0 : Heap) (x a : Addr) (cs : List Int32) (Ex : Exa Z h0 x "com/example/aproape/aproape/io/MarkupReader$Tag") (Fo : Fld Z h0 x "com/example/aproape/aproape/io/MarkupReader$Tag" "closing" "Z" vZ) (Fx : Fld Z h0 x "com/example/aproape/aproape/io/MarkupReader$Tag" "name" "Ljava/lang/String;" (.ref a)) (l0 : cs.length ≤ 3) (Sa : StrW Z h0 a cs) :
    Ct l Z a0 own_EL (⟨"com/example/aproape/aproape/io/MarkupReader$Tag", "toString", "()Ljava/lang/String;"⟩ : MethodName) prog_16_method_3_code 1 (Option.some (Jvm.ClassFile.FieldType.object "java/lang/String")) [] (rmm 10 9 84 143) #[(.ref x)] h0 [] (fun v h so => ∃ y : Addr, v = some (.ref y) ∧ Ext h0 h ∧ Sx Z h y (([(60 : Int32)] ++ cs) ++ [(62 : Int32)])) := by
  refine own_enter (plainFor_of_name pn_8) C.ew (F0 := fun m => mkF m 0 #[vR x] []) (fun m => by first | (simp [entryFrame, mkF, argsToLocals, Value.category]; done) | rfl) ?_
  intro p e s m below meth c s₁ G hx hby hml hret hnm W0 S0 go fin
  have z0 := W0.sz
  show G s₁ (mkF m 0 #[vR x] [])
  have hl_cs : cs.length ≤ 4000 := by omega
  obtain ⟨x1, T1, h1, g1, W1, E1, A1, D1, U1, st1⟩ := own_new W0 hx (w54 C) (w55 C) (w56 C) (g := (mkF m 0 #[vR x] [])) rfl (hb hby d46_0) (nle rfl) (nle rfl)
  have z2 : h0.size ≤ h1.size := E1.1
  have l1 : ltN x1 h1.size := A1.lt
  have F1_value : Fld Z h1 x1 "java/lang/AbstractStringBuilder" "value" "[B" .null := D1 (Or.inl (w69 C)) (ty := (.array .byte)) (by decide)
  have F1_coder : Fld Z h1 x1 "java/lang/AbstractStringBuilder" "coder" "B" vZ := D1 (Or.inl (w71 C)) (ty := .byte) (by decide)
  have F1_count : Fld Z h1 x1 "java/lang/AbstractStringBuilder" "count" "I" vZ := D1 (Or.inl (w96 C)) (ty := .int) (by decide)
  have F1_maybeLatin1 : Fld Z h1 x1 "java/lang/AbstractStringBuilder" "maybeLatin1" "Z" vZ := D1 (Or.inl (w245 C)) (ty := .boolean) (by decide)
  refine go (g' := (mkF m 3 #[vR x] [(.ref x1)])) (st1) ?_
  refine go (g' := (mkF m 4 #[vR x] [(.ref x1), (.ref x1)])) (fun _ k => XS.dup W1.here hx rfl (hb hby d46_3) rfl rfl k) ?_
  obtain ⟨v3, so3, vm3, T3, h3, W3, C3, q3, hso3, st3⟩ := own_special W1 hx (y := (⟨"java/lang/StringBuilder", "<init>", "()V"⟩ : MethodName)) rfl (w57 C) (w58 C) (w56 C) (w59 C) (by decide) (rm_sbinit C h1 x1 A1 F1_value F1_coder F1_count F1_maybeLatin1 (by omega)) (fun _ q => nomatch q) (Wd := 1) (nle rfl) (nle rfl) (nle rfl) (nle rfl) (g := (mkF m 4 #[vR x] [(.ref x1), (.ref x1)])) rfl (by rw [hml]; rfl) (a := x1) (argsL := []) (rest := [(.ref x1)]) (lenOf pd_19 rfl) rfl rfl (nle rfl) (hb hby d46_4)
  obtain ⟨rfl, K3, t3, k3, rfl, g3, B3⟩ := q3
  have z4 : h1.size ≤ h3.size := K3.1
  have lt3 : ltN t3 h3.size := B3.2.2.2.2.2.lt
  refine go (g' := (mkF m 7 #[vR x] [(.ref x1)])) (st3) ?_
  refine go (g' := (mkF m 8 #[vR x] [(.ref x), (.ref x1)])) (fun _ k => XS.aloadN W3.here hx rfl (hb hby d46_7) rfl rfl k) ?_
  have X5 : Ext h0 h1 := own_xt (own_xr h0) E1
  have X6 : Ext h0 h3 := own_xk X5 K3 (allS (by omega) all0)
  have f7 := Fo.ext X6
  obtain ⟨T8, W8, st8⟩ := own_get W3 hx (host := "") (Or.inl (w45 C)) Via.refl f7 (g := (mkF m 8 #[vR x] [(.ref x), (.ref x1)])) rfl rfl (hb hby d46_8)
  refine go (g' := (mkF m 11 #[vR x] [vZ, (.ref x1)])) (st8) ?_
  refine go (g' := (mkF m 19 #[vR x] [(.ref x1)])) (fun _ k => XS.ifYes W8.here hx rfl (pc0 := 11) (pc' := 19) rfl (hb hby d46_11) rfl ((if0 _ _).trans (teq ((by decide) : (0 : Int32) = (0 : Int32))).1) (by decide) (by decide) k) ?_
  obtain ⟨x9, y9, k9, vm9, T9, h9, W9, E9, C9, A9, B9, D9, V9, N9, st9⟩ := own_ldcR W8 hx (w72 C) (own_wS C) (by decide) (vs := [(.int (60 : Int32))]) (z := (1 : Int32)) (by decide +kernel) (by decide) rfl (g := (mkF m 19 #[vR x] [(.ref x1)])) rfl (hb hby d46_19) (n := 4) (by decide) (nle rfl) (nle rfl) (nle rfl)
  have z10 : h3.size ≤ h9.size := E9.1
  have S9_t3 : Safe Z own_EL vm9 h9 t3 := C9.safe (olt (by omega)) (hso3 _ (own_mi (i := 0) rfl))
  have S9_x1 : Safe Z own_EL vm9 h9 x1 := C9.safe (olt (by omega)) (own_safeE W8 B3.1 (by decide) (by decide))
  refine go (g' := (mkF m 21 #[vR x] [(.ref x9), (.ref x1)])) (st9) ?_
  have SL11 : Str Z h9 x9 [(60 : Int32)] := own_litS (cs := [(60 : Int32)]) A9 B9 D9 V9 rfl (own_alS ⟨by decide, by decide⟩ own_al0) (by decide)
  have X13 : Ext h3 h9 := own_xt (own_xr h3) E9
  have f14 := B3.ext X13
  have f15 := B3.1.ext X13
  obtain ⟨v12, so12, vm12, T12, h12, W12, C12, q12, hso12, st12⟩ := own_virtual W9 hx (w75 C) (w76 C) (w78 C) (w77 C) (w56 C) (w79 C) (by decide) (own_nf W9 (w78 C)) f15 (rm_sap00 C h9 x1 t3 k3 ([] : List Int32) x9 [(60 : Int32)] SL11 (nle rfl) f14 (by omega) (by omega)) (allS S9_t3 all0) (Wd := 0) (nle rfl) (nle rfl) (nle rfl) (nle rfl) (g := (mkF m 21 #[vR x] [(.ref x9), (.ref x1)])) rfl (by rw [hml]; rfl) (argsL := [(.ref x9)]) (rest := []) (lenOf pd_30 rfl) rfl rfl (nle rfl) (hb hby d46_21)
  obtain ⟨rfl, K12, B12⟩ := q12
  have z16 : h9.size ≤ h12.size := K12.1
  have S12_t3 : Safe Z own_EL vm12 h12 t3 := C12.safe (olt (by omega)) S9_t3
  refine go (g' := (mkF m 24 #[vR x] [(.ref x1)])) (st12) ?_
  have BL17 : Bl Z h12 x1 t3 k3 [(60 : Int32)] := by have q := B12; rw [show (([] : List Int32) ++ ([(60 : Int32)].map fun c => c.toInt8.toInt32)) = [(60 : Int32)] from by decide] at q; exact q
  refine go (g' := (mkF m 25 #[vR x] [(.ref x), (.ref x1)])) (fun _ k => XS.aloadN W12.here hx rfl (hb hby d46_24) rfl rfl k) ?_
  have X18 : Ext h0 h9 := own_xt X6 E9
  have X19 : Ext h0 h12 := own_xk X18 K12 (allS (by omega) (allS (by omega) all0))
  have f20 := Fx.ext X19
  obtain ⟨T21, W21, st21⟩ := own_get W12 hx (host := "") (Or.inl (w43 C)) Via.refl f20 (g := (mkF m 25 #[vR x] [(.ref x), (.ref x1)])) rfl rfl (hb hby d46_25)
  refine go (g' := (mkF m 28 #[vR x] [(.ref a), (.ref x1)])) (st21) ?_
  have f23 := Sa.ext X19
  obtain ⟨v22, so22, vm22, T22, h22, W22, C22, q22, hso22, st22⟩ := own_virtual W21 hx (w75 C) (w76 C) (w78 C) (w77 C) (w56 C) (w79 C) (by decide) (own_nf W21 (w78 C)) BL17.1 (rm_sap01 C h12 x1 t3 k3 [(60 : Int32)] (Or.inl rfl) a cs f23 (by simp only [List.length_cons, List.length_nil]; omega) BL17 (by omega) (by omega)) (fun _ q => nomatch q) (Wd := 0) (nle rfl) (nle rfl) (nle rfl) (nle rfl) (g := (mkF m 28 #[vR x] [(.ref a), (.ref x1)])) rfl (by rw [hml]; rfl) (argsL := [(.ref a)]) (rest := []) (lenOf pd_30 rfl) rfl rfl (nle rfl) (hb hby d46_28)
  obtain ⟨rfl, K22, t22, k22, rfl, g22, B22⟩ := q22
  have z24 : h12.size ≤ h22.size := K22.1
  have S22_t3 : Safe Z own_EL vm22 h22 t3 := C22.safe (olt (by omega)) S12_t3
  have lt22 : ltN t22 h22.size := B22.2.2.2.2.2.lt
  refine go (g' := (mkF m 31 #[vR x] [(.ref x1)])) (st22) ?_
  obtain ⟨x25, y25, k25, vm25, T25, h25, W25, E25, C25, A25, B25, D25, V25, N25, st25⟩ := own_ldcR W22 hx (w122 C) (own_wS C) (by decide) (vs := [(.int (62 : Int32))]) (z := (1 : Int32)) (by decide +kernel) (by decide) rfl (g := (mkF m 31 #[vR x] [(.ref x1)])) rfl (hb hby d46_31) (n := 4) (by decide) (nle rfl) (nle rfl) (nle rfl)
  have z26 : h22.size ≤ h25.size := E25.1
  have S25_t22 : Safe Z own_EL vm25 h25 t22 := C25.safe (olt (by omega)) (hso22 _ (own_mi (i := 0) rfl))
  have S25_t3 : Safe Z own_EL vm25 h25 t3 := C25.safe (olt (by omega)) S22_t3
  have S25_x1 : Safe Z own_EL vm25 h25 x1 := C25.safe (olt (by omega)) (own_safeE W22 B22.1 (by decide) (by decide))
  refine go (g' := (mkF m 33 #[vR x] [(.ref x25), (.ref x1)])) (st25) ?_
  have SL27 : Str Z h25 x25 [(62 : Int32)] := own_litS (cs := [(62 : Int32)]) A25 B25 D25 V25 rfl (own_alS ⟨by decide, by decide⟩ own_al0) (by decide)
  have X29 : Ext h22 h25 := own_xt (own_xr h22) E25
  have f30 := B22.ext X29
  have f31 := B22.1.ext X29
  obtain ⟨v28, so28, vm28, T28, h28, W28, C28, q28, hso28, st28⟩ := own_virtual W25 hx (w75 C) (w76 C) (w78 C) (w77 C) (w56 C) (w79 C) (by decide) (own_nf W25 (w78 C)) f31 (rm_sap10 C h25 x1 t22 k22 ([(60 : Int32)] ++ cs) x25 y25 k25 A25 B25 D25 V25 (by simp only [List.length_append, List.length_map, List.length_cons, List.length_nil]; omega) f30 (by omega) (by omega) (fun q => (N25 _ S25_t22).2 q.symm)) (allS S25_t22 all0) (Wd := 0) (nle rfl) (nle rfl) (nle rfl) (nle rfl) (g := (mkF m 33 #[vR x] [(.ref x25), (.ref x1)])) rfl (by rw [hml]; rfl) (argsL := [(.ref x25)]) (rest := []) (lenOf pd_30 rfl) rfl rfl (nle rfl) (hb hby d46_33)
  obtain ⟨rfl, K28, B28⟩ := q28
  have z32 : h25.size ≤ h28.size := K28.1
  have S28_t22 : Safe Z own_EL vm28 h28 t22 := C28.safe (olt (by omega)) S25_t22
  have S28_t3 : Safe Z own_EL vm28 h28 t3 := C28.safe (olt (by omega)) S25_t3
  refine go (g' := (mkF m 36 #[vR x] [(.ref x1)])) (st28) ?_
  obtain ⟨v33, so33, vm33, T33, h33, W33, C33, q33, hso33, st33⟩ := own_virtual W28 hx (w123 C) (w124 C) (w126 C) (w125 C) (w56 C) (w127 C) (by decide) (own_nf W28 (w126 C)) B28.1 (rm_sbtsw C h28 x1 t22 k22 (([(60 : Int32)] ++ cs) ++ [(62 : Int32)]) (by simp only [List.length_append, List.length_map, List.length_cons, List.length_nil]; omega) (by simp only [List.length_append, List.length_map, List.length_cons, List.length_nil]; omega) B28) (fun _ q => nomatch q) (Wd := 0) (nle rfl) (nle rfl) (nle rfl) (nle rfl) (g := (mkF m 36 #[vR x] [(.ref x1)])) rfl (by rw [hml]; rfl) (argsL := []) (rest := []) (lenOf pd_31 rfl) rfl rfl (nle rfl) (hb hby d46_36)
  obtain ⟨x33, rfl, E33, A33, Fc33, u33, ku33, Fv33, V33⟩ := q33
  have z34 : h28.size ≤ h33.size := E33.1
  have S33_t22 : Safe Z own_EL vm33 h33 t22 := C33.safe (olt (by omega)) S28_t22
  have S33_t3 : Safe Z own_EL vm33 h33 t3 := C33.safe (olt (by omega)) S28_t3
  refine go (g' := (mkF m 39 #[vR x] [(.ref x33)])) (st33) ?_
  have X35 : Ext h0 h22 := own_xk X19 K22 (allS (by omega) all0)
  have X36 : Ext h0 h25 := own_xt X35 E25
  have X37 : Ext h0 h28 := own_xk X36 K28 (allS (by omega) (allS (by omega) all0))
  have X38 : Ext h0 h33 := own_xt X37 E33
  exact fin (v := some (.ref x33)) (so := []) W33 (nle rfl) (nle rfl) (⟨_, rfl, X38, Or.inr ⟨A33, Fc33, own_allapp (own_allapp (own_alS ⟨by decide, by decide⟩ own_al0) Sa.2.2.1) (own_alS ⟨by decide, by decide⟩ own_al0), _, _, Fv33, V33⟩⟩) (fun _ q => nomatch q) (fun q => nomatch q) (own_retA W33 hx hret rfl rfl rfl (hb hby d46_39))
theorem rm_tsx0 (C : Cx Z a0) (h0 : Heap) (x a : Addr) (cs : List Int32) (Ex : Exa Z h0 x "com/example/aproape/aproape/io/MarkupReader$Tag") (Fo : Fld Z h0 x "com/example/aproape/aproape/io/MarkupReader$Tag" "closing" "Z" vZ) (Fx : Fld Z h0 x "com/example/aproape/aproape/io/MarkupReader$Tag" "name" "Ljava/lang/String;" (.ref a)) (l0 : cs.length ≤ 3) (Sa : Sx Z h0 a cs) : Ct l Z a0 own_EL (⟨"com/example/aproape/aproape/io/MarkupReader$Tag", "toString", "()Ljava/lang/String;"⟩ : MethodName) prog_16_method_3_code 1 (Option.some (Jvm.ClassFile.FieldType.object "java/lang/String")) [] (rmm 10 9 84 143) #[(.ref x)] h0 [] (fun v h so => ∃ y : Addr, v = some (.ref y) ∧ Ext h0 h ∧ Sx Z h y (([(60 : Int32)] ++ cs) ++ [(62 : Int32)])) := Sa.elim (fun S => rm_ts0l C h0 x a cs Ex Fo Fx l0 S) (fun S => rm_ts0w C h0 x a cs Ex Fo Fx l0 S)
theorem rm_ts1l (C : Cx Z a0) (h0 : Heap) (x a : Addr) (cs : List Int32) (Ex : Exa Z h0 x "com/example/aproape/aproape/io/MarkupReader$Tag") (Fo : Fld Z h0 x "com/example/aproape/aproape/io/MarkupReader$Tag" "closing" "Z" (.int (1 : Int32))) (Fx : Fld Z h0 x "com/example/aproape/aproape/io/MarkupReader$Tag" "name" "Ljava/lang/String;" (.ref a)) (l0 : cs.length ≤ 3) (Sa : Str Z h0 a cs) :
    Ct l Z a0 own_EL (⟨"com/example/aproape/aproape/io/MarkupReader$Tag", "toString", "()Ljava/lang/String;"⟩ : MethodName) prog_16_method_3_code 1 (Option.some (Jvm.ClassFile.FieldType.object "java/lang/String")) [] (rmm 10 9 88 143) #[(.ref x)] h0 [] (fun v h so => ∃ y : Addr, v = some (.ref y) ∧ Ext h0 h ∧ Sx Z h y (([(60 : Int32), (47 : Int32)] ++ cs) ++ [(62 : Int32)])) := by
  refine own_enter (plainFor_of_name pn_8) C.ew (F0 := fun m => mkF m 0 #[vR x] []) (fun m => by first | (simp [entryFrame, mkF, argsToLocals, Value.category]; done) | rfl) ?_
  intro p e s m below meth c s₁ G hx hby hml hret hnm W0 S0 go fin
  have z0 := W0.sz
  show G s₁ (mkF m 0 #[vR x] [])
  have hl_cs : cs.length ≤ 4000 := by omega
  obtain ⟨x1, T1, h1, g1, W1, E1, A1, D1, U1, st1⟩ := own_new W0 hx (w54 C) (w55 C) (w56 C) (g := (mkF m 0 #[vR x] [])) rfl (hb hby d46_0) (nle rfl) (nle rfl)
  have z2 : h0.size ≤ h1.size := E1.1
  have l1 : ltN x1 h1.size := A1.lt
  have F1_value : Fld Z h1 x1 "java/lang/AbstractStringBuilder" "value" "[B" .null := D1 (Or.inl (w69 C)) (ty := (.array .byte)) (by decide)
  have F1_coder : Fld Z h1 x1 "java/lang/AbstractStringBuilder" "coder" "B" vZ := D1 (Or.inl (w71 C)) (ty := .byte) (by decide)
  have F1_count : Fld Z h1 x1 "java/lang/AbstractStringBuilder" "count" "I" vZ := D1 (Or.inl (w96 C)) (ty := .int) (by decide)
  have F1_maybeLatin1 : Fld Z h1 x1 "java/lang/AbstractStringBuilder" "maybeLatin1" "Z" vZ := D1 (Or.inl (w245 C)) (ty := .boolean) (by decide)
  refine go (g' := (mkF m 3 #[vR x] [(.ref x1)])) (st1) ?_
  refine go (g' := (mkF m 4 #[vR x] [(.ref x1), (.ref x1)])) (fun _ k => XS.dup W1.here hx rfl (hb hby d46_3) rfl rfl k) ?_
  obtain ⟨v3, so3, vm3, T3, h3, W3, C3, q3, hso3, st3⟩ := own_special W1 hx (y := (⟨"java/lang/StringBuilder", "<init>", "()V"⟩ : MethodName)) rfl (w57 C) (w58 C) (w56 C) (w59 C) (by decide) (rm_sbinit C h1 x1 A1 F1_value F1_coder F1_count F1_maybeLatin1 (by omega)) (fun _ q => nomatch q) (Wd := 1) (nle rfl) (nle rfl) (nle rfl) (nle rfl) (g := (mkF m 4 #[vR x] [(.ref x1), (.ref x1)])) rfl (by rw [hml]; rfl) (a := x1) (argsL := []) (rest := [(.ref x1)]) (lenOf pd_19 rfl) rfl rfl (nle rfl) (hb hby d46_4)
  obtain ⟨rfl, K3, t3, k3, rfl, g3, B3⟩ := q3
  have z4 : h1.size ≤ h3.size := K3.1
  have lt3 : ltN t3 h3.size := B3.2.2.2.2.2.lt
  refine go (g' := (mkF m 7 #[vR x] [(.ref x1)])) (st3) ?_
  refine go (g' := (mkF m 8 #[vR x] [(.ref x), (.ref x1)])) (fun _ k => XS.aloadN W3.here hx rfl (hb hby d46_7) rfl rfl k) ?_
  have X5 : Ext h0 h1 := own_xt (own_xr h0) E1
  have X6 : Ext h0 h3 := own_xk X5 K3 (allS (by omega) all0)
  have f7 := Fo.ext X6
  obtain ⟨T8, W8, st8⟩ := own_get W3 hx (host := "") (Or.inl (w45 C)) Via.refl f7 (g := (mkF m 8 #[vR x] [(.ref x), (.ref x1)])) rfl rfl (hb hby d46_8)
  refine go (g' := (mkF m 11 #[vR x] [(.int (1 : Int32)), (.ref x1)])) (st8) ?_
  refine go (g' := (mkF m 14 #[vR x] [(.ref x1)])) (fun _ k => XS.ifNo W8.here hx rfl (hb hby d46_11) rfl ((if0 _ _).trans (feq ((by decide) : ¬ ((1 : Int32) = (0 : Int32)))).1) k) ?_
  obtain ⟨x9, y9, k9, vm9, T9, h9, W9, E9, C9, A9, B9, D9, V9, N9, st9⟩ := own_ldcR W8 hx (w198 C) (own_wS C) (by decide) (vs := [(.int (60 : Int32)), (.int (47 : Int32))]) (z := (2 : Int32)) (by decide +kernel) (by decide) rfl (g := (mkF m 14 #[vR x] [(.ref x1)])) rfl (hb hby d46_14) (n := 8) (by decide) (nle rfl) (nle rfl) (nle rfl)
  have z10 : h3.size ≤ h9.size := E9.1
  have S9_t3 : Safe Z own_EL vm9 h9 t3 := C9.safe (olt (by omega)) (hso3 _ (own_mi (i := 0) rfl))
  have S9_x1 : Safe Z own_EL vm9 h9 x1 := C9.safe (olt (by omega)) (own_safeE W8 B3.1 (by decide) (by decide))
  refine go (g' := (mkF m 16 #[vR x] [(.ref x9), (.ref x1)])) (st9) ?_
  refine go (g' := (mkF m 21 #[vR x] [(.ref x9), (.ref x1)])) (fun _ k => XS.goto W9.here hx rfl (pc0 := 16) (pc' := 21) rfl (hb hby d46_16) (by decide) (by decide) k) ?_
  have SL11 : Str Z h9 x9 [(60 : Int32), (47 : Int32)] := own_litS (cs := [(60 : Int32), (47 : Int32)]) A9 B9 D9 V9 rfl (own_alS ⟨by decide, by decide⟩ (own_alS ⟨by decide, by decide⟩ own_al0)) (by decide)
  have X13 : Ext h3 h9 := own_xt (own_xr h3) E9
  have f14 := B3.ext X13
  have f15 := B3.1.ext X13
  obtain ⟨v12, so12, vm12, T12, h12, W12, C12, q12, hso12, st12⟩ := own_virtual W9 hx (w75 C) (w76 C) (w78 C) (w77 C) (w56 C) (w79 C) (by decide) (own_nf W9 (w78 C)) f15 (rm_sap00 C h9 x1 t3 k3 ([] : List Int32) x9 [(60 : Int32), (47 : Int32)] SL11 (nle rfl) f14 (by omega) (by omega)) (allS S9_t3 all0) (Wd := 0) (nle rfl) (nle rfl) (nle rfl) (nle rfl) (g := (mkF m 21 #[vR x] [(.ref x9), (.ref x1)])) rfl (by rw [hml]; rfl) (argsL := [(.ref x9)]) (rest := []) (lenOf pd_30 rfl) rfl rfl (nle rfl) (hb hby d46_21)
  obtain ⟨rfl, K12, B12⟩ := q12
  have z16 : h9.size ≤ h12.size := K12.1
  have S12_t3 : Safe Z own_EL vm12 h12 t3 := C12.safe (olt (by omega)) S9_t3
  refine go (g' := (mkF m 24 #[vR x] [(.ref x1)])) (st12) ?_
  have BL17 : Bl Z h12 x1 t3 k3 [(60 : Int32), (47 : Int32)] := by have q := B12; rw [show (([] : List Int32) ++ ([(60 : Int32), (47 : Int32)].map fun c => c.toInt8.toInt32)) = [(60 : Int32), (47 : Int32)] from by decide] at q; exact q
  refine go (g' := (mkF m 25 #[vR x] [(.ref x), (.ref x1)])) (fun _ k => XS.aloadN W12.here hx rfl (hb hby d46_24) rfl rfl k) ?_
  have X18 : Ext h0 h9 := own_xt X6 E9
  have X19 : Ext h0 h12 := own_xk X18 K12 (allS (by omega) (allS (by omega) all0))
  have f20 := Fx.ext X19
  obtain ⟨T21, W21, st21⟩ := own_get W12 hx (host := "") (Or.inl (w43 C)) Via.refl f20 (g := (mkF m 25 #[vR x] [(.ref x), (.ref x1)])) rfl rfl (hb hby d46_25)
  refine go (g' := (mkF m 28 #[vR x] [(.ref a), (.ref x1)])) (st21) ?_
  have f23 := Sa.ext X19
  obtain ⟨v22, so22, vm22, T22, h22, W22, C22, q22, hso22, st22⟩ := own_virtual W21 hx (w75 C) (w76 C) (w78 C) (w77 C) (w56 C) (w79 C) (by decide) (own_nf W21 (w78 C)) BL17.1 (rm_sap00 C h12 x1 t3 k3 [(60 : Int32), (47 : Int32)] a cs f23 (by simp only [List.length_cons, List.length_nil]; omega) BL17 (by omega) (by omega)) (allS S12_t3 all0) (Wd := 0) (nle rfl) (nle rfl) (nle rfl) (nle rfl) (g := (mkF m 28 #[vR x] [(.ref a), (.ref x1)])) rfl (by rw [hml]; rfl) (argsL := [(.ref a)]) (rest := []) (lenOf pd_30 rfl) rfl rfl (nle rfl) (hb hby d46_28)
  obtain ⟨rfl, K22, B22⟩ := q22
  have z24 : h12.size ≤ h22.size := K22.1
  have S22_t3 : Safe Z own_EL vm22 h22 t3 := C22.safe (olt (by omega)) S12_t3
  refine go (g' := (mkF m 31 #[vR x] [(.ref x1)])) (st22) ?_
  obtain ⟨x25, y25, k25, vm25, T25, h25, W25, E25, C25, A25, B25, D25, V25, N25, st25⟩ := own_ldcR W22 hx (w122 C) (own_wS C) (by decide) (vs := [(.int (62 : Int32))]) (z := (1 : Int32)) (by decide +kernel) (by decide) rfl (g := (mkF m 31 #[vR x] [(.ref x1)])) rfl (hb hby d46_31) (n := 4) (by decide) (nle rfl) (nle rfl) (nle rfl)
  have z26 : h22.size ≤ h25.size := E25.1
  have S25_t3 : Safe Z own_EL vm25 h25 t3 := C25.safe (olt (by omega)) S22_t3
  have S25_x1 : Safe Z own_EL vm25 h25 x1 := C25.safe (olt (by omega)) (own_safeE W22 B22.1 (by decide) (by decide))
  refine go (g' := (mkF m 33 #[vR x] [(.ref x25), (.ref x1)])) (st25) ?_
  have SL27 : Str Z h25 x25 [(62 : Int32)] := own_litS (cs := [(62 : Int32)]) A25 B25 D25 V25 rfl (own_alS ⟨by decide, by decide⟩ own_al0) (by decide)
  have X29 : Ext h22 h25 := own_xt (own_xr h22) E25
  have f30 := B22.ext X29
  have f31 := B22.1.ext X29
  obtain ⟨v28, so28, vm28, T28, h28, W28, C28, q28, hso28, st28⟩ := own_virtual W25 hx (w75 C) (w76 C) (w78 C) (w77 C) (w56 C) (w79 C) (by decide) (own_nf W25 (w78 C)) f31 (rm_sap00 C h25 x1 t3 k3 ([(60 : Int32), (47 : Int32)] ++ (cs.map fun c => c.toInt8.toInt32)) x25 [(62 : Int32)] SL27 (by simp only [List.length_append, List.length_map, List.length_cons, List.length_nil]; omega) f30 (by omega) (by omega)) (allS S25_t3 all0) (Wd := 0) (nle rfl) (nle rfl) (nle rfl) (nle rfl) (g := (mkF m 33 #[vR x] [(.ref x25), (.ref x1)])) rfl (by rw [hml]; rfl) (argsL := [(.ref x25)]) (rest := []) (lenOf pd_30 rfl) rfl rfl (nle rfl) (hb hby d46_33)
  obtain ⟨rfl, K28, B28⟩ := q28
  have z32 : h25.size ≤ h28.size := K28.1
  have S28_t3 : Safe Z own_EL vm28 h28 t3 := C28.safe (olt (by omega)) S25_t3
  refine go (g' := (mkF m 36 #[vR x] [(.ref x1)])) (st28) ?_
  obtain ⟨v33, so33, vm33, T33, h33, W33, C33, q33, hso33, st33⟩ := own_virtual W28 hx (w123 C) (w124 C) (w126 C) (w125 C) (w56 C) (w127 C) (by decide) (own_nf W28 (w126 C)) B28.1 (rm_sbtsl C h28 x1 t3 k3 (([(60 : Int32), (47 : Int32)] ++ (cs.map fun c => c.toInt8.toInt32)) ++ ([(62 : Int32)].map fun c => c.toInt8.toInt32)) (by simp only [List.length_append, List.length_map, List.length_cons, List.length_nil]; omega) (by simp only [List.length_append, List.length_map, List.length_cons, List.length_nil]; omega) B28) (fun _ q => nomatch q) (Wd := 0) (nle rfl) (nle rfl) (nle rfl) (nle rfl) (g := (mkF m 36 #[vR x] [(.ref x1)])) rfl (by rw [hml]; rfl) (argsL := []) (rest := []) (lenOf pd_31 rfl) rfl rfl (nle rfl) (hb hby d46_36)
  obtain ⟨x33, rfl, E33, A33, Fc33, u33, ku33, Fv33, V33⟩ := q33
  have z34 : h28.size ≤ h33.size := E33.1
  have S33_t3 : Safe Z own_EL vm33 h33 t3 := C33.safe (olt (by omega)) S28_t3
  refine go (g' := (mkF m 39 #[vR x] [(.ref x33)])) (st33) ?_
  have X35 : Ext h0 h22 := own_xk X19 K22 (allS (by omega) (allS (by omega) all0))
  have X36 : Ext h0 h25 := own_xt X35 E25
  have X37 : Ext h0 h28 := own_xk X36 K28 (allS (by omega) (allS (by omega) all0))
  have X38 : Ext h0 h33 := own_xt X37 E33
  exact fin (v := some (.ref x33)) (so := []) W33 (nle rfl) (nle rfl) (⟨_, rfl, X38, Or.inl ⟨A33, Fc33, own_allapp (own_allapp (own_alS ⟨by decide, by decide⟩ (own_alS ⟨by decide, by decide⟩ own_al0)) Sa.2.2.1) (own_alS ⟨by decide, by decide⟩ own_al0), _, _, Fv33, own_out (e := (own_oute (by decide) cs)) V33⟩⟩) (fun _ q => nomatch q) (fun q => nomatch q) (own_retA W33 hx hret rfl rfl rfl (hb hby d46_39))
theorem rm_ts1w (C : Cx Z a0) (h0 : Heap) (x a : Addr) (cs : List Int32) (Ex : Exa Z h0 x "com/example/aproape/aproape/io/MarkupReader$Tag") (Fo : Fld Z h0 x "com/example/aproape/aproape/io/MarkupReader$Tag" "closing" "Z" (.int (1 : Int32))) (Fx : Fld Z h0 x "com/example/aproape/aproape/io/MarkupReader$Tag" "name" "Ljava/lang/String;" (.ref a)) (l0 : cs.length ≤ 3) (Sa : StrW Z h0 a cs) :
    Ct l Z a0 own_EL (⟨"com/example/aproape/aproape/io/MarkupReader$Tag", "toString", "()Ljava/lang/String;"⟩ : MethodName) prog_16_method_3_code 1 (Option.some (Jvm.ClassFile.FieldType.object "java/lang/String")) [] (rmm 10 9 88 143) #[(.ref x)] h0 [] (fun v h so => ∃ y : Addr, v = some (.ref y) ∧ Ext h0 h ∧ Sx Z h y (([(60 : Int32), (47 : Int32)] ++ cs) ++ [(62 : Int32)])) := by
  refine own_enter (plainFor_of_name pn_8) C.ew (F0 := fun m => mkF m 0 #[vR x] []) (fun m => by first | (simp [entryFrame, mkF, argsToLocals, Value.category]; done) | rfl) ?_
  intro p e s m below meth c s₁ G hx hby hml hret hnm W0 S0 go fin
  have z0 := W0.sz
  show G s₁ (mkF m 0 #[vR x] [])
  have hl_cs : cs.length ≤ 4000 := by omega
  obtain ⟨x1, T1, h1, g1, W1, E1, A1, D1, U1, st1⟩ := own_new W0 hx (w54 C) (w55 C) (w56 C) (g := (mkF m 0 #[vR x] [])) rfl (hb hby d46_0) (nle rfl) (nle rfl)
  have z2 : h0.size ≤ h1.size := E1.1
  have l1 : ltN x1 h1.size := A1.lt
  have F1_value : Fld Z h1 x1 "java/lang/AbstractStringBuilder" "value" "[B" .null := D1 (Or.inl (w69 C)) (ty := (.array .byte)) (by decide)
  have F1_coder : Fld Z h1 x1 "java/lang/AbstractStringBuilder" "coder" "B" vZ := D1 (Or.inl (w71 C)) (ty := .byte) (by decide)
  have F1_count : Fld Z h1 x1 "java/lang/AbstractStringBuilder" "count" "I" vZ := D1 (Or.inl (w96 C)) (ty := .int) (by decide)
  have F1_maybeLatin1 : Fld Z h1 x1 "java/lang/AbstractStringBuilder" "maybeLatin1" "Z" vZ := D1 (Or.inl (w245 C)) (ty := .boolean) (by decide)
  refine go (g' := (mkF m 3 #[vR x] [(.ref x1)])) (st1) ?_
  refine go (g' := (mkF m 4 #[vR x] [(.ref x1), (.ref x1)])) (fun _ k => XS.dup W1.here hx rfl (hb hby d46_3) rfl rfl k) ?_
  obtain ⟨v3, so3, vm3, T3, h3, W3, C3, q3, hso3, st3⟩ := own_special W1 hx (y := (⟨"java/lang/StringBuilder", "<init>", "()V"⟩ : MethodName)) rfl (w57 C) (w58 C) (w56 C) (w59 C) (by decide) (rm_sbinit C h1 x1 A1 F1_value F1_coder F1_count F1_maybeLatin1 (by omega)) (fun _ q => nomatch q) (Wd := 1) (nle rfl) (nle rfl) (nle rfl) (nle rfl) (g := (mkF m 4 #[vR x] [(.ref x1), (.ref x1)])) rfl (by rw [hml]; rfl) (a := x1) (argsL := []) (rest := [(.ref x1)]) (lenOf pd_19 rfl) rfl rfl (nle rfl) (hb hby d46_4)
  obtain ⟨rfl, K3, t3, k3, rfl, g3, B3⟩ := q3
  have z4 : h1.size ≤ h3.size := K3.1
  have lt3 : ltN t3 h3.size := B3.2.2.2.2.2.lt
  refine go (g' := (mkF m 7 #[vR x] [(.ref x1)])) (st3) ?_
  refine go (g' := (mkF m 8 #[vR x] [(.ref x), (.ref x1)])) (fun _ k => XS.aloadN W3.here hx rfl (hb hby d46_7) rfl rfl k) ?_
  have X5 : Ext h0 h1 := own_xt (own_xr h0) E1
  have X6 : Ext h0 h3 := own_xk X5 K3 (allS (by omega) all0)
  have f7 := Fo.ext X6
  obtain ⟨T8, W8, st8⟩ := own_get W3 hx (host := "") (Or.inl (w45 C)) Via.refl f7 (g := (mkF m 8 #[vR x] [(.ref x), (.ref x1)])) rfl rfl (hb hby d46_8)
  refine go (g' := (mkF m 11 #[vR x] [(.int (1 : Int32)), (.ref x1)])) (st8) ?_
  refine go (g' := (mkF m 14 #[vR x] [(.ref x1)])) (fun _ k => XS.ifNo W8.here hx rfl (hb hby d46_11) rfl ((if0 _ _).trans (feq ((by decide) : ¬ ((1 : Int32) = (0 : Int32)))).1) k) ?_
  obtain ⟨x9, y9, k9, vm9, T9, h9, W9, E9, C9, A9, B9, D9, V9, N9, st9⟩ := own_ldcR W8 hx (w198 C) (own_wS C) (by decide) (vs := [(.int (60 : Int32)), (.int (47 : Int32))]) (z := (2 : Int32)) (by decide +kernel) (by decide) rfl (g := (mkF m 14 #[vR x] [(.ref x1)])) rfl (hb hby d46_14) (n := 8) (by decide) (nle rfl) (nle rfl) (nle rfl)
  have z10 : h3.size ≤ h9.size := E9.1
  have S9_t3 : Safe Z own_EL vm9 h9 t3 := C9.safe (olt (by omega)) (hso3 _ (own_mi (i := 0) rfl))
  have S9_x1 : Safe Z own_EL vm9 h9 x1 := C9.safe (olt (by omega)) (own_safeE W8 B3.1 (by decide) (by decide))
  refine go (g' := (mkF m 16 #[vR x] [(.ref x9), (.ref x1)])) (st9) ?_
  refine go (g' := (mkF m 21 #[vR x] [(.ref x9), (.ref x1)])) (fun _ k => XS.goto W9.here hx rfl (pc0 := 16) (pc' := 21) rfl (hb hby d46_16) (by decide) (by decide) k) ?_
  have SL11 : Str Z h9 x9 [(60 : Int32), (47 : Int32)] := own_litS (cs := [(60 : Int32), (47 : Int32)]) A9 B9 D9 V9 rfl (own_alS ⟨by decide, by decide⟩ (own_alS ⟨by decide, by decide⟩ own_al0)) (by decide)
  have X13 : Ext h3 h9 := own_xt (own_xr h3) E9
  have f14 := B3.ext X13
  have f15 := B3.1.ext X13
  obtain ⟨v12, so12, vm12, T12, h12, W12, C12, q12, hso12, st12⟩ := own_virtual W9 hx (w75 C) (w76 C) (w78 C) (w77 C) (w56 C) (w79 C) (by decide) (own_nf W9 (w78 C)) f15 (rm_sap00 C h9 x1 t3 k3 ([] : List Int32) x9 [(60 : Int32), (47 : Int32)] SL11 (nle rfl) f14 (by omega) (by omega)) (allS S9_t3 all0) (Wd := 0) (nle rfl) (nle rfl) (nle rfl) (nle rfl) (g := (mkF m 21 #[vR x] [(.ref x9), (.ref x1)])) rfl (by rw [hml]; rfl) (argsL := [(.ref x9)]) (rest := []) (lenOf pd_30 rfl) rfl rfl (nle rfl) (hb hby d46_21)
  obtain ⟨rfl, K12, B12⟩ := q12
  have z16 : h9.size ≤ h12.size := K12.1
  have S12_t3 : Safe Z own_EL vm12 h12 t3 := C12.safe (olt (by omega)) S9_t3
  refine go (g' := (mkF m 24 #[vR x] [(.ref x1)])) (st12) ?_
  have BL17 : Bl Z h12 x1 t3 k3 [(60 : Int32), (47 : Int32)] := by have q := B12; rw [show (([] : List Int32) ++ ([(60 : Int32), (47 : Int32)].map fun c => c.toInt8.toInt32)) = [(60 : Int32), (47 : Int32)] from by decide] at q; exact q
  refine go (g' := (mkF m 25 #[vR x] [(.ref x), (.ref x1)])) (fun _ k => XS.aloadN W12.here hx rfl (hb hby d46_24) rfl rfl k) ?_
  have X18 : Ext h0 h9 := own_xt X6 E9
  have X19 : Ext h0 h12 := own_xk X18 K12 (allS (by omega) (allS (by omega) all0))
  have f20 := Fx.ext X19
  obtain ⟨T21, W21, st21⟩ := own_get W12 hx (host := "") (Or.inl (w43 C)) Via.refl f20 (g := (mkF m 25 #[vR x] [(.ref x), (.ref x1)])) rfl rfl (hb hby d46_25)
  refine go (g' := (mkF m 28 #[vR x] [(.ref a), (.ref x1)])) (st21) ?_
  have f23 := Sa.ext X19
  obtain ⟨v22, so22, vm22, T22, h22, W22, C22, q22, hso22, st22⟩ := own_virtual W21 hx (w75 C) (w76 C) (w78 C) (w77 C) (w56 C) (w79 C) (by decide) (own_nf W21 (w78 C)) BL17.1 (rm_sap01 C h12 x1 t3 k3 [(60 : Int32), (47 : Int32)] (Or.inr rfl) a cs f23 (by simp only [List.length_cons, List.length_nil]; omega) BL17 (by omega) (by omega)) (fun _ q => nomatch q) (Wd := 0) (nle rfl) (nle rfl) (nle rfl) (nle rfl) (g := (mkF m 28 #[vR x] [(.ref a), (.ref x1)])) rfl (by rw [hml]; rfl) (argsL := [(.ref a)]) (rest := []) (lenOf pd_30 rfl) rfl rfl (nle rfl) (hb hby d46_28)
  obtain ⟨rfl, K22, t22, k22, rfl, g22, B22⟩ := q22
  have z24 : h12.size ≤ h22.size := K22.1
  have S22_t3 : Safe Z own_EL vm22 h22 t3 := C22.safe (olt (by omega)) S12_t3
  have lt22 : ltN t22 h22.size := B22.2.2.2.2.2.lt
  refine go (g' := (mkF m 31 #[vR x] [(.ref x1)])) (st22) ?_
  obtain ⟨x25, y25, k25, vm25, T25, h25, W25, E25, C25, A25, B25, D25, V25, N25, st25⟩ := own_ldcR W22 hx (w122 C) (own_wS C) (by decide) (vs := [(.int (62 : Int32))]) (z := (1 : Int32)) (by decide +kernel) (by decide) rfl (g := (mkF m 31 #[vR x] [(.ref x1)])) rfl (hb hby d46_31) (n := 4) (by decide) (nle rfl) (nle rfl) (nle rfl)
  have z26 : h22.size ≤ h25.size := E25.1
  have S25_t22 : Safe Z own_EL vm25 h25 t22 := C25.safe (olt (by omega)) (hso22 _ (own_mi (i := 0) rfl))
  have S25_t3 : Safe Z own_EL vm25 h25 t3 := C25.safe (olt (by omega)) S22_t3
  have S25_x1 : Safe Z own_EL vm25 h25 x1 := C25.safe (olt (by omega)) (own_safeE W22 B22.1 (by decide) (by decide))
  refine go (g' := (mkF m 33 #[vR x] [(.ref x25), (.ref x1)])) (st25) ?_
  have SL27 : Str Z h25 x25 [(62 : Int32)] := own_litS (cs := [(62 : Int32)]) A25 B25 D25 V25 rfl (own_alS ⟨by decide, by decide⟩ own_al0) (by decide)
  have X29 : Ext h22 h25 := own_xt (own_xr h22) E25
  have f30 := B22.ext X29
  have f31 := B22.1.ext X29
  obtain ⟨v28, so28, vm28, T28, h28, W28, C28, q28, hso28, st28⟩ := own_virtual W25 hx (w75 C) (w76 C) (w78 C) (w77 C) (w56 C) (w79 C) (by decide) (own_nf W25 (w78 C)) f31 (rm_sap10 C h25 x1 t22 k22 ([(60 : Int32), (47 : Int32)] ++ cs) x25 y25 k25 A25 B25 D25 V25 (by simp only [List.length_append, List.length_map, List.length_cons, List.length_nil]; omega) f30 (by omega) (by omega) (fun q => (N25 _ S25_t22).2 q.symm)) (allS S25_t22 all0) (Wd := 0) (nle rfl) (nle rfl) (nle rfl) (nle rfl) (g := (mkF m 33 #[vR x] [(.ref x25), (.ref x1)])) rfl (by rw [hml]; rfl) (argsL := [(.ref x25)]) (rest := []) (lenOf pd_30 rfl) rfl rfl (nle rfl) (hb hby d46_33)
  obtain ⟨rfl, K28, B28⟩ := q28
  have z32 : h25.size ≤ h28.size := K28.1
  have S28_t22 : Safe Z own_EL vm28 h28 t22 := C28.safe (olt (by omega)) S25_t22
  have S28_t3 : Safe Z own_EL vm28 h28 t3 := C28.safe (olt (by omega)) S25_t3
  refine go (g' := (mkF m 36 #[vR x] [(.ref x1)])) (st28) ?_
  obtain ⟨v33, so33, vm33, T33, h33, W33, C33, q33, hso33, st33⟩ := own_virtual W28 hx (w123 C) (w124 C) (w126 C) (w125 C) (w56 C) (w127 C) (by decide) (own_nf W28 (w126 C)) B28.1 (rm_sbtsw C h28 x1 t22 k22 (([(60 : Int32), (47 : Int32)] ++ cs) ++ [(62 : Int32)]) (by simp only [List.length_append, List.length_map, List.length_cons, List.length_nil]; omega) (by simp only [List.length_append, List.length_map, List.length_cons, List.length_nil]; omega) B28) (fun _ q => nomatch q) (Wd := 0) (nle rfl) (nle rfl) (nle rfl) (nle rfl) (g := (mkF m 36 #[vR x] [(.ref x1)])) rfl (by rw [hml]; rfl) (argsL := []) (rest := []) (lenOf pd_31 rfl) rfl rfl (nle rfl) (hb hby d46_36)
  obtain ⟨x33, rfl, E33, A33, Fc33, u33, ku33, Fv33, V33⟩ := q33
  have z34 : h28.size ≤ h33.size := E33.1
  have S33_t22 : Safe Z own_EL vm33 h33 t22 := C33.safe (olt (by omega)) S28_t22
  have S33_t3 : Safe Z own_EL vm33 h33 t3 := C33.safe (olt (by omega)) S28_t3
  refine go (g' := (mkF m 39 #[vR x] [(.ref x33)])) (st33) ?_
  have X35 : Ext h0 h22 := own_xk X19 K22 (allS (by omega) all0)
  have X36 : Ext h0 h25 := own_xt X35 E25
  have X37 : Ext h0 h28 := own_xk X36 K28 (allS (by omega) (allS (by omega) all0))
  have X38 : Ext h0 h33 := own_xt X37 E33
  exact fin (v := some (.ref x33)) (so := []) W33 (nle rfl) (nle rfl) (⟨_, rfl, X38, Or.inr ⟨A33, Fc33, own_allapp (own_allapp (own_alS ⟨by decide, by decide⟩ (own_alS ⟨by decide, by decide⟩ own_al0)) Sa.2.2.1) (own_alS ⟨by decide, by decide⟩ own_al0), _, _, Fv33, V33⟩⟩) (fun _ q => nomatch q) (fun q => nomatch q) (own_retA W33 hx hret rfl rfl rfl (hb hby d46_39))
theorem rm_tsx1 (C : Cx Z a0) (h0 : Heap) (x a : Addr) (cs : List Int32) (Ex : Exa Z h0 x "com/example/aproape/aproape/io/MarkupReader$Tag") (Fo : Fld Z h0 x "com/example/aproape/aproape/io/MarkupReader$Tag" "closing" "Z" (.int (1 : Int32))) (Fx : Fld Z h0 x "com/example/aproape/aproape/io/MarkupReader$Tag" "name" "Ljava/lang/String;" (.ref a)) (l0 : cs.length ≤ 3) (Sa : Sx Z h0 a cs) : Ct l Z a0 own_EL (⟨"com/example/aproape/aproape/io/MarkupReader$Tag", "toString", "()Ljava/lang/String;"⟩ : MethodName) prog_16_method_3_code 1 (Option.some (Jvm.ClassFile.FieldType.object "java/lang/String")) [] (rmm 10 9 88 143) #[(.ref x)] h0 [] (fun v h so => ∃ y : Addr, v = some (.ref y) ∧ Ext h0 h ∧ Sx Z h y (([(60 : Int32), (47 : Int32)] ++ cs) ++ [(62 : Int32)])) := Sa.elim (fun S => rm_ts1l C h0 x a cs Ex Fo Fx l0 S) (fun S => rm_ts1w C h0 x a cs Ex Fo Fx l0 S)
theorem rm_exp (C : Cx Z a0) (h0 : Heap) (i1 n1 o1 d0 d1 d2 : Int32) (f0 : narrow .char (.int d0) = .int d0) (f1 : narrow .char (.int d1) = .int d1) (f2 : narrow .char (.int d2) = .int d2) :
    Ct l Z a0 own_EL (⟨"com/example/aproape/aproape/io/TagToStringPinLaw", "expected", "(IIICCC)C"⟩ : MethodName) method_4_code 7 (Option.some Jvm.ClassFile.FieldType.char) [] (rmm 0 0 0 0) #[(.int i1), (.int n1), (.int o1), (.int d0), (.int d1), (.int d2)] h0 [] (fun v h so => v = some (.int (expP i1 n1 o1 d0 d1 d2)) ∧ h0 = h) := by
  refine own_enter (plainFor_of_name pn_9) C.ew (F0 := fun m => mkF m 0 #[vI i1, vI n1, vI o1, vI d0, vI d1, vI d2, .unset] []) (fun m => by first | (simp [entryFrame, mkF, argsToLocals, Value.category]; done) | rfl) ?_
  intro p e s m below meth c s₁ G hx hby hml hret hnm W0 S0 go fin
  have z0 := W0.sz
  show G s₁ (mkF m 0 #[vI i1, vI n1, vI o1, vI d0, vI d1, vI d2, .unset] [])
  refine go (g' := (mkF m 1 #[vI i1, vI n1, vI o1, vI d0, vI d1, vI d2, .unset] [(.int i1)])) (fun _ k => XS.iloadN W0.here hx rfl (hb hby d47_0) rfl k) ?_
  by_cases kb1 : i1 = (0 : Int32)
  · refine go (g' := (mkF m 6 #[vI i1, vI n1, vI o1, vI d0, vI d1, vI d2, .unset] [(.int (60 : Int32))])) (fun _ k => XS.ifNo W0.here hx rfl (hb hby d47_1) rfl ((if0 _ _).trans (teq kb1).2) (XS.bipush W0.here hx rfl (hb hby d47_4) k)) ?_
    exact fin (v := some (.int (60 : Int32))) (so := []) W0 (nle rfl) (nle rfl) (⟨congrArg (fun z => some (Value.int z)) (show (60 : Int32) = (expP i1 n1 o1 d0 d1 d2) from (show (expP i1 n1 o1 d0 d1 d2) = (60 : Int32) from (if_pos kb1)).symm), rfl⟩) (fun _ q => nomatch q) (fun q => nomatch q) (own_retI W0 hx hret (by decide) rfl (hb hby d47_6))
  · refine go (g' := (mkF m 9 #[vI i1, vI n1, vI o1, vI d0, vI d1, vI d2, .unset] [(.int (1 : Int32)), (.int o1)])) (fun _ k => XS.ifYes W0.here hx rfl (pc0 := 1) (pc' := 7) rfl (hb hby d47_1) rfl ((if0 _ _).trans (feq kb1).2) (by decide) (by decide) (XS.iloadN W0.here hx rfl (hb hby d47_7) rfl (XS.iconst W0.here hx rfl (hb hby d47_8) k))) ?_
    by_cases kb2 : o1 = (1 : Int32)
    · refine go (g' := (mkF m 14 #[vI i1, vI n1, vI o1, vI d0, vI d1, vI d2, .unset] [(.int (1 : Int32)), (.int i1)])) (fun _ k => XS.icmpNo W0.here hx rfl (hb hby d47_9) rfl (teq kb2).2 (XS.iloadN W0.here hx rfl (hb hby d47_12) rfl (XS.iconst W0.here hx rfl (hb hby d47_13) k))) ?_
      by_cases kb3 : i1 = (1 : Int32)
      · refine go (g' := (mkF m 19 #[vI i1, vI n1, vI o1, vI d0, vI d1, vI d2, .unset] [(.int (47 : Int32))])) (fun _ k => XS.icmpNo W0.here hx rfl (hb hby d47_14) rfl (teq kb3).2 (XS.bipush W0.here hx rfl (hb hby d47_17) k)) ?_
        exact fin (v := some (.int (47 : Int32))) (so := []) W0 (nle rfl) (nle rfl) (⟨congrArg (fun z => some (Value.int z)) (show (47 : Int32) = (expP i1 n1 o1 d0 d1 d2) from (show (expP i1 n1 o1 d0 d1 d2) = (47 : Int32) from ((if_neg kb1).trans (if_pos ⟨kb2, kb3⟩))).symm), rfl⟩) (fun _ q => nomatch q) (fun q => nomatch q) (own_retI W0 hx hret (by decide) rfl (hb hby d47_19))
      · refine go (g' := (mkF m 26 #[vI i1, vI n1, vI o1, vI d0, vI d1, vI d2, .unset] [(.int ((n1 + (1 : Int32)) + o1)), (.int i1)])) (fun _ k => XS.icmpYes W0.here hx rfl (pc0 := 14) (pc' := 20) rfl (hb hby d47_14) rfl (feq kb3).2 (by decide) (by decide) (XS.iloadN W0.here hx rfl (hb hby d47_20) rfl (XS.iloadN W0.here hx rfl (hb hby d47_21) rfl (XS.iconst W0.here hx rfl (hb hby d47_22) (XS.iadd W0.here hx rfl (hb hby d47_23) rfl (XS.iloadN W0.here hx rfl (hb hby d47_24) rfl (XS.iadd W0.here hx rfl (hb hby d47_25) rfl k))))))) ?_
        by_cases kb4 : i1 = ((n1 + (1 : Int32)) + o1)
        · refine go (g' := (mkF m 31 #[vI i1, vI n1, vI o1, vI d0, vI d1, vI d2, .unset] [(.int (62 : Int32))])) (fun _ k => XS.icmpNo W0.here hx rfl (hb hby d47_26) rfl (teq kb4).2 (XS.bipush W0.here hx rfl (hb hby d47_29) k)) ?_
          exact fin (v := some (.int (62 : Int32))) (so := []) W0 (nle rfl) (nle rfl) (⟨congrArg (fun z => some (Value.int z)) (show (62 : Int32) = (expP i1 n1 o1 d0 d1 d2) from (show (expP i1 n1 o1 d0 d1 d2) = (62 : Int32) from (((if_neg kb1).trans (if_neg (fun q => kb3 q.2))).trans (if_pos kb4))).symm), rfl⟩) (fun _ q => nomatch q) (fun q => nomatch q) (own_retI W0 hx hret (by decide) rfl (hb hby d47_31))
        · refine go (g' := (mkF m 41 #[vI i1, vI n1, vI o1, vI d0, vI d1, vI d2, vI ((i1 - (1 : Int32)) - o1)] [(.int ((i1 - (1 : Int32)) - o1))])) (fun _ k => XS.icmpYes W0.here hx rfl (pc0 := 26) (pc' := 32) rfl (hb hby d47_26) rfl (feq kb4).2 (by decide) (by decide) (XS.iloadN W0.here hx rfl (hb hby d47_32) rfl (XS.iconst W0.here hx rfl (hb hby d47_33) (XS.isub W0.here hx rfl (hb hby d47_34) rfl (XS.iloadN W0.here hx rfl (hb hby d47_35) rfl (XS.isub W0.here hx rfl (hb hby d47_36) rfl (XS.istore W0.here hx rfl (hb hby d47_37) rfl (l' := #[vI i1, vI n1, vI o1, vI d0, vI d1, vI d2, vI ((i1 - (1 : Int32)) - o1)]) rfl (XS.iload W0.here hx rfl (hb hby d47_39) rfl k)))))))) ?_
          by_cases kb5 : ((i1 - (1 : Int32)) - o1) = (0 : Int32)
          · refine go (g' := (mkF m 45 #[vI i1, vI n1, vI o1, vI d0, vI d1, vI d2, vI ((i1 - (1 : Int32)) - o1)] [(.int d0)])) (fun _ k => XS.ifNo W0.here hx rfl (hb hby d47_41) rfl ((if0 _ _).trans (teq kb5).2) (XS.iloadN W0.here hx rfl (hb hby d47_44) rfl k)) ?_
            exact fin (v := some (.int d0)) (so := []) W0 (nle rfl) (nle rfl) (⟨congrArg (fun z => some (Value.int z)) (show d0 = (expP i1 n1 o1 d0 d1 d2) from (show (expP i1 n1 o1 d0 d1 d2) = d0 from ((((if_neg kb1).trans (if_neg (fun q => kb3 q.2))).trans (if_neg kb4)).trans (if_pos kb5))).symm), rfl⟩) (fun _ q => nomatch q) (fun q => nomatch q) (own_retI W0 hx hret (by decide) f0 (hb hby d47_45))
          · refine go (g' := (mkF m 49 #[vI i1, vI n1, vI o1, vI d0, vI d1, vI d2, vI ((i1 - (1 : Int32)) - o1)] [(.int (1 : Int32)), (.int ((i1 - (1 : Int32)) - o1))])) (fun _ k => XS.ifYes W0.here hx rfl (pc0 := 41) (pc' := 46) rfl (hb hby d47_41) rfl ((if0 _ _).trans (feq kb5).2) (by decide) (by decide) (XS.iload W0.here hx rfl (hb hby d47_46) rfl (XS.iconst W0.here hx rfl (hb hby d47_48) k))) ?_
            by_cases kb6 : ((i1 - (1 : Int32)) - o1) = (1 : Int32)
            · refine go (g' := (mkF m 54 #[vI i1, vI n1, vI o1, vI d0, vI d1, vI d2, vI ((i1 - (1 : Int32)) - o1)] [(.int d1)])) (fun _ k => XS.icmpNo W0.here hx rfl (hb hby d47_49) rfl (teq kb6).2 (XS.iload W0.here hx rfl (hb hby d47_52) rfl k)) ?_
              exact fin (v := some (.int d1)) (so := []) W0 (nle rfl) (nle rfl) (⟨congrArg (fun z => some (Value.int z)) (show d1 = (expP i1 n1 o1 d0 d1 d2) from (show (expP i1 n1 o1 d0 d1 d2) = d1 from (((((if_neg kb1).trans (if_neg (fun q => kb3 q.2))).trans (if_neg kb4)).trans (if_neg kb5)).trans (if_pos kb6))).symm), rfl⟩) (fun _ q => nomatch q) (fun q => nomatch q) (own_retI W0 hx hret (by decide) f1 (hb hby d47_54))
            · refine go (g' := (mkF m 57 #[vI i1, vI n1, vI o1, vI d0, vI d1, vI d2, vI ((i1 - (1 : Int32)) - o1)] [(.int d2)])) (fun _ k => XS.icmpYes W0.here hx rfl (pc0 := 49) (pc' := 55) rfl (hb hby d47_49) rfl (feq kb6).2 (by decide) (by decide) (XS.iload W0.here hx rfl (hb hby d47_55) rfl k)) ?_
              exact fin (v := some (.int d2)) (so := []) W0 (nle rfl) (nle rfl) (⟨congrArg (fun z => some (Value.int z)) (show d2 = (expP i1 n1 o1 d0 d1 d2) from (show (expP i1 n1 o1 d0 d1 d2) = d2 from (((((if_neg kb1).trans (if_neg (fun q => kb3 q.2))).trans (if_neg kb4)).trans (if_neg kb5)).trans (if_neg kb6))).symm), rfl⟩) (fun _ q => nomatch q) (fun q => nomatch q) (own_retI W0 hx hret (by decide) f2 (hb hby d47_57))
    · refine go (g' := (mkF m 26 #[vI i1, vI n1, vI o1, vI d0, vI d1, vI d2, .unset] [(.int ((n1 + (1 : Int32)) + o1)), (.int i1)])) (fun _ k => XS.icmpYes W0.here hx rfl (pc0 := 9) (pc' := 20) rfl (hb hby d47_9) rfl (feq kb2).2 (by decide) (by decide) (XS.iloadN W0.here hx rfl (hb hby d47_20) rfl (XS.iloadN W0.here hx rfl (hb hby d47_21) rfl (XS.iconst W0.here hx rfl (hb hby d47_22) (XS.iadd W0.here hx rfl (hb hby d47_23) rfl (XS.iloadN W0.here hx rfl (hb hby d47_24) rfl (XS.iadd W0.here hx rfl (hb hby d47_25) rfl k))))))) ?_
      by_cases kb7 : i1 = ((n1 + (1 : Int32)) + o1)
      · refine go (g' := (mkF m 31 #[vI i1, vI n1, vI o1, vI d0, vI d1, vI d2, .unset] [(.int (62 : Int32))])) (fun _ k => XS.icmpNo W0.here hx rfl (hb hby d47_26) rfl (teq kb7).2 (XS.bipush W0.here hx rfl (hb hby d47_29) k)) ?_
        exact fin (v := some (.int (62 : Int32))) (so := []) W0 (nle rfl) (nle rfl) (⟨congrArg (fun z => some (Value.int z)) (show (62 : Int32) = (expP i1 n1 o1 d0 d1 d2) from (show (expP i1 n1 o1 d0 d1 d2) = (62 : Int32) from (((if_neg kb1).trans (if_neg (fun q => kb2 q.1))).trans (if_pos kb7))).symm), rfl⟩) (fun _ q => nomatch q) (fun q => nomatch q) (own_retI W0 hx hret (by decide) rfl (hb hby d47_31))
      · refine go (g' := (mkF m 41 #[vI i1, vI n1, vI o1, vI d0, vI d1, vI d2, vI ((i1 - (1 : Int32)) - o1)] [(.int ((i1 - (1 : Int32)) - o1))])) (fun _ k => XS.icmpYes W0.here hx rfl (pc0 := 26) (pc' := 32) rfl (hb hby d47_26) rfl (feq kb7).2 (by decide) (by decide) (XS.iloadN W0.here hx rfl (hb hby d47_32) rfl (XS.iconst W0.here hx rfl (hb hby d47_33) (XS.isub W0.here hx rfl (hb hby d47_34) rfl (XS.iloadN W0.here hx rfl (hb hby d47_35) rfl (XS.isub W0.here hx rfl (hb hby d47_36) rfl (XS.istore W0.here hx rfl (hb hby d47_37) rfl (l' := #[vI i1, vI n1, vI o1, vI d0, vI d1, vI d2, vI ((i1 - (1 : Int32)) - o1)]) rfl (XS.iload W0.here hx rfl (hb hby d47_39) rfl k)))))))) ?_
        by_cases kb8 : ((i1 - (1 : Int32)) - o1) = (0 : Int32)
        · refine go (g' := (mkF m 45 #[vI i1, vI n1, vI o1, vI d0, vI d1, vI d2, vI ((i1 - (1 : Int32)) - o1)] [(.int d0)])) (fun _ k => XS.ifNo W0.here hx rfl (hb hby d47_41) rfl ((if0 _ _).trans (teq kb8).2) (XS.iloadN W0.here hx rfl (hb hby d47_44) rfl k)) ?_
          exact fin (v := some (.int d0)) (so := []) W0 (nle rfl) (nle rfl) (⟨congrArg (fun z => some (Value.int z)) (show d0 = (expP i1 n1 o1 d0 d1 d2) from (show (expP i1 n1 o1 d0 d1 d2) = d0 from ((((if_neg kb1).trans (if_neg (fun q => kb2 q.1))).trans (if_neg kb7)).trans (if_pos kb8))).symm), rfl⟩) (fun _ q => nomatch q) (fun q => nomatch q) (own_retI W0 hx hret (by decide) f0 (hb hby d47_45))
        · refine go (g' := (mkF m 49 #[vI i1, vI n1, vI o1, vI d0, vI d1, vI d2, vI ((i1 - (1 : Int32)) - o1)] [(.int (1 : Int32)), (.int ((i1 - (1 : Int32)) - o1))])) (fun _ k => XS.ifYes W0.here hx rfl (pc0 := 41) (pc' := 46) rfl (hb hby d47_41) rfl ((if0 _ _).trans (feq kb8).2) (by decide) (by decide) (XS.iload W0.here hx rfl (hb hby d47_46) rfl (XS.iconst W0.here hx rfl (hb hby d47_48) k))) ?_
          by_cases kb9 : ((i1 - (1 : Int32)) - o1) = (1 : Int32)
          · refine go (g' := (mkF m 54 #[vI i1, vI n1, vI o1, vI d0, vI d1, vI d2, vI ((i1 - (1 : Int32)) - o1)] [(.int d1)])) (fun _ k => XS.icmpNo W0.here hx rfl (hb hby d47_49) rfl (teq kb9).2 (XS.iload W0.here hx rfl (hb hby d47_52) rfl k)) ?_
            exact fin (v := some (.int d1)) (so := []) W0 (nle rfl) (nle rfl) (⟨congrArg (fun z => some (Value.int z)) (show d1 = (expP i1 n1 o1 d0 d1 d2) from (show (expP i1 n1 o1 d0 d1 d2) = d1 from (((((if_neg kb1).trans (if_neg (fun q => kb2 q.1))).trans (if_neg kb7)).trans (if_neg kb8)).trans (if_pos kb9))).symm), rfl⟩) (fun _ q => nomatch q) (fun q => nomatch q) (own_retI W0 hx hret (by decide) f1 (hb hby d47_54))
          · refine go (g' := (mkF m 57 #[vI i1, vI n1, vI o1, vI d0, vI d1, vI d2, vI ((i1 - (1 : Int32)) - o1)] [(.int d2)])) (fun _ k => XS.icmpYes W0.here hx rfl (pc0 := 49) (pc' := 55) rfl (hb hby d47_49) rfl (feq kb9).2 (by decide) (by decide) (XS.iload W0.here hx rfl (hb hby d47_55) rfl k)) ?_
            exact fin (v := some (.int d2)) (so := []) W0 (nle rfl) (nle rfl) (⟨congrArg (fun z => some (Value.int z)) (show d2 = (expP i1 n1 o1 d0 d1 d2) from (show (expP i1 n1 o1 d0 d1 d2) = d2 from (((((if_neg kb1).trans (if_neg (fun q => kb2 q.1))).trans (if_neg kb7)).trans (if_neg kb8)).trans (if_neg kb9))).symm), rfl⟩) (fun _ q => nomatch q) (fun q => nomatch q) (own_retI W0 hx hret (by decide) f2 (hb hby d47_57))
theorem rm_atge (C : Cx Z a0) (h0 : Heap) (a : Addr) (i : Nat) (k1 n1 o1 d0 d1 d2 : Int32) (hk : ¬ (Int32.ofNat i) < k1) :
    Ct l Z a0 own_EL (⟨"com/example/aproape/aproape/io/TagToStringPinLaw", "at", "(Ljava/lang/String;IIIICCC)Z"⟩ : MethodName) method_3_code 8 (Option.some Jvm.ClassFile.FieldType.boolean) [] (rmm 5 0 0 66) #[(.ref a), (.int (Int32.ofNat i)), (.int k1), (.int n1), (.int o1), (.int d0), (.int d1), (.int d2)] h0 [] (fun v h so => v = some (.int 1) ∧ h0 = h) := by
  refine own_enter (plainFor_of_name pn_9) C.ew (F0 := fun m => mkF m 0 #[vR a, vI (Int32.ofNat i), vI k1, vI n1, vI o1, vI d0, vI d1, vI d2] []) (fun m => by first | (simp [entryFrame, mkF, argsToLocals, Value.category]; done) | rfl) ?_
  intro p e s m below meth c s₁ G hx hby hml hret hnm W0 S0 go fin
  have z0 := W0.sz
  show G s₁ (mkF m 0 #[vR a, vI (Int32.ofNat i), vI k1, vI n1, vI o1, vI d0, vI d1, vI d2] [])
  refine go (g' := (mkF m 6 #[vR a, vI (Int32.ofNat i), vI k1, vI n1, vI o1, vI d0, vI d1, vI d2] [(.int (1 : Int32))])) (fun _ k => XS.iloadN W0.here hx rfl (hb hby d48_0) rfl (XS.iloadN W0.here hx rfl (hb hby d48_1) rfl (XS.icmpNo W0.here hx rfl (hb hby d48_2) rfl (flt hk).1 (XS.iconst W0.here hx rfl (hb hby d48_5) k)))) ?_
  exact fin (v := some (.int (1 : Int32))) (so := []) W0 (nle rfl) (nle rfl) (⟨rfl, rfl⟩) (fun _ q => nomatch q) (fun q => nomatch q) (own_retI W0 hx hret (by decide) rfl (hb hby d48_6))
theorem rm_atl (C : Cx Z a0) (h0 : Heap) (a : Addr) (cs : List Int32) (i : Nat) (k1 n1 o1 d0 d1 d2 : Int32) (f0 : narrow .char (.int d0) = .int d0) (f1 : narrow .char (.int d1) = .int d1) (f2 : narrow .char (.int d2) = .int d2) (hi : i < cs.length) (l0 : cs.length ≤ 6) (hk : (Int32.ofNat i) < k1) (he : cs.getD i 0 = (expP (Int32.ofNat i) n1 o1 d0 d1 d2)) (Sa : Str Z h0 a cs) :
    Ct l Z a0 own_EL (⟨"com/example/aproape/aproape/io/TagToStringPinLaw", "at", "(Ljava/lang/String;IIIICCC)Z"⟩ : MethodName) method_3_code 8 (Option.some Jvm.ClassFile.FieldType.boolean) [] (rmm 5 0 0 66) #[(.ref a), (.int (Int32.ofNat i)), (.int k1), (.int n1), (.int o1), (.int d0), (.int d1), (.int d2)] h0 [] (fun v h so => v = some (.int 1) ∧ h0 = h) := by
  refine own_enter (plainFor_of_name pn_9) C.ew (F0 := fun m => mkF m 0 #[vR a, vI (Int32.ofNat i), vI k1, vI n1, vI o1, vI d0, vI d1, vI d2] []) (fun m => by first | (simp [entryFrame, mkF, argsToLocals, Value.category]; done) | rfl) ?_
  intro p e s m below meth c s₁ G hx hby hml hret hnm W0 S0 go fin
  have z0 := W0.sz
  show G s₁ (mkF m 0 #[vR a, vI (Int32.ofNat i), vI k1, vI n1, vI o1, vI d0, vI d1, vI d2] [])
  have hl_cs : cs.length ≤ 4000 := by omega
  refine go (g' := (mkF m 9 #[vR a, vI (Int32.ofNat i), vI k1, vI n1, vI o1, vI d0, vI d1, vI d2] [(.int (Int32.ofNat i)), (.ref a)])) (fun _ k => XS.iloadN W0.here hx rfl (hb hby d48_0) rfl (XS.iloadN W0.here hx rfl (hb hby d48_1) rfl (XS.icmpYes W0.here hx rfl (pc0 := 2) (pc' := 7) rfl (hb hby d48_2) rfl (tlt hk).1 (by decide) (by decide) (XS.aloadN W0.here hx rfl (hb hby d48_7) rfl rfl (XS.iloadN W0.here hx rfl (hb hby d48_8) rfl k))))) ?_
  obtain ⟨T1, W1, st1⟩ := own_sch W0 hx (own_wch C) (w173 C) (w174 C) (w176 C) (w175 C) (w2 C) Sa C.cs C.sf hl_cs (i := i) (j := (Int32.ofNat i)) hi rfl (Wd := 0) (nle rfl) (nle rfl) (nle rfl) (nle rfl) (g := (mkF m 9 #[vR a, vI (Int32.ofNat i), vI k1, vI n1, vI o1, vI d0, vI d1, vI d2] [(.int (Int32.ofNat i)), (.ref a)])) rfl (by rw [hml]; rfl) rfl (nle rfl) (hb hby d48_9)
  refine go (g' := (mkF m 12 #[vR a, vI (Int32.ofNat i), vI k1, vI n1, vI o1, vI d0, vI d1, vI d2] [(.int (cs.getD i 0))])) (st1) ?_
  refine go (g' := (mkF m 22 #[vR a, vI (Int32.ofNat i), vI k1, vI n1, vI o1, vI d0, vI d1, vI d2] [(.int d2), (.int d1), (.int d0), (.int o1), (.int n1), (.int (Int32.ofNat i)), (.int (cs.getD i 0))])) (fun _ k => XS.iloadN W1.here hx rfl (hb hby d48_12) rfl (XS.iloadN W1.here hx rfl (hb hby d48_13) rfl (XS.iload W1.here hx rfl (hb hby d48_14) rfl (XS.iload W1.here hx rfl (hb hby d48_16) rfl (XS.iload W1.here hx rfl (hb hby d48_18) rfl (XS.iload W1.here hx rfl (hb hby d48_20) rfl k)))))) ?_
  obtain ⟨v2, so2, vm2, T2, h2, W2, C2, q2, hso2, st2⟩ := own_static W1 hx (w195 C) (w196 C) (w171 C) (w197 C) (by decide) (rm_exp C h0 (Int32.ofNat i) n1 o1 d0 d1 d2 f0 f1 f2) (fun _ q => nomatch q) (Wd := 1) (nle rfl) (nle rfl) (nle rfl) (nle rfl) (g := (mkF m 22 #[vR a, vI (Int32.ofNat i), vI k1, vI n1, vI o1, vI d0, vI d1, vI d2] [(.int d2), (.int d1), (.int d0), (.int o1), (.int n1), (.int (Int32.ofNat i)), (.int (cs.getD i 0))])) rfl (by rw [hml]; rfl) (argsL := [(.int (Int32.ofNat i)), (.int n1), (.int o1), (.int d0), (.int d1), (.int d2)]) (rest := [(.int (cs.getD i 0))]) (lenOf pd_32 rfl) rfl rfl (nle rfl) (hb hby d48_22)
  obtain ⟨rfl, rfl⟩ := q2
  refine go (g' := (mkF m 25 #[vR a, vI (Int32.ofNat i), vI k1, vI n1, vI o1, vI d0, vI d1, vI d2] [(.int (expP (Int32.ofNat i) n1 o1 d0 d1 d2)), (.int (cs.getD i 0))])) (st2) ?_
  refine go (g' := (mkF m 33 #[vR a, vI (Int32.ofNat i), vI k1, vI n1, vI o1, vI d0, vI d1, vI d2] [(.int (1 : Int32))])) (fun _ k => XS.icmpNo W2.here hx rfl (hb hby d48_25) rfl (teq he).2 (XS.iconst W2.here hx rfl (hb hby d48_28) (XS.goto W2.here hx rfl (pc0 := 29) (pc' := 33) rfl (hb hby d48_29) (by decide) (by decide) k))) ?_
  exact fin (v := some (.int (1 : Int32))) (so := []) W2 (nle rfl) (nle rfl) (⟨rfl, rfl⟩) (fun _ q => nomatch q) (fun q => nomatch q) (own_retI W2 hx hret (by decide) rfl (hb hby d48_33))
theorem rm_atw (C : Cx Z a0) (h0 : Heap) (a : Addr) (cs : List Int32) (i : Nat) (k1 n1 o1 d0 d1 d2 : Int32) (f0 : narrow .char (.int d0) = .int d0) (f1 : narrow .char (.int d1) = .int d1) (f2 : narrow .char (.int d2) = .int d2) (hi : i < cs.length) (l0 : cs.length ≤ 6) (hk : (Int32.ofNat i) < k1) (he : cs.getD i 0 = (expP (Int32.ofNat i) n1 o1 d0 d1 d2)) (Sa : StrW Z h0 a cs) :
    Ct l Z a0 own_EL (⟨"com/example/aproape/aproape/io/TagToStringPinLaw", "at", "(Ljava/lang/String;IIIICCC)Z"⟩ : MethodName) method_3_code 8 (Option.some Jvm.ClassFile.FieldType.boolean) [] (rmm 5 0 0 66) #[(.ref a), (.int (Int32.ofNat i)), (.int k1), (.int n1), (.int o1), (.int d0), (.int d1), (.int d2)] h0 [] (fun v h so => v = some (.int 1) ∧ h0 = h) := by
  refine own_enter (plainFor_of_name pn_9) C.ew (F0 := fun m => mkF m 0 #[vR a, vI (Int32.ofNat i), vI k1, vI n1, vI o1, vI d0, vI d1, vI d2] []) (fun m => by first | (simp [entryFrame, mkF, argsToLocals, Value.category]; done) | rfl) ?_
  intro p e s m below meth c s₁ G hx hby hml hret hnm W0 S0 go fin
  have z0 := W0.sz
  show G s₁ (mkF m 0 #[vR a, vI (Int32.ofNat i), vI k1, vI n1, vI o1, vI d0, vI d1, vI d2] [])
  have hl_cs : cs.length ≤ 4000 := by omega
  refine go (g' := (mkF m 9 #[vR a, vI (Int32.ofNat i), vI k1, vI n1, vI o1, vI d0, vI d1, vI d2] [(.int (Int32.ofNat i)), (.ref a)])) (fun _ k => XS.iloadN W0.here hx rfl (hb hby d48_0) rfl (XS.iloadN W0.here hx rfl (hb hby d48_1) rfl (XS.icmpYes W0.here hx rfl (pc0 := 2) (pc' := 7) rfl (hb hby d48_2) rfl (tlt hk).1 (by decide) (by decide) (XS.aloadN W0.here hx rfl (hb hby d48_7) rfl rfl (XS.iloadN W0.here hx rfl (hb hby d48_8) rfl k))))) ?_
  obtain ⟨v1, so1, vm1, T1, h1, W1, C1, q1, hso1, st1⟩ := own_virtual W0 hx (w173 C) (w174 C) (w176 C) (w175 C) (w3 C) (w177 C) (by decide) (own_nf W0 (w176 C)) Sa.1 (rm_chw C h0 a cs Sa i hi (by omega)) (fun _ q => nomatch q) (Wd := 0) (nle rfl) (nle rfl) (nle rfl) (nle rfl) (g := (mkF m 9 #[vR a, vI (Int32.ofNat i), vI k1, vI n1, vI o1, vI d0, vI d1, vI d2] [(.int (Int32.ofNat i)), (.ref a)])) rfl (by rw [hml]; rfl) (argsL := [(.int (Int32.ofNat i))]) (rest := []) (lenOf pd_33 rfl) rfl rfl (nle rfl) (hb hby d48_9)
  obtain ⟨rfl, rfl⟩ := q1
  refine go (g' := (mkF m 12 #[vR a, vI (Int32.ofNat i), vI k1, vI n1, vI o1, vI d0, vI d1, vI d2] [(.int (cs.getD i 0))])) (st1) ?_
  refine go (g' := (mkF m 22 #[vR a, vI (Int32.ofNat i), vI k1, vI n1, vI o1, vI d0, vI d1, vI d2] [(.int d2), (.int d1), (.int d0), (.int o1), (.int n1), (.int (Int32.ofNat i)), (.int (cs.getD i 0))])) (fun _ k => XS.iloadN W1.here hx rfl (hb hby d48_12) rfl (XS.iloadN W1.here hx rfl (hb hby d48_13) rfl (XS.iload W1.here hx rfl (hb hby d48_14) rfl (XS.iload W1.here hx rfl (hb hby d48_16) rfl (XS.iload W1.here hx rfl (hb hby d48_18) rfl (XS.iload W1.here hx rfl (hb hby d48_20) rfl k)))))) ?_
  obtain ⟨v2, so2, vm2, T2, h2, W2, C2, q2, hso2, st2⟩ := own_static W1 hx (w195 C) (w196 C) (w171 C) (w197 C) (by decide) (rm_exp C h0 (Int32.ofNat i) n1 o1 d0 d1 d2 f0 f1 f2) (fun _ q => nomatch q) (Wd := 1) (nle rfl) (nle rfl) (nle rfl) (nle rfl) (g := (mkF m 22 #[vR a, vI (Int32.ofNat i), vI k1, vI n1, vI o1, vI d0, vI d1, vI d2] [(.int d2), (.int d1), (.int d0), (.int o1), (.int n1), (.int (Int32.ofNat i)), (.int (cs.getD i 0))])) rfl (by rw [hml]; rfl) (argsL := [(.int (Int32.ofNat i)), (.int n1), (.int o1), (.int d0), (.int d1), (.int d2)]) (rest := [(.int (cs.getD i 0))]) (lenOf pd_32 rfl) rfl rfl (nle rfl) (hb hby d48_22)
  obtain ⟨rfl, rfl⟩ := q2
  refine go (g' := (mkF m 25 #[vR a, vI (Int32.ofNat i), vI k1, vI n1, vI o1, vI d0, vI d1, vI d2] [(.int (expP (Int32.ofNat i) n1 o1 d0 d1 d2)), (.int (cs.getD i 0))])) (st2) ?_
  refine go (g' := (mkF m 33 #[vR a, vI (Int32.ofNat i), vI k1, vI n1, vI o1, vI d0, vI d1, vI d2] [(.int (1 : Int32))])) (fun _ k => XS.icmpNo W2.here hx rfl (hb hby d48_25) rfl (teq he).2 (XS.iconst W2.here hx rfl (hb hby d48_28) (XS.goto W2.here hx rfl (pc0 := 29) (pc' := 33) rfl (hb hby d48_29) (by decide) (by decide) k))) ?_
  exact fin (v := some (.int (1 : Int32))) (so := []) W2 (nle rfl) (nle rfl) (⟨rfl, rfl⟩) (fun _ q => nomatch q) (fun q => nomatch q) (own_retI W2 hx hret (by decide) rfl (hb hby d48_33))
theorem rm_atx (C : Cx Z a0) (h0 : Heap) (a : Addr) (cs : List Int32) (i : Nat) (k1 n1 o1 d0 d1 d2 : Int32) (f0 : narrow .char (.int d0) = .int d0) (f1 : narrow .char (.int d1) = .int d1) (f2 : narrow .char (.int d2) = .int d2) (l0 : cs.length ≤ 6) (hA : AtOK cs i k1 n1 o1 d0 d1 d2) (Sa : Sx Z h0 a cs) : Ct l Z a0 own_EL (⟨"com/example/aproape/aproape/io/TagToStringPinLaw", "at", "(Ljava/lang/String;IIIICCC)Z"⟩ : MethodName) method_3_code 8 (Option.some Jvm.ClassFile.FieldType.boolean) [] (rmm 5 0 0 66) #[(.ref a), (.int (Int32.ofNat i)), (.int k1), (.int n1), (.int o1), (.int d0), (.int d1), (.int d2)] h0 [] (fun v h so => v = some (.int 1) ∧ h0 = h) := hA.elim (fun hk => rm_atge C h0 a i k1 n1 o1 d0 d1 d2 hk) (fun q => Sa.elim (fun S => rm_atl C h0 a cs i k1 n1 o1 d0 d1 d2 f0 f1 f2 q.1 l0 q.2.1 q.2.2 S) (fun S => rm_atw C h0 a cs i k1 n1 o1 d0 d1 d2 f0 f1 f2 q.1 l0 q.2.1 q.2.2 S))
theorem rm0 (C : Cx Z a0) (h0 : Heap) (p1 p2 p3 : Int32) (p4 : Int64) :
    Ct l Z a0 own_EL x code maxLocals ret tables_1 room_1 #[(.int p1), (.int p2), (.int p3), (.long p4)] h0 [] (fun v h so => v = some (.int 1)) := by
  refine own_enter (plainFor_of_name pn_9) C.ew (F0 := fun m => mkF m 0 #[vI p1, vI p2, vI p3, .val (.long p4), .second, .unset, .unset, .unset, .unset, .unset, .unset, .unset, .unset, .unset, .unset] []) (fun m => by first | (simp [entryFrame, mkF, argsToLocals, Value.category, maxLocals]; done) | rfl) ?_
  intro p e s m below meth c s₁ G hx hby hml hret hnm W0 S0 go fin
  have z0 := W0.sz
  show G s₁ (mkF m 0 #[vI p1, vI p2, vI p3, .val (.long p4), .second, .unset, .unset, .unset, .unset, .unset, .unset, .unset, .unset, .unset, .unset] [])
  refine go (g' := (mkF m 1 #[vI p1, vI p2, vI p3, .val (.long p4), .second, .unset, .unset, .unset, .unset, .unset, .unset, .unset, .unset, .unset, .unset] [(.int p1)])) (fun _ k => XS.iloadN W0.here hx rfl (hb hby at_0) rfl k) ?_
  refine go (g' := (mkF m 3 #[vI p1, vI p2, vI p3, .val (.long p4), .second, .unset, .unset, .unset, .unset, .unset, .unset, .unset, .unset, .unset, .unset] [(.int (65535 : Int32)), (.int p1)])) (own_ldcI W0 hx (w0 C) (g := (mkF m 1 #[vI p1, vI p2, vI p3, .val (.long p4), .second, .unset, .unset, .unset, .unset, .unset, .unset, .unset, .unset, .unset, .unset] [(.int p1)])) rfl (hb hby at_1)) ?_
  refine go (g' := (mkF m 5 #[vI p1, vI p2, vI p3, .val (.long p4), .second, .unset, .unset, .unset, .unset, .unset, .unset, .unset, .unset, .unset, .unset] [(.int ((p1 &&& (65535 : Int32)).toUInt32.toUInt16.toUInt32.toInt32))])) (fun _ k => XS.iand W0.here hx rfl (hb hby at_3) rfl (XS.i2c W0.here hx rfl (hb hby at_4) rfl k)) ?_
  generalize ec1 : ((p1 &&& (65535 : Int32)).toUInt32.toUInt16.toUInt32.toInt32) = c1
  have yc1 : ¬ c1 < 0 ∧ ¬ (65535 : Int32) < c1 := ec1 ▸ own_c16 _
  have nc1 : narrow .char (.int c1) = .int c1 := ec1 ▸ own_narc _
  refine go (g' := (mkF m 11 #[vI p1, vI p2, vI p3, .val (.long p4), .second, vI c1, .unset, .unset, .unset, .unset, .unset, .unset, .unset, .unset, .unset] [(.int ((p1.toUInt32 >>> ((16 : Int32) &&& 31).toUInt32).toInt32))])) (fun _ k => XS.istore W0.here hx rfl (hb hby at_5) rfl (l' := #[vI p1, vI p2, vI p3, .val (.long p4), .second, vI c1, .unset, .unset, .unset, .unset, .unset, .unset, .unset, .unset, .unset]) rfl (XS.iloadN W0.here hx rfl (hb hby at_7) rfl (XS.bipush W0.here hx rfl (hb hby at_8) (XS.iushr W0.here hx rfl (hb hby at_10) rfl k)))) ?_
  refine go (g' := (mkF m 13 #[vI p1, vI p2, vI p3, .val (.long p4), .second, vI c1, .unset, .unset, .unset, .unset, .unset, .unset, .unset, .unset, .unset] [(.int (65535 : Int32)), (.int ((p1.toUInt32 >>> ((16 : Int32) &&& 31).toUInt32).toInt32))])) (own_ldcI W0 hx (w0 C) (g := (mkF m 11 #[vI p1, vI p2, vI p3, .val (.long p4), .second, vI c1, .unset, .unset, .unset, .unset, .unset, .unset, .unset, .unset, .unset] [(.int ((p1.toUInt32 >>> ((16 : Int32) &&& 31).toUInt32).toInt32))])) rfl (hb hby at_11)) ?_
  refine go (g' := (mkF m 15 #[vI p1, vI p2, vI p3, .val (.long p4), .second, vI c1, .unset, .unset, .unset, .unset, .unset, .unset, .unset, .unset, .unset] [(.int ((((p1.toUInt32 >>> ((16 : Int32) &&& 31).toUInt32).toInt32) &&& (65535 : Int32)).toUInt32.toUInt16.toUInt32.toInt32))])) (fun _ k => XS.iand W0.here hx rfl (hb hby at_13) rfl (XS.i2c W0.here hx rfl (hb hby at_14) rfl k)) ?_
  generalize ec2 : ((((p1.toUInt32 >>> ((16 : Int32) &&& 31).toUInt32).toInt32) &&& (65535 : Int32)).toUInt32.toUInt16.toUInt32.toInt32) = c2
  have yc2 : ¬ c2 < 0 ∧ ¬ (65535 : Int32) < c2 := ec2 ▸ own_c16 _
  have nc2 : narrow .char (.int c2) = .int c2 := ec2 ▸ own_narc _
  refine go (g' := (mkF m 18 #[vI p1, vI p2, vI p3, .val (.long p4), .second, vI c1, vI c2, .unset, .unset, .unset, .unset, .unset, .unset, .unset, .unset] [(.int p2)])) (fun _ k => XS.istore W0.here hx rfl (hb hby at_15) rfl (l' := #[vI p1, vI p2, vI p3, .val (.long p4), .second, vI c1, vI c2, .unset, .unset, .unset, .unset, .unset, .unset, .unset, .unset]) rfl (XS.iloadN W0.here hx rfl (hb hby at_17) rfl k)) ?_
  refine go (g' := (mkF m 20 #[vI p1, vI p2, vI p3, .val (.long p4), .second, vI c1, vI c2, .unset, .unset, .unset, .unset, .unset, .unset, .unset, .unset] [(.int (65535 : Int32)), (.int p2)])) (own_ldcI W0 hx (w0 C) (g := (mkF m 18 #[vI p1, vI p2, vI p3, .val (.long p4), .second, vI c1, vI c2, .unset, .unset, .unset, .unset, .unset, .unset, .unset, .unset] [(.int p2)])) rfl (hb hby at_18)) ?_
  refine go (g' := (mkF m 22 #[vI p1, vI p2, vI p3, .val (.long p4), .second, vI c1, vI c2, .unset, .unset, .unset, .unset, .unset, .unset, .unset, .unset] [(.int ((p2 &&& (65535 : Int32)).toUInt32.toUInt16.toUInt32.toInt32))])) (fun _ k => XS.iand W0.here hx rfl (hb hby at_20) rfl (XS.i2c W0.here hx rfl (hb hby at_21) rfl k)) ?_
  generalize ec3 : ((p2 &&& (65535 : Int32)).toUInt32.toUInt16.toUInt32.toInt32) = c3
  have yc3 : ¬ c3 < 0 ∧ ¬ (65535 : Int32) < c3 := ec3 ▸ own_c16 _
  have nc3 : narrow .char (.int c3) = .int c3 := ec3 ▸ own_narc _
  refine go (g' := (mkF m 32 #[vI p1, vI p2, vI p3, .val (.long p4), .second, vI c1, vI c2, vI c3, vI (p3 &&& (3 : Int32)), .unset, .unset, .unset, .unset, .unset, .unset] [(.int (p3 &&& (4 : Int32)))])) (fun _ k => XS.istore W0.here hx rfl (hb hby at_22) rfl (l' := #[vI p1, vI p2, vI p3, .val (.long p4), .second, vI c1, vI c2, vI c3, .unset, .unset, .unset, .unset, .unset, .unset, .unset]) rfl (XS.iloadN W0.here hx rfl (hb hby at_24) rfl (XS.iconst W0.here hx rfl (hb hby at_25) (XS.iand W0.here hx rfl (hb hby at_26) rfl (XS.istore W0.here hx rfl (hb hby at_27) rfl (l' := #[vI p1, vI p2, vI p3, .val (.long p4), .second, vI c1, vI c2, vI c3, vI (p3 &&& (3 : Int32)), .unset, .unset, .unset, .unset, .unset, .unset]) rfl (XS.iloadN W0.here hx rfl (hb hby at_29) rfl (XS.iconst W0.here hx rfl (hb hby at_30) (XS.iand W0.here hx rfl (hb hby at_31) rfl k)))))))) ?_
  have Jb4 : ∀ b4 : Int32, (b4 = 1 ∧ ¬ ((p3 &&& (4 : Int32)) = (0 : Int32))) ∨ (b4 = 0 ∧ (p3 &&& (4 : Int32)) = (0 : Int32)) → G s₁ (mkF m 40 #[vI p1, vI p2, vI p3, .val (.long p4), .second, vI c1, vI c2, vI c3, vI (p3 &&& (3 : Int32)), .unset, .unset, .unset, .unset, .unset, .unset] [(.int b4)]) := by
    intro b4 hb4
    refine go (g' := (mkF m 42 #[vI p1, vI p2, vI p3, .val (.long p4), .second, vI c1, vI c2, vI c3, vI (p3 &&& (3 : Int32)), vI b4, .unset, .unset, .unset, .unset, .unset] [])) (fun _ k => XS.istore W0.here hx rfl (hb hby at_40) rfl (l' := #[vI p1, vI p2, vI p3, .val (.long p4), .second, vI c1, vI c2, vI c3, vI (p3 &&& (3 : Int32)), vI b4, .unset, .unset, .unset, .unset, .unset]) rfl k) ?_
    have J42 : ∀ (vmJ : Vm) (TJ : State) (hJ : Heap) (xJ : Addr) (cs : List Int32) (bJ : Int32), Wk Z a0 own_EL "com/example/aproape/aproape/io/TagToStringPinLaw" p l e room_1 s m #[(.int p1), (.int p2), (.int p3), (.long p4)] below meth c vmJ TJ hJ 8 40 → Sx Z hJ xJ cs → cs.length ≤ 3 → (bJ = 1 ∨ bJ = 0) → AtOK (([(60 : Int32)] ++ cs) ++ [(62 : Int32)]) 0 (((Int32.ofNat cs.length) + (2 : Int32)) + (0 : Int32)) (Int32.ofNat cs.length) (0 : Int32) c1 c2 c3 → AtOK (([(60 : Int32)] ++ cs) ++ [(62 : Int32)]) 1 (((Int32.ofNat cs.length) + (2 : Int32)) + (0 : Int32)) (Int32.ofNat cs.length) (0 : Int32) c1 c2 c3 → AtOK (([(60 : Int32)] ++ cs) ++ [(62 : Int32)]) 2 (((Int32.ofNat cs.length) + (2 : Int32)) + (0 : Int32)) (Int32.ofNat cs.length) (0 : Int32) c1 c2 c3 → AtOK (([(60 : Int32)] ++ cs) ++ [(62 : Int32)]) 3 (((Int32.ofNat cs.length) + (2 : Int32)) + (0 : Int32)) (Int32.ofNat cs.length) (0 : Int32) c1 c2 c3 → AtOK (([(60 : Int32)] ++ cs) ++ [(62 : Int32)]) 4 (((Int32.ofNat cs.length) + (2 : Int32)) + (0 : Int32)) (Int32.ofNat cs.length) (0 : Int32) c1 c2 c3 → AtOK (([(60 : Int32)] ++ cs) ++ [(62 : Int32)]) 5 (((Int32.ofNat cs.length) + (2 : Int32)) + (0 : Int32)) (Int32.ofNat cs.length) (0 : Int32) c1 c2 c3 → AtOK (([(60 : Int32), (47 : Int32)] ++ cs) ++ [(62 : Int32)]) 0 (((Int32.ofNat cs.length) + (2 : Int32)) + (1 : Int32)) (Int32.ofNat cs.length) (1 : Int32) c1 c2 c3 → AtOK (([(60 : Int32), (47 : Int32)] ++ cs) ++ [(62 : Int32)]) 1 (((Int32.ofNat cs.length) + (2 : Int32)) + (1 : Int32)) (Int32.ofNat cs.length) (1 : Int32) c1 c2 c3 → AtOK (([(60 : Int32), (47 : Int32)] ++ cs) ++ [(62 : Int32)]) 2 (((Int32.ofNat cs.length) + (2 : Int32)) + (1 : Int32)) (Int32.ofNat cs.length) (1 : Int32) c1 c2 c3 → AtOK (([(60 : Int32), (47 : Int32)] ++ cs) ++ [(62 : Int32)]) 3 (((Int32.ofNat cs.length) + (2 : Int32)) + (1 : Int32)) (Int32.ofNat cs.length) (1 : Int32) c1 c2 c3 → AtOK (([(60 : Int32), (47 : Int32)] ++ cs) ++ [(62 : Int32)]) 4 (((Int32.ofNat cs.length) + (2 : Int32)) + (1 : Int32)) (Int32.ofNat cs.length) (1 : Int32) c1 c2 c3 → AtOK (([(60 : Int32), (47 : Int32)] ++ cs) ++ [(62 : Int32)]) 5 (((Int32.ofNat cs.length) + (2 : Int32)) + (1 : Int32)) (Int32.ofNat cs.length) (1 : Int32) c1 c2 c3 → G TJ (mkF m 146 #[vI p1, vI p2, vI p3, .val (.long p4), .second, vI c1, vI c2, vI c3, vI (Int32.ofNat cs.length), vI bJ, vR xJ, .unset, .unset, .unset, .unset] []) := by
      intro vmJ TJ hJ xJ cs bJ WJ SJ l3 hbJ A0_0 A0_1 A0_2 A0_3 A0_4 A0_5 A1_0 A1_1 A1_2 A1_3 A1_4 A1_5
      have zJ : Z.heap.size ≤ hJ.size := WJ.sz
      have lJ : ltN xJ hJ.size := SJ.exa.lt
      rcases hbJ with rfl | rfl
      · obtain ⟨x5, T5, h5, g5, W5, E5, A5, D5, U5, st5⟩ := own_new WJ hx (w31 C) (w32 C) (w33 C) (g := (mkF m 146 #[vI p1, vI p2, vI p3, .val (.long p4), .second, vI c1, vI c2, vI c3, vI (Int32.ofNat cs.length), vI (1 : Int32), vR xJ, .unset, .unset, .unset, .unset] [])) rfl (hb hby at_146) (nle rfl) (nle rfl)
        have z6 : hJ.size ≤ h5.size := E5.1
        have l5 : ltN x5 h5.size := A5.lt
        have F5_name : Fld Z h5 x5 "com/example/aproape/aproape/io/MarkupReader$Tag" "name" "Ljava/lang/String;" .null := D5 (Or.inr (w44 C)) (ty := (.object "java/lang/String")) (by decide)
        have F5_closing : Fld Z h5 x5 "com/example/aproape/aproape/io/MarkupReader$Tag" "closing" "Z" vZ := D5 (Or.inr (w46 C)) (ty := .boolean) (by decide)
        have F5_line : Fld Z h5 x5 "com/example/aproape/aproape/io/MarkupReader$Tag" "line" "J" (.long (0 : Int64)) := D5 (Or.inr (w48 C)) (ty := .long) (by decide)
        refine go (g' := (mkF m 149 #[vI p1, vI p2, vI p3, .val (.long p4), .second, vI c1, vI c2, vI c3, vI (Int32.ofNat cs.length), vI (1 : Int32), vR xJ, .unset, .unset, .unset, .unset] [(.ref x5)])) (st5) ?_
        refine go (g' := (mkF m 155 #[vI p1, vI p2, vI p3, .val (.long p4), .second, vI c1, vI c2, vI c3, vI (Int32.ofNat cs.length), vI (1 : Int32), vR xJ, .unset, .unset, .unset, .unset] [(.long p4), (.int (1 : Int32)), (.ref xJ), (.ref x5), (.ref x5)])) (fun _ k => XS.dup W5.here hx rfl (hb hby at_149) rfl rfl (XS.aload W5.here hx rfl (hb hby at_150) rfl rfl (XS.iload W5.here hx rfl (hb hby at_152) rfl (XS.lloadN W5.here hx rfl (hb hby at_154) rfl k)))) ?_
        obtain ⟨v7, so7, vm7, T7, h7, W7, C7, q7, hso7, st7⟩ := own_special W5 hx (y := (⟨"com/example/aproape/aproape/io/MarkupReader$Tag", "<init>", "(Ljava/lang/String;ZJ)V"⟩ : MethodName)) rfl (w34 C) (w35 C) (w33 C) (w36 C) (by decide) (rm_tag C h5 x5 (.ref xJ) rfl (1 : Int32) ⟨rfl, (by decide)⟩ p4 F5_name F5_closing F5_line A5 (by omega)) (fun _ q => nomatch q) (Wd := 1) (nle rfl) (nle rfl) (nle rfl) (nle rfl) (g := (mkF m 155 #[vI p1, vI p2, vI p3, .val (.long p4), .second, vI c1, vI c2, vI c3, vI (Int32.ofNat cs.length), vI (1 : Int32), vR xJ, .unset, .unset, .unset, .unset] [(.long p4), (.int (1 : Int32)), (.ref xJ), (.ref x5), (.ref x5)])) rfl (by rw [hml]; rfl) (a := x5) (argsL := [(.ref xJ), (.int (1 : Int32)), (.long p4)]) (rest := [(.ref x5)]) (lenOf pd_34 rfl) rfl rfl (nle rfl) (hb hby at_155)
        obtain ⟨rfl, K7, E7, F7_name, F7_closing, F7_line⟩ := q7
        have z8 : h5.size ≤ h7.size := K7.1
        refine go (g' := (mkF m 158 #[vI p1, vI p2, vI p3, .val (.long p4), .second, vI c1, vI c2, vI c3, vI (Int32.ofNat cs.length), vI (1 : Int32), vR xJ, .unset, .unset, .unset, .unset] [(.ref x5)])) (st7) ?_
        refine go (g' := (mkF m 162 #[vI p1, vI p2, vI p3, .val (.long p4), .second, vI c1, vI c2, vI c3, vI (Int32.ofNat cs.length), vI (1 : Int32), vR xJ, vR x5, .unset, .unset, .unset] [(.ref x5)])) (fun _ k => XS.astore W7.here hx rfl (hb hby at_158) rfl rfl (l' := #[vI p1, vI p2, vI p3, .val (.long p4), .second, vI c1, vI c2, vI c3, vI (Int32.ofNat cs.length), vI (1 : Int32), vR xJ, vR x5, .unset, .unset, .unset]) rfl (XS.aload W7.here hx rfl (hb hby at_160) rfl rfl k)) ?_
        have X10 : Ext hJ h5 := own_xt (own_xr hJ) E5
        have X11 : Ext hJ h7 := own_xk X10 K7 (allS (by omega) all0)
        have f12 := SJ.ext X11
        obtain ⟨v9, so9, vm9, T9, h9, W9, C9, q9, hso9, st9⟩ := own_virtual W7 hx (w49 C) (w50 C) (w52 C) (w51 C) (w33 C) (w53 C) (by decide) (own_nf W7 (w52 C)) E7 (rm_tsx1 C h7 x5 xJ cs E7 F7_closing F7_name l3 f12) (fun _ q => nomatch q) (Wd := 0) (nle rfl) (nle rfl) (nle rfl) (nle rfl) (g := (mkF m 162 #[vI p1, vI p2, vI p3, .val (.long p4), .second, vI c1, vI c2, vI c3, vI (Int32.ofNat cs.length), vI (1 : Int32), vR xJ, vR x5, .unset, .unset, .unset] [(.ref x5)])) rfl (by rw [hml]; rfl) (argsL := []) (rest := []) (lenOf pd_31 rfl) rfl rfl (nle rfl) (hb hby at_162)
        obtain ⟨y9, rfl, E9, S9⟩ := q9
        have z13 : h7.size ≤ h9.size := E9.1
        refine go (g' := (mkF m 165 #[vI p1, vI p2, vI p3, .val (.long p4), .second, vI c1, vI c2, vI c3, vI (Int32.ofNat cs.length), vI (1 : Int32), vR xJ, vR x5, .unset, .unset, .unset] [(.ref y9)])) (st9) ?_
        refine go (g' := (mkF m 182 #[vI p1, vI p2, vI p3, .val (.long p4), .second, vI c1, vI c2, vI c3, vI (Int32.ofNat cs.length), vI (1 : Int32), vR xJ, vR x5, vR y9, vI (1 : Int32), .unset] [(.int (2 : Int32)), (.int (Int32.ofNat cs.length))])) (fun _ k => XS.astore W9.here hx rfl (hb hby at_165) rfl rfl (l' := #[vI p1, vI p2, vI p3, .val (.long p4), .second, vI c1, vI c2, vI c3, vI (Int32.ofNat cs.length), vI (1 : Int32), vR xJ, vR x5, vR y9, .unset, .unset]) rfl (XS.iload W9.here hx rfl (hb hby at_167) rfl (XS.ifNo W9.here hx rfl (hb hby at_169) rfl ((if0 _ _).trans (feq ((by decide) : ¬ ((1 : Int32) = (0 : Int32)))).1) (XS.iconst W9.here hx rfl (hb hby at_172) (XS.goto W9.here hx rfl (pc0 := 173) (pc' := 177) rfl (hb hby at_173) (by decide) (by decide) (XS.istore W9.here hx rfl (hb hby at_177) rfl (l' := #[vI p1, vI p2, vI p3, .val (.long p4), .second, vI c1, vI c2, vI c3, vI (Int32.ofNat cs.length), vI (1 : Int32), vR xJ, vR x5, vR y9, vI (1 : Int32), .unset]) rfl (XS.iload W9.here hx rfl (hb hby at_179) rfl (XS.iconst W9.here hx rfl (hb hby at_181) k)))))))) ?_
        refine go (g' := (mkF m 195 #[vI p1, vI p2, vI p3, .val (.long p4), .second, vI c1, vI c2, vI c3, vI (Int32.ofNat cs.length), vI (1 : Int32), vR xJ, vR x5, vR y9, vI (1 : Int32), vI (((Int32.ofNat cs.length) + (2 : Int32)) + (1 : Int32))] [(.ref y9)])) (fun _ k => XS.iadd W9.here hx rfl (hb hby at_182) rfl (XS.iload W9.here hx rfl (hb hby at_183) rfl (XS.iadd W9.here hx rfl (hb hby at_185) rfl (XS.istore W9.here hx rfl (hb hby at_186) rfl (l' := #[vI p1, vI p2, vI p3, .val (.long p4), .second, vI c1, vI c2, vI c3, vI (Int32.ofNat cs.length), vI (1 : Int32), vR xJ, vR x5, vR y9, vI (1 : Int32), vI (((Int32.ofNat cs.length) + (2 : Int32)) + (1 : Int32))]) rfl (XS.aload W9.here hx rfl (hb hby at_188) rfl rfl (XS.ifnullNo W9.here hx rfl (hb hby at_190) rfl (XS.aload W9.here hx rfl (hb hby at_193) rfl rfl k))))))) ?_
        obtain ⟨v14, so14, vm14, T14, h14, W14, C14, q14, hso14, st14⟩ := own_virtual W9 hx (w168 C) (w86 C) (w88 C) (w87 C) (w3 C) (w89 C) (by decide) (own_nf W9 (w88 C)) S9.exa (rm_lenx C h9 y9 (([(60 : Int32), (47 : Int32)] ++ cs) ++ [(62 : Int32)]) S9 (by simp only [List.length_append, List.length_cons, List.length_nil]; omega)) (fun _ q => nomatch q) (Wd := 0) (nle rfl) (nle rfl) (nle rfl) (nle rfl) (g := (mkF m 195 #[vI p1, vI p2, vI p3, .val (.long p4), .second, vI c1, vI c2, vI c3, vI (Int32.ofNat cs.length), vI (1 : Int32), vR xJ, vR x5, vR y9, vI (1 : Int32), vI (((Int32.ofNat cs.length) + (2 : Int32)) + (1 : Int32))] [(.ref y9)])) rfl (by rw [hml]; rfl) (argsL := []) (rest := []) (lenOf pd_22 rfl) rfl rfl (nle rfl) (hb hby at_195)
        obtain ⟨rfl, rfl⟩ := q14
        refine go (g' := (mkF m 198 #[vI p1, vI p2, vI p3, .val (.long p4), .second, vI c1, vI c2, vI c3, vI (Int32.ofNat cs.length), vI (1 : Int32), vR xJ, vR x5, vR y9, vI (1 : Int32), vI (((Int32.ofNat cs.length) + (2 : Int32)) + (1 : Int32))] [(.int (Int32.ofNat (([(60 : Int32), (47 : Int32)] ++ cs) ++ [(62 : Int32)]).length))])) (st14) ?_
        refine go (g' := (mkF m 216 #[vI p1, vI p2, vI p3, .val (.long p4), .second, vI c1, vI c2, vI c3, vI (Int32.ofNat cs.length), vI (1 : Int32), vR xJ, vR x5, vR y9, vI (1 : Int32), vI (((Int32.ofNat cs.length) + (2 : Int32)) + (1 : Int32))] [(.int c1), (.int (1 : Int32)), (.int (Int32.ofNat cs.length)), (.int (((Int32.ofNat cs.length) + (2 : Int32)) + (1 : Int32))), vZ, (.ref y9)])) (fun _ k => XS.iload W14.here hx rfl (hb hby at_198) rfl (XS.icmpYes W14.here hx rfl (pc0 := 200) (pc' := 205) rfl (hb hby at_200) rfl (teq (own_klen1 cs)).1 (by decide) (by decide) (XS.aload W14.here hx rfl (hb hby at_205) rfl rfl (XS.iconst W14.here hx rfl (hb hby at_207) (XS.iload W14.here hx rfl (hb hby at_208) rfl (XS.iload W14.here hx rfl (hb hby at_210) rfl (XS.iload W14.here hx rfl (hb hby at_212) rfl (XS.iload W14.here hx rfl (hb hby at_214) rfl k)))))))) ?_
        refine go (g' := (mkF m 220 #[vI p1, vI p2, vI p3, .val (.long p4), .second, vI c1, vI c2, vI c3, vI (Int32.ofNat cs.length), vI (1 : Int32), vR xJ, vR x5, vR y9, vI (1 : Int32), vI (((Int32.ofNat cs.length) + (2 : Int32)) + (1 : Int32))] [(.int c3), (.int c2), (.int c1), (.int (1 : Int32)), (.int (Int32.ofNat cs.length)), (.int (((Int32.ofNat cs.length) + (2 : Int32)) + (1 : Int32))), vZ, (.ref y9)])) (fun _ k => XS.iload W14.here hx rfl (hb hby at_216) rfl (XS.iload W14.here hx rfl (hb hby at_218) rfl k)) ?_
        obtain ⟨v15, so15, vm15, T15, h15, W15, C15, q15, hso15, st15⟩ := own_static W14 hx (w169 C) (w170 C) (w171 C) (w172 C) (by decide) (rm_atx C h9 y9 (([(60 : Int32), (47 : Int32)] ++ cs) ++ [(62 : Int32)]) 0 (((Int32.ofNat cs.length) + (2 : Int32)) + (1 : Int32)) (Int32.ofNat cs.length) (1 : Int32) c1 c2 c3 nc1 nc2 nc3 (by simp only [List.length_append, List.length_cons, List.length_nil]; omega) A1_0 S9) (fun _ q => nomatch q) (Wd := 0) (nle rfl) (nle rfl) (nle rfl) (nle rfl) (g := (mkF m 220 #[vI p1, vI p2, vI p3, .val (.long p4), .second, vI c1, vI c2, vI c3, vI (Int32.ofNat cs.length), vI (1 : Int32), vR xJ, vR x5, vR y9, vI (1 : Int32), vI (((Int32.ofNat cs.length) + (2 : Int32)) + (1 : Int32))] [(.int c3), (.int c2), (.int c1), (.int (1 : Int32)), (.int (Int32.ofNat cs.length)), (.int (((Int32.ofNat cs.length) + (2 : Int32)) + (1 : Int32))), vZ, (.ref y9)])) rfl (by rw [hml]; rfl) (argsL := [(.ref y9), vZ, (.int (((Int32.ofNat cs.length) + (2 : Int32)) + (1 : Int32))), (.int (Int32.ofNat cs.length)), (.int (1 : Int32)), (.int c1), (.int c2), (.int c3)]) (rest := []) (lenOf pd_35 rfl) rfl rfl (nle rfl) (hb hby at_220)
        obtain ⟨rfl, rfl⟩ := q15
        refine go (g' := (mkF m 223 #[vI p1, vI p2, vI p3, .val (.long p4), .second, vI c1, vI c2, vI c3, vI (Int32.ofNat cs.length), vI (1 : Int32), vR xJ, vR x5, vR y9, vI (1 : Int32), vI (((Int32.ofNat cs.length) + (2 : Int32)) + (1 : Int32))] [(.int (1 : Int32))])) (st15) ?_
        refine go (g' := (mkF m 239 #[vI p1, vI p2, vI p3, .val (.long p4), .second, vI c1, vI c2, vI c3, vI (Int32.ofNat cs.length), vI (1 : Int32), vR xJ, vR x5, vR y9, vI (1 : Int32), vI (((Int32.ofNat cs.length) + (2 : Int32)) + (1 : Int32))] [(.int c2), (.int c1), (.int (1 : Int32)), (.int (Int32.ofNat cs.length)), (.int (((Int32.ofNat cs.length) + (2 : Int32)) + (1 : Int32))), (.int (1 : Int32)), (.ref y9)])) (fun _ k => XS.ifNo W15.here hx rfl (hb hby at_223) rfl ((if0 _ _).trans (feq ((by decide) : ¬ ((1 : Int32) = (0 : Int32)))).1) (XS.aload W15.here hx rfl (hb hby at_226) rfl rfl (XS.iconst W15.here hx rfl (hb hby at_228) (XS.iload W15.here hx rfl (hb hby at_229) rfl (XS.iload W15.here hx rfl (hb hby at_231) rfl (XS.iload W15.here hx rfl (hb hby at_233) rfl (XS.iload W15.here hx rfl (hb hby at_235) rfl (XS.iload W15.here hx rfl (hb hby at_237) rfl k)))))))) ?_
        refine go (g' := (mkF m 241 #[vI p1, vI p2, vI p3, .val (.long p4), .second, vI c1, vI c2, vI c3, vI (Int32.ofNat cs.length), vI (1 : Int32), vR xJ, vR x5, vR y9, vI (1 : Int32), vI (((Int32.ofNat cs.length) + (2 : Int32)) + (1 : Int32))] [(.int c3), (.int c2), (.int c1), (.int (1 : Int32)), (.int (Int32.ofNat cs.length)), (.int (((Int32.ofNat cs.length) + (2 : Int32)) + (1 : Int32))), (.int (1 : Int32)), (.ref y9)])) (fun _ k => XS.iload W15.here hx rfl (hb hby at_239) rfl k) ?_
        obtain ⟨v16, so16, vm16, T16, h16, W16, C16, q16, hso16, st16⟩ := own_static W15 hx (w169 C) (w170 C) (w171 C) (w172 C) (by decide) (rm_atx C h9 y9 (([(60 : Int32), (47 : Int32)] ++ cs) ++ [(62 : Int32)]) 1 (((Int32.ofNat cs.length) + (2 : Int32)) + (1 : Int32)) (Int32.ofNat cs.length) (1 : Int32) c1 c2 c3 nc1 nc2 nc3 (by simp only [List.length_append, List.length_cons, List.length_nil]; omega) A1_1 S9) (fun _ q => nomatch q) (Wd := 0) (nle rfl) (nle rfl) (nle rfl) (nle rfl) (g := (mkF m 241 #[vI p1, vI p2, vI p3, .val (.long p4), .second, vI c1, vI c2, vI c3, vI (Int32.ofNat cs.length), vI (1 : Int32), vR xJ, vR x5, vR y9, vI (1 : Int32), vI (((Int32.ofNat cs.length) + (2 : Int32)) + (1 : Int32))] [(.int c3), (.int c2), (.int c1), (.int (1 : Int32)), (.int (Int32.ofNat cs.length)), (.int (((Int32.ofNat cs.length) + (2 : Int32)) + (1 : Int32))), (.int (1 : Int32)), (.ref y9)])) rfl (by rw [hml]; rfl) (argsL := [(.ref y9), (.int (1 : Int32)), (.int (((Int32.ofNat cs.length) + (2 : Int32)) + (1 : Int32))), (.int (Int32.ofNat cs.length)), (.int (1 : Int32)), (.int c1), (.int c2), (.int c3)]) (rest := []) (lenOf pd_35 rfl) rfl rfl (nle rfl) (hb hby at_241)
        obtain ⟨rfl, rfl⟩ := q16
        refine go (g' := (mkF m 244 #[vI p1, vI p2, vI p3, .val (.long p4), .second, vI c1, vI c2, vI c3, vI (Int32.ofNat cs.length), vI (1 : Int32), vR xJ, vR x5, vR y9, vI (1 : Int32), vI (((Int32.ofNat cs.length) + (2 : Int32)) + (1 : Int32))] [(.int (1 : Int32))])) (st16) ?_
        refine go (g' := (mkF m 260 #[vI p1, vI p2, vI p3, .val (.long p4), .second, vI c1, vI c2, vI c3, vI (Int32.ofNat cs.length), vI (1 : Int32), vR xJ, vR x5, vR y9, vI (1 : Int32), vI (((Int32.ofNat cs.length) + (2 : Int32)) + (1 : Int32))] [(.int c2), (.int c1), (.int (1 : Int32)), (.int (Int32.ofNat cs.length)), (.int (((Int32.ofNat cs.length) + (2 : Int32)) + (1 : Int32))), (.int (2 : Int32)), (.ref y9)])) (fun _ k => XS.ifNo W16.here hx rfl (hb hby at_244) rfl ((if0 _ _).trans (feq ((by decide) : ¬ ((1 : Int32) = (0 : Int32)))).1) (XS.aload W16.here hx rfl (hb hby at_247) rfl rfl (XS.iconst W16.here hx rfl (hb hby at_249) (XS.iload W16.here hx rfl (hb hby at_250) rfl (XS.iload W16.here hx rfl (hb hby at_252) rfl (XS.iload W16.here hx rfl (hb hby at_254) rfl (XS.iload W16.here hx rfl (hb hby at_256) rfl (XS.iload W16.here hx rfl (hb hby at_258) rfl k)))))))) ?_
        refine go (g' := (mkF m 262 #[vI p1, vI p2, vI p3, .val (.long p4), .second, vI c1, vI c2, vI c3, vI (Int32.ofNat cs.length), vI (1 : Int32), vR xJ, vR x5, vR y9, vI (1 : Int32), vI (((Int32.ofNat cs.length) + (2 : Int32)) + (1 : Int32))] [(.int c3), (.int c2), (.int c1), (.int (1 : Int32)), (.int (Int32.ofNat cs.length)), (.int (((Int32.ofNat cs.length) + (2 : Int32)) + (1 : Int32))), (.int (2 : Int32)), (.ref y9)])) (fun _ k => XS.iload W16.here hx rfl (hb hby at_260) rfl k) ?_
        obtain ⟨v17, so17, vm17, T17, h17, W17, C17, q17, hso17, st17⟩ := own_static W16 hx (w169 C) (w170 C) (w171 C) (w172 C) (by decide) (rm_atx C h9 y9 (([(60 : Int32), (47 : Int32)] ++ cs) ++ [(62 : Int32)]) 2 (((Int32.ofNat cs.length) + (2 : Int32)) + (1 : Int32)) (Int32.ofNat cs.length) (1 : Int32) c1 c2 c3 nc1 nc2 nc3 (by simp only [List.length_append, List.length_cons, List.length_nil]; omega) A1_2 S9) (fun _ q => nomatch q) (Wd := 0) (nle rfl) (nle rfl) (nle rfl) (nle rfl) (g := (mkF m 262 #[vI p1, vI p2, vI p3, .val (.long p4), .second, vI c1, vI c2, vI c3, vI (Int32.ofNat cs.length), vI (1 : Int32), vR xJ, vR x5, vR y9, vI (1 : Int32), vI (((Int32.ofNat cs.length) + (2 : Int32)) + (1 : Int32))] [(.int c3), (.int c2), (.int c1), (.int (1 : Int32)), (.int (Int32.ofNat cs.length)), (.int (((Int32.ofNat cs.length) + (2 : Int32)) + (1 : Int32))), (.int (2 : Int32)), (.ref y9)])) rfl (by rw [hml]; rfl) (argsL := [(.ref y9), (.int (2 : Int32)), (.int (((Int32.ofNat cs.length) + (2 : Int32)) + (1 : Int32))), (.int (Int32.ofNat cs.length)), (.int (1 : Int32)), (.int c1), (.int c2), (.int c3)]) (rest := []) (lenOf pd_35 rfl) rfl rfl (nle rfl) (hb hby at_262)
        obtain ⟨rfl, rfl⟩ := q17
        refine go (g' := (mkF m 265 #[vI p1, vI p2, vI p3, .val (.long p4), .second, vI c1, vI c2, vI c3, vI (Int32.ofNat cs.length), vI (1 : Int32), vR xJ, vR x5, vR y9, vI (1 : Int32), vI (((Int32.ofNat cs.length) + (2 : Int32)) + (1 : Int32))] [(.int (1 : Int32))])) (st17) ?_
        refine go (g' := (mkF m 281 #[vI p1, vI p2, vI p3, .val (.long p4), .second, vI c1, vI c2, vI c3, vI (Int32.ofNat cs.length), vI (1 : Int32), vR xJ, vR x5, vR y9, vI (1 : Int32), vI (((Int32.ofNat cs.length) + (2 : Int32)) + (1 : Int32))] [(.int c2), (.int c1), (.int (1 : Int32)), (.int (Int32.ofNat cs.length)), (.int (((Int32.ofNat cs.length) + (2 : Int32)) + (1 : Int32))), (.int (3 : Int32)), (.ref y9)])) (fun _ k => XS.ifNo W17.here hx rfl (hb hby at_265) rfl ((if0 _ _).trans (feq ((by decide) : ¬ ((1 : Int32) = (0 : Int32)))).1) (XS.aload W17.here hx rfl (hb hby at_268) rfl rfl (XS.iconst W17.here hx rfl (hb hby at_270) (XS.iload W17.here hx rfl (hb hby at_271) rfl (XS.iload W17.here hx rfl (hb hby at_273) rfl (XS.iload W17.here hx rfl (hb hby at_275) rfl (XS.iload W17.here hx rfl (hb hby at_277) rfl (XS.iload W17.here hx rfl (hb hby at_279) rfl k)))))))) ?_
        refine go (g' := (mkF m 283 #[vI p1, vI p2, vI p3, .val (.long p4), .second, vI c1, vI c2, vI c3, vI (Int32.ofNat cs.length), vI (1 : Int32), vR xJ, vR x5, vR y9, vI (1 : Int32), vI (((Int32.ofNat cs.length) + (2 : Int32)) + (1 : Int32))] [(.int c3), (.int c2), (.int c1), (.int (1 : Int32)), (.int (Int32.ofNat cs.length)), (.int (((Int32.ofNat cs.length) + (2 : Int32)) + (1 : Int32))), (.int (3 : Int32)), (.ref y9)])) (fun _ k => XS.iload W17.here hx rfl (hb hby at_281) rfl k) ?_
        obtain ⟨v18, so18, vm18, T18, h18, W18, C18, q18, hso18, st18⟩ := own_static W17 hx (w169 C) (w170 C) (w171 C) (w172 C) (by decide) (rm_atx C h9 y9 (([(60 : Int32), (47 : Int32)] ++ cs) ++ [(62 : Int32)]) 3 (((Int32.ofNat cs.length) + (2 : Int32)) + (1 : Int32)) (Int32.ofNat cs.length) (1 : Int32) c1 c2 c3 nc1 nc2 nc3 (by simp only [List.length_append, List.length_cons, List.length_nil]; omega) A1_3 S9) (fun _ q => nomatch q) (Wd := 0) (nle rfl) (nle rfl) (nle rfl) (nle rfl) (g := (mkF m 283 #[vI p1, vI p2, vI p3, .val (.long p4), .second, vI c1, vI c2, vI c3, vI (Int32.ofNat cs.length), vI (1 : Int32), vR xJ, vR x5, vR y9, vI (1 : Int32), vI (((Int32.ofNat cs.length) + (2 : Int32)) + (1 : Int32))] [(.int c3), (.int c2), (.int c1), (.int (1 : Int32)), (.int (Int32.ofNat cs.length)), (.int (((Int32.ofNat cs.length) + (2 : Int32)) + (1 : Int32))), (.int (3 : Int32)), (.ref y9)])) rfl (by rw [hml]; rfl) (argsL := [(.ref y9), (.int (3 : Int32)), (.int (((Int32.ofNat cs.length) + (2 : Int32)) + (1 : Int32))), (.int (Int32.ofNat cs.length)), (.int (1 : Int32)), (.int c1), (.int c2), (.int c3)]) (rest := []) (lenOf pd_35 rfl) rfl rfl (nle rfl) (hb hby at_283)
        obtain ⟨rfl, rfl⟩ := q18
        refine go (g' := (mkF m 286 #[vI p1, vI p2, vI p3, .val (.long p4), .second, vI c1, vI c2, vI c3, vI (Int32.ofNat cs.length), vI (1 : Int32), vR xJ, vR x5, vR y9, vI (1 : Int32), vI (((Int32.ofNat cs.length) + (2 : Int32)) + (1 : Int32))] [(.int (1 : Int32))])) (st18) ?_
        refine go (g' := (mkF m 302 #[vI p1, vI p2, vI p3, .val (.long p4), .second, vI c1, vI c2, vI c3, vI (Int32.ofNat cs.length), vI (1 : Int32), vR xJ, vR x5, vR y9, vI (1 : Int32), vI (((Int32.ofNat cs.length) + (2 : Int32)) + (1 : Int32))] [(.int c2), (.int c1), (.int (1 : Int32)), (.int (Int32.ofNat cs.length)), (.int (((Int32.ofNat cs.length) + (2 : Int32)) + (1 : Int32))), (.int (4 : Int32)), (.ref y9)])) (fun _ k => XS.ifNo W18.here hx rfl (hb hby at_286) rfl ((if0 _ _).trans (feq ((by decide) : ¬ ((1 : Int32) = (0 : Int32)))).1) (XS.aload W18.here hx rfl (hb hby at_289) rfl rfl (XS.iconst W18.here hx rfl (hb hby at_291) (XS.iload W18.here hx rfl (hb hby at_292) rfl (XS.iload W18.here hx rfl (hb hby at_294) rfl (XS.iload W18.here hx rfl (hb hby at_296) rfl (XS.iload W18.here hx rfl (hb hby at_298) rfl (XS.iload W18.here hx rfl (hb hby at_300) rfl k)))))))) ?_
        refine go (g' := (mkF m 304 #[vI p1, vI p2, vI p3, .val (.long p4), .second, vI c1, vI c2, vI c3, vI (Int32.ofNat cs.length), vI (1 : Int32), vR xJ, vR x5, vR y9, vI (1 : Int32), vI (((Int32.ofNat cs.length) + (2 : Int32)) + (1 : Int32))] [(.int c3), (.int c2), (.int c1), (.int (1 : Int32)), (.int (Int32.ofNat cs.length)), (.int (((Int32.ofNat cs.length) + (2 : Int32)) + (1 : Int32))), (.int (4 : Int32)), (.ref y9)])) (fun _ k => XS.iload W18.here hx rfl (hb hby at_302) rfl k) ?_
        obtain ⟨v19, so19, vm19, T19, h19, W19, C19, q19, hso19, st19⟩ := own_static W18 hx (w169 C) (w170 C) (w171 C) (w172 C) (by decide) (rm_atx C h9 y9 (([(60 : Int32), (47 : Int32)] ++ cs) ++ [(62 : Int32)]) 4 (((Int32.ofNat cs.length) + (2 : Int32)) + (1 : Int32)) (Int32.ofNat cs.length) (1 : Int32) c1 c2 c3 nc1 nc2 nc3 (by simp only [List.length_append, List.length_cons, List.length_nil]; omega) A1_4 S9) (fun _ q => nomatch q) (Wd := 0) (nle rfl) (nle rfl) (nle rfl) (nle rfl) (g := (mkF m 304 #[vI p1, vI p2, vI p3, .val (.long p4), .second, vI c1, vI c2, vI c3, vI (Int32.ofNat cs.length), vI (1 : Int32), vR xJ, vR x5, vR y9, vI (1 : Int32), vI (((Int32.ofNat cs.length) + (2 : Int32)) + (1 : Int32))] [(.int c3), (.int c2), (.int c1), (.int (1 : Int32)), (.int (Int32.ofNat cs.length)), (.int (((Int32.ofNat cs.length) + (2 : Int32)) + (1 : Int32))), (.int (4 : Int32)), (.ref y9)])) rfl (by rw [hml]; rfl) (argsL := [(.ref y9), (.int (4 : Int32)), (.int (((Int32.ofNat cs.length) + (2 : Int32)) + (1 : Int32))), (.int (Int32.ofNat cs.length)), (.int (1 : Int32)), (.int c1), (.int c2), (.int c3)]) (rest := []) (lenOf pd_35 rfl) rfl rfl (nle rfl) (hb hby at_304)
        obtain ⟨rfl, rfl⟩ := q19
        refine go (g' := (mkF m 307 #[vI p1, vI p2, vI p3, .val (.long p4), .second, vI c1, vI c2, vI c3, vI (Int32.ofNat cs.length), vI (1 : Int32), vR xJ, vR x5, vR y9, vI (1 : Int32), vI (((Int32.ofNat cs.length) + (2 : Int32)) + (1 : Int32))] [(.int (1 : Int32))])) (st19) ?_
        refine go (g' := (mkF m 323 #[vI p1, vI p2, vI p3, .val (.long p4), .second, vI c1, vI c2, vI c3, vI (Int32.ofNat cs.length), vI (1 : Int32), vR xJ, vR x5, vR y9, vI (1 : Int32), vI (((Int32.ofNat cs.length) + (2 : Int32)) + (1 : Int32))] [(.int c2), (.int c1), (.int (1 : Int32)), (.int (Int32.ofNat cs.length)), (.int (((Int32.ofNat cs.length) + (2 : Int32)) + (1 : Int32))), (.int (5 : Int32)), (.ref y9)])) (fun _ k => XS.ifNo W19.here hx rfl (hb hby at_307) rfl ((if0 _ _).trans (feq ((by decide) : ¬ ((1 : Int32) = (0 : Int32)))).1) (XS.aload W19.here hx rfl (hb hby at_310) rfl rfl (XS.iconst W19.here hx rfl (hb hby at_312) (XS.iload W19.here hx rfl (hb hby at_313) rfl (XS.iload W19.here hx rfl (hb hby at_315) rfl (XS.iload W19.here hx rfl (hb hby at_317) rfl (XS.iload W19.here hx rfl (hb hby at_319) rfl (XS.iload W19.here hx rfl (hb hby at_321) rfl k)))))))) ?_
        refine go (g' := (mkF m 325 #[vI p1, vI p2, vI p3, .val (.long p4), .second, vI c1, vI c2, vI c3, vI (Int32.ofNat cs.length), vI (1 : Int32), vR xJ, vR x5, vR y9, vI (1 : Int32), vI (((Int32.ofNat cs.length) + (2 : Int32)) + (1 : Int32))] [(.int c3), (.int c2), (.int c1), (.int (1 : Int32)), (.int (Int32.ofNat cs.length)), (.int (((Int32.ofNat cs.length) + (2 : Int32)) + (1 : Int32))), (.int (5 : Int32)), (.ref y9)])) (fun _ k => XS.iload W19.here hx rfl (hb hby at_323) rfl k) ?_
        obtain ⟨v20, so20, vm20, T20, h20, W20, C20, q20, hso20, st20⟩ := own_static W19 hx (w169 C) (w170 C) (w171 C) (w172 C) (by decide) (rm_atx C h9 y9 (([(60 : Int32), (47 : Int32)] ++ cs) ++ [(62 : Int32)]) 5 (((Int32.ofNat cs.length) + (2 : Int32)) + (1 : Int32)) (Int32.ofNat cs.length) (1 : Int32) c1 c2 c3 nc1 nc2 nc3 (by simp only [List.length_append, List.length_cons, List.length_nil]; omega) A1_5 S9) (fun _ q => nomatch q) (Wd := 0) (nle rfl) (nle rfl) (nle rfl) (nle rfl) (g := (mkF m 325 #[vI p1, vI p2, vI p3, .val (.long p4), .second, vI c1, vI c2, vI c3, vI (Int32.ofNat cs.length), vI (1 : Int32), vR xJ, vR x5, vR y9, vI (1 : Int32), vI (((Int32.ofNat cs.length) + (2 : Int32)) + (1 : Int32))] [(.int c3), (.int c2), (.int c1), (.int (1 : Int32)), (.int (Int32.ofNat cs.length)), (.int (((Int32.ofNat cs.length) + (2 : Int32)) + (1 : Int32))), (.int (5 : Int32)), (.ref y9)])) rfl (by rw [hml]; rfl) (argsL := [(.ref y9), (.int (5 : Int32)), (.int (((Int32.ofNat cs.length) + (2 : Int32)) + (1 : Int32))), (.int (Int32.ofNat cs.length)), (.int (1 : Int32)), (.int c1), (.int c2), (.int c3)]) (rest := []) (lenOf pd_35 rfl) rfl rfl (nle rfl) (hb hby at_325)
        obtain ⟨rfl, rfl⟩ := q20
        refine go (g' := (mkF m 328 #[vI p1, vI p2, vI p3, .val (.long p4), .second, vI c1, vI c2, vI c3, vI (Int32.ofNat cs.length), vI (1 : Int32), vR xJ, vR x5, vR y9, vI (1 : Int32), vI (((Int32.ofNat cs.length) + (2 : Int32)) + (1 : Int32))] [(.int (1 : Int32))])) (st20) ?_
        refine go (g' := (mkF m 336 #[vI p1, vI p2, vI p3, .val (.long p4), .second, vI c1, vI c2, vI c3, vI (Int32.ofNat cs.length), vI (1 : Int32), vR xJ, vR x5, vR y9, vI (1 : Int32), vI (((Int32.ofNat cs.length) + (2 : Int32)) + (1 : Int32))] [(.int (1 : Int32))])) (fun _ k => XS.ifNo W20.here hx rfl (hb hby at_328) rfl ((if0 _ _).trans (feq ((by decide) : ¬ ((1 : Int32) = (0 : Int32)))).1) (XS.iconst W20.here hx rfl (hb hby at_331) (XS.goto W20.here hx rfl (pc0 := 332) (pc' := 336) rfl (hb hby at_332) (by decide) (by decide) k))) ?_
        exact fin (v := some (.int (1 : Int32))) (so := []) W20 (nle rfl) (nle rfl) (rfl) (fun _ q => nomatch q) (fun q => nomatch q) (own_retI W20 hx hret (by decide) rfl (hb hby at_336))
      · obtain ⟨x21, T21, h21, g21, W21, E21, A21, D21, U21, st21⟩ := own_new WJ hx (w31 C) (w32 C) (w33 C) (g := (mkF m 146 #[vI p1, vI p2, vI p3, .val (.long p4), .second, vI c1, vI c2, vI c3, vI (Int32.ofNat cs.length), .val vZ, vR xJ, .unset, .unset, .unset, .unset] [])) rfl (hb hby at_146) (nle rfl) (nle rfl)
        have z22 : hJ.size ≤ h21.size := E21.1
        have l21 : ltN x21 h21.size := A21.lt
        have F21_name : Fld Z h21 x21 "com/example/aproape/aproape/io/MarkupReader$Tag" "name" "Ljava/lang/String;" .null := D21 (Or.inr (w44 C)) (ty := (.object "java/lang/String")) (by decide)
        have F21_closing : Fld Z h21 x21 "com/example/aproape/aproape/io/MarkupReader$Tag" "closing" "Z" vZ := D21 (Or.inr (w46 C)) (ty := .boolean) (by decide)
        have F21_line : Fld Z h21 x21 "com/example/aproape/aproape/io/MarkupReader$Tag" "line" "J" (.long (0 : Int64)) := D21 (Or.inr (w48 C)) (ty := .long) (by decide)
        refine go (g' := (mkF m 149 #[vI p1, vI p2, vI p3, .val (.long p4), .second, vI c1, vI c2, vI c3, vI (Int32.ofNat cs.length), .val vZ, vR xJ, .unset, .unset, .unset, .unset] [(.ref x21)])) (st21) ?_
        refine go (g' := (mkF m 155 #[vI p1, vI p2, vI p3, .val (.long p4), .second, vI c1, vI c2, vI c3, vI (Int32.ofNat cs.length), .val vZ, vR xJ, .unset, .unset, .unset, .unset] [(.long p4), vZ, (.ref xJ), (.ref x21), (.ref x21)])) (fun _ k => XS.dup W21.here hx rfl (hb hby at_149) rfl rfl (XS.aload W21.here hx rfl (hb hby at_150) rfl rfl (XS.iload W21.here hx rfl (hb hby at_152) rfl (XS.lloadN W21.here hx rfl (hb hby at_154) rfl k)))) ?_
        obtain ⟨v23, so23, vm23, T23, h23, W23, C23, q23, hso23, st23⟩ := own_special W21 hx (y := (⟨"com/example/aproape/aproape/io/MarkupReader$Tag", "<init>", "(Ljava/lang/String;ZJ)V"⟩ : MethodName)) rfl (w34 C) (w35 C) (w33 C) (w36 C) (by decide) (rm_tag C h21 x21 (.ref xJ) rfl (0 : Int32) ⟨rfl, (by decide)⟩ p4 F21_name F21_closing F21_line A21 (by omega)) (fun _ q => nomatch q) (Wd := 1) (nle rfl) (nle rfl) (nle rfl) (nle rfl) (g := (mkF m 155 #[vI p1, vI p2, vI p3, .val (.long p4), .second, vI c1, vI c2, vI c3, vI (Int32.ofNat cs.length), .val vZ, vR xJ, .unset, .unset, .unset, .unset] [(.long p4), vZ, (.ref xJ), (.ref x21), (.ref x21)])) rfl (by rw [hml]; rfl) (a := x21) (argsL := [(.ref xJ), vZ, (.long p4)]) (rest := [(.ref x21)]) (lenOf pd_34 rfl) rfl rfl (nle rfl) (hb hby at_155)
        obtain ⟨rfl, K23, E23, F23_name, F23_closing, F23_line⟩ := q23
        have z24 : h21.size ≤ h23.size := K23.1
        refine go (g' := (mkF m 158 #[vI p1, vI p2, vI p3, .val (.long p4), .second, vI c1, vI c2, vI c3, vI (Int32.ofNat cs.length), .val vZ, vR xJ, .unset, .unset, .unset, .unset] [(.ref x21)])) (st23) ?_
        refine go (g' := (mkF m 162 #[vI p1, vI p2, vI p3, .val (.long p4), .second, vI c1, vI c2, vI c3, vI (Int32.ofNat cs.length), .val vZ, vR xJ, vR x21, .unset, .unset, .unset] [(.ref x21)])) (fun _ k => XS.astore W23.here hx rfl (hb hby at_158) rfl rfl (l' := #[vI p1, vI p2, vI p3, .val (.long p4), .second, vI c1, vI c2, vI c3, vI (Int32.ofNat cs.length), .val vZ, vR xJ, vR x21, .unset, .unset, .unset]) rfl (XS.aload W23.here hx rfl (hb hby at_160) rfl rfl k)) ?_
        have X26 : Ext hJ h21 := own_xt (own_xr hJ) E21
        have X27 : Ext hJ h23 := own_xk X26 K23 (allS (by omega) all0)
        have f28 := SJ.ext X27
        obtain ⟨v25, so25, vm25, T25, h25, W25, C25, q25, hso25, st25⟩ := own_virtual W23 hx (w49 C) (w50 C) (w52 C) (w51 C) (w33 C) (w53 C) (by decide) (own_nf W23 (w52 C)) E23 (rm_tsx0 C h23 x21 xJ cs E23 F23_closing F23_name l3 f28) (fun _ q => nomatch q) (Wd := 0) (nle rfl) (nle rfl) (nle rfl) (nle rfl) (g := (mkF m 162 #[vI p1, vI p2, vI p3, .val (.long p4), .second, vI c1, vI c2, vI c3, vI (Int32.ofNat cs.length), .val vZ, vR xJ, vR x21, .unset, .unset, .unset] [(.ref x21)])) rfl (by rw [hml]; rfl) (argsL := []) (rest := []) (lenOf pd_31 rfl) rfl rfl (nle rfl) (hb hby at_162)
        obtain ⟨y25, rfl, E25, S25⟩ := q25
        have z29 : h23.size ≤ h25.size := E25.1
        refine go (g' := (mkF m 165 #[vI p1, vI p2, vI p3, .val (.long p4), .second, vI c1, vI c2, vI c3, vI (Int32.ofNat cs.length), .val vZ, vR xJ, vR x21, .unset, .unset, .unset] [(.ref y25)])) (st25) ?_
        refine go (g' := (mkF m 183 #[vI p1, vI p2, vI p3, .val (.long p4), .second, vI c1, vI c2, vI c3, vI (Int32.ofNat cs.length), .val vZ, vR xJ, vR x21, vR y25, .val vZ, .unset] [(.int ((Int32.ofNat cs.length) + (2 : Int32)))])) (fun _ k => XS.astore W25.here hx rfl (hb hby at_165) rfl rfl (l' := #[vI p1, vI p2, vI p3, .val (.long p4), .second, vI c1, vI c2, vI c3, vI (Int32.ofNat cs.length), .val vZ, vR xJ, vR x21, vR y25, .unset, .unset]) rfl (XS.iload W25.here hx rfl (hb hby at_167) rfl (XS.ifYes W25.here hx rfl (pc0 := 169) (pc' := 176) rfl (hb hby at_169) rfl ((if0 _ _).trans (teq ((by decide) : (0 : Int32) = (0 : Int32))).1) (by decide) (by decide) (XS.iconst W25.here hx rfl (hb hby at_176) (XS.istore W25.here hx rfl (hb hby at_177) rfl (l' := #[vI p1, vI p2, vI p3, .val (.long p4), .second, vI c1, vI c2, vI c3, vI (Int32.ofNat cs.length), .val vZ, vR xJ, vR x21, vR y25, .val vZ, .unset]) rfl (XS.iload W25.here hx rfl (hb hby at_179) rfl (XS.iconst W25.here hx rfl (hb hby at_181) (XS.iadd W25.here hx rfl (hb hby at_182) rfl k)))))))) ?_
        refine go (g' := (mkF m 195 #[vI p1, vI p2, vI p3, .val (.long p4), .second, vI c1, vI c2, vI c3, vI (Int32.ofNat cs.length), .val vZ, vR xJ, vR x21, vR y25, .val vZ, vI (((Int32.ofNat cs.length) + (2 : Int32)) + (0 : Int32))] [(.ref y25)])) (fun _ k => XS.iload W25.here hx rfl (hb hby at_183) rfl (XS.iadd W25.here hx rfl (hb hby at_185) rfl (XS.istore W25.here hx rfl (hb hby at_186) rfl (l' := #[vI p1, vI p2, vI p3, .val (.long p4), .second, vI c1, vI c2, vI c3, vI (Int32.ofNat cs.length), .val vZ, vR xJ, vR x21, vR y25, .val vZ, vI (((Int32.ofNat cs.length) + (2 : Int32)) + (0 : Int32))]) rfl (XS.aload W25.here hx rfl (hb hby at_188) rfl rfl (XS.ifnullNo W25.here hx rfl (hb hby at_190) rfl (XS.aload W25.here hx rfl (hb hby at_193) rfl rfl k)))))) ?_
        obtain ⟨v30, so30, vm30, T30, h30, W30, C30, q30, hso30, st30⟩ := own_virtual W25 hx (w168 C) (w86 C) (w88 C) (w87 C) (w3 C) (w89 C) (by decide) (own_nf W25 (w88 C)) S25.exa (rm_lenx C h25 y25 (([(60 : Int32)] ++ cs) ++ [(62 : Int32)]) S25 (by simp only [List.length_append, List.length_cons, List.length_nil]; omega)) (fun _ q => nomatch q) (Wd := 0) (nle rfl) (nle rfl) (nle rfl) (nle rfl) (g := (mkF m 195 #[vI p1, vI p2, vI p3, .val (.long p4), .second, vI c1, vI c2, vI c3, vI (Int32.ofNat cs.length), .val vZ, vR xJ, vR x21, vR y25, .val vZ, vI (((Int32.ofNat cs.length) + (2 : Int32)) + (0 : Int32))] [(.ref y25)])) rfl (by rw [hml]; rfl) (argsL := []) (rest := []) (lenOf pd_22 rfl) rfl rfl (nle rfl) (hb hby at_195)
        obtain ⟨rfl, rfl⟩ := q30
        refine go (g' := (mkF m 198 #[vI p1, vI p2, vI p3, .val (.long p4), .second, vI c1, vI c2, vI c3, vI (Int32.ofNat cs.length), .val vZ, vR xJ, vR x21, vR y25, .val vZ, vI (((Int32.ofNat cs.length) + (2 : Int32)) + (0 : Int32))] [(.int (Int32.ofNat (([(60 : Int32)] ++ cs) ++ [(62 : Int32)]).length))])) (st30) ?_
        refine go (g' := (mkF m 216 #[vI p1, vI p2, vI p3, .val (.long p4), .second, vI c1, vI c2, vI c3, vI (Int32.ofNat cs.length), .val vZ, vR xJ, vR x21, vR y25, .val vZ, vI (((Int32.ofNat cs.length) + (2 : Int32)) + (0 : Int32))] [(.int c1), vZ, (.int (Int32.ofNat cs.length)), (.int (((Int32.ofNat cs.length) + (2 : Int32)) + (0 : Int32))), vZ, (.ref y25)])) (fun _ k => XS.iload W30.here hx rfl (hb hby at_198) rfl (XS.icmpYes W30.here hx rfl (pc0 := 200) (pc' := 205) rfl (hb hby at_200) rfl (teq (own_klen0 cs)).1 (by decide) (by decide) (XS.aload W30.here hx rfl (hb hby at_205) rfl rfl (XS.iconst W30.here hx rfl (hb hby at_207) (XS.iload W30.here hx rfl (hb hby at_208) rfl (XS.iload W30.here hx rfl (hb hby at_210) rfl (XS.iload W30.here hx rfl (hb hby at_212) rfl (XS.iload W30.here hx rfl (hb hby at_214) rfl k)))))))) ?_
        refine go (g' := (mkF m 220 #[vI p1, vI p2, vI p3, .val (.long p4), .second, vI c1, vI c2, vI c3, vI (Int32.ofNat cs.length), .val vZ, vR xJ, vR x21, vR y25, .val vZ, vI (((Int32.ofNat cs.length) + (2 : Int32)) + (0 : Int32))] [(.int c3), (.int c2), (.int c1), vZ, (.int (Int32.ofNat cs.length)), (.int (((Int32.ofNat cs.length) + (2 : Int32)) + (0 : Int32))), vZ, (.ref y25)])) (fun _ k => XS.iload W30.here hx rfl (hb hby at_216) rfl (XS.iload W30.here hx rfl (hb hby at_218) rfl k)) ?_
        obtain ⟨v31, so31, vm31, T31, h31, W31, C31, q31, hso31, st31⟩ := own_static W30 hx (w169 C) (w170 C) (w171 C) (w172 C) (by decide) (rm_atx C h25 y25 (([(60 : Int32)] ++ cs) ++ [(62 : Int32)]) 0 (((Int32.ofNat cs.length) + (2 : Int32)) + (0 : Int32)) (Int32.ofNat cs.length) (0 : Int32) c1 c2 c3 nc1 nc2 nc3 (by simp only [List.length_append, List.length_cons, List.length_nil]; omega) A0_0 S25) (fun _ q => nomatch q) (Wd := 0) (nle rfl) (nle rfl) (nle rfl) (nle rfl) (g := (mkF m 220 #[vI p1, vI p2, vI p3, .val (.long p4), .second, vI c1, vI c2, vI c3, vI (Int32.ofNat cs.length), .val vZ, vR xJ, vR x21, vR y25, .val vZ, vI (((Int32.ofNat cs.length) + (2 : Int32)) + (0 : Int32))] [(.int c3), (.int c2), (.int c1), vZ, (.int (Int32.ofNat cs.length)), (.int (((Int32.ofNat cs.length) + (2 : Int32)) + (0 : Int32))), vZ, (.ref y25)])) rfl (by rw [hml]; rfl) (argsL := [(.ref y25), vZ, (.int (((Int32.ofNat cs.length) + (2 : Int32)) + (0 : Int32))), (.int (Int32.ofNat cs.length)), vZ, (.int c1), (.int c2), (.int c3)]) (rest := []) (lenOf pd_35 rfl) rfl rfl (nle rfl) (hb hby at_220)
        obtain ⟨rfl, rfl⟩ := q31
        refine go (g' := (mkF m 223 #[vI p1, vI p2, vI p3, .val (.long p4), .second, vI c1, vI c2, vI c3, vI (Int32.ofNat cs.length), .val vZ, vR xJ, vR x21, vR y25, .val vZ, vI (((Int32.ofNat cs.length) + (2 : Int32)) + (0 : Int32))] [(.int (1 : Int32))])) (st31) ?_
        refine go (g' := (mkF m 239 #[vI p1, vI p2, vI p3, .val (.long p4), .second, vI c1, vI c2, vI c3, vI (Int32.ofNat cs.length), .val vZ, vR xJ, vR x21, vR y25, .val vZ, vI (((Int32.ofNat cs.length) + (2 : Int32)) + (0 : Int32))] [(.int c2), (.int c1), vZ, (.int (Int32.ofNat cs.length)), (.int (((Int32.ofNat cs.length) + (2 : Int32)) + (0 : Int32))), (.int (1 : Int32)), (.ref y25)])) (fun _ k => XS.ifNo W31.here hx rfl (hb hby at_223) rfl ((if0 _ _).trans (feq ((by decide) : ¬ ((1 : Int32) = (0 : Int32)))).1) (XS.aload W31.here hx rfl (hb hby at_226) rfl rfl (XS.iconst W31.here hx rfl (hb hby at_228) (XS.iload W31.here hx rfl (hb hby at_229) rfl (XS.iload W31.here hx rfl (hb hby at_231) rfl (XS.iload W31.here hx rfl (hb hby at_233) rfl (XS.iload W31.here hx rfl (hb hby at_235) rfl (XS.iload W31.here hx rfl (hb hby at_237) rfl k)))))))) ?_
        refine go (g' := (mkF m 241 #[vI p1, vI p2, vI p3, .val (.long p4), .second, vI c1, vI c2, vI c3, vI (Int32.ofNat cs.length), .val vZ, vR xJ, vR x21, vR y25, .val vZ, vI (((Int32.ofNat cs.length) + (2 : Int32)) + (0 : Int32))] [(.int c3), (.int c2), (.int c1), vZ, (.int (Int32.ofNat cs.length)), (.int (((Int32.ofNat cs.length) + (2 : Int32)) + (0 : Int32))), (.int (1 : Int32)), (.ref y25)])) (fun _ k => XS.iload W31.here hx rfl (hb hby at_239) rfl k) ?_
        obtain ⟨v32, so32, vm32, T32, h32, W32, C32, q32, hso32, st32⟩ := own_static W31 hx (w169 C) (w170 C) (w171 C) (w172 C) (by decide) (rm_atx C h25 y25 (([(60 : Int32)] ++ cs) ++ [(62 : Int32)]) 1 (((Int32.ofNat cs.length) + (2 : Int32)) + (0 : Int32)) (Int32.ofNat cs.length) (0 : Int32) c1 c2 c3 nc1 nc2 nc3 (by simp only [List.length_append, List.length_cons, List.length_nil]; omega) A0_1 S25) (fun _ q => nomatch q) (Wd := 0) (nle rfl) (nle rfl) (nle rfl) (nle rfl) (g := (mkF m 241 #[vI p1, vI p2, vI p3, .val (.long p4), .second, vI c1, vI c2, vI c3, vI (Int32.ofNat cs.length), .val vZ, vR xJ, vR x21, vR y25, .val vZ, vI (((Int32.ofNat cs.length) + (2 : Int32)) + (0 : Int32))] [(.int c3), (.int c2), (.int c1), vZ, (.int (Int32.ofNat cs.length)), (.int (((Int32.ofNat cs.length) + (2 : Int32)) + (0 : Int32))), (.int (1 : Int32)), (.ref y25)])) rfl (by rw [hml]; rfl) (argsL := [(.ref y25), (.int (1 : Int32)), (.int (((Int32.ofNat cs.length) + (2 : Int32)) + (0 : Int32))), (.int (Int32.ofNat cs.length)), vZ, (.int c1), (.int c2), (.int c3)]) (rest := []) (lenOf pd_35 rfl) rfl rfl (nle rfl) (hb hby at_241)
        obtain ⟨rfl, rfl⟩ := q32
        refine go (g' := (mkF m 244 #[vI p1, vI p2, vI p3, .val (.long p4), .second, vI c1, vI c2, vI c3, vI (Int32.ofNat cs.length), .val vZ, vR xJ, vR x21, vR y25, .val vZ, vI (((Int32.ofNat cs.length) + (2 : Int32)) + (0 : Int32))] [(.int (1 : Int32))])) (st32) ?_
        refine go (g' := (mkF m 260 #[vI p1, vI p2, vI p3, .val (.long p4), .second, vI c1, vI c2, vI c3, vI (Int32.ofNat cs.length), .val vZ, vR xJ, vR x21, vR y25, .val vZ, vI (((Int32.ofNat cs.length) + (2 : Int32)) + (0 : Int32))] [(.int c2), (.int c1), vZ, (.int (Int32.ofNat cs.length)), (.int (((Int32.ofNat cs.length) + (2 : Int32)) + (0 : Int32))), (.int (2 : Int32)), (.ref y25)])) (fun _ k => XS.ifNo W32.here hx rfl (hb hby at_244) rfl ((if0 _ _).trans (feq ((by decide) : ¬ ((1 : Int32) = (0 : Int32)))).1) (XS.aload W32.here hx rfl (hb hby at_247) rfl rfl (XS.iconst W32.here hx rfl (hb hby at_249) (XS.iload W32.here hx rfl (hb hby at_250) rfl (XS.iload W32.here hx rfl (hb hby at_252) rfl (XS.iload W32.here hx rfl (hb hby at_254) rfl (XS.iload W32.here hx rfl (hb hby at_256) rfl (XS.iload W32.here hx rfl (hb hby at_258) rfl k)))))))) ?_
        refine go (g' := (mkF m 262 #[vI p1, vI p2, vI p3, .val (.long p4), .second, vI c1, vI c2, vI c3, vI (Int32.ofNat cs.length), .val vZ, vR xJ, vR x21, vR y25, .val vZ, vI (((Int32.ofNat cs.length) + (2 : Int32)) + (0 : Int32))] [(.int c3), (.int c2), (.int c1), vZ, (.int (Int32.ofNat cs.length)), (.int (((Int32.ofNat cs.length) + (2 : Int32)) + (0 : Int32))), (.int (2 : Int32)), (.ref y25)])) (fun _ k => XS.iload W32.here hx rfl (hb hby at_260) rfl k) ?_
        obtain ⟨v33, so33, vm33, T33, h33, W33, C33, q33, hso33, st33⟩ := own_static W32 hx (w169 C) (w170 C) (w171 C) (w172 C) (by decide) (rm_atx C h25 y25 (([(60 : Int32)] ++ cs) ++ [(62 : Int32)]) 2 (((Int32.ofNat cs.length) + (2 : Int32)) + (0 : Int32)) (Int32.ofNat cs.length) (0 : Int32) c1 c2 c3 nc1 nc2 nc3 (by simp only [List.length_append, List.length_cons, List.length_nil]; omega) A0_2 S25) (fun _ q => nomatch q) (Wd := 0) (nle rfl) (nle rfl) (nle rfl) (nle rfl) (g := (mkF m 262 #[vI p1, vI p2, vI p3, .val (.long p4), .second, vI c1, vI c2, vI c3, vI (Int32.ofNat cs.length), .val vZ, vR xJ, vR x21, vR y25, .val vZ, vI (((Int32.ofNat cs.length) + (2 : Int32)) + (0 : Int32))] [(.int c3), (.int c2), (.int c1), vZ, (.int (Int32.ofNat cs.length)), (.int (((Int32.ofNat cs.length) + (2 : Int32)) + (0 : Int32))), (.int (2 : Int32)), (.ref y25)])) rfl (by rw [hml]; rfl) (argsL := [(.ref y25), (.int (2 : Int32)), (.int (((Int32.ofNat cs.length) + (2 : Int32)) + (0 : Int32))), (.int (Int32.ofNat cs.length)), vZ, (.int c1), (.int c2), (.int c3)]) (rest := []) (lenOf pd_35 rfl) rfl rfl (nle rfl) (hb hby at_262)
        obtain ⟨rfl, rfl⟩ := q33
        refine go (g' := (mkF m 265 #[vI p1, vI p2, vI p3, .val (.long p4), .second, vI c1, vI c2, vI c3, vI (Int32.ofNat cs.length), .val vZ, vR xJ, vR x21, vR y25, .val vZ, vI (((Int32.ofNat cs.length) + (2 : Int32)) + (0 : Int32))] [(.int (1 : Int32))])) (st33) ?_
        refine go (g' := (mkF m 281 #[vI p1, vI p2, vI p3, .val (.long p4), .second, vI c1, vI c2, vI c3, vI (Int32.ofNat cs.length), .val vZ, vR xJ, vR x21, vR y25, .val vZ, vI (((Int32.ofNat cs.length) + (2 : Int32)) + (0 : Int32))] [(.int c2), (.int c1), vZ, (.int (Int32.ofNat cs.length)), (.int (((Int32.ofNat cs.length) + (2 : Int32)) + (0 : Int32))), (.int (3 : Int32)), (.ref y25)])) (fun _ k => XS.ifNo W33.here hx rfl (hb hby at_265) rfl ((if0 _ _).trans (feq ((by decide) : ¬ ((1 : Int32) = (0 : Int32)))).1) (XS.aload W33.here hx rfl (hb hby at_268) rfl rfl (XS.iconst W33.here hx rfl (hb hby at_270) (XS.iload W33.here hx rfl (hb hby at_271) rfl (XS.iload W33.here hx rfl (hb hby at_273) rfl (XS.iload W33.here hx rfl (hb hby at_275) rfl (XS.iload W33.here hx rfl (hb hby at_277) rfl (XS.iload W33.here hx rfl (hb hby at_279) rfl k)))))))) ?_
        refine go (g' := (mkF m 283 #[vI p1, vI p2, vI p3, .val (.long p4), .second, vI c1, vI c2, vI c3, vI (Int32.ofNat cs.length), .val vZ, vR xJ, vR x21, vR y25, .val vZ, vI (((Int32.ofNat cs.length) + (2 : Int32)) + (0 : Int32))] [(.int c3), (.int c2), (.int c1), vZ, (.int (Int32.ofNat cs.length)), (.int (((Int32.ofNat cs.length) + (2 : Int32)) + (0 : Int32))), (.int (3 : Int32)), (.ref y25)])) (fun _ k => XS.iload W33.here hx rfl (hb hby at_281) rfl k) ?_
        obtain ⟨v34, so34, vm34, T34, h34, W34, C34, q34, hso34, st34⟩ := own_static W33 hx (w169 C) (w170 C) (w171 C) (w172 C) (by decide) (rm_atx C h25 y25 (([(60 : Int32)] ++ cs) ++ [(62 : Int32)]) 3 (((Int32.ofNat cs.length) + (2 : Int32)) + (0 : Int32)) (Int32.ofNat cs.length) (0 : Int32) c1 c2 c3 nc1 nc2 nc3 (by simp only [List.length_append, List.length_cons, List.length_nil]; omega) A0_3 S25) (fun _ q => nomatch q) (Wd := 0) (nle rfl) (nle rfl) (nle rfl) (nle rfl) (g := (mkF m 283 #[vI p1, vI p2, vI p3, .val (.long p4), .second, vI c1, vI c2, vI c3, vI (Int32.ofNat cs.length), .val vZ, vR xJ, vR x21, vR y25, .val vZ, vI (((Int32.ofNat cs.length) + (2 : Int32)) + (0 : Int32))] [(.int c3), (.int c2), (.int c1), vZ, (.int (Int32.ofNat cs.length)), (.int (((Int32.ofNat cs.length) + (2 : Int32)) + (0 : Int32))), (.int (3 : Int32)), (.ref y25)])) rfl (by rw [hml]; rfl) (argsL := [(.ref y25), (.int (3 : Int32)), (.int (((Int32.ofNat cs.length) + (2 : Int32)) + (0 : Int32))), (.int (Int32.ofNat cs.length)), vZ, (.int c1), (.int c2), (.int c3)]) (rest := []) (lenOf pd_35 rfl) rfl rfl (nle rfl) (hb hby at_283)
        obtain ⟨rfl, rfl⟩ := q34
        refine go (g' := (mkF m 286 #[vI p1, vI p2, vI p3, .val (.long p4), .second, vI c1, vI c2, vI c3, vI (Int32.ofNat cs.length), .val vZ, vR xJ, vR x21, vR y25, .val vZ, vI (((Int32.ofNat cs.length) + (2 : Int32)) + (0 : Int32))] [(.int (1 : Int32))])) (st34) ?_
        refine go (g' := (mkF m 302 #[vI p1, vI p2, vI p3, .val (.long p4), .second, vI c1, vI c2, vI c3, vI (Int32.ofNat cs.length), .val vZ, vR xJ, vR x21, vR y25, .val vZ, vI (((Int32.ofNat cs.length) + (2 : Int32)) + (0 : Int32))] [(.int c2), (.int c1), vZ, (.int (Int32.ofNat cs.length)), (.int (((Int32.ofNat cs.length) + (2 : Int32)) + (0 : Int32))), (.int (4 : Int32)), (.ref y25)])) (fun _ k => XS.ifNo W34.here hx rfl (hb hby at_286) rfl ((if0 _ _).trans (feq ((by decide) : ¬ ((1 : Int32) = (0 : Int32)))).1) (XS.aload W34.here hx rfl (hb hby at_289) rfl rfl (XS.iconst W34.here hx rfl (hb hby at_291) (XS.iload W34.here hx rfl (hb hby at_292) rfl (XS.iload W34.here hx rfl (hb hby at_294) rfl (XS.iload W34.here hx rfl (hb hby at_296) rfl (XS.iload W34.here hx rfl (hb hby at_298) rfl (XS.iload W34.here hx rfl (hb hby at_300) rfl k)))))))) ?_
        refine go (g' := (mkF m 304 #[vI p1, vI p2, vI p3, .val (.long p4), .second, vI c1, vI c2, vI c3, vI (Int32.ofNat cs.length), .val vZ, vR xJ, vR x21, vR y25, .val vZ, vI (((Int32.ofNat cs.length) + (2 : Int32)) + (0 : Int32))] [(.int c3), (.int c2), (.int c1), vZ, (.int (Int32.ofNat cs.length)), (.int (((Int32.ofNat cs.length) + (2 : Int32)) + (0 : Int32))), (.int (4 : Int32)), (.ref y25)])) (fun _ k => XS.iload W34.here hx rfl (hb hby at_302) rfl k) ?_
        obtain ⟨v35, so35, vm35, T35, h35, W35, C35, q35, hso35, st35⟩ := own_static W34 hx (w169 C) (w170 C) (w171 C) (w172 C) (by decide) (rm_atx C h25 y25 (([(60 : Int32)] ++ cs) ++ [(62 : Int32)]) 4 (((Int32.ofNat cs.length) + (2 : Int32)) + (0 : Int32)) (Int32.ofNat cs.length) (0 : Int32) c1 c2 c3 nc1 nc2 nc3 (by simp only [List.length_append, List.length_cons, List.length_nil]; omega) A0_4 S25) (fun _ q => nomatch q) (Wd := 0) (nle rfl) (nle rfl) (nle rfl) (nle rfl) (g := (mkF m 304 #[vI p1, vI p2, vI p3, .val (.long p4), .second, vI c1, vI c2, vI c3, vI (Int32.ofNat cs.length), .val vZ, vR xJ, vR x21, vR y25, .val vZ, vI (((Int32.ofNat cs.length) + (2 : Int32)) + (0 : Int32))] [(.int c3), (.int c2), (.int c1), vZ, (.int (Int32.ofNat cs.length)), (.int (((Int32.ofNat cs.length) + (2 : Int32)) + (0 : Int32))), (.int (4 : Int32)), (.ref y25)])) rfl (by rw [hml]; rfl) (argsL := [(.ref y25), (.int (4 : Int32)), (.int (((Int32.ofNat cs.length) + (2 : Int32)) + (0 : Int32))), (.int (Int32.ofNat cs.length)), vZ, (.int c1), (.int c2), (.int c3)]) (rest := []) (lenOf pd_35 rfl) rfl rfl (nle rfl) (hb hby at_304)
        obtain ⟨rfl, rfl⟩ := q35
        refine go (g' := (mkF m 307 #[vI p1, vI p2, vI p3, .val (.long p4), .second, vI c1, vI c2, vI c3, vI (Int32.ofNat cs.length), .val vZ, vR xJ, vR x21, vR y25, .val vZ, vI (((Int32.ofNat cs.length) + (2 : Int32)) + (0 : Int32))] [(.int (1 : Int32))])) (st35) ?_
        refine go (g' := (mkF m 323 #[vI p1, vI p2, vI p3, .val (.long p4), .second, vI c1, vI c2, vI c3, vI (Int32.ofNat cs.length), .val vZ, vR xJ, vR x21, vR y25, .val vZ, vI (((Int32.ofNat cs.length) + (2 : Int32)) + (0 : Int32))] [(.int c2), (.int c1), vZ, (.int (Int32.ofNat cs.length)), (.int (((Int32.ofNat cs.length) + (2 : Int32)) + (0 : Int32))), (.int (5 : Int32)), (.ref y25)])) (fun _ k => XS.ifNo W35.here hx rfl (hb hby at_307) rfl ((if0 _ _).trans (feq ((by decide) : ¬ ((1 : Int32) = (0 : Int32)))).1) (XS.aload W35.here hx rfl (hb hby at_310) rfl rfl (XS.iconst W35.here hx rfl (hb hby at_312) (XS.iload W35.here hx rfl (hb hby at_313) rfl (XS.iload W35.here hx rfl (hb hby at_315) rfl (XS.iload W35.here hx rfl (hb hby at_317) rfl (XS.iload W35.here hx rfl (hb hby at_319) rfl (XS.iload W35.here hx rfl (hb hby at_321) rfl k)))))))) ?_
        refine go (g' := (mkF m 325 #[vI p1, vI p2, vI p3, .val (.long p4), .second, vI c1, vI c2, vI c3, vI (Int32.ofNat cs.length), .val vZ, vR xJ, vR x21, vR y25, .val vZ, vI (((Int32.ofNat cs.length) + (2 : Int32)) + (0 : Int32))] [(.int c3), (.int c2), (.int c1), vZ, (.int (Int32.ofNat cs.length)), (.int (((Int32.ofNat cs.length) + (2 : Int32)) + (0 : Int32))), (.int (5 : Int32)), (.ref y25)])) (fun _ k => XS.iload W35.here hx rfl (hb hby at_323) rfl k) ?_
        obtain ⟨v36, so36, vm36, T36, h36, W36, C36, q36, hso36, st36⟩ := own_static W35 hx (w169 C) (w170 C) (w171 C) (w172 C) (by decide) (rm_atx C h25 y25 (([(60 : Int32)] ++ cs) ++ [(62 : Int32)]) 5 (((Int32.ofNat cs.length) + (2 : Int32)) + (0 : Int32)) (Int32.ofNat cs.length) (0 : Int32) c1 c2 c3 nc1 nc2 nc3 (by simp only [List.length_append, List.length_cons, List.length_nil]; omega) A0_5 S25) (fun _ q => nomatch q) (Wd := 0) (nle rfl) (nle rfl) (nle rfl) (nle rfl) (g := (mkF m 325 #[vI p1, vI p2, vI p3, .val (.long p4), .second, vI c1, vI c2, vI c3, vI (Int32.ofNat cs.length), .val vZ, vR xJ, vR x21, vR y25, .val vZ, vI (((Int32.ofNat cs.length) + (2 : Int32)) + (0 : Int32))] [(.int c3), (.int c2), (.int c1), vZ, (.int (Int32.ofNat cs.length)), (.int (((Int32.ofNat cs.length) + (2 : Int32)) + (0 : Int32))), (.int (5 : Int32)), (.ref y25)])) rfl (by rw [hml]; rfl) (argsL := [(.ref y25), (.int (5 : Int32)), (.int (((Int32.ofNat cs.length) + (2 : Int32)) + (0 : Int32))), (.int (Int32.ofNat cs.length)), vZ, (.int c1), (.int c2), (.int c3)]) (rest := []) (lenOf pd_35 rfl) rfl rfl (nle rfl) (hb hby at_325)
        obtain ⟨rfl, rfl⟩ := q36
        refine go (g' := (mkF m 328 #[vI p1, vI p2, vI p3, .val (.long p4), .second, vI c1, vI c2, vI c3, vI (Int32.ofNat cs.length), .val vZ, vR xJ, vR x21, vR y25, .val vZ, vI (((Int32.ofNat cs.length) + (2 : Int32)) + (0 : Int32))] [(.int (1 : Int32))])) (st36) ?_
        refine go (g' := (mkF m 336 #[vI p1, vI p2, vI p3, .val (.long p4), .second, vI c1, vI c2, vI c3, vI (Int32.ofNat cs.length), .val vZ, vR xJ, vR x21, vR y25, .val vZ, vI (((Int32.ofNat cs.length) + (2 : Int32)) + (0 : Int32))] [(.int (1 : Int32))])) (fun _ k => XS.ifNo W36.here hx rfl (hb hby at_328) rfl ((if0 _ _).trans (feq ((by decide) : ¬ ((1 : Int32) = (0 : Int32)))).1) (XS.iconst W36.here hx rfl (hb hby at_331) (XS.goto W36.here hx rfl (pc0 := 332) (pc' := 336) rfl (hb hby at_332) (by decide) (by decide) k))) ?_
        exact fin (v := some (.int (1 : Int32))) (so := []) W36 (nle rfl) (nle rfl) (rfl) (fun _ q => nomatch q) (fun q => nomatch q) (own_retI W36 hx hret (by decide) rfl (hb hby at_336))
    rcases own_and3 p3 with hn | hn | hn | hn
    · rw [hn]
      refine go (g' := (mkF m 47 #[vI p1, vI p2, vI p3, .val (.long p4), .second, vI c1, vI c2, vI c3, .val vZ, vI b4, .unset, .unset, .unset, .unset, .unset] [])) (fun _ k => XS.iload W0.here hx rfl (hb hby at_42) rfl (XS.ifNo W0.here hx rfl (hb hby at_44) rfl ((if0 _ _).trans (teq ((by decide) : (0 : Int32) = (0 : Int32))).2) k)) ?_
      obtain ⟨x37, T37, h37, g37, W37, E37, A37, D37, U37, st37⟩ := own_new W0 hx (w1 C) (w2 C) (w3 C) (g := (mkF m 47 #[vI p1, vI p2, vI p3, .val (.long p4), .second, vI c1, vI c2, vI c3, .val vZ, vI b4, .unset, .unset, .unset, .unset, .unset] [])) rfl (hb hby at_47) (nle rfl) (nle rfl)
      have z38 : h0.size ≤ h37.size := E37.1
      have l37 : ltN x37 h37.size := A37.lt
      have F37_coder : Fld Z h37 x37 "java/lang/String" "coder" "B" vZ := D37 (Or.inr (w28 C)) (ty := .byte) (by decide)
      have F37_value : Fld Z h37 x37 "java/lang/String" "value" "[B" .null := D37 (Or.inr (w30 C)) (ty := (.array .byte)) (by decide)
      refine go (g' := (mkF m 50 #[vI p1, vI p2, vI p3, .val (.long p4), .second, vI c1, vI c2, vI c3, .val vZ, vI b4, .unset, .unset, .unset, .unset, .unset] [(.ref x37)])) (st37) ?_
      refine go (g' := (mkF m 52 #[vI p1, vI p2, vI p3, .val (.long p4), .second, vI c1, vI c2, vI c3, .val vZ, vI b4, .unset, .unset, .unset, .unset, .unset] [vZ, (.ref x37), (.ref x37)])) (fun _ k => XS.dup W37.here hx rfl (hb hby at_50) rfl rfl (XS.iconst W37.here hx rfl (hb hby at_51) k)) ?_
      obtain ⟨x39, T39, h39, k39, g39, W39, E39, A39, st39⟩ := own_newP W37 hx (aty := .char) (w4 C) (g := (mkF m 52 #[vI p1, vI p2, vI p3, .val (.long p4), .second, vI c1, vI c2, vI c3, .val vZ, vI b4, .unset, .unset, .unset, .unset, .unset] [vZ, (.ref x37), (.ref x37)])) rfl (hb hby at_52) rfl (by decide) (cap := 0) (by decide) (nle rfl) (nle rfl) (nle rfl)
      have z40 : h37.size ≤ h39.size := E39.1
      have l39 : ltN x39 h39.size := A39.lt
      have V39 : Arv Z h39 x39 k39 .char (0 : Int32) [] vZ := A39.pad (pad_rep [] vZ 0)
      refine go (g' := (mkF m 54 #[vI p1, vI p2, vI p3, .val (.long p4), .second, vI c1, vI c2, vI c3, .val vZ, vI b4, .unset, .unset, .unset, .unset, .unset] [(.ref x39), (.ref x37), (.ref x37)])) (st39) ?_
      have X42 : Ext h37 h39 := own_xt (own_xr h37) E39
      have f43 := A37.ext X42
      have f44 := F37_value.ext X42
      have f45 := F37_coder.ext X42
      have X46 : Ext h0 h37 := own_xt (own_xr h0) E37
      have X47 : Ext h0 h39 := own_xt X46 E39
      obtain ⟨v41, so41, vm41, T41, h41, W41, C41, q41, hso41, st41⟩ := own_special W39 hx (y := (⟨"java/lang/String", "<init>", "([C)V"⟩ : MethodName)) rfl (w5 C) (w6 C) (w3 C) (w7 C) (by decide) (rm_str0 C h39 x37 x39 k39 f43 f44 f45 V39 (by omega)) (allS (own_safeB W0 X47 (by omega)) all0) (Wd := 1) (nle rfl) (nle rfl) (nle rfl) (nle rfl) (g := (mkF m 54 #[vI p1, vI p2, vI p3, .val (.long p4), .second, vI c1, vI c2, vI c3, .val vZ, vI b4, .unset, .unset, .unset, .unset, .unset] [(.ref x39), (.ref x37), (.ref x37)])) rfl (by rw [hml]; rfl) (a := x37) (argsL := [(.ref x39)]) (rest := [(.ref x37)]) (lenOf pd_36 rfl) rfl rfl (nle rfl) (hb hby at_54)
      obtain ⟨rfl, K41, S41⟩ := q41
      have z48 : h39.size ≤ h41.size := K41.1
      have S41_x37 : Safe Z own_EL vm41 h41 x37 := C41.safe (olt (by omega)) (own_safeB W0 X47 (by omega))
      refine go (g' := (mkF m 57 #[vI p1, vI p2, vI p3, .val (.long p4), .second, vI c1, vI c2, vI c3, .val vZ, vI b4, .unset, .unset, .unset, .unset, .unset] [(.ref x37)])) (st41) ?_
      have SU49 : Sx Z h41 x37 [] := Or.inl S41
      refine go (g' := (mkF m 146 #[vI p1, vI p2, vI p3, .val (.long p4), .second, vI c1, vI c2, vI c3, .val vZ, vI b4, vR x37, .unset, .unset, .unset, .unset] [])) (fun _ k => XS.astore W41.here hx rfl (hb hby at_57) rfl rfl (l' := #[vI p1, vI p2, vI p3, .val (.long p4), .second, vI c1, vI c2, vI c3, .val vZ, vI b4, vR x37, .unset, .unset, .unset, .unset]) rfl (XS.goto W41.here hx rfl (pc0 := 59) (pc' := 146) rfl (hb hby at_59) (by decide) (by decide) k)) ?_
      exact J42 _ _ _ _ [] _ (own_more W41 (nle rfl) (nle rfl)) SU49 (nle rfl) (hb4.imp (fun z => z.1) (fun z => z.1)) (atlt (nle rfl) (show (Int32.ofNat 0) < (((0 : Int32) + (2 : Int32)) + (0 : Int32)) from by decide) (by first | rfl | (simp [expP]; done))) (atlt (nle rfl) (show (Int32.ofNat 1) < (((0 : Int32) + (2 : Int32)) + (0 : Int32)) from by decide) (by first | rfl | (simp [expP]; done))) (atge (show ¬ (Int32.ofNat 2) < (((0 : Int32) + (2 : Int32)) + (0 : Int32)) from by decide)) (atge (show ¬ (Int32.ofNat 3) < (((0 : Int32) + (2 : Int32)) + (0 : Int32)) from by decide)) (atge (show ¬ (Int32.ofNat 4) < (((0 : Int32) + (2 : Int32)) + (0 : Int32)) from by decide)) (atge (show ¬ (Int32.ofNat 5) < (((0 : Int32) + (2 : Int32)) + (0 : Int32)) from by decide)) (atlt (nle rfl) (show (Int32.ofNat 0) < (((0 : Int32) + (2 : Int32)) + (1 : Int32)) from by decide) (by first | rfl | (simp [expP]; done))) (atlt (nle rfl) (show (Int32.ofNat 1) < (((0 : Int32) + (2 : Int32)) + (1 : Int32)) from by decide) (by first | rfl | (simp [expP]; done))) (atlt (nle rfl) (show (Int32.ofNat 2) < (((0 : Int32) + (2 : Int32)) + (1 : Int32)) from by decide) (by first | rfl | (simp [expP]; done))) (atge (show ¬ (Int32.ofNat 3) < (((0 : Int32) + (2 : Int32)) + (1 : Int32)) from by decide)) (atge (show ¬ (Int32.ofNat 4) < (((0 : Int32) + (2 : Int32)) + (1 : Int32)) from by decide)) (atge (show ¬ (Int32.ofNat 5) < (((0 : Int32) + (2 : Int32)) + (1 : Int32)) from by decide))
    · rw [hn]
      refine go (g' := (mkF m 68 #[vI p1, vI p2, vI p3, .val (.long p4), .second, vI c1, vI c2, vI c3, vI (1 : Int32), vI b4, .unset, .unset, .unset, .unset, .unset] [])) (fun _ k => XS.iload W0.here hx rfl (hb hby at_42) rfl (XS.ifYes W0.here hx rfl (pc0 := 44) (pc' := 62) rfl (hb hby at_44) rfl ((if0 _ _).trans (feq ((by decide) : ¬ ((1 : Int32) = (0 : Int32)))).2) (by decide) (by decide) (XS.iload W0.here hx rfl (hb hby at_62) rfl (XS.iconst W0.here hx rfl (hb hby at_64) (XS.icmpNo W0.here hx rfl (hb hby at_65) rfl (teq ((by decide) : (1 : Int32) = (1 : Int32))).2 k))))) ?_
      obtain ⟨x50, T50, h50, g50, W50, E50, A50, D50, U50, st50⟩ := own_new W0 hx (w1 C) (w2 C) (w3 C) (g := (mkF m 68 #[vI p1, vI p2, vI p3, .val (.long p4), .second, vI c1, vI c2, vI c3, vI (1 : Int32), vI b4, .unset, .unset, .unset, .unset, .unset] [])) rfl (hb hby at_68) (nle rfl) (nle rfl)
      have z51 : h0.size ≤ h50.size := E50.1
      have l50 : ltN x50 h50.size := A50.lt
      have F50_coder : Fld Z h50 x50 "java/lang/String" "coder" "B" vZ := D50 (Or.inr (w28 C)) (ty := .byte) (by decide)
      have F50_value : Fld Z h50 x50 "java/lang/String" "value" "[B" .null := D50 (Or.inr (w30 C)) (ty := (.array .byte)) (by decide)
      refine go (g' := (mkF m 71 #[vI p1, vI p2, vI p3, .val (.long p4), .second, vI c1, vI c2, vI c3, vI (1 : Int32), vI b4, .unset, .unset, .unset, .unset, .unset] [(.ref x50)])) (st50) ?_
      refine go (g' := (mkF m 73 #[vI p1, vI p2, vI p3, .val (.long p4), .second, vI c1, vI c2, vI c3, vI (1 : Int32), vI b4, .unset, .unset, .unset, .unset, .unset] [(.int (1 : Int32)), (.ref x50), (.ref x50)])) (fun _ k => XS.dup W50.here hx rfl (hb hby at_71) rfl rfl (XS.iconst W50.here hx rfl (hb hby at_72) k)) ?_
      obtain ⟨x52, T52, h52, k52, g52, W52, E52, A52, st52⟩ := own_newP W50 hx (aty := .char) (w4 C) (g := (mkF m 73 #[vI p1, vI p2, vI p3, .val (.long p4), .second, vI c1, vI c2, vI c3, vI (1 : Int32), vI b4, .unset, .unset, .unset, .unset, .unset] [(.int (1 : Int32)), (.ref x50), (.ref x50)])) rfl (hb hby at_73) rfl (by decide) (cap := 1) (by decide) (nle rfl) (nle rfl) (nle rfl)
      have z53 : h50.size ≤ h52.size := E52.1
      have l52 : ltN x52 h52.size := A52.lt
      have V52 : Arv Z h52 x52 k52 .char (1 : Int32) [vZ] vZ := A52.pad (pad_rep [] vZ 1)
      refine go (g' := (mkF m 75 #[vI p1, vI p2, vI p3, .val (.long p4), .second, vI c1, vI c2, vI c3, vI (1 : Int32), vI b4, .unset, .unset, .unset, .unset, .unset] [(.ref x52), (.ref x50), (.ref x50)])) (st52) ?_
      refine go (g' := (mkF m 79 #[vI p1, vI p2, vI p3, .val (.long p4), .second, vI c1, vI c2, vI c3, vI (1 : Int32), vI b4, .unset, .unset, .unset, .unset, .unset] [(.int c1), vZ, (.ref x52), (.ref x52), (.ref x50), (.ref x50)])) (fun _ k => XS.dup W52.here hx rfl (hb hby at_75) rfl rfl (XS.iconst W52.here hx rfl (hb hby at_76) (XS.iload W52.here hx rfl (hb hby at_77) rfl k))) ?_
      obtain ⟨T54, h54, W54, R54, V54, st54⟩ := own_stC W52 hx V52 (by omega) (j := (0 : Int32)) (i := 0) ⟨by decide, by decide⟩ rfl (nle rfl) yc1 (g := (mkF m 79 #[vI p1, vI p2, vI p3, .val (.long p4), .second, vI c1, vI c2, vI c3, vI (1 : Int32), vI b4, .unset, .unset, .unset, .unset, .unset] [(.int c1), vZ, (.ref x52), (.ref x52), (.ref x50), (.ref x50)])) rfl rfl (hb hby at_79)
      have z55 : h54.size = h52.size := R54.size
      have U54 : Arv Z h54 x52 k52 .char (1 : Int32) [(.int c1)] vZ := V54
      refine go (g' := (mkF m 80 #[vI p1, vI p2, vI p3, .val (.long p4), .second, vI c1, vI c2, vI c3, vI (1 : Int32), vI b4, .unset, .unset, .unset, .unset, .unset] [(.ref x52), (.ref x50), (.ref x50)])) (st54) ?_
      by_cases q56 : (255 : Int32) < c1
      · have X58 : Ext h50 h52 := own_xt (own_xr h50) E52
        have X59 : Ext h50 h54 := own_xw X58 R54 (by omega)
        have f60 := A50.ext X59
        have f61 := F50_value.ext X59
        have f62 := F50_coder.ext X59
        have X63 : Ext h0 h50 := own_xt (own_xr h0) E50
        have X64 : Ext h0 h52 := own_xt X63 E52
        have X65 : Ext h0 h54 := own_xw X64 R54 (by omega)
        obtain ⟨v57, so57, vm57, T57, h57, W57, C57, q57, hso57, st57⟩ := own_special W54 hx (y := (⟨"java/lang/String", "<init>", "([C)V"⟩ : MethodName)) rfl (w5 C) (w6 C) (w3 C) (w7 C) (by decide) (rm_wi1 C h54 x50 f60 f61 f62 (by omega) x52 k52 c1 q56 yc1 U54) (allS (own_safeB W0 X65 (by omega)) all0) (Wd := 1) (nle rfl) (nle rfl) (nle rfl) (nle rfl) (g := (mkF m 80 #[vI p1, vI p2, vI p3, .val (.long p4), .second, vI c1, vI c2, vI c3, vI (1 : Int32), vI b4, .unset, .unset, .unset, .unset, .unset] [(.ref x52), (.ref x50), (.ref x50)])) rfl (by rw [hml]; rfl) (a := x50) (argsL := [(.ref x52)]) (rest := [(.ref x50)]) (lenOf pd_36 rfl) rfl rfl (nle rfl) (hb hby at_80)
        obtain ⟨rfl, K57, S57⟩ := q57
        have z66 : h54.size ≤ h57.size := K57.1
        have S57_x50 : Safe Z own_EL vm57 h57 x50 := C57.safe (olt (by omega)) (own_safeB W0 X65 (by omega))
        refine go (g' := (mkF m 83 #[vI p1, vI p2, vI p3, .val (.long p4), .second, vI c1, vI c2, vI c3, vI (1 : Int32), vI b4, .unset, .unset, .unset, .unset, .unset] [(.ref x50)])) (st57) ?_
        have SU67 : Sx Z h57 x50 [c1] := Or.inr S57
        refine go (g' := (mkF m 146 #[vI p1, vI p2, vI p3, .val (.long p4), .second, vI c1, vI c2, vI c3, vI (1 : Int32), vI b4, vR x50, .unset, .unset, .unset, .unset] [])) (fun _ k => XS.astore W57.here hx rfl (hb hby at_83) rfl rfl (l' := #[vI p1, vI p2, vI p3, .val (.long p4), .second, vI c1, vI c2, vI c3, vI (1 : Int32), vI b4, vR x50, .unset, .unset, .unset, .unset]) rfl (XS.goto W57.here hx rfl (pc0 := 85) (pc' := 146) rfl (hb hby at_85) (by decide) (by decide) k)) ?_
        exact J42 _ _ _ _ [c1] _ (own_more W57 (nle rfl) (nle rfl)) SU67 (nle rfl) (hb4.imp (fun z => z.1) (fun z => z.1)) (atlt (nle rfl) (show (Int32.ofNat 0) < (((1 : Int32) + (2 : Int32)) + (0 : Int32)) from by decide) (by first | rfl | (simp [expP]; done))) (atlt (nle rfl) (show (Int32.ofNat 1) < (((1 : Int32) + (2 : Int32)) + (0 : Int32)) from by decide) (by first | rfl | (simp [expP]; done))) (atlt (nle rfl) (show (Int32.ofNat 2) < (((1 : Int32) + (2 : Int32)) + (0 : Int32)) from by decide) (by first | rfl | (simp [expP]; done))) (atge (show ¬ (Int32.ofNat 3) < (((1 : Int32) + (2 : Int32)) + (0 : Int32)) from by decide)) (atge (show ¬ (Int32.ofNat 4) < (((1 : Int32) + (2 : Int32)) + (0 : Int32)) from by decide)) (atge (show ¬ (Int32.ofNat 5) < (((1 : Int32) + (2 : Int32)) + (0 : Int32)) from by decide)) (atlt (nle rfl) (show (Int32.ofNat 0) < (((1 : Int32) + (2 : Int32)) + (1 : Int32)) from by decide) (by first | rfl | (simp [expP]; done))) (atlt (nle rfl) (show (Int32.ofNat 1) < (((1 : Int32) + (2 : Int32)) + (1 : Int32)) from by decide) (by first | rfl | (simp [expP]; done))) (atlt (nle rfl) (show (Int32.ofNat 2) < (((1 : Int32) + (2 : Int32)) + (1 : Int32)) from by decide) (by first | rfl | (simp [expP]; done))) (atlt (nle rfl) (show (Int32.ofNat 3) < (((1 : Int32) + (2 : Int32)) + (1 : Int32)) from by decide) (by first | rfl | (simp [expP]; done))) (atge (show ¬ (Int32.ofNat 4) < (((1 : Int32) + (2 : Int32)) + (1 : Int32)) from by decide)) (atge (show ¬ (Int32.ofNat 5) < (((1 : Int32) + (2 : Int32)) + (1 : Int32)) from by decide))
      · have X69 : Ext h0 h50 := own_xt (own_xr h0) E50
        have X70 : Ext h0 h52 := own_xt X69 E52
        have X71 : Ext h0 h54 := own_xw X70 R54 (by omega)
        have X72 : Ext h50 h52 := own_xt (own_xr h50) E52
        have X73 : Ext h50 h54 := own_xw X72 R54 (by omega)
        have f74 := A50.ext X73
        have f75 := F50_value.ext X73
        have f76 := F50_coder.ext X73
        obtain ⟨T68, h68, W68, K68, S68, st68⟩ := own_strNew W54 hx (own_ws C) (w5 C) (w6 C) (w7 C) (w2 C) f74 f75 f76 (cs := [c1]) U54 rfl C.cs (nle rfl) (nle rfl) (own_alS ⟨yc1.1, q56⟩ own_al0) (own_safeB W0 X71 (by omega)) (by omega) (Wd := 1) (nle rfl) (nle rfl) (nle rfl) (nle rfl) (g := (mkF m 80 #[vI p1, vI p2, vI p3, .val (.long p4), .second, vI c1, vI c2, vI c3, vI (1 : Int32), vI b4, .unset, .unset, .unset, .unset, .unset] [(.ref x52), (.ref x50), (.ref x50)])) rfl (by rw [hml]; rfl) rfl (nle rfl) (hb hby at_80)
        have z77 : h54.size ≤ h68.size := K68.1
        refine go (g' := (mkF m 83 #[vI p1, vI p2, vI p3, .val (.long p4), .second, vI c1, vI c2, vI c3, vI (1 : Int32), vI b4, .unset, .unset, .unset, .unset, .unset] [(.ref x50)])) (st68) ?_
        have SU78 : Sx Z h68 x50 [c1] := Or.inl S68
        refine go (g' := (mkF m 146 #[vI p1, vI p2, vI p3, .val (.long p4), .second, vI c1, vI c2, vI c3, vI (1 : Int32), vI b4, vR x50, .unset, .unset, .unset, .unset] [])) (fun _ k => XS.astore W68.here hx rfl (hb hby at_83) rfl rfl (l' := #[vI p1, vI p2, vI p3, .val (.long p4), .second, vI c1, vI c2, vI c3, vI (1 : Int32), vI b4, vR x50, .unset, .unset, .unset, .unset]) rfl (XS.goto W68.here hx rfl (pc0 := 85) (pc' := 146) rfl (hb hby at_85) (by decide) (by decide) k)) ?_
        exact J42 _ _ _ _ [c1] _ (own_more W68 (nle rfl) (nle rfl)) SU78 (nle rfl) (hb4.imp (fun z => z.1) (fun z => z.1)) (atlt (nle rfl) (show (Int32.ofNat 0) < (((1 : Int32) + (2 : Int32)) + (0 : Int32)) from by decide) (by first | rfl | (simp [expP]; done))) (atlt (nle rfl) (show (Int32.ofNat 1) < (((1 : Int32) + (2 : Int32)) + (0 : Int32)) from by decide) (by first | rfl | (simp [expP]; done))) (atlt (nle rfl) (show (Int32.ofNat 2) < (((1 : Int32) + (2 : Int32)) + (0 : Int32)) from by decide) (by first | rfl | (simp [expP]; done))) (atge (show ¬ (Int32.ofNat 3) < (((1 : Int32) + (2 : Int32)) + (0 : Int32)) from by decide)) (atge (show ¬ (Int32.ofNat 4) < (((1 : Int32) + (2 : Int32)) + (0 : Int32)) from by decide)) (atge (show ¬ (Int32.ofNat 5) < (((1 : Int32) + (2 : Int32)) + (0 : Int32)) from by decide)) (atlt (nle rfl) (show (Int32.ofNat 0) < (((1 : Int32) + (2 : Int32)) + (1 : Int32)) from by decide) (by first | rfl | (simp [expP]; done))) (atlt (nle rfl) (show (Int32.ofNat 1) < (((1 : Int32) + (2 : Int32)) + (1 : Int32)) from by decide) (by first | rfl | (simp [expP]; done))) (atlt (nle rfl) (show (Int32.ofNat 2) < (((1 : Int32) + (2 : Int32)) + (1 : Int32)) from by decide) (by first | rfl | (simp [expP]; done))) (atlt (nle rfl) (show (Int32.ofNat 3) < (((1 : Int32) + (2 : Int32)) + (1 : Int32)) from by decide) (by first | rfl | (simp [expP]; done))) (atge (show ¬ (Int32.ofNat 4) < (((1 : Int32) + (2 : Int32)) + (1 : Int32)) from by decide)) (atge (show ¬ (Int32.ofNat 5) < (((1 : Int32) + (2 : Int32)) + (1 : Int32)) from by decide))
    · rw [hn]
      refine go (g' := (mkF m 94 #[vI p1, vI p2, vI p3, .val (.long p4), .second, vI c1, vI c2, vI c3, vI (2 : Int32), vI b4, .unset, .unset, .unset, .unset, .unset] [])) (fun _ k => XS.iload W0.here hx rfl (hb hby at_42) rfl (XS.ifYes W0.here hx rfl (pc0 := 44) (pc' := 62) rfl (hb hby at_44) rfl ((if0 _ _).trans (feq ((by decide) : ¬ ((2 : Int32) = (0 : Int32)))).2) (by decide) (by decide) (XS.iload W0.here hx rfl (hb hby at_62) rfl (XS.iconst W0.here hx rfl (hb hby at_64) (XS.icmpYes W0.here hx rfl (pc0 := 65) (pc' := 88) rfl (hb hby at_65) rfl (feq ((by decide) : ¬ ((2 : Int32) = (1 : Int32)))).2 (by decide) (by decide) (XS.iload W0.here hx rfl (hb hby at_88) rfl (XS.iconst W0.here hx rfl (hb hby at_90) (XS.icmpNo W0.here hx rfl (hb hby at_91) rfl (teq ((by decide) : (2 : Int32) = (2 : Int32))).2 k)))))))) ?_
      obtain ⟨x79, T79, h79, g79, W79, E79, A79, D79, U79, st79⟩ := own_new W0 hx (w1 C) (w2 C) (w3 C) (g := (mkF m 94 #[vI p1, vI p2, vI p3, .val (.long p4), .second, vI c1, vI c2, vI c3, vI (2 : Int32), vI b4, .unset, .unset, .unset, .unset, .unset] [])) rfl (hb hby at_94) (nle rfl) (nle rfl)
      have z80 : h0.size ≤ h79.size := E79.1
      have l79 : ltN x79 h79.size := A79.lt
      have F79_coder : Fld Z h79 x79 "java/lang/String" "coder" "B" vZ := D79 (Or.inr (w28 C)) (ty := .byte) (by decide)
      have F79_value : Fld Z h79 x79 "java/lang/String" "value" "[B" .null := D79 (Or.inr (w30 C)) (ty := (.array .byte)) (by decide)
      refine go (g' := (mkF m 97 #[vI p1, vI p2, vI p3, .val (.long p4), .second, vI c1, vI c2, vI c3, vI (2 : Int32), vI b4, .unset, .unset, .unset, .unset, .unset] [(.ref x79)])) (st79) ?_
      refine go (g' := (mkF m 99 #[vI p1, vI p2, vI p3, .val (.long p4), .second, vI c1, vI c2, vI c3, vI (2 : Int32), vI b4, .unset, .unset, .unset, .unset, .unset] [(.int (2 : Int32)), (.ref x79), (.ref x79)])) (fun _ k => XS.dup W79.here hx rfl (hb hby at_97) rfl rfl (XS.iconst W79.here hx rfl (hb hby at_98) k)) ?_
      obtain ⟨x81, T81, h81, k81, g81, W81, E81, A81, st81⟩ := own_newP W79 hx (aty := .char) (w4 C) (g := (mkF m 99 #[vI p1, vI p2, vI p3, .val (.long p4), .second, vI c1, vI c2, vI c3, vI (2 : Int32), vI b4, .unset, .unset, .unset, .unset, .unset] [(.int (2 : Int32)), (.ref x79), (.ref x79)])) rfl (hb hby at_99) rfl (by decide) (cap := 2) (by decide) (nle rfl) (nle rfl) (nle rfl)
      have z82 : h79.size ≤ h81.size := E81.1
      have l81 : ltN x81 h81.size := A81.lt
      have V81 : Arv Z h81 x81 k81 .char (2 : Int32) [vZ, vZ] vZ := A81.pad (pad_rep [] vZ 2)
      refine go (g' := (mkF m 101 #[vI p1, vI p2, vI p3, .val (.long p4), .second, vI c1, vI c2, vI c3, vI (2 : Int32), vI b4, .unset, .unset, .unset, .unset, .unset] [(.ref x81), (.ref x79), (.ref x79)])) (st81) ?_
      refine go (g' := (mkF m 105 #[vI p1, vI p2, vI p3, .val (.long p4), .second, vI c1, vI c2, vI c3, vI (2 : Int32), vI b4, .unset, .unset, .unset, .unset, .unset] [(.int c1), vZ, (.ref x81), (.ref x81), (.ref x79), (.ref x79)])) (fun _ k => XS.dup W81.here hx rfl (hb hby at_101) rfl rfl (XS.iconst W81.here hx rfl (hb hby at_102) (XS.iload W81.here hx rfl (hb hby at_103) rfl k))) ?_
      obtain ⟨T83, h83, W83, R83, V83, st83⟩ := own_stC W81 hx V81 (by omega) (j := (0 : Int32)) (i := 0) ⟨by decide, by decide⟩ rfl (nle rfl) yc1 (g := (mkF m 105 #[vI p1, vI p2, vI p3, .val (.long p4), .second, vI c1, vI c2, vI c3, vI (2 : Int32), vI b4, .unset, .unset, .unset, .unset, .unset] [(.int c1), vZ, (.ref x81), (.ref x81), (.ref x79), (.ref x79)])) rfl rfl (hb hby at_105)
      have z84 : h83.size = h81.size := R83.size
      have U83 : Arv Z h83 x81 k81 .char (2 : Int32) [(.int c1), vZ] vZ := V83
      refine go (g' := (mkF m 106 #[vI p1, vI p2, vI p3, .val (.long p4), .second, vI c1, vI c2, vI c3, vI (2 : Int32), vI b4, .unset, .unset, .unset, .unset, .unset] [(.ref x81), (.ref x79), (.ref x79)])) (st83) ?_
      refine go (g' := (mkF m 110 #[vI p1, vI p2, vI p3, .val (.long p4), .second, vI c1, vI c2, vI c3, vI (2 : Int32), vI b4, .unset, .unset, .unset, .unset, .unset] [(.int c2), (.int (1 : Int32)), (.ref x81), (.ref x81), (.ref x79), (.ref x79)])) (fun _ k => XS.dup W83.here hx rfl (hb hby at_106) rfl rfl (XS.iconst W83.here hx rfl (hb hby at_107) (XS.iload W83.here hx rfl (hb hby at_108) rfl k))) ?_
      obtain ⟨T85, h85, W85, R85, V85, st85⟩ := own_stC W83 hx U83 (by omega) (j := (1 : Int32)) (i := 1) ⟨by decide, by decide⟩ rfl (nle rfl) yc2 (g := (mkF m 110 #[vI p1, vI p2, vI p3, .val (.long p4), .second, vI c1, vI c2, vI c3, vI (2 : Int32), vI b4, .unset, .unset, .unset, .unset, .unset] [(.int c2), (.int (1 : Int32)), (.ref x81), (.ref x81), (.ref x79), (.ref x79)])) rfl rfl (hb hby at_110)
      have z86 : h85.size = h83.size := R85.size
      have U85 : Arv Z h85 x81 k81 .char (2 : Int32) [(.int c1), (.int c2)] vZ := V85
      refine go (g' := (mkF m 111 #[vI p1, vI p2, vI p3, .val (.long p4), .second, vI c1, vI c2, vI c3, vI (2 : Int32), vI b4, .unset, .unset, .unset, .unset, .unset] [(.ref x81), (.ref x79), (.ref x79)])) (st85) ?_
      by_cases q87 : (255 : Int32) < c1 ∨ (255 : Int32) < c2
      · have X89 : Ext h79 h81 := own_xt (own_xr h79) E81
        have X90 : Ext h79 h83 := own_xw X89 R83 (by omega)
        have X91 : Ext h79 h85 := own_xw X90 R85 (by omega)
        have f92 := A79.ext X91
        have f93 := F79_value.ext X91
        have f94 := F79_coder.ext X91
        have X95 : Ext h0 h79 := own_xt (own_xr h0) E79
        have X96 : Ext h0 h81 := own_xt X95 E81
        have X97 : Ext h0 h83 := own_xw X96 R83 (by omega)
        have X98 : Ext h0 h85 := own_xw X97 R85 (by omega)
        obtain ⟨v88, so88, vm88, T88, h88, W88, C88, q88, hso88, st88⟩ := own_special W85 hx (y := (⟨"java/lang/String", "<init>", "([C)V"⟩ : MethodName)) rfl (w5 C) (w6 C) (w3 C) (w7 C) (by decide) (rm_wi2 C h85 x79 f92 f93 f94 (by omega) x81 k81 c1 c2 q87 yc1 yc2 U85) (allS (own_safeB W0 X98 (by omega)) all0) (Wd := 1) (nle rfl) (nle rfl) (nle rfl) (nle rfl) (g := (mkF m 111 #[vI p1, vI p2, vI p3, .val (.long p4), .second, vI c1, vI c2, vI c3, vI (2 : Int32), vI b4, .unset, .unset, .unset, .unset, .unset] [(.ref x81), (.ref x79), (.ref x79)])) rfl (by rw [hml]; rfl) (a := x79) (argsL := [(.ref x81)]) (rest := [(.ref x79)]) (lenOf pd_36 rfl) rfl rfl (nle rfl) (hb hby at_111)
        obtain ⟨rfl, K88, S88⟩ := q88
        have z99 : h85.size ≤ h88.size := K88.1
        have S88_x79 : Safe Z own_EL vm88 h88 x79 := C88.safe (olt (by omega)) (own_safeB W0 X98 (by omega))
        refine go (g' := (mkF m 114 #[vI p1, vI p2, vI p3, .val (.long p4), .second, vI c1, vI c2, vI c3, vI (2 : Int32), vI b4, .unset, .unset, .unset, .unset, .unset] [(.ref x79)])) (st88) ?_
        have SU100 : Sx Z h88 x79 [c1, c2] := Or.inr S88
        refine go (g' := (mkF m 146 #[vI p1, vI p2, vI p3, .val (.long p4), .second, vI c1, vI c2, vI c3, vI (2 : Int32), vI b4, vR x79, .unset, .unset, .unset, .unset] [])) (fun _ k => XS.astore W88.here hx rfl (hb hby at_114) rfl rfl (l' := #[vI p1, vI p2, vI p3, .val (.long p4), .second, vI c1, vI c2, vI c3, vI (2 : Int32), vI b4, vR x79, .unset, .unset, .unset, .unset]) rfl (XS.goto W88.here hx rfl (pc0 := 116) (pc' := 146) rfl (hb hby at_116) (by decide) (by decide) k)) ?_
        exact J42 _ _ _ _ [c1, c2] _ (own_more W88 (nle rfl) (nle rfl)) SU100 (nle rfl) (hb4.imp (fun z => z.1) (fun z => z.1)) (atlt (nle rfl) (show (Int32.ofNat 0) < (((2 : Int32) + (2 : Int32)) + (0 : Int32)) from by decide) (by first | rfl | (simp [expP]; done))) (atlt (nle rfl) (show (Int32.ofNat 1) < (((2 : Int32) + (2 : Int32)) + (0 : Int32)) from by decide) (by first | rfl | (simp [expP]; done))) (atlt (nle rfl) (show (Int32.ofNat 2) < (((2 : Int32) + (2 : Int32)) + (0 : Int32)) from by decide) (by first | rfl | (simp [expP]; done))) (atlt (nle rfl) (show (Int32.ofNat 3) < (((2 : Int32) + (2 : Int32)) + (0 : Int32)) from by decide) (by first | rfl | (simp [expP]; done))) (atge (show ¬ (Int32.ofNat 4) < (((2 : Int32) + (2 : Int32)) + (0 : Int32)) from by decide)) (atge (show ¬ (Int32.ofNat 5) < (((2 : Int32) + (2 : Int32)) + (0 : Int32)) from by decide)) (atlt (nle rfl) (show (Int32.ofNat 0) < (((2 : Int32) + (2 : Int32)) + (1 : Int32)) from by decide) (by first | rfl | (simp [expP]; done))) (atlt (nle rfl) (show (Int32.ofNat 1) < (((2 : Int32) + (2 : Int32)) + (1 : Int32)) from by decide) (by first | rfl | (simp [expP]; done))) (atlt (nle rfl) (show (Int32.ofNat 2) < (((2 : Int32) + (2 : Int32)) + (1 : Int32)) from by decide) (by first | rfl | (simp [expP]; done))) (atlt (nle rfl) (show (Int32.ofNat 3) < (((2 : Int32) + (2 : Int32)) + (1 : Int32)) from by decide) (by first | rfl | (simp [expP]; done))) (atlt (nle rfl) (show (Int32.ofNat 4) < (((2 : Int32) + (2 : Int32)) + (1 : Int32)) from by decide) (by first | rfl | (simp [expP]; done))) (atge (show ¬ (Int32.ofNat 5) < (((2 : Int32) + (2 : Int32)) + (1 : Int32)) from by decide))
      · have X102 : Ext h0 h79 := own_xt (own_xr h0) E79
        have X103 : Ext h0 h81 := own_xt X102 E81
        have X104 : Ext h0 h83 := own_xw X103 R83 (by omega)
        have X105 : Ext h0 h85 := own_xw X104 R85 (by omega)
        have X106 : Ext h79 h81 := own_xt (own_xr h79) E81
        have X107 : Ext h79 h83 := own_xw X106 R83 (by omega)
        have X108 : Ext h79 h85 := own_xw X107 R85 (by omega)
        have f109 := A79.ext X108
        have f110 := F79_value.ext X108
        have f111 := F79_coder.ext X108
        obtain ⟨T101, h101, W101, K101, S101, st101⟩ := own_strNew W85 hx (own_ws C) (w5 C) (w6 C) (w7 C) (w2 C) f109 f110 f111 (cs := [c1, c2]) U85 rfl C.cs (nle rfl) (nle rfl) (own_alS ⟨yc1.1, (not_or.mp q87).1⟩ (own_alS ⟨yc2.1, (not_or.mp q87).2⟩ own_al0)) (own_safeB W0 X105 (by omega)) (by omega) (Wd := 1) (nle rfl) (nle rfl) (nle rfl) (nle rfl) (g := (mkF m 111 #[vI p1, vI p2, vI p3, .val (.long p4), .second, vI c1, vI c2, vI c3, vI (2 : Int32), vI b4, .unset, .unset, .unset, .unset, .unset] [(.ref x81), (.ref x79), (.ref x79)])) rfl (by rw [hml]; rfl) rfl (nle rfl) (hb hby at_111)
        have z112 : h85.size ≤ h101.size := K101.1
        refine go (g' := (mkF m 114 #[vI p1, vI p2, vI p3, .val (.long p4), .second, vI c1, vI c2, vI c3, vI (2 : Int32), vI b4, .unset, .unset, .unset, .unset, .unset] [(.ref x79)])) (st101) ?_
        have SU113 : Sx Z h101 x79 [c1, c2] := Or.inl S101
        refine go (g' := (mkF m 146 #[vI p1, vI p2, vI p3, .val (.long p4), .second, vI c1, vI c2, vI c3, vI (2 : Int32), vI b4, vR x79, .unset, .unset, .unset, .unset] [])) (fun _ k => XS.astore W101.here hx rfl (hb hby at_114) rfl rfl (l' := #[vI p1, vI p2, vI p3, .val (.long p4), .second, vI c1, vI c2, vI c3, vI (2 : Int32), vI b4, vR x79, .unset, .unset, .unset, .unset]) rfl (XS.goto W101.here hx rfl (pc0 := 116) (pc' := 146) rfl (hb hby at_116) (by decide) (by decide) k)) ?_
        exact J42 _ _ _ _ [c1, c2] _ (own_more W101 (nle rfl) (nle rfl)) SU113 (nle rfl) (hb4.imp (fun z => z.1) (fun z => z.1)) (atlt (nle rfl) (show (Int32.ofNat 0) < (((2 : Int32) + (2 : Int32)) + (0 : Int32)) from by decide) (by first | rfl | (simp [expP]; done))) (atlt (nle rfl) (show (Int32.ofNat 1) < (((2 : Int32) + (2 : Int32)) + (0 : Int32)) from by decide) (by first | rfl | (simp [expP]; done))) (atlt (nle rfl) (show (Int32.ofNat 2) < (((2 : Int32) + (2 : Int32)) + (0 : Int32)) from by decide) (by first | rfl | (simp [expP]; done))) (atlt (nle rfl) (show (Int32.ofNat 3) < (((2 : Int32) + (2 : Int32)) + (0 : Int32)) from by decide) (by first | rfl | (simp [expP]; done))) (atge (show ¬ (Int32.ofNat 4) < (((2 : Int32) + (2 : Int32)) + (0 : Int32)) from by decide)) (atge (show ¬ (Int32.ofNat 5) < (((2 : Int32) + (2 : Int32)) + (0 : Int32)) from by decide)) (atlt (nle rfl) (show (Int32.ofNat 0) < (((2 : Int32) + (2 : Int32)) + (1 : Int32)) from by decide) (by first | rfl | (simp [expP]; done))) (atlt (nle rfl) (show (Int32.ofNat 1) < (((2 : Int32) + (2 : Int32)) + (1 : Int32)) from by decide) (by first | rfl | (simp [expP]; done))) (atlt (nle rfl) (show (Int32.ofNat 2) < (((2 : Int32) + (2 : Int32)) + (1 : Int32)) from by decide) (by first | rfl | (simp [expP]; done))) (atlt (nle rfl) (show (Int32.ofNat 3) < (((2 : Int32) + (2 : Int32)) + (1 : Int32)) from by decide) (by first | rfl | (simp [expP]; done))) (atlt (nle rfl) (show (Int32.ofNat 4) < (((2 : Int32) + (2 : Int32)) + (1 : Int32)) from by decide) (by first | rfl | (simp [expP]; done))) (atge (show ¬ (Int32.ofNat 5) < (((2 : Int32) + (2 : Int32)) + (1 : Int32)) from by decide))
    · rw [hn]
      refine go (g' := (mkF m 119 #[vI p1, vI p2, vI p3, .val (.long p4), .second, vI c1, vI c2, vI c3, vI (3 : Int32), vI b4, .unset, .unset, .unset, .unset, .unset] [])) (fun _ k => XS.iload W0.here hx rfl (hb hby at_42) rfl (XS.ifYes W0.here hx rfl (pc0 := 44) (pc' := 62) rfl (hb hby at_44) rfl ((if0 _ _).trans (feq ((by decide) : ¬ ((3 : Int32) = (0 : Int32)))).2) (by decide) (by decide) (XS.iload W0.here hx rfl (hb hby at_62) rfl (XS.iconst W0.here hx rfl (hb hby at_64) (XS.icmpYes W0.here hx rfl (pc0 := 65) (pc' := 88) rfl (hb hby at_65) rfl (feq ((by decide) : ¬ ((3 : Int32) = (1 : Int32)))).2 (by decide) (by decide) (XS.iload W0.here hx rfl (hb hby at_88) rfl (XS.iconst W0.here hx rfl (hb hby at_90) (XS.icmpYes W0.here hx rfl (pc0 := 91) (pc' := 119) rfl (hb hby at_91) rfl (feq ((by decide) : ¬ ((3 : Int32) = (2 : Int32)))).2 (by decide) (by decide) k)))))))) ?_
      obtain ⟨x114, T114, h114, g114, W114, E114, A114, D114, U114, st114⟩ := own_new W0 hx (w1 C) (w2 C) (w3 C) (g := (mkF m 119 #[vI p1, vI p2, vI p3, .val (.long p4), .second, vI c1, vI c2, vI c3, vI (3 : Int32), vI b4, .unset, .unset, .unset, .unset, .unset] [])) rfl (hb hby at_119) (nle rfl) (nle rfl)
      have z115 : h0.size ≤ h114.size := E114.1
      have l114 : ltN x114 h114.size := A114.lt
      have F114_coder : Fld Z h114 x114 "java/lang/String" "coder" "B" vZ := D114 (Or.inr (w28 C)) (ty := .byte) (by decide)
      have F114_value : Fld Z h114 x114 "java/lang/String" "value" "[B" .null := D114 (Or.inr (w30 C)) (ty := (.array .byte)) (by decide)
      refine go (g' := (mkF m 122 #[vI p1, vI p2, vI p3, .val (.long p4), .second, vI c1, vI c2, vI c3, vI (3 : Int32), vI b4, .unset, .unset, .unset, .unset, .unset] [(.ref x114)])) (st114) ?_
      refine go (g' := (mkF m 124 #[vI p1, vI p2, vI p3, .val (.long p4), .second, vI c1, vI c2, vI c3, vI (3 : Int32), vI b4, .unset, .unset, .unset, .unset, .unset] [(.int (3 : Int32)), (.ref x114), (.ref x114)])) (fun _ k => XS.dup W114.here hx rfl (hb hby at_122) rfl rfl (XS.iconst W114.here hx rfl (hb hby at_123) k)) ?_
      obtain ⟨x116, T116, h116, k116, g116, W116, E116, A116, st116⟩ := own_newP W114 hx (aty := .char) (w4 C) (g := (mkF m 124 #[vI p1, vI p2, vI p3, .val (.long p4), .second, vI c1, vI c2, vI c3, vI (3 : Int32), vI b4, .unset, .unset, .unset, .unset, .unset] [(.int (3 : Int32)), (.ref x114), (.ref x114)])) rfl (hb hby at_124) rfl (by decide) (cap := 3) (by decide) (nle rfl) (nle rfl) (nle rfl)
      have z117 : h114.size ≤ h116.size := E116.1
      have l116 : ltN x116 h116.size := A116.lt
      have V116 : Arv Z h116 x116 k116 .char (3 : Int32) [vZ, vZ, vZ] vZ := A116.pad (pad_rep [] vZ 3)
      refine go (g' := (mkF m 126 #[vI p1, vI p2, vI p3, .val (.long p4), .second, vI c1, vI c2, vI c3, vI (3 : Int32), vI b4, .unset, .unset, .unset, .unset, .unset] [(.ref x116), (.ref x114), (.ref x114)])) (st116) ?_
      refine go (g' := (mkF m 130 #[vI p1, vI p2, vI p3, .val (.long p4), .second, vI c1, vI c2, vI c3, vI (3 : Int32), vI b4, .unset, .unset, .unset, .unset, .unset] [(.int c1), vZ, (.ref x116), (.ref x116), (.ref x114), (.ref x114)])) (fun _ k => XS.dup W116.here hx rfl (hb hby at_126) rfl rfl (XS.iconst W116.here hx rfl (hb hby at_127) (XS.iload W116.here hx rfl (hb hby at_128) rfl k))) ?_
      obtain ⟨T118, h118, W118, R118, V118, st118⟩ := own_stC W116 hx V116 (by omega) (j := (0 : Int32)) (i := 0) ⟨by decide, by decide⟩ rfl (nle rfl) yc1 (g := (mkF m 130 #[vI p1, vI p2, vI p3, .val (.long p4), .second, vI c1, vI c2, vI c3, vI (3 : Int32), vI b4, .unset, .unset, .unset, .unset, .unset] [(.int c1), vZ, (.ref x116), (.ref x116), (.ref x114), (.ref x114)])) rfl rfl (hb hby at_130)
      have z119 : h118.size = h116.size := R118.size
      have U118 : Arv Z h118 x116 k116 .char (3 : Int32) [(.int c1), vZ, vZ] vZ := V118
      refine go (g' := (mkF m 131 #[vI p1, vI p2, vI p3, .val (.long p4), .second, vI c1, vI c2, vI c3, vI (3 : Int32), vI b4, .unset, .unset, .unset, .unset, .unset] [(.ref x116), (.ref x114), (.ref x114)])) (st118) ?_
      refine go (g' := (mkF m 135 #[vI p1, vI p2, vI p3, .val (.long p4), .second, vI c1, vI c2, vI c3, vI (3 : Int32), vI b4, .unset, .unset, .unset, .unset, .unset] [(.int c2), (.int (1 : Int32)), (.ref x116), (.ref x116), (.ref x114), (.ref x114)])) (fun _ k => XS.dup W118.here hx rfl (hb hby at_131) rfl rfl (XS.iconst W118.here hx rfl (hb hby at_132) (XS.iload W118.here hx rfl (hb hby at_133) rfl k))) ?_
      obtain ⟨T120, h120, W120, R120, V120, st120⟩ := own_stC W118 hx U118 (by omega) (j := (1 : Int32)) (i := 1) ⟨by decide, by decide⟩ rfl (nle rfl) yc2 (g := (mkF m 135 #[vI p1, vI p2, vI p3, .val (.long p4), .second, vI c1, vI c2, vI c3, vI (3 : Int32), vI b4, .unset, .unset, .unset, .unset, .unset] [(.int c2), (.int (1 : Int32)), (.ref x116), (.ref x116), (.ref x114), (.ref x114)])) rfl rfl (hb hby at_135)
      have z121 : h120.size = h118.size := R120.size
      have U120 : Arv Z h120 x116 k116 .char (3 : Int32) [(.int c1), (.int c2), vZ] vZ := V120
      refine go (g' := (mkF m 136 #[vI p1, vI p2, vI p3, .val (.long p4), .second, vI c1, vI c2, vI c3, vI (3 : Int32), vI b4, .unset, .unset, .unset, .unset, .unset] [(.ref x116), (.ref x114), (.ref x114)])) (st120) ?_
      refine go (g' := (mkF m 140 #[vI p1, vI p2, vI p3, .val (.long p4), .second, vI c1, vI c2, vI c3, vI (3 : Int32), vI b4, .unset, .unset, .unset, .unset, .unset] [(.int c3), (.int (2 : Int32)), (.ref x116), (.ref x116), (.ref x114), (.ref x114)])) (fun _ k => XS.dup W120.here hx rfl (hb hby at_136) rfl rfl (XS.iconst W120.here hx rfl (hb hby at_137) (XS.iload W120.here hx rfl (hb hby at_138) rfl k))) ?_
      obtain ⟨T122, h122, W122, R122, V122, st122⟩ := own_stC W120 hx U120 (by omega) (j := (2 : Int32)) (i := 2) ⟨by decide, by decide⟩ rfl (nle rfl) yc3 (g := (mkF m 140 #[vI p1, vI p2, vI p3, .val (.long p4), .second, vI c1, vI c2, vI c3, vI (3 : Int32), vI b4, .unset, .unset, .unset, .unset, .unset] [(.int c3), (.int (2 : Int32)), (.ref x116), (.ref x116), (.ref x114), (.ref x114)])) rfl rfl (hb hby at_140)
      have z123 : h122.size = h120.size := R122.size
      have U122 : Arv Z h122 x116 k116 .char (3 : Int32) [(.int c1), (.int c2), (.int c3)] vZ := V122
      refine go (g' := (mkF m 141 #[vI p1, vI p2, vI p3, .val (.long p4), .second, vI c1, vI c2, vI c3, vI (3 : Int32), vI b4, .unset, .unset, .unset, .unset, .unset] [(.ref x116), (.ref x114), (.ref x114)])) (st122) ?_
      by_cases q124 : (255 : Int32) < c1 ∨ (255 : Int32) < c2 ∨ (255 : Int32) < c3
      · have X126 : Ext h114 h116 := own_xt (own_xr h114) E116
        have X127 : Ext h114 h118 := own_xw X126 R118 (by omega)
        have X128 : Ext h114 h120 := own_xw X127 R120 (by omega)
        have X129 : Ext h114 h122 := own_xw X128 R122 (by omega)
        have f130 := A114.ext X129
        have f131 := F114_value.ext X129
        have f132 := F114_coder.ext X129
        have X133 : Ext h0 h114 := own_xt (own_xr h0) E114
        have X134 : Ext h0 h116 := own_xt X133 E116
        have X135 : Ext h0 h118 := own_xw X134 R118 (by omega)
        have X136 : Ext h0 h120 := own_xw X135 R120 (by omega)
        have X137 : Ext h0 h122 := own_xw X136 R122 (by omega)
        obtain ⟨v125, so125, vm125, T125, h125, W125, C125, q125, hso125, st125⟩ := own_special W122 hx (y := (⟨"java/lang/String", "<init>", "([C)V"⟩ : MethodName)) rfl (w5 C) (w6 C) (w3 C) (w7 C) (by decide) (rm_wi3 C h122 x114 f130 f131 f132 (by omega) x116 k116 c1 c2 c3 q124 yc1 yc2 yc3 U122) (allS (own_safeB W0 X137 (by omega)) all0) (Wd := 1) (nle rfl) (nle rfl) (nle rfl) (nle rfl) (g := (mkF m 141 #[vI p1, vI p2, vI p3, .val (.long p4), .second, vI c1, vI c2, vI c3, vI (3 : Int32), vI b4, .unset, .unset, .unset, .unset, .unset] [(.ref x116), (.ref x114), (.ref x114)])) rfl (by rw [hml]; rfl) (a := x114) (argsL := [(.ref x116)]) (rest := [(.ref x114)]) (lenOf pd_36 rfl) rfl rfl (nle rfl) (hb hby at_141)
        obtain ⟨rfl, K125, S125⟩ := q125
        have z138 : h122.size ≤ h125.size := K125.1
        have S125_x114 : Safe Z own_EL vm125 h125 x114 := C125.safe (olt (by omega)) (own_safeB W0 X137 (by omega))
        refine go (g' := (mkF m 144 #[vI p1, vI p2, vI p3, .val (.long p4), .second, vI c1, vI c2, vI c3, vI (3 : Int32), vI b4, .unset, .unset, .unset, .unset, .unset] [(.ref x114)])) (st125) ?_
        have SU139 : Sx Z h125 x114 [c1, c2, c3] := Or.inr S125
        refine go (g' := (mkF m 146 #[vI p1, vI p2, vI p3, .val (.long p4), .second, vI c1, vI c2, vI c3, vI (3 : Int32), vI b4, vR x114, .unset, .unset, .unset, .unset] [])) (fun _ k => XS.astore W125.here hx rfl (hb hby at_144) rfl rfl (l' := #[vI p1, vI p2, vI p3, .val (.long p4), .second, vI c1, vI c2, vI c3, vI (3 : Int32), vI b4, vR x114, .unset, .unset, .unset, .unset]) rfl k) ?_
        exact J42 _ _ _ _ [c1, c2, c3] _ (own_more W125 (nle rfl) (nle rfl)) SU139 (nle rfl) (hb4.imp (fun z => z.1) (fun z => z.1)) (atlt (nle rfl) (show (Int32.ofNat 0) < (((3 : Int32) + (2 : Int32)) + (0 : Int32)) from by decide) (by first | rfl | (simp [expP]; done))) (atlt (nle rfl) (show (Int32.ofNat 1) < (((3 : Int32) + (2 : Int32)) + (0 : Int32)) from by decide) (by first | rfl | (simp [expP]; done))) (atlt (nle rfl) (show (Int32.ofNat 2) < (((3 : Int32) + (2 : Int32)) + (0 : Int32)) from by decide) (by first | rfl | (simp [expP]; done))) (atlt (nle rfl) (show (Int32.ofNat 3) < (((3 : Int32) + (2 : Int32)) + (0 : Int32)) from by decide) (by first | rfl | (simp [expP]; done))) (atlt (nle rfl) (show (Int32.ofNat 4) < (((3 : Int32) + (2 : Int32)) + (0 : Int32)) from by decide) (by first | rfl | (simp [expP]; done))) (atge (show ¬ (Int32.ofNat 5) < (((3 : Int32) + (2 : Int32)) + (0 : Int32)) from by decide)) (atlt (nle rfl) (show (Int32.ofNat 0) < (((3 : Int32) + (2 : Int32)) + (1 : Int32)) from by decide) (by first | rfl | (simp [expP]; done))) (atlt (nle rfl) (show (Int32.ofNat 1) < (((3 : Int32) + (2 : Int32)) + (1 : Int32)) from by decide) (by first | rfl | (simp [expP]; done))) (atlt (nle rfl) (show (Int32.ofNat 2) < (((3 : Int32) + (2 : Int32)) + (1 : Int32)) from by decide) (by first | rfl | (simp [expP]; done))) (atlt (nle rfl) (show (Int32.ofNat 3) < (((3 : Int32) + (2 : Int32)) + (1 : Int32)) from by decide) (by first | rfl | (simp [expP]; done))) (atlt (nle rfl) (show (Int32.ofNat 4) < (((3 : Int32) + (2 : Int32)) + (1 : Int32)) from by decide) (by first | rfl | (simp [expP]; done))) (atlt (nle rfl) (show (Int32.ofNat 5) < (((3 : Int32) + (2 : Int32)) + (1 : Int32)) from by decide) (by first | rfl | (simp [expP]; done)))
      · have X141 : Ext h0 h114 := own_xt (own_xr h0) E114
        have X142 : Ext h0 h116 := own_xt X141 E116
        have X143 : Ext h0 h118 := own_xw X142 R118 (by omega)
        have X144 : Ext h0 h120 := own_xw X143 R120 (by omega)
        have X145 : Ext h0 h122 := own_xw X144 R122 (by omega)
        have X146 : Ext h114 h116 := own_xt (own_xr h114) E116
        have X147 : Ext h114 h118 := own_xw X146 R118 (by omega)
        have X148 : Ext h114 h120 := own_xw X147 R120 (by omega)
        have X149 : Ext h114 h122 := own_xw X148 R122 (by omega)
        have f150 := A114.ext X149
        have f151 := F114_value.ext X149
        have f152 := F114_coder.ext X149
        obtain ⟨T140, h140, W140, K140, S140, st140⟩ := own_strNew W122 hx (own_ws C) (w5 C) (w6 C) (w7 C) (w2 C) f150 f151 f152 (cs := [c1, c2, c3]) U122 rfl C.cs (nle rfl) (nle rfl) (own_alS ⟨yc1.1, (not_or.mp q124).1⟩ (own_alS ⟨yc2.1, (not_or.mp (not_or.mp q124).2).1⟩ (own_alS ⟨yc3.1, (not_or.mp (not_or.mp q124).2).2⟩ own_al0))) (own_safeB W0 X145 (by omega)) (by omega) (Wd := 1) (nle rfl) (nle rfl) (nle rfl) (nle rfl) (g := (mkF m 141 #[vI p1, vI p2, vI p3, .val (.long p4), .second, vI c1, vI c2, vI c3, vI (3 : Int32), vI b4, .unset, .unset, .unset, .unset, .unset] [(.ref x116), (.ref x114), (.ref x114)])) rfl (by rw [hml]; rfl) rfl (nle rfl) (hb hby at_141)
        have z153 : h122.size ≤ h140.size := K140.1
        refine go (g' := (mkF m 144 #[vI p1, vI p2, vI p3, .val (.long p4), .second, vI c1, vI c2, vI c3, vI (3 : Int32), vI b4, .unset, .unset, .unset, .unset, .unset] [(.ref x114)])) (st140) ?_
        have SU154 : Sx Z h140 x114 [c1, c2, c3] := Or.inl S140
        refine go (g' := (mkF m 146 #[vI p1, vI p2, vI p3, .val (.long p4), .second, vI c1, vI c2, vI c3, vI (3 : Int32), vI b4, vR x114, .unset, .unset, .unset, .unset] [])) (fun _ k => XS.astore W140.here hx rfl (hb hby at_144) rfl rfl (l' := #[vI p1, vI p2, vI p3, .val (.long p4), .second, vI c1, vI c2, vI c3, vI (3 : Int32), vI b4, vR x114, .unset, .unset, .unset, .unset]) rfl k) ?_
        exact J42 _ _ _ _ [c1, c2, c3] _ (own_more W140 (nle rfl) (nle rfl)) SU154 (nle rfl) (hb4.imp (fun z => z.1) (fun z => z.1)) (atlt (nle rfl) (show (Int32.ofNat 0) < (((3 : Int32) + (2 : Int32)) + (0 : Int32)) from by decide) (by first | rfl | (simp [expP]; done))) (atlt (nle rfl) (show (Int32.ofNat 1) < (((3 : Int32) + (2 : Int32)) + (0 : Int32)) from by decide) (by first | rfl | (simp [expP]; done))) (atlt (nle rfl) (show (Int32.ofNat 2) < (((3 : Int32) + (2 : Int32)) + (0 : Int32)) from by decide) (by first | rfl | (simp [expP]; done))) (atlt (nle rfl) (show (Int32.ofNat 3) < (((3 : Int32) + (2 : Int32)) + (0 : Int32)) from by decide) (by first | rfl | (simp [expP]; done))) (atlt (nle rfl) (show (Int32.ofNat 4) < (((3 : Int32) + (2 : Int32)) + (0 : Int32)) from by decide) (by first | rfl | (simp [expP]; done))) (atge (show ¬ (Int32.ofNat 5) < (((3 : Int32) + (2 : Int32)) + (0 : Int32)) from by decide)) (atlt (nle rfl) (show (Int32.ofNat 0) < (((3 : Int32) + (2 : Int32)) + (1 : Int32)) from by decide) (by first | rfl | (simp [expP]; done))) (atlt (nle rfl) (show (Int32.ofNat 1) < (((3 : Int32) + (2 : Int32)) + (1 : Int32)) from by decide) (by first | rfl | (simp [expP]; done))) (atlt (nle rfl) (show (Int32.ofNat 2) < (((3 : Int32) + (2 : Int32)) + (1 : Int32)) from by decide) (by first | rfl | (simp [expP]; done))) (atlt (nle rfl) (show (Int32.ofNat 3) < (((3 : Int32) + (2 : Int32)) + (1 : Int32)) from by decide) (by first | rfl | (simp [expP]; done))) (atlt (nle rfl) (show (Int32.ofNat 4) < (((3 : Int32) + (2 : Int32)) + (1 : Int32)) from by decide) (by first | rfl | (simp [expP]; done))) (atlt (nle rfl) (show (Int32.ofNat 5) < (((3 : Int32) + (2 : Int32)) + (1 : Int32)) from by decide) (by first | rfl | (simp [expP]; done)))
  by_cases kb4 : (p3 &&& (4 : Int32)) = (0 : Int32)
  · refine go (g' := (mkF m 40 #[vI p1, vI p2, vI p3, .val (.long p4), .second, vI c1, vI c2, vI c3, vI (p3 &&& (3 : Int32)), .unset, .unset, .unset, .unset, .unset, .unset] [vZ])) (fun _ k => XS.ifYes W0.here hx rfl (pc0 := 32) (pc' := 39) rfl (hb hby at_32) rfl ((if0 _ _).trans (teq kb4).1) (by decide) (by decide) (XS.iconst W0.here hx rfl (hb hby at_39) k)) ?_
    exact Jb4 _ (Or.inr ⟨rfl, kb4⟩)
  · refine go (g' := (mkF m 40 #[vI p1, vI p2, vI p3, .val (.long p4), .second, vI c1, vI c2, vI c3, vI (p3 &&& (3 : Int32)), .unset, .unset, .unset, .unset, .unset, .unset] [(.int (1 : Int32))])) (fun _ k => XS.ifNo W0.here hx rfl (hb hby at_32) rfl ((if0 _ _).trans (feq kb4).1) (XS.iconst W0.here hx rfl (hb hby at_35) (XS.goto W0.here hx rfl (pc0 := 36) (pc' := 40) rfl (hb hby at_36) (by decide) (by decide) k))) ?_
    exact Jb4 _ (Or.inl ⟨rfl, kb4⟩)
end OwnWalks
set_option maxRecDepth 65536 in
set_option maxHeartbeats 40000000 in
theorem comes_1 {Post : Tables → Env → Array Value → State → Outcome → State → Prop} (hpost : ∀ tb e args s v u, (limb_1_1.after args s (.returned v) u = true ∧ limb_1_2.after args s (.returned v) u = true ∧ True) → ReturnedEndW s (.returned v) u (Jvm.fieldLocs frame_1_writes args s ++ Jvm.arrayLocs frame_1_arrays args s ++ Jvm.staticLocs frame_1_statics s) 40 4352 → Post tb e args s (.returned v) u) :
    ArmFor flags0 classFile x code maxLocals ret World_1 tables_1 room_1 Calls_1 rest_1 Pre_1 Post := by
  intro l hfl _ _ p e ha hc hk s m args below hf hA hF happ hP
  obtain ⟨hcalls, hrest, hpre⟩ := hP
  obtain ⟨-, -, -, hnamed, -, -, -, hat⟩ := (Spec.applies_iff hf).mp happ
  obtain ⟨hg, hn⟩ := and_e (Cond.before_iff.mp (show (Jvm.Cond.and given_1 narrow_1).before args s = true from hpre))
  obtain ⟨gg1, gg2⟩ := and_e hg
  obtain ⟨gg3, gg4⟩ := and_e gg2
  obtain ⟨gg5, gg6⟩ := and_e gg4
  obtain ⟨gg7, gg8⟩ := and_e gg6
  obtain ⟨w0, w1, w2, w3, rfl⟩ : ∃ w0 w1 w2 w3 : Value, args = #[w0, w1, w2, w3] := by
    have hs : args.size = 4 := by simpa [Cond.value, given_1] using gg1
    obtain ⟨L⟩ := args
    match L, hs with
    | [w0, w1, w2, w3], _ => exact ⟨w0, w1, w2, w3, rfl⟩
  have hw := fun d (hd : d ∈ tables_1) => atoms_spec (ws := Jvm.Cond.code x code maxLocals ret :: tables_1) hat d (List.mem_cons_of_mem _ hd)
  obtain ⟨hsets, hown0⟩ := atoms_of _ (rest_1_c_eq ▸ (show rest_1_c.before _ s = true from hrest))
  have n3 := not_v (Cond.before_iff.mp (hsets _ (List.mem_of_getElem? (i := 2) rfl)))
  obtain ⟨i0, ei0⟩ := is_v gg3
  obtain rfl : w0 = (.int i0) := Option.some.inj ei0
  obtain ⟨i1, ei1⟩ := is_v gg5
  obtain rfl : w1 = (.int i1) := Option.some.inj ei1
  obtain ⟨i2, ei2⟩ := is_v gg7
  obtain rfl : w2 = (.int i2) := Option.some.inj ei2
  obtain ⟨i3, ei3⟩ := isL_v gg8
  obtain rfl : w3 = (.long i3) := Option.some.inj ei3
  obtain ⟨gz, egz⟩ := is_v (Cond.before_iff.mp (hsets _ (List.mem_of_getElem? (i := 1) rfl)))
  have S8 : Sta s s.heap "java/lang/String" "COMPACT_STRINGS" "Z" (.int gz) := Sta.start egz (Or.inl (hsets _ (List.mem_of_getElem? (i := 0) rfl)))
  obtain ⟨gf, egf, rgf⟩ := isR_v (Cond.before_iff.mp (hsets _ (List.mem_of_getElem? (i := 8) rfl)))
  have S12 : Sta s s.heap "jdk/internal/util/Preconditions" "SIOOBE_FORMATTER" "Ljava/util/function/BiFunction;" gf := Sta.start egf (Or.inl (hsets _ (List.mem_of_getElem? (i := 7) rfl)))
  have c13 : ¬ (gz = (0 : Int32)) := gotF (Cond.eq_ints egz (Term.int_eval (0))) n3
  have hEW : EW s #[(.int i0), (.int i1), (.int i2), (.long i3)] own_EL := (EW.cons (hw _ (List.mem_of_getElem? (i := 198) rfl)) (by decide +kernel) (EW.cons (hw _ (List.mem_of_getElem? (i := 72) rfl)) (by decide +kernel) (EW.cons (hw _ (List.mem_of_getElem? (i := 122) rfl)) (by decide +kernel) (EW.cons (hw _ (List.mem_of_getElem? (i := 253) rfl)) (by decide +kernel) EW.nil))))
  have uv0 := eqv_i (Term.int_eval (1)) (Cond.before_iff.mp (hsets _ (List.mem_of_getElem? (i := 12) rfl)))
  have us0 : Sta s s.heap "java/lang/StringUTF16" "$assertionsDisabled" "Z" (.int (1 : Int32)) := Sta.start uv0 (Or.inl (hsets _ (List.mem_of_getElem? (i := 11) rfl)))
  have uv1 := eqv_i (Term.int_eval (0)) (Cond.before_iff.mp (hsets _ (List.mem_of_getElem? (i := 15) rfl)))
  have us1 : Sta s s.heap "java/lang/StringUTF16" "HI_BYTE_SHIFT" "I" (.int (0 : Int32)) := Sta.start uv1 (Or.inl (hsets _ (List.mem_of_getElem? (i := 14) rfl)))
  have uv2 := eqv_i (Term.int_eval (8)) (Cond.before_iff.mp (hsets _ (List.mem_of_getElem? (i := 18) rfl)))
  have us2 : Sta s s.heap "java/lang/StringUTF16" "LO_BYTE_SHIFT" "I" (.int (8 : Int32)) := Sta.start uv2 (Or.inl (hsets _ (List.mem_of_getElem? (i := 17) rfl)))
  have CX : Cx s _ := ⟨hw, hEW, ⟨gz, S8, c13⟩, ⟨gf, S12, rgf⟩, us0, us1, us2⟩
  have hCH : CHv s own_EL s.vm s.heap := CHv.start hEW (fun p hp => hcalls.1 p hp) (hsets _ (List.mem_of_getElem? (i := 2) rfl)) (hw _ (List.mem_of_getElem? (i := 20) rfl)) (hw _ (List.mem_of_getElem? (i := 2) rfl))
  obtain ⟨n, o, h1, h2, h3, v, L, so, rfl, hQ, N, -, -, -, hq⟩ := rm0 (l := l) CX s.heap i0 i1 i2 i3 (own_xr _) p e ha hc hk s m _ below hf ((Spec.applies_iff_loose hf).mp happ).1 ⟨rfl, State.Warmed39.refl s, rfl, hCH, fun _ q => nomatch q⟩ trivial
  subst hQ
  refine ⟨n, _, h1, h2, h3, hpost _ _ _ _ _ _ ⟨Cond.after_iff.mpr rfl, Cond.after_iff.mpr (eq_i res_at (Term.int_eval (1)) rfl), trivial⟩ ⟨hq.1, hq.2.1, hq.2.2.1, (hq.2.2.2.sift fun y hy => Or.inr (N y hy)).mono (by decide) (by decide)⟩⟩
theorem main_1_1 : Claimed_1_1 := comes_1 fun _ _ _ _ _ _ h hF => ⟨h.1, hF⟩
theorem main_1_2 : Claimed_1_2 := comes_1 fun _ _ _ _ _ _ h hF => ⟨h.2.1, hF⟩
end Jvm.Pilot.@@N@@
namespace Jvm.Pilot.@@N@@
open Jvm Jvm.ClassFile Sem Op Lib Jvm.Free Jvm.Stand Jvm.Pilot.@@N@@.Jvm.D
/-! MADE BY PROGRAM (witnessworld.py) out of the Statement's table words and the real class files: 27 classes; the members and pool entries that the words name. The judged class is class 1, her method 1. -/
namespace start1
open Jvm.ClassFile
def u (s : String) : CpInfo := .utf8 (stringToUtf16 s)
/-- a pool by its gaps: so many unusable entries, then the entry; so many at the end -/
def gap : Nat → List CpInfo → List CpInfo
  | 0, r => r
  | n + 1, r => .unusable :: gap n r
def poolList (es : List (Nat × CpInfo)) (last : Nat) : List CpInfo := es.foldr (fun e r => gap e.1 (e.2 :: r)) (gap last [])
def pool (es : List (Nat × CpInfo)) (last : Nat) : Array CpInfo := ⟨poolList es last⟩
def fileOf (pool : Array CpInfo) (this : Nat) (attrs : Array Attribute := #[]) (ms : Array MethodInfo := #[]) (fl : Nat := 33) (sup : Nat := 0) (ifs : Array Nat := #[]) (fds : Array FieldInfo := #[]) : ClassFile where
  minorVersion := 0
  majorVersion := 65
  constantPool := pool
  accessFlags := fl
  thisClass := this
  superClass := sup
  interfaces := ifs
  fields := fds
  methods := ms
  attributes := attrs
def plain (name : String) (sup : Option ClassId) : Class where
  name := name
  kind := .ordinary
  loader := none
  accessFlags := 33
  super := sup
  interfaces := #[]
  cf := none
  fields := #[]
  methods := #[]
  instanceTypes := #[]
  staticTypes := #[]
  resolved := #[]
  callSites := []
  init := .initialized
  statics := none
  mirror := none

def pool0 : Array CpInfo := pool [(5, u "<init>"), (0, u "()V"), (1, .class_ 10), (1, u "java/lang/Object")] 113

def k0c0 : Code := { maxStack := 0, maxLocals := 1, code := object_method_1_code, exceptionTable := #[], attributes := #[] }
def k0m0 : Method := { name := "<init>", desc := "()V", sig := { parameters := [], returnType := none }, accessFlags := 1, code := some k0c0 }
/-- java/lang/Object -/
def k0 : Class := { plain "java/lang/Object" none with
  accessFlags := 33
  interfaces := #[]
  cf := some (fileOf pool0 8 #[] #[{ accessFlags := 1, nameIndex := 5, descriptorIndex := 6, attributes := #[] }] 33 0 #[] #[])
  fields := #[]
  methods := #[k0m0]
  instanceTypes := #[]
  staticTypes := #[]
  resolved := Array.replicate 124 none
  statics := none }

def pool1 : Array CpInfo := pool [(2, .class_ 4), (1, u "java/lang/Object"), (0, u "<init>"), (0, u "()V"), (0, .integer 65535), (0, .class_ 9), (0, u "java/lang/String"), (0, .methodref 8 11), (0, .nameAndType 5 12), (0, u "([C)V"), (0, .class_ 14), (0, u "com/example/aproape/aproape/io/MarkupReader$Tag"), (0, .methodref 13 16), (0, .nameAndType 5 17), (0, u "(Ljava/lang/String;ZJ)V"), (0, .methodref 13 19), (0, .nameAndType 20 21), (0, u "toString"), (0, u "()Ljava/lang/String;"), (0, .methodref 8 23), (0, .nameAndType 24 25), (0, u "length"), (0, u "()I"), (0, .methodref 27 28), (0, .class_ 29), (0, .nameAndType 30 31), (0, u "com/example/aproape/aproape/io/TagToStringPinLaw"), (0, u "at"), (0, u "(Ljava/lang/String;IIIICCC)Z"), (0, .methodref 8 33), (0, .nameAndType 34 35), (0, u "charAt"), (0, u "(I)C"), (0, .methodref 27 37), (0, .nameAndType 38 39), (0, u "expected"), (0, u "(IIICCC)C"), (2, u "law"), (0, u "(IIIJ)Z")] 7

def k1m0 : Method := { name := "<init>", desc := "()V", sig := { parameters := [], returnType := none }, accessFlags := 2, code := none }
def k1c1 : Code := { maxStack := 8, maxLocals := 15, code := code, exceptionTable := #[], attributes := #[] }
def k1m1 : Method := { name := "law", desc := "(IIIJ)Z", sig := { parameters := [.int, .int, .int, .long], returnType := some .boolean }, accessFlags := 9, code := some k1c1 }
def k1c2 : Code := { maxStack := 7, maxLocals := 8, code := method_3_code, exceptionTable := #[], attributes := #[] }
def k1m2 : Method := { name := "at", desc := "(Ljava/lang/String;IIIICCC)Z", sig := { parameters := [(.object "java/lang/String"), .int, .int, .int, .int, .char, .char, .char], returnType := some .boolean }, accessFlags := 10, code := some k1c2 }
def k1c3 : Code := { maxStack := 3, maxLocals := 7, code := method_4_code, exceptionTable := #[], attributes := #[] }
def k1m3 : Method := { name := "expected", desc := "(IIICCC)C", sig := { parameters := [.int, .int, .int, .char, .char, .char], returnType := some .char }, accessFlags := 10, code := some k1c3 }
/-- com/example/aproape/aproape/io/TagToStringPinLaw -/
def k1 : Class := { plain "com/example/aproape/aproape/io/TagToStringPinLaw" (some 0) with
  accessFlags := 49
  interfaces := #[]
  cf := some (fileOf pool1 27 #[] #[{ accessFlags := 2, nameIndex := 5, descriptorIndex := 6, attributes := #[] }, { accessFlags := 9, nameIndex := 42, descriptorIndex := 43, attributes := #[] }, { accessFlags := 10, nameIndex := 30, descriptorIndex := 31, attributes := #[] }, { accessFlags := 10, nameIndex := 38, descriptorIndex := 39, attributes := #[] }] 49 2 #[] #[])
  fields := #[]
  methods := #[k1m0, k1m1, k1m2, k1m3]
  instanceTypes := #[]
  staticTypes := #[]
  resolved := Array.replicate 51 none
  statics := none }

def pool2 : Array CpInfo := pool [(1, .class_ 2), (0, u "java/io/Serializable"), (0, .class_ 4), (0, u "java/lang/Object")] 2

/-- java/io/Serializable -/
def k2 : Class := { plain "java/io/Serializable" (some 0) with
  accessFlags := 1537
  interfaces := #[]
  cf := some (fileOf pool2 1 #[] #[] 1537 3 #[] #[])
  fields := #[]
  methods := #[]
  instanceTypes := #[]
  staticTypes := #[]
  resolved := Array.replicate 7 none
  statics := none }

def pool3 : Array CpInfo := pool [(1, .class_ 2), (0, u "java/lang/Comparable"), (0, .class_ 4), (0, u "java/lang/Object")] 7

/-- java/lang/Comparable -/
def k3 : Class := { plain "java/lang/Comparable" (some 0) with
  accessFlags := 1537
  interfaces := #[]
  cf := some (fileOf pool3 1 #[] #[] 1537 3 #[] #[])
  fields := #[]
  methods := #[]
  instanceTypes := #[]
  staticTypes := #[]
  resolved := Array.replicate 12 none
  statics := none }

def pool4 : Array CpInfo := pool [(2, .class_ 4), (1, u "java/lang/CharSequence"), (42, .class_ 48), (0, u "java/lang/CharSequence$1CodePointIterator"), (10, .class_ 60), (0, u "java/lang/CharSequence$1CharIterator"), (5, .class_ 67), (0, u "java/lang/Object")] 63

/-- java/lang/CharSequence -/
def k4 : Class := { plain "java/lang/CharSequence" (some 0) with
  accessFlags := 1537
  interfaces := #[]
  cf := some (fileOf pool4 2 #[.nestMembers #[47, 59]] #[] 1537 66 #[] #[])
  fields := #[]
  methods := #[]
  instanceTypes := #[]
  staticTypes := #[]
  resolved := Array.replicate 131 none
  statics := none }

def pool5 : Array CpInfo := pool [(1, .class_ 2), (0, u "java/lang/constant/Constable"), (0, .class_ 4), (0, u "java/lang/Object")] 6

/-- java/lang/constant/Constable -/
def k5 : Class := { plain "java/lang/constant/Constable" (some 0) with
  accessFlags := 1537
  interfaces := #[]
  cf := some (fileOf pool5 1 #[] #[] 1537 3 #[] #[])
  fields := #[]
  methods := #[]
  instanceTypes := #[]
  staticTypes := #[]
  resolved := Array.replicate 11 none
  statics := none }

def pool6 : Array CpInfo := pool [(1, .class_ 2), (0, u "java/lang/constant/ConstantDesc"), (0, .class_ 4), (0, u "java/lang/Object")] 32

/-- java/lang/constant/ConstantDesc -/
def k6 : Class := { plain "java/lang/constant/ConstantDesc" (some 0) with
  accessFlags := 1537
  interfaces := #[]
  cf := some (fileOf pool6 1 #[] #[] 1537 3 #[] #[])
  fields := #[]
  methods := #[]
  instanceTypes := #[]
  staticTypes := #[]
  resolved := Array.replicate 37 none
  statics := none }

def pool7 : Array CpInfo := pool [(1, .methodref 2 3), (0, .class_ 4), (0, .nameAndType 5 6), (0, u "java/lang/Object"), (0, u "<init>"), (0, u "()V"), (0, .string 8), (0, u ""), (0, .fieldref 10 11), (0, .class_ 12), (0, .nameAndType 13 14), (0, u "java/lang/String"), (0, u "value"), (0, u "[B"), (0, .fieldref 10 16), (0, .nameAndType 17 18), (0, u "coder"), (0, u "B"), (2, u "hash"), (0, u "I"), (2, u "hashIsZero"), (0, u "Z"), (0, .methodref 10 28), (0, .nameAndType 5 29), (0, u "([CIILjava/lang/Void;)V"), (6, u "checkBoundsOffCount"), (0, u "(III)I"), (0, .fieldref 10 39), (0, .nameAndType 40 26), (0, u "COMPACT_STRINGS"), (1, .class_ 44), (1, u "java/lang/StringUTF16"), (0, u "compress"), (1, .methodref 42 48), (0, .nameAndType 49 50), (0, u "coderFromArrayLen"), (0, u "([BI)B"), (3, .methodref 55 56), (0, .class_ 57), (0, .nameAndType 58 59), (0, u "java/util/Arrays"), (0, u "copyOfRange"), (0, u "([BII)[B"), (46, .methodref 107 108), (0, .class_ 109), (0, .nameAndType 110 111), (0, u "java/lang/StringLatin1"), (0, u "inflate"), (0, u "([BI[BII)V"), (30, u "()Z"), (34, .methodref 42 178), (0, .nameAndType 45 179), (0, u "([CII)[B"), (13, .class_ 195), (1, u "java/lang/System"), (16, .methodref 193 213), (0, .nameAndType 214 215), (0, u "arraycopy"), (0, u "(Ljava/lang/Object;ILjava/lang/Object;II)V"), (118, u "()I"), (0, .methodref 10 336), (0, .nameAndType 17 337), (0, u "()B"), (2, u "()[B"), (22, u "([BI)C"), (27, u "(II)V"), (35, u "(I)C"), (61, .methodref 10 490), (0, .nameAndType 5 491), (0, u "(Ljava/lang/AbstractStringBuilder;Ljava/lang/Void;)V"), (0, .methodref 10 493), (0, .nameAndType 494 142), (0, u "isLatin1"), (0, .methodref 107 496), (0, .nameAndType 497 363), (0, u "charAt"), (0, .methodref 42 496), (2, u "checkIndex"), (4, .nameAndType 507 334), (0, u "length"), (24, u "getBytes"), (16, .methodref 550 506), (0, .class_ 551), (0, u "java/lang/AbstractStringBuilder"), (0, .methodref 550 553), (0, .nameAndType 554 340), (0, u "getValue"), (20, .class_ 576), (0, u "java/lang/CharSequence"), (22, u "CASE_INSENSITIVE_ORDER"), (0, u "Ljava/util/Comparator;"), (220, u "([BIB)V"), (188, u "([C)V"), (36, .methodref 550 493), (0, .fieldref 550 1049), (0, .nameAndType 1050 26), (0, u "maybeLatin1"), (2, .fieldref 1054 1055), (0, .class_ 1056), (0, .nameAndType 1057 1058), (0, u "jdk/internal/util/Preconditions"), (0, u "SIOOBE_FORMATTER"), (0, u "Ljava/util/function/BiFunction;"), (0, .methodref 1054 1060), (0, .nameAndType 501 1061), (0, u "(IILjava/util/function/BiFunction;)I"), (2, u "(IIILjava/util/function/BiFunction;)I"), (0, .methodref 1054 1066), (0, .nameAndType 1067 1064), (0, u "checkFromIndexSize"), (33, u "serialPersistentFields"), (0, u "[Ljava/io/ObjectStreamField;"), (0, .class_ 1104), (0, u "java/lang/String$CaseInsensitiveComparator"), (1, .class_ 1107), (0, u "java/io/Serializable"), (0, .class_ 1109), (0, u "java/lang/Comparable"), (0, .class_ 1111), (0, u "java/lang/constant/Constable"), (0, .class_ 1113), (0, u "java/lang/constant/ConstantDesc"), (2, u "serialVersionUID"), (0, u "J"), (3, u "REPL"), (0, u "C"), (2, u "LATIN1"), (1, u "UTF16"), (105, u "(Ljava/lang/StringBuilder;)V")] 217

def k7m0 : Method := { name := "<init>", desc := "()V", sig := { parameters := [], returnType := none }, accessFlags := 1, code := none }
def k7c1 : Code := { maxStack := 5, maxLocals := 2, code := jdk_42_method_3_code, exceptionTable := #[], attributes := #[] }
def k7m1 : Method := { name := "<init>", desc := "([C)V", sig := { parameters := [(.array .char)], returnType := none }, accessFlags := 1, code := some k7c1 }
def k7c2 : Code := { maxStack := 3, maxLocals := 2, code := jdk_42_method_53_code, exceptionTable := #[], attributes := #[] }
def k7m2 : Method := { name := "<init>", desc := "(Ljava/lang/StringBuilder;)V", sig := { parameters := [(.object "java/lang/StringBuilder")], returnType := none }, accessFlags := 1, code := some k7c2 }
def k7c3 : Code := { maxStack := 2, maxLocals := 1, code := jdk_42_method_54_code, exceptionTable := #[], attributes := #[] }
def k7m3 : Method := { name := "length", desc := "()I", sig := { parameters := [], returnType := some .int }, accessFlags := 1, code := some k7c3 }
def k7c4 : Code := { maxStack := 2, maxLocals := 2, code := jdk_42_method_56_code, exceptionTable := #[], attributes := #[] }
def k7m4 : Method := { name := "charAt", desc := "(I)C", sig := { parameters := [.int], returnType := some .char }, accessFlags := 1, code := some k7c4 }
def k7c5 : Code := { maxStack := 5, maxLocals := 4, code := jdk_42_method_147_code, exceptionTable := #[], attributes := #[] }
def k7m5 : Method := { name := "getBytes", desc := "([BIB)V", sig := { parameters := [(.array .byte), .int, .byte], returnType := none }, accessFlags := 0, code := some k7c5 }
def k7c6 : Code := { maxStack := 4, maxLocals := 6, code := jdk_42_method_149_code, exceptionTable := #[], attributes := #[] }
def k7m6 : Method := { name := "<init>", desc := "([CIILjava/lang/Void;)V", sig := { parameters := [(.array .char), .int, .int, (.object "java/lang/Void")], returnType := none }, accessFlags := 2, code := some k7c6 }
def k7c7 : Code := { maxStack := 5, maxLocals := 5, code := jdk_42_method_150_code, exceptionTable := #[], attributes := #[] }
def k7m7 : Method := { name := "<init>", desc := "(Ljava/lang/AbstractStringBuilder;Ljava/lang/Void;)V", sig := { parameters := [(.object "java/lang/AbstractStringBuilder"), (.object "java/lang/Void")], returnType := none }, accessFlags := 0, code := some k7c7 }
def k7c8 : Code := { maxStack := 1, maxLocals := 1, code := jdk_42_method_152_code, exceptionTable := #[], attributes := #[] }
def k7m8 : Method := { name := "coder", desc := "()B", sig := { parameters := [], returnType := some .byte }, accessFlags := 0, code := some k7c8 }
def k7c9 : Code := { maxStack := 1, maxLocals := 1, code := jdk_42_method_154_code, exceptionTable := #[], attributes := #[] }
def k7m9 : Method := { name := "isLatin1", desc := "()Z", sig := { parameters := [], returnType := some .boolean }, accessFlags := 0, code := some k7c9 }
def k7c10 : Code := { maxStack := 3, maxLocals := 2, code := jdk_42_method_155_code, exceptionTable := #[], attributes := #[] }
def k7m10 : Method := { name := "checkIndex", desc := "(II)V", sig := { parameters := [.int, .int], returnType := none }, accessFlags := 8, code := some k7c10 }
def k7c11 : Code := { maxStack := 4, maxLocals := 3, code := jdk_42_method_157_code, exceptionTable := #[], attributes := #[] }
def k7m11 : Method := { name := "checkBoundsOffCount", desc := "(III)I", sig := { parameters := [.int, .int, .int], returnType := some .int }, accessFlags := 8, code := some k7c11 }
/-- java/lang/String -/
def k7 : Class := { plain "java/lang/String" (some 0) with
  accessFlags := 49
  interfaces := #[2, 3, 4, 5, 6]
  cf := some (fileOf pool7 10 #[.nestMembers #[1103]] #[{ accessFlags := 1, nameIndex := 5, descriptorIndex := 6, attributes := #[] }, { accessFlags := 1, nameIndex := 5, descriptorIndex := 1010, attributes := #[] }, { accessFlags := 1, nameIndex := 5, descriptorIndex := 1233, attributes := #[] }, { accessFlags := 1, nameIndex := 507, descriptorIndex := 334, attributes := #[] }, { accessFlags := 1, nameIndex := 497, descriptorIndex := 427, attributes := #[] }, { accessFlags := 0, nameIndex := 532, descriptorIndex := 821, attributes := #[] }, { accessFlags := 2, nameIndex := 5, descriptorIndex := 29, attributes := #[] }, { accessFlags := 0, nameIndex := 5, descriptorIndex := 491, attributes := #[] }, { accessFlags := 0, nameIndex := 17, descriptorIndex := 337, attributes := #[] }, { accessFlags := 0, nameIndex := 494, descriptorIndex := 142, attributes := #[] }, { accessFlags := 8, nameIndex := 501, descriptorIndex := 391, attributes := #[] }, { accessFlags := 8, nameIndex := 36, descriptorIndex := 37, attributes := #[] }] 49 2 #[1106, 1108, 575, 1110, 1112] #[{ accessFlags := 18, nameIndex := 13, descriptorIndex := 14, attributes := #[] }, { accessFlags := 18, nameIndex := 17, descriptorIndex := 18, attributes := #[] }, { accessFlags := 2, nameIndex := 21, descriptorIndex := 22, attributes := #[] }, { accessFlags := 2, nameIndex := 25, descriptorIndex := 26, attributes := #[] }, { accessFlags := 26, nameIndex := 1116, descriptorIndex := 1117, attributes := #[] }, { accessFlags := 24, nameIndex := 40, descriptorIndex := 26, attributes := #[] }, { accessFlags := 26, nameIndex := 1101, descriptorIndex := 1102, attributes := #[] }, { accessFlags := 26, nameIndex := 1121, descriptorIndex := 1122, attributes := #[] }, { accessFlags := 25, nameIndex := 599, descriptorIndex := 600, attributes := #[] }, { accessFlags := 24, nameIndex := 1125, descriptorIndex := 18, attributes := #[] }, { accessFlags := 24, nameIndex := 1127, descriptorIndex := 18, attributes := #[] }])
  fields := #[{ name := "value", type := (.array .byte), accessFlags := 18, slot := 0, constantValue := 0 }, { name := "coder", type := .byte, accessFlags := 18, slot := 1, constantValue := 0 }, { name := "hash", type := .int, accessFlags := 2, slot := 2, constantValue := 0 }, { name := "hashIsZero", type := .boolean, accessFlags := 2, slot := 3, constantValue := 0 }, { name := "serialVersionUID", type := .long, accessFlags := 26, slot := 0, constantValue := 0 }, { name := "COMPACT_STRINGS", type := .boolean, accessFlags := 24, slot := 1, constantValue := 0 }, { name := "serialPersistentFields", type := (.array (.object "java/io/ObjectStreamField")), accessFlags := 26, slot := 2, constantValue := 0 }, { name := "REPL", type := .char, accessFlags := 26, slot := 3, constantValue := 0 }, { name := "CASE_INSENSITIVE_ORDER", type := (.object "java/util/Comparator"), accessFlags := 25, slot := 4, constantValue := 0 }, { name := "LATIN1", type := .byte, accessFlags := 24, slot := 5, constantValue := 0 }, { name := "UTF16", type := .byte, accessFlags := 24, slot := 6, constantValue := 0 }]
  methods := #[k7m0, k7m1, k7m2, k7m3, k7m4, k7m5, k7m6, k7m7, k7m8, k7m9, k7m10, k7m11]
  instanceTypes := #[(.array .byte), .byte, .int, .boolean]
  staticTypes := #[.long, .boolean, (.array (.object "java/io/ObjectStreamField")), .char, (.object "java/util/Comparator"), .byte, .byte]
  resolved := Array.replicate 1451 none
  statics := some 0 }

def pool8 : Array CpInfo := pool [(3, .class_ 4), (0, u "java/lang/String"), (1, .class_ 8), (1, u "java/lang/Object"), (0, u "<init>"), (0, u "()V"), (0, .methodref 12 13), (0, .class_ 14), (0, .nameAndType 15 16), (0, u "java/lang/StringUTF16"), (0, u "newBytesLength"), (0, u "(I)I"), (3, .integer 1073741823), (23, .fieldref 12 45), (0, .nameAndType 46 47), (0, u "$assertionsDisabled"), (0, u "Z"), (0, .methodref 12 49), (0, .nameAndType 50 51), (0, u "length"), (0, u "([B)I"), (7, .fieldref 12 60), (0, .nameAndType 61 62), (0, u "HI_BYTE_SHIFT"), (0, u "I"), (0, .fieldref 12 64), (0, .nameAndType 65 62), (0, u "LO_BYTE_SHIFT"), (1, .methodref 12 68), (0, .nameAndType 69 70), (0, u "checkIndex"), (0, u "(I[B)V"), (0, .methodref 12 72), (0, .nameAndType 73 74), (0, u "getChar"), (0, u "([BI)C"), (24, u "(II[B)V"), (7, .methodref 12 108), (0, .nameAndType 109 110), (0, u "newBytesFor"), (0, u "(I)[B"), (0, .methodref 12 112), (0, .nameAndType 113 114), (0, u "putChar"), (0, u "([BII)V"), (0, .methodref 12 116), (0, .nameAndType 117 118), (0, u "compress"), (0, u "([CI[BII)I"), (0, .methodref 12 120), (0, .nameAndType 121 122), (0, u "toBytes"), (0, u "([CII)[B"), (17, u "inflate"), (0, u "([BI[BII)V"), (31, .methodref 12 174), (0, .nameAndType 175 99), (0, u "checkBoundsOffCount"), (85, u "coderFromArrayLen"), (0, u "([BI)B"), (18, u "(III)I"), (87, .class_ 371), (1, u "java/lang/StringUTF16$LinesSpliterator"), (20, u "charAt"), (21, .methodref 3 415), (0, .nameAndType 69 416), (0, u "(II)V"), (2, .methodref 3 420), (0, .nameAndType 175 281), (9, u "MAX_LENGTH"), (196, .class_ 628), (0, u "java/lang/StringUTF16$CodePointsSpliterator"), (0, .class_ 630), (0, u "java/lang/StringUTF16$CharsSpliterator")] 4

def k8m0 : Method := { name := "<init>", desc := "()V", sig := { parameters := [], returnType := none }, accessFlags := 0, code := none }
def k8c1 : Code := { maxStack := 1, maxLocals := 1, code := jdk_52_method_2_code, exceptionTable := #[], attributes := #[] }
def k8m1 : Method := { name := "newBytesFor", desc := "(I)[B", sig := { parameters := [.int], returnType := some (.array .byte) }, accessFlags := 9, code := some k8c1 }
def k8c2 : Code := { maxStack := 4, maxLocals := 1, code := jdk_52_method_3_code, exceptionTable := #[], attributes := #[] }
def k8m2 : Method := { name := "newBytesLength", desc := "(I)I", sig := { parameters := [.int], returnType := some .int }, accessFlags := 9, code := some k8c2 }
def k8c3 : Code := { maxStack := 4, maxLocals := 3, code := jdk_52_method_4_code, exceptionTable := #[], attributes := #[] }
def k8m3 : Method := { name := "putChar", desc := "([BII)V", sig := { parameters := [(.array .byte), .int, .int], returnType := none }, accessFlags := 8, code := some k8c3 }
def k8c4 : Code := { maxStack := 3, maxLocals := 2, code := jdk_52_method_5_code, exceptionTable := #[], attributes := #[] }
def k8m4 : Method := { name := "getChar", desc := "([BI)C", sig := { parameters := [(.array .byte), .int], returnType := some .char }, accessFlags := 8, code := some k8c4 }
def k8c5 : Code := { maxStack := 2, maxLocals := 1, code := jdk_52_method_6_code, exceptionTable := #[], attributes := #[] }
def k8m5 : Method := { name := "length", desc := "([B)I", sig := { parameters := [(.array .byte)], returnType := some .int }, accessFlags := 9, code := some k8c5 }
def k8c6 : Code := { maxStack := 4, maxLocals := 5, code := jdk_52_method_14_code, exceptionTable := #[], attributes := #[] }
def k8m6 : Method := { name := "toBytes", desc := "([CII)[B", sig := { parameters := [(.array .char), .int, .int], returnType := some (.array .byte) }, accessFlags := 9, code := some k8c6 }
def k8c7 : Code := { maxStack := 2, maxLocals := 2, code := jdk_52_method_15_code, exceptionTable := #[], attributes := #[] }
def k8m7 : Method := { name := "coderFromArrayLen", desc := "([BI)B", sig := { parameters := [(.array .byte), .int], returnType := some .byte }, accessFlags := 8, code := some k8c7 }
def k8c8 : Code := { maxStack := 5, maxLocals := 6, code := jdk_52_method_16_code, exceptionTable := #[], attributes := #[] }
def k8m8 : Method := { name := "compress", desc := "([CII)[B", sig := { parameters := [(.array .char), .int, .int], returnType := some (.array .byte) }, accessFlags := 9, code := some k8c8 }
def k8c9 : Code := { maxStack := 3, maxLocals := 7, code := jdk_52_method_21_code, exceptionTable := #[], attributes := #[] }
def k8m9 : Method := { name := "compress", desc := "([CI[BII)I", sig := { parameters := [(.array .char), .int, (.array .byte), .int, .int], returnType := some .int }, accessFlags := 9, code := some k8c9 }
def k8c10 : Code := { maxStack := 2, maxLocals := 2, code := jdk_52_method_83_code, exceptionTable := #[], attributes := #[] }
def k8m10 : Method := { name := "charAt", desc := "([BI)C", sig := { parameters := [(.array .byte), .int], returnType := some .char }, accessFlags := 9, code := some k8c10 }
def k8c11 : Code := { maxStack := 4, maxLocals := 6, code := jdk_52_method_86_code, exceptionTable := #[], attributes := #[] }
def k8m11 : Method := { name := "inflate", desc := "([BI[BII)V", sig := { parameters := [(.array .byte), .int, (.array .byte), .int, .int], returnType := none }, accessFlags := 9, code := some k8c11 }
def k8c12 : Code := { maxStack := 2, maxLocals := 2, code := jdk_52_method_91_code, exceptionTable := #[], attributes := #[] }
def k8m12 : Method := { name := "checkIndex", desc := "(I[B)V", sig := { parameters := [.int, (.array .byte)], returnType := none }, accessFlags := 9, code := some k8c12 }
def k8c13 : Code := { maxStack := 3, maxLocals := 3, code := jdk_52_method_94_code, exceptionTable := #[], attributes := #[] }
def k8m13 : Method := { name := "checkBoundsOffCount", desc := "(II[B)V", sig := { parameters := [.int, .int, (.array .byte)], returnType := none }, accessFlags := 9, code := some k8c13 }
/-- java/lang/StringUTF16 -/
def k8 : Class := { plain "java/lang/StringUTF16" (some 0) with
  accessFlags := 48
  interfaces := #[]
  cf := some (fileOf pool8 12 #[.nestMembers #[627, 629, 369]] #[{ accessFlags := 0, nameIndex := 9, descriptorIndex := 10, attributes := #[] }, { accessFlags := 9, nameIndex := 109, descriptorIndex := 110, attributes := #[] }, { accessFlags := 9, nameIndex := 15, descriptorIndex := 16, attributes := #[] }, { accessFlags := 8, nameIndex := 113, descriptorIndex := 114, attributes := #[] }, { accessFlags := 8, nameIndex := 73, descriptorIndex := 74, attributes := #[] }, { accessFlags := 9, nameIndex := 50, descriptorIndex := 51, attributes := #[] }, { accessFlags := 9, nameIndex := 121, descriptorIndex := 122, attributes := #[] }, { accessFlags := 8, nameIndex := 261, descriptorIndex := 262, attributes := #[] }, { accessFlags := 9, nameIndex := 117, descriptorIndex := 122, attributes := #[] }, { accessFlags := 9, nameIndex := 117, descriptorIndex := 118, attributes := #[] }, { accessFlags := 9, nameIndex := 392, descriptorIndex := 74, attributes := #[] }, { accessFlags := 9, nameIndex := 140, descriptorIndex := 141, attributes := #[] }, { accessFlags := 9, nameIndex := 69, descriptorIndex := 70, attributes := #[] }, { accessFlags := 9, nameIndex := 175, descriptorIndex := 99, attributes := #[] }] 48 6 #[] #[{ accessFlags := 26, nameIndex := 61, descriptorIndex := 62, attributes := #[] }, { accessFlags := 26, nameIndex := 65, descriptorIndex := 62, attributes := #[] }, { accessFlags := 24, nameIndex := 430, descriptorIndex := 62, attributes := #[] }, { accessFlags := 4120, nameIndex := 46, descriptorIndex := 47, attributes := #[] }])
  fields := #[{ name := "HI_BYTE_SHIFT", type := .int, accessFlags := 26, slot := 0, constantValue := 0 }, { name := "LO_BYTE_SHIFT", type := .int, accessFlags := 26, slot := 1, constantValue := 0 }, { name := "MAX_LENGTH", type := .int, accessFlags := 24, slot := 2, constantValue := 0 }, { name := "$assertionsDisabled", type := .boolean, accessFlags := 4120, slot := 3, constantValue := 0 }]
  methods := #[k8m0, k8m1, k8m2, k8m3, k8m4, k8m5, k8m6, k8m7, k8m8, k8m9, k8m10, k8m11, k8m12, k8m13]
  instanceTypes := #[]
  staticTypes := #[.int, .int, .int, .boolean]
  resolved := Array.replicate 635 none
  statics := some 1 }

def pool9 : Array CpInfo := pool [(1, .methodref 2 3), (0, .class_ 4), (0, .nameAndType 5 6), (0, u "java/lang/Object"), (0, u "<init>"), (0, u "()V"), (0, .class_ 8), (0, u "java/lang/Record")] 13

def k9c0 : Code := { maxStack := 1, maxLocals := 1, code := jdk_30_method_1_code, exceptionTable := #[], attributes := #[] }
def k9m0 : Method := { name := "<init>", desc := "()V", sig := { parameters := [], returnType := none }, accessFlags := 4, code := some k9c0 }
/-- java/lang/Record -/
def k9 : Class := { plain "java/lang/Record" (some 0) with
  accessFlags := 1057
  interfaces := #[]
  cf := some (fileOf pool9 7 #[] #[{ accessFlags := 4, nameIndex := 5, descriptorIndex := 6, attributes := #[] }] 1057 2 #[] #[])
  fields := #[]
  methods := #[k9m0]
  instanceTypes := #[]
  staticTypes := #[]
  resolved := Array.replicate 22 none
  statics := none }

def pool10 : Array CpInfo := pool [(1, .methodref 2 3), (0, .class_ 4), (0, .nameAndType 5 6), (0, u "java/lang/Record"), (0, u "<init>"), (0, u "()V"), (0, .fieldref 8 9), (0, .class_ 10), (0, .nameAndType 11 12), (0, u "com/example/aproape/aproape/io/MarkupReader$Tag"), (0, u "name"), (0, u "Ljava/lang/String;"), (0, .fieldref 8 14), (0, .nameAndType 15 16), (0, u "closing"), (0, u "Z"), (0, .fieldref 8 18), (0, .nameAndType 19 20), (0, u "line"), (0, u "J"), (6, .class_ 28), (0, u "java/lang/StringBuilder"), (0, .methodref 27 3), (0, .string 31), (0, u "</"), (0, .string 33), (0, u "<"), (0, .methodref 27 35), (0, .nameAndType 36 37), (0, u "append"), (0, u "(Ljava/lang/String;)Ljava/lang/StringBuilder;"), (0, .string 39), (0, u ">"), (0, .methodref 27 41), (0, .nameAndType 42 43), (0, u "toString"), (0, u "()Ljava/lang/String;"), (7, u "(Ljava/lang/String;ZJ)V"), (12, .class_ 65), (0, u "com/example/aproape/aproape/io/MarkupReader")] 21

def k10c0 : Code := { maxStack := 3, maxLocals := 5, code := prog_16_method_1_code, exceptionTable := #[], attributes := #[] }
def k10m0 : Method := { name := "<init>", desc := "(Ljava/lang/String;ZJ)V", sig := { parameters := [(.object "java/lang/String"), .boolean, .long], returnType := none }, accessFlags := 0, code := some k10c0 }
def k10c1 : Code := { maxStack := 2, maxLocals := 1, code := prog_16_method_3_code, exceptionTable := #[], attributes := #[] }
def k10m1 : Method := { name := "toString", desc := "()Ljava/lang/String;", sig := { parameters := [], returnType := some (.object "java/lang/String") }, accessFlags := 1, code := some k10c1 }
/-- com/example/aproape/aproape/io/MarkupReader$Tag -/
def k10 : Class := { plain "com/example/aproape/aproape/io/MarkupReader$Tag" (some 9) with
  accessFlags := 48
  interfaces := #[]
  cf := some (fileOf pool10 8 #[.nestHost 64] #[{ accessFlags := 0, nameIndex := 5, descriptorIndex := 51, attributes := #[] }, { accessFlags := 1, nameIndex := 42, descriptorIndex := 43, attributes := #[] }] 48 2 #[] #[{ accessFlags := 18, nameIndex := 11, descriptorIndex := 12, attributes := #[] }, { accessFlags := 18, nameIndex := 15, descriptorIndex := 16, attributes := #[] }, { accessFlags := 18, nameIndex := 19, descriptorIndex := 20, attributes := #[] }])
  fields := #[{ name := "name", type := (.object "java/lang/String"), accessFlags := 18, slot := 0, constantValue := 0 }, { name := "closing", type := .boolean, accessFlags := 18, slot := 1, constantValue := 0 }, { name := "line", type := .long, accessFlags := 18, slot := 2, constantValue := 0 }]
  methods := #[k10m0, k10m1]
  instanceTypes := #[(.object "java/lang/String"), .boolean, .long]
  staticTypes := #[]
  resolved := Array.replicate 87 none
  statics := none }

def pool11 : Array CpInfo := pool [(1, .class_ 2), (0, u "java/lang/Appendable"), (0, .class_ 4), (0, u "java/lang/Object")] 9

/-- java/lang/Appendable -/
def k11 : Class := { plain "java/lang/Appendable" (some 0) with
  accessFlags := 1537
  interfaces := #[]
  cf := some (fileOf pool11 1 #[] #[] 1537 3 #[] #[])
  fields := #[]
  methods := #[]
  instanceTypes := #[]
  staticTypes := #[]
  resolved := Array.replicate 14 none
  statics := none }

def pool12 : Array CpInfo := pool [(1, .class_ 2), (0, u "java/lang/String"), (0, .methodref 4 5), (0, .class_ 6), (0, .nameAndType 7 8), (0, u "java/lang/Object"), (0, u "<init>"), (0, u "()V"), (1, .class_ 12), (1, u "java/lang/AbstractStringBuilder"), (0, u "EMPTYVALUE"), (0, u "[B"), (0, .fieldref 10 16), (0, .nameAndType 17 14), (0, u "value"), (0, .fieldref 1 19), (0, .nameAndType 20 21), (0, u "COMPACT_STRINGS"), (0, u "Z"), (0, .fieldref 10 23), (0, .nameAndType 24 25), (0, u "coder"), (0, u "B"), (0, .methodref 27 28), (0, .class_ 29), (0, .nameAndType 30 31), (0, u "java/lang/StringUTF16"), (0, u "newBytesFor"), (0, u "(I)[B"), (0, .methodref 1 33), (0, .nameAndType 34 35), (0, u "length"), (0, u "()I"), (4, .methodref 1 41), (0, .nameAndType 24 42), (0, u "()B"), (2, u "append"), (0, u "(Ljava/lang/String;)Ljava/lang/AbstractStringBuilder;"), (1, .class_ 49), (0, u "java/lang/CharSequence"), (19, u "(Ljava/lang/String;)V"), (5, u "maybeLatin1"), (3, .fieldref 10 80), (0, .nameAndType 81 82), (0, u "count"), (0, u "I"), (0, .methodref 10 84), (0, .nameAndType 85 86), (0, u "isLatin1"), (0, u "()Z"), (1, .class_ 90), (1, u "java/lang/StringLatin1"), (9, .methodref 10 101), (0, .nameAndType 102 103), (0, u "ensureCapacityInternal"), (0, u "(I)V"), (21, .methodref 88 126), (0, .nameAndType 127 128), (0, u "inflate"), (0, u "([BI[BII)V"), (66, .methodref 10 196), (0, .nameAndType 127 8), (11, .methodref 10 209), (0, .nameAndType 210 211), (0, u "putStringAt"), (0, u "(ILjava/lang/String;)V"), (5, u "inflateIfNeededFor"), (2, .nameAndType 221 222), (0, u "getBytes"), (0, u "([BIB)V"), (174, .methodref 10 398), (0, .nameAndType 217 69), (0, .methodref 1 220), (3, u "()[B"), (40, .class_ 445), (0, u "java/lang/Appendable"), (106, u "getValue")] 56

def k12m0 : Method := { name := "<init>", desc := "()V", sig := { parameters := [], returnType := none }, accessFlags := 0, code := none }
def k12c1 : Code := { maxStack := 2, maxLocals := 2, code := jdk_68_method_2_code, exceptionTable := #[], attributes := #[] }
def k12m1 : Method := { name := "<init>", desc := "(I)V", sig := { parameters := [.int], returnType := none }, accessFlags := 0, code := some k12c1 }
def k12c2 : Code := { maxStack := 1, maxLocals := 1, code := jdk_68_method_6_code, exceptionTable := #[], attributes := #[] }
def k12m2 : Method := { name := "length", desc := "()I", sig := { parameters := [], returnType := some .int }, accessFlags := 1, code := some k12c2 }
def k12c3 : Code := { maxStack := 4, maxLocals := 3, code := jdk_68_method_9_code, exceptionTable := #[], attributes := #[] }
def k12m3 : Method := { name := "ensureCapacityInternal", desc := "(I)V", sig := { parameters := [.int], returnType := none }, accessFlags := 2, code := some k12c3 }
def k12c4 : Code := { maxStack := 5, maxLocals := 2, code := jdk_68_method_11_code, exceptionTable := #[], attributes := #[] }
def k12m4 : Method := { name := "inflate", desc := "()V", sig := { parameters := [], returnType := none }, accessFlags := 2, code := some k12c4 }
def k12c5 : Code := { maxStack := 3, maxLocals := 3, code := jdk_68_method_22_code, exceptionTable := #[], attributes := #[] }
def k12m5 : Method := { name := "append", desc := "(Ljava/lang/String;)Ljava/lang/AbstractStringBuilder;", sig := { parameters := [(.object "java/lang/String")], returnType := some (.object "java/lang/AbstractStringBuilder") }, accessFlags := 1, code := some k12c5 }
def k12c6 : Code := { maxStack := 1, maxLocals := 1, code := jdk_68_method_64_code, exceptionTable := #[], attributes := #[] }
def k12m6 : Method := { name := "getValue", desc := "()[B", sig := { parameters := [], returnType := some (.array .byte) }, accessFlags := 16, code := some k12c6 }
def k12c7 : Code := { maxStack := 1, maxLocals := 1, code := jdk_68_method_68_code, exceptionTable := #[], attributes := #[] }
def k12m7 : Method := { name := "isLatin1", desc := "()Z", sig := { parameters := [], returnType := some .boolean }, accessFlags := 16, code := some k12c7 }
def k12c8 : Code := { maxStack := 2, maxLocals := 2, code := jdk_68_method_71_code, exceptionTable := #[], attributes := #[] }
def k12m8 : Method := { name := "inflateIfNeededFor", desc := "(Ljava/lang/String;)V", sig := { parameters := [(.object "java/lang/String")], returnType := none }, accessFlags := 2, code := some k12c8 }
def k12c9 : Code := { maxStack := 4, maxLocals := 3, code := jdk_68_method_73_code, exceptionTable := #[], attributes := #[] }
def k12m9 : Method := { name := "putStringAt", desc := "(ILjava/lang/String;)V", sig := { parameters := [.int, (.object "java/lang/String")], returnType := none }, accessFlags := 2, code := some k12c9 }
/-- java/lang/AbstractStringBuilder -/
def k12 : Class := { plain "java/lang/AbstractStringBuilder" (some 0) with
  accessFlags := 1056
  interfaces := #[11, 4]
  cf := some (fileOf pool12 10 #[] #[{ accessFlags := 0, nameIndex := 7, descriptorIndex := 8, attributes := #[] }, { accessFlags := 0, nameIndex := 7, descriptorIndex := 103, attributes := #[] }, { accessFlags := 1, nameIndex := 34, descriptorIndex := 35, attributes := #[] }, { accessFlags := 2, nameIndex := 102, descriptorIndex := 103, attributes := #[] }, { accessFlags := 2, nameIndex := 127, descriptorIndex := 8, attributes := #[] }, { accessFlags := 1, nameIndex := 45, descriptorIndex := 46, attributes := #[] }, { accessFlags := 16, nameIndex := 552, descriptorIndex := 403, attributes := #[] }, { accessFlags := 16, nameIndex := 85, descriptorIndex := 86, attributes := #[] }, { accessFlags := 2, nameIndex := 217, descriptorIndex := 69, attributes := #[] }, { accessFlags := 2, nameIndex := 210, descriptorIndex := 211, attributes := #[] }] 1056 4 #[444, 48] #[{ accessFlags := 0, nameIndex := 17, descriptorIndex := 14, attributes := #[] }, { accessFlags := 0, nameIndex := 24, descriptorIndex := 25, attributes := #[] }, { accessFlags := 0, nameIndex := 75, descriptorIndex := 21, attributes := #[] }, { accessFlags := 0, nameIndex := 81, descriptorIndex := 82, attributes := #[] }, { accessFlags := 26, nameIndex := 13, descriptorIndex := 14, attributes := #[] }])
  fields := #[{ name := "value", type := (.array .byte), accessFlags := 0, slot := 0, constantValue := 0 }, { name := "coder", type := .byte, accessFlags := 0, slot := 1, constantValue := 0 }, { name := "maybeLatin1", type := .boolean, accessFlags := 0, slot := 2, constantValue := 0 }, { name := "count", type := .int, accessFlags := 0, slot := 3, constantValue := 0 }, { name := "EMPTYVALUE", type := (.array .byte), accessFlags := 26, slot := 0, constantValue := 0 }]
  methods := #[k12m0, k12m1, k12m2, k12m3, k12m4, k12m5, k12m6, k12m7, k12m8, k12m9]
  instanceTypes := #[(.array .byte), .byte, .boolean, .int]
  staticTypes := #[(.array .byte)]
  resolved := Array.replicate 609 none
  statics := none }

def pool13 : Array CpInfo := pool [(1, .methodref 2 3), (0, .class_ 4), (0, .nameAndType 5 6), (0, u "java/lang/AbstractStringBuilder"), (0, u "<init>"), (0, u "(I)V"), (11, .class_ 20), (1, u "java/lang/String"), (3, .class_ 26), (1, u "java/lang/StringBuilder"), (0, u "append"), (0, u "(Ljava/lang/String;)Ljava/lang/StringBuilder;"), (0, .methodref 2 30), (0, .nameAndType 27 31), (0, u "(Ljava/lang/String;)Ljava/lang/AbstractStringBuilder;"), (105, .methodref 18 138), (0, .nameAndType 5 139), (0, u "(Ljava/lang/StringBuilder;)V"), (5, u "()V"), (10, u "()I"), (186, .methodref 2 344), (0, .nameAndType 345 156), (0, u "length"), (3, .class_ 350), (0, u "java/lang/Appendable"), (0, .class_ 352), (0, u "java/io/Serializable"), (0, .class_ 354), (0, u "java/lang/Comparable"), (0, .class_ 356), (0, u "java/lang/CharSequence"), (0, u "serialVersionUID"), (0, u "J"), (40, u "toString"), (0, u "()Ljava/lang/String;")] 21

def k13c0 : Code := { maxStack := 2, maxLocals := 1, code := jdk_67_method_1_code, exceptionTable := #[], attributes := #[] }
def k13m0 : Method := { name := "<init>", desc := "()V", sig := { parameters := [], returnType := none }, accessFlags := 1, code := some k13c0 }
def k13c1 : Code := { maxStack := 2, maxLocals := 2, code := jdk_67_method_7_code, exceptionTable := #[], attributes := #[] }
def k13m1 : Method := { name := "append", desc := "(Ljava/lang/String;)Ljava/lang/StringBuilder;", sig := { parameters := [(.object "java/lang/String")], returnType := some (.object "java/lang/StringBuilder") }, accessFlags := 1, code := some k13c1 }
def k13c2 : Code := { maxStack := 3, maxLocals := 1, code := jdk_67_method_42_code, exceptionTable := #[], attributes := #[] }
def k13m2 : Method := { name := "toString", desc := "()Ljava/lang/String;", sig := { parameters := [], returnType := some (.object "java/lang/String") }, accessFlags := 1, code := some k13c2 }
def k13c3 : Code := { maxStack := 1, maxLocals := 1, code := jdk_67_method_93_code, exceptionTable := #[], attributes := #[] }
def k13m3 : Method := { name := "length", desc := "()I", sig := { parameters := [], returnType := some .int }, accessFlags := 4161, code := some k13c3 }
/-- java/lang/StringBuilder -/
def k13 : Class := { plain "java/lang/StringBuilder" (some 12) with
  accessFlags := 49
  interfaces := #[11, 2, 3, 4]
  cf := some (fileOf pool13 24 #[] #[{ accessFlags := 1, nameIndex := 5, descriptorIndex := 145, attributes := #[] }, { accessFlags := 1, nameIndex := 27, descriptorIndex := 28, attributes := #[] }, { accessFlags := 1, nameIndex := 399, descriptorIndex := 400, attributes := #[] }, { accessFlags := 4161, nameIndex := 345, descriptorIndex := 156, attributes := #[] }] 49 2 #[349, 351, 353, 355] #[{ accessFlags := 24, nameIndex := 357, descriptorIndex := 358, attributes := #[] }])
  fields := #[{ name := "serialVersionUID", type := .long, accessFlags := 24, slot := 0, constantValue := 0 }]
  methods := #[k13m0, k13m1, k13m2, k13m3]
  instanceTypes := #[(.array .byte), .byte, .boolean, .int]
  staticTypes := #[.long]
  resolved := Array.replicate 422 none
  statics := none }

def pool14 : Array CpInfo := pool [(2, .class_ 4), (1, u "java/lang/Object"), (0, u "<init>"), (0, u "()V"), (1, .class_ 10), (1, u "java/lang/System"), (0, u "allowSecurityManager"), (0, u "I"), (16, u "cons"), (0, u "Ljava/io/Console;"), (77, .class_ 110), (1, u "java/lang/System$CallersHolder"), (43, u "initialErrStream"), (0, u "Ljava/io/PrintStream;"), (19, u "security"), (0, u "Ljava/lang/SecurityManager;"), (31, .class_ 209), (0, u "java/lang/System$1"), (7, u "props"), (0, u "Ljava/util/Properties;"), (2, u "lineSeparator"), (0, u "Ljava/lang/String;"), (96, .class_ 321), (1, u "java/lang/System$LoggerFinder"), (5, .class_ 328), (0, u "java/lang/System$Logger"), (67, u "err"), (2, u "out"), (91, u "notSupportedJnuEncoding"), (15, u "in"), (17, u "initialIn"), (0, u "Ljava/io/InputStream;"), (35, u "bootLayer"), (0, u "Ljava/lang/ModuleLayer;"), (99, .class_ 664), (0, u "java/lang/System$2"), (9, u "NEVER"), (2, u "MAYBE"), (49, u "arraycopy"), (0, u "(Ljava/lang/Object;ILjava/lang/Object;II)V"), (72, .class_ 802), (0, u "java/lang/System$Logger$Level")] 31

def k14m0 : Method := { name := "<init>", desc := "()V", sig := { parameters := [], returnType := none }, accessFlags := 2, code := none }
def k14m1 : Method := { name := "arraycopy", desc := "(Ljava/lang/Object;ILjava/lang/Object;II)V", sig := { parameters := [(.object "java/lang/Object"), .int, (.object "java/lang/Object"), .int, .int], returnType := none }, accessFlags := 265, code := none }
/-- java/lang/System -/
def k14 : Class := { plain "java/lang/System" (some 0) with
  accessFlags := 49
  interfaces := #[]
  cf := some (fileOf pool14 8 #[.nestMembers #[319, 327, 801, 108, 663, 208]] #[{ accessFlags := 2, nameIndex := 5, descriptorIndex := 6, attributes := #[] }, { accessFlags := 265, nameIndex := 727, descriptorIndex := 728, attributes := #[] }] 49 2 #[] #[{ accessFlags := 25, nameIndex := 507, descriptorIndex := 526, attributes := #[] }, { accessFlags := 25, nameIndex := 399, descriptorIndex := 155, attributes := #[] }, { accessFlags := 25, nameIndex := 396, descriptorIndex := 155, attributes := #[] }, { accessFlags := 10, nameIndex := 525, descriptorIndex := 526, attributes := #[] }, { accessFlags := 26, nameIndex := 674, descriptorIndex := 12, attributes := #[] }, { accessFlags := 26, nameIndex := 677, descriptorIndex := 12, attributes := #[] }, { accessFlags := 10, nameIndex := 11, descriptorIndex := 12, attributes := #[] }, { accessFlags := 74, nameIndex := 175, descriptorIndex := 176, attributes := #[] }, { accessFlags := 10, nameIndex := 491, descriptorIndex := 222, attributes := #[] }, { accessFlags := 74, nameIndex := 29, descriptorIndex := 30, attributes := #[] }, { accessFlags := 74, nameIndex := 154, descriptorIndex := 155, attributes := #[] }, { accessFlags := 10, nameIndex := 217, descriptorIndex := 218, attributes := #[] }, { accessFlags := 10, nameIndex := 221, descriptorIndex := 222, attributes := #[] }, { accessFlags := 8, nameIndex := 562, descriptorIndex := 563, attributes := #[] }])
  fields := #[{ name := "in", type := (.object "java/io/InputStream"), accessFlags := 25, slot := 0, constantValue := 0 }, { name := "out", type := (.object "java/io/PrintStream"), accessFlags := 25, slot := 1, constantValue := 0 }, { name := "err", type := (.object "java/io/PrintStream"), accessFlags := 25, slot := 2, constantValue := 0 }, { name := "initialIn", type := (.object "java/io/InputStream"), accessFlags := 10, slot := 3, constantValue := 0 }, { name := "NEVER", type := .int, accessFlags := 26, slot := 4, constantValue := 0 }, { name := "MAYBE", type := .int, accessFlags := 26, slot := 5, constantValue := 0 }, { name := "allowSecurityManager", type := .int, accessFlags := 10, slot := 6, constantValue := 0 }, { name := "security", type := (.object "java/lang/SecurityManager"), accessFlags := 74, slot := 7, constantValue := 0 }, { name := "notSupportedJnuEncoding", type := (.object "java/lang/String"), accessFlags := 10, slot := 8, constantValue := 0 }, { name := "cons", type := (.object "java/io/Console"), accessFlags := 74, slot := 9, constantValue := 0 }, { name := "initialErrStream", type := (.object "java/io/PrintStream"), accessFlags := 74, slot := 10, constantValue := 0 }, { name := "props", type := (.object "java/util/Properties"), accessFlags := 10, slot := 11, constantValue := 0 }, { name := "lineSeparator", type := (.object "java/lang/String"), accessFlags := 10, slot := 12, constantValue := 0 }, { name := "bootLayer", type := (.object "java/lang/ModuleLayer"), accessFlags := 8, slot := 13, constantValue := 0 }]
  methods := #[k14m0, k14m1]
  instanceTypes := #[]
  staticTypes := #[(.object "java/io/InputStream"), (.object "java/io/PrintStream"), (.object "java/io/PrintStream"), (.object "java/io/InputStream"), .int, .int, .int, (.object "java/lang/SecurityManager"), (.object "java/lang/String"), (.object "java/io/Console"), (.object "java/io/PrintStream"), (.object "java/util/Properties"), (.object "java/lang/String"), (.object "java/lang/ModuleLayer")]
  resolved := Array.replicate 834 none
  statics := none }

def pool15 : Array CpInfo := pool [(2, .class_ 4), (1, u "java/lang/Object"), (0, u "<init>"), (0, u "()V"), (7, .class_ 16), (1, u "java/util/Arrays"), (57, .class_ 76), (1, u "java/util/Arrays$NaturalOrder"), (36, .class_ 115), (1, u "java/util/Arrays$LegacyMergeSort"), (1, u "Z"), (21, u "copyOfRange"), (10, .methodref 151 152), (0, .class_ 153), (0, .nameAndType 154 155), (0, u "java/lang/System"), (0, u "arraycopy"), (0, u "(Ljava/lang/Object;ILjava/lang/Object;II)V"), (148, .methodref 305 306), (0, .class_ 307), (0, .nameAndType 308 309), (0, u "java/lang/Math"), (0, u "min"), (0, u "(II)I"), (29, .methodref 14 340), (0, .nameAndType 341 342), (0, u "copyOfRangeByte"), (0, u "([BII)[B"), (0, .methodref 14 344), (0, .nameAndType 345 346), (0, u "checkLength"), (0, u "(II)V"), (28, .class_ 376), (0, u "java/util/Arrays$ArrayList"), (68, u "$assertionsDisabled"), (269, u "MIN_ARRAY_SORT_GRAN"), (0, u "I"), (2, u "INSERTIONSORT_THRESHOLD"), (255, .class_ 976), (0, u "java/util/Arrays$ArrayItr")] 52

def k15m0 : Method := { name := "<init>", desc := "()V", sig := { parameters := [], returnType := none }, accessFlags := 2, code := none }
def k15c1 : Code := { maxStack := 4, maxLocals := 2, code := jdk_65_method_131_code, exceptionTable := #[], attributes := #[] }
def k15m1 : Method := { name := "checkLength", desc := "(II)V", sig := { parameters := [.int, .int], returnType := none }, accessFlags := 10, code := some k15c1 }
def k15c2 : Code := { maxStack := 3, maxLocals := 3, code := jdk_65_method_132_code, exceptionTable := #[], attributes := #[] }
def k15m2 : Method := { name := "copyOfRange", desc := "([BII)[B", sig := { parameters := [(.array .byte), .int, .int], returnType := some (.array .byte) }, accessFlags := 9, code := some k15c2 }
def k15c3 : Code := { maxStack := 6, maxLocals := 5, code := jdk_65_method_133_code, exceptionTable := #[], attributes := #[] }
def k15m3 : Method := { name := "copyOfRangeByte", desc := "([BII)[B", sig := { parameters := [(.array .byte), .int, .int], returnType := some (.array .byte) }, accessFlags := 10, code := some k15c3 }
/-- java/util/Arrays -/
def k15 : Class := { plain "java/util/Arrays" (some 0) with
  accessFlags := 49
  interfaces := #[]
  cf := some (fileOf pool15 14 #[.nestMembers #[975, 375, 113, 74]] #[{ accessFlags := 2, nameIndex := 5, descriptorIndex := 6, attributes := #[] }, { accessFlags := 10, nameIndex := 345, descriptorIndex := 346, attributes := #[] }, { accessFlags := 9, nameIndex := 139, descriptorIndex := 342, attributes := #[] }, { accessFlags := 10, nameIndex := 341, descriptorIndex := 342, attributes := #[] }] 49 2 #[] #[{ accessFlags := 26, nameIndex := 715, descriptorIndex := 716, attributes := #[] }, { accessFlags := 26, nameIndex := 719, descriptorIndex := 716, attributes := #[] }, { accessFlags := 4120, nameIndex := 445, descriptorIndex := 117, attributes := #[] }])
  fields := #[{ name := "MIN_ARRAY_SORT_GRAN", type := .int, accessFlags := 26, slot := 0, constantValue := 0 }, { name := "INSERTIONSORT_THRESHOLD", type := .int, accessFlags := 26, slot := 1, constantValue := 0 }, { name := "$assertionsDisabled", type := .boolean, accessFlags := 4120, slot := 2, constantValue := 0 }]
  methods := #[k15m0, k15m1, k15m2, k15m3]
  instanceTypes := #[]
  staticTypes := #[.int, .int, .boolean]
  resolved := Array.replicate 1029 none
  statics := none }

def pool16 : Array CpInfo := pool [(1, .class_ 2), (0, u "java/lang/Math"), (1, .class_ 6), (1, u "java/lang/Object"), (0, u "<init>"), (0, u "()V"), (89, .class_ 100), (1, u "java/lang/Math$RandomNumberGeneratorHolder"), (71, u "negativeZeroFloatBits"), (0, u "J"), (2, u "negativeZeroDoubleBits"), (24, u "min"), (43, u "$assertionsDisabled"), (0, u "Z"), (88, u "(II)I"), (2, u "twoToTheDoubleScaleDown"), (0, u "D"), (4, u "twoToTheDoubleScaleUp"), (9, u "E"), (3, u "PI"), (2, u "TAU"), (2, u "DEGREES_TO_RADIANS"), (0, u "RADIANS_TO_DEGREES")] 94

def k16m0 : Method := { name := "<init>", desc := "()V", sig := { parameters := [], returnType := none }, accessFlags := 2, code := none }
def k16c1 : Code := { maxStack := 2, maxLocals := 2, code := jdk_29_method_69_code, exceptionTable := #[], attributes := #[] }
def k16m1 : Method := { name := "min", desc := "(II)I", sig := { parameters := [.int, .int], returnType := some .int }, accessFlags := 9, code := some k16c1 }
/-- java/lang/Math -/
def k16 : Class := { plain "java/lang/Math" (some 0) with
  accessFlags := 49
  interfaces := #[]
  cf := some (fileOf pool16 1 #[.nestMembers #[98]] #[{ accessFlags := 2, nameIndex := 7, descriptorIndex := 8, attributes := #[] }, { accessFlags := 9, nameIndex := 201, descriptorIndex := 335, attributes := #[] }] 49 4 #[] #[{ accessFlags := 25, nameIndex := 354, descriptorIndex := 339, attributes := #[] }, { accessFlags := 25, nameIndex := 358, descriptorIndex := 339, attributes := #[] }, { accessFlags := 25, nameIndex := 361, descriptorIndex := 339, attributes := #[] }, { accessFlags := 26, nameIndex := 364, descriptorIndex := 339, attributes := #[] }, { accessFlags := 26, nameIndex := 365, descriptorIndex := 339, attributes := #[] }, { accessFlags := 26, nameIndex := 172, descriptorIndex := 173, attributes := #[] }, { accessFlags := 26, nameIndex := 176, descriptorIndex := 173, attributes := #[] }, { accessFlags := 8, nameIndex := 344, descriptorIndex := 339, attributes := #[] }, { accessFlags := 8, nameIndex := 338, descriptorIndex := 339, attributes := #[] }, { accessFlags := 4120, nameIndex := 245, descriptorIndex := 246, attributes := #[] }])
  fields := #[{ name := "E", type := .double, accessFlags := 25, slot := 0, constantValue := 0 }, { name := "PI", type := .double, accessFlags := 25, slot := 1, constantValue := 0 }, { name := "TAU", type := .double, accessFlags := 25, slot := 2, constantValue := 0 }, { name := "DEGREES_TO_RADIANS", type := .double, accessFlags := 26, slot := 3, constantValue := 0 }, { name := "RADIANS_TO_DEGREES", type := .double, accessFlags := 26, slot := 4, constantValue := 0 }, { name := "negativeZeroFloatBits", type := .long, accessFlags := 26, slot := 5, constantValue := 0 }, { name := "negativeZeroDoubleBits", type := .long, accessFlags := 26, slot := 6, constantValue := 0 }, { name := "twoToTheDoubleScaleUp", type := .double, accessFlags := 8, slot := 7, constantValue := 0 }, { name := "twoToTheDoubleScaleDown", type := .double, accessFlags := 8, slot := 8, constantValue := 0 }, { name := "$assertionsDisabled", type := .boolean, accessFlags := 4120, slot := 9, constantValue := 0 }]
  methods := #[k16m0, k16m1]
  instanceTypes := #[]
  staticTypes := #[.double, .double, .double, .double, .double, .long, .long, .double, .double, .boolean]
  resolved := Array.replicate 460 none
  statics := none }

def pool17 : Array CpInfo := pool [(1, .class_ 2), (0, u "java/lang/String"), (1, .class_ 6), (1, u "java/lang/Object"), (0, u "<init>"), (0, u "()V"), (0, .methodref 1 10), (0, .nameAndType 11 12), (0, u "checkIndex"), (0, u "(II)V"), (1, .class_ 16), (1, u "java/lang/StringLatin1"), (0, u "inflate"), (2, .class_ 22), (1, u "java/lang/StringUTF16"), (3, .nameAndType 17 27), (0, u "([BI[BII)V"), (25, u "([BI)C"), (67, u "$assertionsDisabled"), (0, u "Z"), (98, .class_ 223), (1, u "java/lang/StringLatin1$LinesSpliterator"), (16, .methodref 20 26), (11, u "charAt"), (137, .class_ 391), (0, u "java/lang/StringLatin1$CharsSpliterator")] 3

def k17m0 : Method := { name := "<init>", desc := "()V", sig := { parameters := [], returnType := none }, accessFlags := 0, code := none }
def k17c1 : Code := { maxStack := 2, maxLocals := 2, code := jdk_43_method_2_code, exceptionTable := #[], attributes := #[] }
def k17m1 : Method := { name := "charAt", desc := "([BI)C", sig := { parameters := [(.array .byte), .int], returnType := some .char }, accessFlags := 9, code := some k17c1 }
def k17c2 : Code := { maxStack := 5, maxLocals := 5, code := jdk_43_method_50_code, exceptionTable := #[], attributes := #[] }
def k17m2 : Method := { name := "inflate", desc := "([BI[BII)V", sig := { parameters := [(.array .byte), .int, (.array .byte), .int, .int], returnType := none }, accessFlags := 9, code := some k17c2 }
/-- java/lang/StringLatin1 -/
def k17 : Class := { plain "java/lang/StringLatin1" (some 0) with
  accessFlags := 48
  interfaces := #[]
  cf := some (fileOf pool17 14 #[.nestMembers #[390, 221]] #[{ accessFlags := 0, nameIndex := 7, descriptorIndex := 8, attributes := #[] }, { accessFlags := 9, nameIndex := 252, descriptorIndex := 53, attributes := #[] }, { accessFlags := 9, nameIndex := 17, descriptorIndex := 27, attributes := #[] }] 48 4 #[] #[{ accessFlags := 4120, nameIndex := 121, descriptorIndex := 122, attributes := #[] }])
  fields := #[{ name := "$assertionsDisabled", type := .boolean, accessFlags := 4120, slot := 0, constantValue := 0 }]
  methods := #[k17m0, k17m1, k17m2]
  instanceTypes := #[]
  staticTypes := #[.boolean]
  resolved := Array.replicate 395 none
  statics := none }

def pool18 : Array CpInfo := pool [(2, .class_ 4), (1, u "java/lang/Object"), (0, u "<init>"), (0, u "()V"), (17, .class_ 26), (1, u "jdk/internal/util/Preconditions"), (6, u "checkIndex"), (15, u "checkFromIndexSize"), (5, .class_ 56), (0, u "jdk/internal/util/Preconditions$4"), (57, .class_ 115), (0, u "jdk/internal/util/Preconditions$1"), (7, u "SIOOBE_FORMATTER"), (0, u "Ljava/util/function/BiFunction;"), (0, .class_ 126), (0, u "jdk/internal/util/Preconditions$2"), (3, u "AIOOBE_FORMATTER"), (0, .class_ 132), (0, u "jdk/internal/util/Preconditions$3"), (3, u "IOOBE_FORMATTER"), (41, u "(IILjava/util/function/BiFunction;)I"), (4, u "(IIILjava/util/function/BiFunction;)I")] 10

def k18m0 : Method := { name := "<init>", desc := "()V", sig := { parameters := [], returnType := none }, accessFlags := 1, code := none }
def k18c1 : Code := { maxStack := 3, maxLocals := 3, code := jdk_41_method_11_code, exceptionTable := #[], attributes := #[] }
def k18m1 : Method := { name := "checkIndex", desc := "(IILjava/util/function/BiFunction;)I", sig := { parameters := [.int, .int, (.object "java/util/function/BiFunction")], returnType := some .int }, accessFlags := 9, code := some k18c1 }
def k18c2 : Code := { maxStack := 4, maxLocals := 4, code := jdk_41_method_13_code, exceptionTable := #[], attributes := #[] }
def k18m2 : Method := { name := "checkFromIndexSize", desc := "(IIILjava/util/function/BiFunction;)I", sig := { parameters := [.int, .int, .int, (.object "java/util/function/BiFunction")], returnType := some .int }, accessFlags := 9, code := some k18c2 }
/-- jdk/internal/util/Preconditions -/
def k18 : Class := { plain "jdk/internal/util/Preconditions" (some 0) with
  accessFlags := 33
  interfaces := #[]
  cf := some (fileOf pool18 24 #[.nestMembers #[55, 131, 125, 114]] #[{ accessFlags := 1, nameIndex := 5, descriptorIndex := 6, attributes := #[] }, { accessFlags := 9, nameIndex := 33, descriptorIndex := 178, attributes := #[] }, { accessFlags := 9, nameIndex := 49, descriptorIndex := 183, attributes := #[] }] 33 2 #[] #[{ accessFlags := 25, nameIndex := 123, descriptorIndex := 124, attributes := #[] }, { accessFlags := 25, nameIndex := 130, descriptorIndex := 124, attributes := #[] }, { accessFlags := 25, nameIndex := 136, descriptorIndex := 124, attributes := #[] }])
  fields := #[{ name := "SIOOBE_FORMATTER", type := (.object "java/util/function/BiFunction"), accessFlags := 25, slot := 0, constantValue := 0 }, { name := "AIOOBE_FORMATTER", type := (.object "java/util/function/BiFunction"), accessFlags := 25, slot := 1, constantValue := 0 }, { name := "IOOBE_FORMATTER", type := (.object "java/util/function/BiFunction"), accessFlags := 25, slot := 2, constantValue := 0 }]
  methods := #[k18m0, k18m1, k18m2]
  instanceTypes := #[]
  staticTypes := #[(.object "java/util/function/BiFunction"), (.object "java/util/function/BiFunction"), (.object "java/util/function/BiFunction")]
  resolved := Array.replicate 194 none
  statics := some 2 }

def pool19 : Array CpInfo := pool [(9, u "<init>"), (6, .class_ 18), (1, u "java/lang/Object"), (0, u "()V"), (1, .class_ 23), (1, u "jdk/internal/util/ArraysSupport"), (0, u "LOG2_ARRAY_LONG_INDEX_SCALE"), (0, u "I"), (2, u "U"), (0, u "Ljdk/internal/misc/Unsafe;"), (8, u "BIG_ENDIAN"), (0, u "Z"), (8, u "LOG2_BYTE_BIT_SIZE"), (4, u "LOG2_ARRAY_INT_INDEX_SCALE"), (54, u "JLA"), (0, u "Ljdk/internal/access/JavaLangAccess;"), (11, u "LOG2_ARRAY_BOOLEAN_INDEX_SCALE"), (9, u "LOG2_ARRAY_BYTE_INDEX_SCALE"), (5, u "LOG2_ARRAY_CHAR_INDEX_SCALE"), (5, u "LOG2_ARRAY_SHORT_INDEX_SCALE"), (18, u "LOG2_ARRAY_FLOAT_INDEX_SCALE"), (24, u "LOG2_ARRAY_DOUBLE_INDEX_SCALE"), (89, u "T_BOOLEAN"), (2, u "T_CHAR"), (1, u "T_FLOAT"), (1, u "T_DOUBLE"), (1, u "T_BYTE"), (1, u "T_SHORT"), (1, u "T_INT"), (1, u "T_LONG"), (1, u "SOFT_MAX_ARRAY_LENGTH")] 83

def k19m0 : Method := { name := "<init>", desc := "()V", sig := { parameters := [], returnType := none }, accessFlags := 2, code := none }
/-- jdk/internal/util/ArraysSupport -/
def k19 : Class := { plain "jdk/internal/util/ArraysSupport" (some 0) with
  accessFlags := 33
  interfaces := #[]
  cf := some (fileOf pool19 21 #[] #[{ accessFlags := 2, nameIndex := 9, descriptorIndex := 19, attributes := #[] }] 33 16 #[] #[{ accessFlags := 24, nameIndex := 28, descriptorIndex := 29, attributes := #[] }, { accessFlags := 26, nameIndex := 38, descriptorIndex := 39, attributes := #[] }, { accessFlags := 25, nameIndex := 121, descriptorIndex := 25, attributes := #[] }, { accessFlags := 25, nameIndex := 131, descriptorIndex := 25, attributes := #[] }, { accessFlags := 25, nameIndex := 137, descriptorIndex := 25, attributes := #[] }, { accessFlags := 25, nameIndex := 143, descriptorIndex := 25, attributes := #[] }, { accessFlags := 25, nameIndex := 53, descriptorIndex := 25, attributes := #[] }, { accessFlags := 25, nameIndex := 24, descriptorIndex := 25, attributes := #[] }, { accessFlags := 25, nameIndex := 162, descriptorIndex := 25, attributes := #[] }, { accessFlags := 25, nameIndex := 187, descriptorIndex := 25, attributes := #[] }, { accessFlags := 26, nameIndex := 48, descriptorIndex := 25, attributes := #[] }, { accessFlags := 25, nameIndex := 277, descriptorIndex := 25, attributes := #[] }, { accessFlags := 25, nameIndex := 280, descriptorIndex := 25, attributes := #[] }, { accessFlags := 25, nameIndex := 282, descriptorIndex := 25, attributes := #[] }, { accessFlags := 25, nameIndex := 284, descriptorIndex := 25, attributes := #[] }, { accessFlags := 25, nameIndex := 286, descriptorIndex := 25, attributes := #[] }, { accessFlags := 25, nameIndex := 288, descriptorIndex := 25, attributes := #[] }, { accessFlags := 25, nameIndex := 290, descriptorIndex := 25, attributes := #[] }, { accessFlags := 25, nameIndex := 292, descriptorIndex := 25, attributes := #[] }, { accessFlags := 26, nameIndex := 108, descriptorIndex := 109, attributes := #[] }, { accessFlags := 25, nameIndex := 294, descriptorIndex := 25, attributes := #[] }])
  fields := #[{ name := "U", type := (.object "jdk/internal/misc/Unsafe"), accessFlags := 24, slot := 0, constantValue := 0 }, { name := "BIG_ENDIAN", type := .boolean, accessFlags := 26, slot := 1, constantValue := 0 }, { name := "LOG2_ARRAY_BOOLEAN_INDEX_SCALE", type := .int, accessFlags := 25, slot := 2, constantValue := 0 }, { name := "LOG2_ARRAY_BYTE_INDEX_SCALE", type := .int, accessFlags := 25, slot := 3, constantValue := 0 }, { name := "LOG2_ARRAY_CHAR_INDEX_SCALE", type := .int, accessFlags := 25, slot := 4, constantValue := 0 }, { name := "LOG2_ARRAY_SHORT_INDEX_SCALE", type := .int, accessFlags := 25, slot := 5, constantValue := 0 }, { name := "LOG2_ARRAY_INT_INDEX_SCALE", type := .int, accessFlags := 25, slot := 6, constantValue := 0 }, { name := "LOG2_ARRAY_LONG_INDEX_SCALE", type := .int, accessFlags := 25, slot := 7, constantValue := 0 }, { name := "LOG2_ARRAY_FLOAT_INDEX_SCALE", type := .int, accessFlags := 25, slot := 8, constantValue := 0 }, { name := "LOG2_ARRAY_DOUBLE_INDEX_SCALE", type := .int, accessFlags := 25, slot := 9, constantValue := 0 }, { name := "LOG2_BYTE_BIT_SIZE", type := .int, accessFlags := 26, slot := 10, constantValue := 0 }, { name := "T_BOOLEAN", type := .int, accessFlags := 25, slot := 11, constantValue := 0 }, { name := "T_CHAR", type := .int, accessFlags := 25, slot := 12, constantValue := 0 }, { name := "T_FLOAT", type := .int, accessFlags := 25, slot := 13, constantValue := 0 }, { name := "T_DOUBLE", type := .int, accessFlags := 25, slot := 14, constantValue := 0 }, { name := "T_BYTE", type := .int, accessFlags := 25, slot := 15, constantValue := 0 }, { name := "T_SHORT", type := .int, accessFlags := 25, slot := 16, constantValue := 0 }, { name := "T_INT", type := .int, accessFlags := 25, slot := 17, constantValue := 0 }, { name := "T_LONG", type := .int, accessFlags := 25, slot := 18, constantValue := 0 }, { name := "JLA", type := (.object "jdk/internal/access/JavaLangAccess"), accessFlags := 26, slot := 19, constantValue := 0 }, { name := "SOFT_MAX_ARRAY_LENGTH", type := .int, accessFlags := 25, slot := 20, constantValue := 0 }]
  methods := #[k19m0]
  instanceTypes := #[]
  staticTypes := #[(.object "jdk/internal/misc/Unsafe"), .boolean, .int, .int, .int, .int, .int, .int, .int, .int, .int, .int, .int, .int, .int, .int, .int, .int, .int, (.object "jdk/internal/access/JavaLangAccess"), .int]
  resolved := Array.replicate 378 none
  statics := none }

def pool20 : Array CpInfo := pool [(1, u "java/lang/Cloneable"), (0, .class_ 1), (0, u "java/lang/Object"), (0, .class_ 3)] 3

/-- java/lang/Cloneable -/
def k20 : Class := { plain "java/lang/Cloneable" (some 0) with
  accessFlags := 1537
  interfaces := #[]
  cf := some (fileOf pool20 2 #[] #[] 1537 4 #[] #[])
  fields := #[]
  methods := #[]
  instanceTypes := #[]
  staticTypes := #[]
  resolved := Array.replicate 8 none
  statics := none }

/-- the primitive byte -/
def k21 : Class := { plain "byte" none with kind := .primitive 'B', accessFlags := 0x411 }
/-- [B -/
def k22 : Class := { plain "[B" (some 0) with kind := .array 21 .byte, interfaces := #[20, 2], accessFlags := 1041 }

/-- the primitive char -/
def k23 : Class := { plain "char" none with kind := .primitive 'C', accessFlags := 0x411 }
/-- [C -/
def k24 : Class := { plain "[C" (some 0) with kind := .array 23 .char, interfaces := #[20, 2], accessFlags := 1041 }

/-- the primitive int -/
def k25 : Class := { plain "int" none with kind := .primitive 'I', accessFlags := 0x411 }
/-- [I -/
def k26 : Class := { plain "[I" (some 0) with kind := .array 25 .int, interfaces := #[20, 2], accessFlags := 1041 }

def heap : Heap := #[{ cls := 7, slots := #[.long 0, .int 1, .null, .int 0, .null, .int 0, .int 0], vm := .statics 7 },
  { cls := 8, slots := #[.int 0, .int 8, .int 0, .int 1], vm := .statics 8 },
  { cls := 18, slots := #[.null, .null, .null], vm := .statics 18 }]
def classes : Array Class := #[k0, k1, k2, k3, k4, k5, k6, k7, k8, k9, k10, k11, k12, k13, k14, k15, k16, k17, k18, k19, k20, k21, k22, k23, k24, k25, k26]
def interned : List (Array UInt16 × Addr) := []
def slotsUsed : Nat := 14
def theMethod : MethodId := ⟨1, 1⟩
def args0 : Array Value := #[.int 5, .int 5, .int 5, .long 5]
def aboutOver (below : List Frame) : State where
  vm := { classes := classes, interned := interned.toArray }
  heap := heap
  slotsUsed := slotsUsed
  threads := #[{ frames := .invoking theMethod args0 :: below }]
def below0 : List Frame := [.native { method := ⟨0, 0⟩, args := #[] }]
def about1 : State := aboutOver below0
def p0 : Program := .bare "" "" ""
def e0 : Env := launch0.env 0 0 0
theorem w_frames : about1.frames = Frame.invoking theMethod args0 :: below0 := rfl
set_option maxRecDepth 65536 in
theorem w_args : argsFit about1.vm theMethod args0 = true := by decide +kernel
set_option maxRecDepth 65536 in
theorem w_heap : heapFits about1 = true := by decide +kernel
set_option maxRecDepth 65536 in
theorem w_runnable : about1.curStatus? = some .runnable := by decide +kernel
set_option maxRecDepth 65536 in
theorem w_alone : about1.alone = true := by decide +kernel
set_option maxRecDepth 65536 in
theorem w_named : about1.methodNamed? x = some theMethod := by decide +kernel
set_option maxRecDepth 65536 in
theorem w_hears : about1.hears theMethod below0 = true := by decide +kernel
set_option maxRecDepth 65536 in
theorem w_ripe : about1.ripe theMethod args0 below0 = true := by decide +kernel
theorem w_running : about1.status = .running := rfl
set_option maxRecDepth 65536 in
theorem w_room : about1.hasRoom e0.platform room_1 = true :=
  launch0.hasRoom_least _ room_1 (by decide +kernel) (by decide +kernel) (by decide +kernel) (by decide +kernel) (by decide +kernel) (by decide +kernel)
theorem allAtoms_all (ts : List Jvm.Cond) (a : Array Jvm.Value) (st : Jvm.State) : (allAtoms ts).before a st = ts.all (fun c => c.before a st) := by
  induction ts with
  | nil => rfl
  | cons c t ih =>
    show (Jvm.Cond.and c (allAtoms t)).before a st = _
    rw [Jvm.Cond.before_and, ih, List.all_cons]
def words1 : List Jvm.Cond := Jvm.Cond.code x code maxLocals ret :: tables_1
/-- a 'code' word, met by the world's own term for the bytes: nothing is compared byte by byte -/
theorem code_word {y : MethodName} {bytes : ByteArray} {mx : Nat} {rt : Option FieldType} {a : Array Value} {s : State} {m : MethodId} {meth : Method} {c : Code} (h1 : s.methodNamed? y = some m) (h2 : s.vm.method? m = some meth) (h3 : meth.code = some c) (h4 : c.code = bytes)
    (h5 : (c.maxLocals == mx && c.exceptionTable.isEmpty && decide (c.maxStack ≤ mostOperands) && decide (meth.sig.returnType = rt) && !meth.locks && decide (parseMethodDescriptor y.desc = some meth.sig)) = true) : (Jvm.Cond.code y bytes mx rt).before a s = true := by
  simp only [Bool.and_eq_true, beq_iff_eq, Bool.not_eq_true', decide_eq_true_eq] at h5
  obtain ⟨⟨⟨⟨⟨g1, g2⟩, g3⟩, g4⟩, g5⟩, g6⟩ := h5
  simp [Cond.before, Cond.holds, Cond.value, h1, h2, h3, h4, g1, g2, g3, g4, g5, g6]
def isCode : Jvm.Cond → Bool
  | .code _ _ _ _ => true
  | _ => false
theorem all_split {L : List Jvm.Cond} {P : Jvm.Cond → Bool} (h1 : L.all (fun c => isCode c || P c) = true) (h2 : ∀ c ∈ L.filter isCode, P c = true) : L.all P = true := by
  refine List.all_eq_true.mpr fun c hc => ?_
  have h := List.all_eq_true.mp h1 c hc
  rcases Bool.eq_false_or_eq_true (isCode c) with hi | hi
  · exact h2 c (List.mem_filter.mpr ⟨hc, hi⟩)
  · simpa [hi] using h
set_option maxRecDepth 65536 in
theorem w_c0 : (Jvm.Cond.code x code maxLocals ret).before args0 about1 = true := code_word (m := ⟨1, 1⟩) (meth := k1m1) (c := k1c1) (by decide +kernel) rfl rfl rfl (by decide +kernel)
set_option maxRecDepth 65536 in
theorem w_c1 : (Jvm.Cond.code ({ cls := "java/lang/String", name := "<init>", desc := "([C)V" } : Jvm.MethodName) jdk_42_method_3_code (2 : Nat) (Option.none : Option Jvm.ClassFile.FieldType)).before args0 about1 = true := code_word (m := ⟨7, 1⟩) (meth := k7m1) (c := k7c1) (by decide +kernel) rfl rfl rfl (by decide +kernel)
set_option maxRecDepth 65536 in
theorem w_c2 : (Jvm.Cond.code ({ cls := "java/lang/String", name := "<init>", desc := "([CIILjava/lang/Void;)V" } : Jvm.MethodName) jdk_42_method_149_code (6 : Nat) (Option.none : Option Jvm.ClassFile.FieldType)).before args0 about1 = true := code_word (m := ⟨7, 6⟩) (meth := k7m6) (c := k7c6) (by decide +kernel) rfl rfl rfl (by decide +kernel)
set_option maxRecDepth 65536 in
theorem w_c3 : (Jvm.Cond.code ({ cls := "java/lang/Object", name := "<init>", desc := "()V" } : Jvm.MethodName) object_method_1_code (1 : Nat) (Option.none : Option Jvm.ClassFile.FieldType)).before args0 about1 = true := code_word (m := ⟨0, 0⟩) (meth := k0m0) (c := k0c0) (by decide +kernel) rfl rfl rfl (by decide +kernel)
set_option maxRecDepth 65536 in
theorem w_c4 : (Jvm.Cond.code ({ cls := "java/lang/StringUTF16", name := "compress", desc := "([CII)[B" } : Jvm.MethodName) jdk_52_method_16_code (6 : Nat) (Option.some (Jvm.ClassFile.FieldType.array Jvm.ClassFile.FieldType.byte))).before args0 about1 = true := code_word (m := ⟨8, 8⟩) (meth := k8m8) (c := k8c8) (by decide +kernel) rfl rfl rfl (by decide +kernel)
set_option maxRecDepth 65536 in
theorem w_c5 : (Jvm.Cond.code ({ cls := "java/lang/StringUTF16", name := "compress", desc := "([CI[BII)I" } : Jvm.MethodName) jdk_52_method_21_code (7 : Nat) (Option.some Jvm.ClassFile.FieldType.int)).before args0 about1 = true := code_word (m := ⟨8, 9⟩) (meth := k8m9) (c := k8c9) (by decide +kernel) rfl rfl rfl (by decide +kernel)
set_option maxRecDepth 65536 in
theorem w_c6 : (Jvm.Cond.code ({ cls := "java/lang/StringUTF16", name := "coderFromArrayLen", desc := "([BI)B" } : Jvm.MethodName) jdk_52_method_15_code (2 : Nat) (Option.some Jvm.ClassFile.FieldType.byte)).before args0 about1 = true := code_word (m := ⟨8, 7⟩) (meth := k8m7) (c := k8c7) (by decide +kernel) rfl rfl rfl (by decide +kernel)
set_option maxRecDepth 65536 in
theorem w_c7 : (Jvm.Cond.code ({ cls := "com/example/aproape/aproape/io/MarkupReader$Tag", name := "<init>", desc := "(Ljava/lang/String;ZJ)V" } : Jvm.MethodName) prog_16_method_1_code (5 : Nat) (Option.none : Option Jvm.ClassFile.FieldType)).before args0 about1 = true := code_word (m := ⟨10, 0⟩) (meth := k10m0) (c := k10c0) (by decide +kernel) rfl rfl rfl (by decide +kernel)
set_option maxRecDepth 65536 in
theorem w_c8 : (Jvm.Cond.code ({ cls := "java/lang/Record", name := "<init>", desc := "()V" } : Jvm.MethodName) jdk_30_method_1_code (1 : Nat) (Option.none : Option Jvm.ClassFile.FieldType)).before args0 about1 = true := code_word (m := ⟨9, 0⟩) (meth := k9m0) (c := k9c0) (by decide +kernel) rfl rfl rfl (by decide +kernel)
set_option maxRecDepth 65536 in
theorem w_c9 : (Jvm.Cond.code ({ cls := "com/example/aproape/aproape/io/MarkupReader$Tag", name := "toString", desc := "()Ljava/lang/String;" } : Jvm.MethodName) prog_16_method_3_code (1 : Nat) (Option.some (Jvm.ClassFile.FieldType.object "java/lang/String"))).before args0 about1 = true := code_word (m := ⟨10, 1⟩) (meth := k10m1) (c := k10c1) (by decide +kernel) rfl rfl rfl (by decide +kernel)
set_option maxRecDepth 65536 in
theorem w_c10 : (Jvm.Cond.code ({ cls := "java/lang/StringBuilder", name := "<init>", desc := "()V" } : Jvm.MethodName) jdk_67_method_1_code (1 : Nat) (Option.none : Option Jvm.ClassFile.FieldType)).before args0 about1 = true := code_word (m := ⟨13, 0⟩) (meth := k13m0) (c := k13c0) (by decide +kernel) rfl rfl rfl (by decide +kernel)
set_option maxRecDepth 65536 in
theorem w_c11 : (Jvm.Cond.code ({ cls := "java/lang/AbstractStringBuilder", name := "<init>", desc := "(I)V" } : Jvm.MethodName) jdk_68_method_2_code (2 : Nat) (Option.none : Option Jvm.ClassFile.FieldType)).before args0 about1 = true := code_word (m := ⟨12, 1⟩) (meth := k12m1) (c := k12c1) (by decide +kernel) rfl rfl rfl (by decide +kernel)
set_option maxRecDepth 65536 in
theorem w_c12 : (Jvm.Cond.code ({ cls := "java/lang/StringBuilder", name := "append", desc := "(Ljava/lang/String;)Ljava/lang/StringBuilder;" } : Jvm.MethodName) jdk_67_method_7_code (2 : Nat) (Option.some (Jvm.ClassFile.FieldType.object "java/lang/StringBuilder"))).before args0 about1 = true := code_word (m := ⟨13, 1⟩) (meth := k13m1) (c := k13c1) (by decide +kernel) rfl rfl rfl (by decide +kernel)
set_option maxRecDepth 65536 in
theorem w_c13 : (Jvm.Cond.code ({ cls := "java/lang/AbstractStringBuilder", name := "append", desc := "(Ljava/lang/String;)Ljava/lang/AbstractStringBuilder;" } : Jvm.MethodName) jdk_68_method_22_code (3 : Nat) (Option.some (Jvm.ClassFile.FieldType.object "java/lang/AbstractStringBuilder"))).before args0 about1 = true := code_word (m := ⟨12, 5⟩) (meth := k12m5) (c := k12c5) (by decide +kernel) rfl rfl rfl (by decide +kernel)
set_option maxRecDepth 65536 in
theorem w_c14 : (Jvm.Cond.code ({ cls := "java/lang/String", name := "length", desc := "()I" } : Jvm.MethodName) jdk_42_method_54_code (1 : Nat) (Option.some Jvm.ClassFile.FieldType.int)).before args0 about1 = true := code_word (m := ⟨7, 3⟩) (meth := k7m3) (c := k7c3) (by decide +kernel) rfl rfl rfl (by decide +kernel)
set_option maxRecDepth 65536 in
theorem w_c15 : (Jvm.Cond.code ({ cls := "java/lang/String", name := "coder", desc := "()B" } : Jvm.MethodName) jdk_42_method_152_code (1 : Nat) (Option.some Jvm.ClassFile.FieldType.byte)).before args0 about1 = true := code_word (m := ⟨7, 8⟩) (meth := k7m8) (c := k7c8) (by decide +kernel) rfl rfl rfl (by decide +kernel)
set_option maxRecDepth 65536 in
theorem w_c16 : (Jvm.Cond.code ({ cls := "java/lang/AbstractStringBuilder", name := "ensureCapacityInternal", desc := "(I)V" } : Jvm.MethodName) jdk_68_method_9_code (3 : Nat) (Option.none : Option Jvm.ClassFile.FieldType)).before args0 about1 = true := code_word (m := ⟨12, 3⟩) (meth := k12m3) (c := k12c3) (by decide +kernel) rfl rfl rfl (by decide +kernel)
set_option maxRecDepth 65536 in
theorem w_c17 : (Jvm.Cond.code ({ cls := "java/lang/AbstractStringBuilder", name := "putStringAt", desc := "(ILjava/lang/String;)V" } : Jvm.MethodName) jdk_68_method_73_code (3 : Nat) (Option.none : Option Jvm.ClassFile.FieldType)).before args0 about1 = true := code_word (m := ⟨12, 9⟩) (meth := k12m9) (c := k12c9) (by decide +kernel) rfl rfl rfl (by decide +kernel)
set_option maxRecDepth 65536 in
theorem w_c18 : (Jvm.Cond.code ({ cls := "java/lang/AbstractStringBuilder", name := "inflateIfNeededFor", desc := "(Ljava/lang/String;)V" } : Jvm.MethodName) jdk_68_method_71_code (2 : Nat) (Option.none : Option Jvm.ClassFile.FieldType)).before args0 about1 = true := code_word (m := ⟨12, 8⟩) (meth := k12m8) (c := k12c8) (by decide +kernel) rfl rfl rfl (by decide +kernel)
set_option maxRecDepth 65536 in
theorem w_c19 : (Jvm.Cond.code ({ cls := "java/lang/String", name := "getBytes", desc := "([BIB)V" } : Jvm.MethodName) jdk_42_method_147_code (4 : Nat) (Option.none : Option Jvm.ClassFile.FieldType)).before args0 about1 = true := code_word (m := ⟨7, 5⟩) (meth := k7m5) (c := k7c5) (by decide +kernel) rfl rfl rfl (by decide +kernel)
set_option maxRecDepth 65536 in
theorem w_c20 : (Jvm.Cond.code ({ cls := "java/lang/StringBuilder", name := "toString", desc := "()Ljava/lang/String;" } : Jvm.MethodName) jdk_67_method_42_code (1 : Nat) (Option.some (Jvm.ClassFile.FieldType.object "java/lang/String"))).before args0 about1 = true := code_word (m := ⟨13, 2⟩) (meth := k13m2) (c := k13c2) (by decide +kernel) rfl rfl rfl (by decide +kernel)
set_option maxRecDepth 65536 in
theorem w_c21 : (Jvm.Cond.code ({ cls := "java/lang/String", name := "<init>", desc := "(Ljava/lang/StringBuilder;)V" } : Jvm.MethodName) jdk_42_method_53_code (2 : Nat) (Option.none : Option Jvm.ClassFile.FieldType)).before args0 about1 = true := code_word (m := ⟨7, 2⟩) (meth := k7m2) (c := k7c2) (by decide +kernel) rfl rfl rfl (by decide +kernel)
set_option maxRecDepth 65536 in
theorem w_c22 : (Jvm.Cond.code ({ cls := "java/lang/String", name := "<init>", desc := "(Ljava/lang/AbstractStringBuilder;Ljava/lang/Void;)V" } : Jvm.MethodName) jdk_42_method_150_code (5 : Nat) (Option.none : Option Jvm.ClassFile.FieldType)).before args0 about1 = true := code_word (m := ⟨7, 7⟩) (meth := k7m7) (c := k7c7) (by decide +kernel) rfl rfl rfl (by decide +kernel)
set_option maxRecDepth 65536 in
theorem w_c23 : (Jvm.Cond.code ({ cls := "java/lang/AbstractStringBuilder", name := "getValue", desc := "()[B" } : Jvm.MethodName) jdk_68_method_64_code (1 : Nat) (Option.some (Jvm.ClassFile.FieldType.array Jvm.ClassFile.FieldType.byte))).before args0 about1 = true := code_word (m := ⟨12, 6⟩) (meth := k12m6) (c := k12c6) (by decide +kernel) rfl rfl rfl (by decide +kernel)
set_option maxRecDepth 65536 in
theorem w_c24 : (Jvm.Cond.code ({ cls := "java/lang/StringBuilder", name := "length", desc := "()I" } : Jvm.MethodName) jdk_67_method_93_code (1 : Nat) (Option.some Jvm.ClassFile.FieldType.int)).before args0 about1 = true := code_word (m := ⟨13, 3⟩) (meth := k13m3) (c := k13c3) (by decide +kernel) rfl rfl rfl (by decide +kernel)
set_option maxRecDepth 65536 in
theorem w_c25 : (Jvm.Cond.code ({ cls := "java/lang/AbstractStringBuilder", name := "length", desc := "()I" } : Jvm.MethodName) jdk_68_method_6_code (1 : Nat) (Option.some Jvm.ClassFile.FieldType.int)).before args0 about1 = true := code_word (m := ⟨12, 2⟩) (meth := k12m2) (c := k12c2) (by decide +kernel) rfl rfl rfl (by decide +kernel)
set_option maxRecDepth 65536 in
theorem w_c26 : (Jvm.Cond.code ({ cls := "java/lang/AbstractStringBuilder", name := "isLatin1", desc := "()Z" } : Jvm.MethodName) jdk_68_method_68_code (1 : Nat) (Option.some Jvm.ClassFile.FieldType.boolean)).before args0 about1 = true := code_word (m := ⟨12, 7⟩) (meth := k12m7) (c := k12c7) (by decide +kernel) rfl rfl rfl (by decide +kernel)
set_option maxRecDepth 65536 in
theorem w_c27 : (Jvm.Cond.code ({ cls := "java/util/Arrays", name := "copyOfRange", desc := "([BII)[B" } : Jvm.MethodName) jdk_65_method_132_code (3 : Nat) (Option.some (Jvm.ClassFile.FieldType.array Jvm.ClassFile.FieldType.byte))).before args0 about1 = true := code_word (m := ⟨15, 2⟩) (meth := k15m2) (c := k15c2) (by decide +kernel) rfl rfl rfl (by decide +kernel)
set_option maxRecDepth 65536 in
theorem w_c28 : (Jvm.Cond.code ({ cls := "java/util/Arrays", name := "copyOfRangeByte", desc := "([BII)[B" } : Jvm.MethodName) jdk_65_method_133_code (5 : Nat) (Option.some (Jvm.ClassFile.FieldType.array Jvm.ClassFile.FieldType.byte))).before args0 about1 = true := code_word (m := ⟨15, 3⟩) (meth := k15m3) (c := k15c3) (by decide +kernel) rfl rfl rfl (by decide +kernel)
set_option maxRecDepth 65536 in
theorem w_c29 : (Jvm.Cond.code ({ cls := "java/util/Arrays", name := "checkLength", desc := "(II)V" } : Jvm.MethodName) jdk_65_method_131_code (2 : Nat) (Option.none : Option Jvm.ClassFile.FieldType)).before args0 about1 = true := code_word (m := ⟨15, 1⟩) (meth := k15m1) (c := k15c1) (by decide +kernel) rfl rfl rfl (by decide +kernel)
set_option maxRecDepth 65536 in
theorem w_c30 : (Jvm.Cond.code ({ cls := "java/lang/Math", name := "min", desc := "(II)I" } : Jvm.MethodName) jdk_29_method_69_code (2 : Nat) (Option.some Jvm.ClassFile.FieldType.int)).before args0 about1 = true := code_word (m := ⟨16, 1⟩) (meth := k16m1) (c := k16c1) (by decide +kernel) rfl rfl rfl (by decide +kernel)
set_option maxRecDepth 65536 in
theorem w_c31 : (Jvm.Cond.code ({ cls := "com/example/aproape/aproape/io/TagToStringPinLaw", name := "at", desc := "(Ljava/lang/String;IIIICCC)Z" } : Jvm.MethodName) method_3_code (8 : Nat) (Option.some Jvm.ClassFile.FieldType.boolean)).before args0 about1 = true := code_word (m := ⟨1, 2⟩) (meth := k1m2) (c := k1c2) (by decide +kernel) rfl rfl rfl (by decide +kernel)
set_option maxRecDepth 65536 in
theorem w_c32 : (Jvm.Cond.code ({ cls := "java/lang/String", name := "charAt", desc := "(I)C" } : Jvm.MethodName) jdk_42_method_56_code (2 : Nat) (Option.some Jvm.ClassFile.FieldType.char)).before args0 about1 = true := code_word (m := ⟨7, 4⟩) (meth := k7m4) (c := k7c4) (by decide +kernel) rfl rfl rfl (by decide +kernel)
set_option maxRecDepth 65536 in
theorem w_c33 : (Jvm.Cond.code ({ cls := "java/lang/String", name := "isLatin1", desc := "()Z" } : Jvm.MethodName) jdk_42_method_154_code (1 : Nat) (Option.some Jvm.ClassFile.FieldType.boolean)).before args0 about1 = true := code_word (m := ⟨7, 9⟩) (meth := k7m9) (c := k7c9) (by decide +kernel) rfl rfl rfl (by decide +kernel)
set_option maxRecDepth 65536 in
theorem w_c34 : (Jvm.Cond.code ({ cls := "java/lang/StringLatin1", name := "charAt", desc := "([BI)C" } : Jvm.MethodName) jdk_43_method_2_code (2 : Nat) (Option.some Jvm.ClassFile.FieldType.char)).before args0 about1 = true := code_word (m := ⟨17, 1⟩) (meth := k17m1) (c := k17c1) (by decide +kernel) rfl rfl rfl (by decide +kernel)
set_option maxRecDepth 65536 in
theorem w_c35 : (Jvm.Cond.code ({ cls := "java/lang/String", name := "checkIndex", desc := "(II)V" } : Jvm.MethodName) jdk_42_method_155_code (2 : Nat) (Option.none : Option Jvm.ClassFile.FieldType)).before args0 about1 = true := code_word (m := ⟨7, 10⟩) (meth := k7m10) (c := k7c10) (by decide +kernel) rfl rfl rfl (by decide +kernel)
set_option maxRecDepth 65536 in
theorem w_c36 : (Jvm.Cond.code ({ cls := "jdk/internal/util/Preconditions", name := "checkIndex", desc := "(IILjava/util/function/BiFunction;)I" } : Jvm.MethodName) jdk_41_method_11_code (3 : Nat) (Option.some Jvm.ClassFile.FieldType.int)).before args0 about1 = true := code_word (m := ⟨18, 1⟩) (meth := k18m1) (c := k18c1) (by decide +kernel) rfl rfl rfl (by decide +kernel)
set_option maxRecDepth 65536 in
theorem w_c37 : (Jvm.Cond.code ({ cls := "com/example/aproape/aproape/io/TagToStringPinLaw", name := "expected", desc := "(IIICCC)C" } : Jvm.MethodName) method_4_code (7 : Nat) (Option.some Jvm.ClassFile.FieldType.char)).before args0 about1 = true := code_word (m := ⟨1, 3⟩) (meth := k1m3) (c := k1c3) (by decide +kernel) rfl rfl rfl (by decide +kernel)
set_option maxRecDepth 65536 in
theorem w_c38 : (Jvm.Cond.code ({ cls := "java/lang/StringUTF16", name := "toBytes", desc := "([CII)[B" } : Jvm.MethodName) jdk_52_method_14_code (5 : Nat) (Option.some (Jvm.ClassFile.FieldType.array Jvm.ClassFile.FieldType.byte))).before args0 about1 = true := code_word (m := ⟨8, 6⟩) (meth := k8m6) (c := k8c6) (by decide +kernel) rfl rfl rfl (by decide +kernel)
set_option maxRecDepth 65536 in
theorem w_c39 : (Jvm.Cond.code ({ cls := "java/lang/StringUTF16", name := "newBytesFor", desc := "(I)[B" } : Jvm.MethodName) jdk_52_method_2_code (1 : Nat) (Option.some (Jvm.ClassFile.FieldType.array Jvm.ClassFile.FieldType.byte))).before args0 about1 = true := code_word (m := ⟨8, 1⟩) (meth := k8m1) (c := k8c1) (by decide +kernel) rfl rfl rfl (by decide +kernel)
set_option maxRecDepth 65536 in
theorem w_c40 : (Jvm.Cond.code ({ cls := "java/lang/StringUTF16", name := "newBytesLength", desc := "(I)I" } : Jvm.MethodName) jdk_52_method_3_code (1 : Nat) (Option.some Jvm.ClassFile.FieldType.int)).before args0 about1 = true := code_word (m := ⟨8, 2⟩) (meth := k8m2) (c := k8c2) (by decide +kernel) rfl rfl rfl (by decide +kernel)
set_option maxRecDepth 65536 in
theorem w_c41 : (Jvm.Cond.code ({ cls := "java/lang/StringUTF16", name := "putChar", desc := "([BII)V" } : Jvm.MethodName) jdk_52_method_4_code (3 : Nat) (Option.none : Option Jvm.ClassFile.FieldType)).before args0 about1 = true := code_word (m := ⟨8, 3⟩) (meth := k8m3) (c := k8c3) (by decide +kernel) rfl rfl rfl (by decide +kernel)
set_option maxRecDepth 65536 in
theorem w_c42 : (Jvm.Cond.code ({ cls := "java/lang/StringUTF16", name := "getChar", desc := "([BI)C" } : Jvm.MethodName) jdk_52_method_5_code (2 : Nat) (Option.some Jvm.ClassFile.FieldType.char)).before args0 about1 = true := code_word (m := ⟨8, 4⟩) (meth := k8m4) (c := k8c4) (by decide +kernel) rfl rfl rfl (by decide +kernel)
set_option maxRecDepth 65536 in
theorem w_c43 : (Jvm.Cond.code ({ cls := "java/lang/AbstractStringBuilder", name := "inflate", desc := "()V" } : Jvm.MethodName) jdk_68_method_11_code (2 : Nat) (Option.none : Option Jvm.ClassFile.FieldType)).before args0 about1 = true := code_word (m := ⟨12, 4⟩) (meth := k12m4) (c := k12c4) (by decide +kernel) rfl rfl rfl (by decide +kernel)
set_option maxRecDepth 65536 in
theorem w_c44 : (Jvm.Cond.code ({ cls := "java/lang/StringLatin1", name := "inflate", desc := "([BI[BII)V" } : Jvm.MethodName) jdk_43_method_50_code (5 : Nat) (Option.none : Option Jvm.ClassFile.FieldType)).before args0 about1 = true := code_word (m := ⟨17, 2⟩) (meth := k17m2) (c := k17c2) (by decide +kernel) rfl rfl rfl (by decide +kernel)
set_option maxRecDepth 65536 in
theorem w_c45 : (Jvm.Cond.code ({ cls := "java/lang/StringUTF16", name := "inflate", desc := "([BI[BII)V" } : Jvm.MethodName) jdk_52_method_86_code (6 : Nat) (Option.none : Option Jvm.ClassFile.FieldType)).before args0 about1 = true := code_word (m := ⟨8, 11⟩) (meth := k8m11) (c := k8c11) (by decide +kernel) rfl rfl rfl (by decide +kernel)
set_option maxRecDepth 65536 in
theorem w_c46 : (Jvm.Cond.code ({ cls := "java/lang/StringUTF16", name := "checkBoundsOffCount", desc := "(II[B)V" } : Jvm.MethodName) jdk_52_method_94_code (3 : Nat) (Option.none : Option Jvm.ClassFile.FieldType)).before args0 about1 = true := code_word (m := ⟨8, 13⟩) (meth := k8m13) (c := k8c13) (by decide +kernel) rfl rfl rfl (by decide +kernel)
set_option maxRecDepth 65536 in
theorem w_c47 : (Jvm.Cond.code ({ cls := "java/lang/StringUTF16", name := "length", desc := "([B)I" } : Jvm.MethodName) jdk_52_method_6_code (1 : Nat) (Option.some Jvm.ClassFile.FieldType.int)).before args0 about1 = true := code_word (m := ⟨8, 5⟩) (meth := k8m5) (c := k8c5) (by decide +kernel) rfl rfl rfl (by decide +kernel)
set_option maxRecDepth 65536 in
theorem w_c48 : (Jvm.Cond.code ({ cls := "java/lang/String", name := "checkBoundsOffCount", desc := "(III)I" } : Jvm.MethodName) jdk_42_method_157_code (3 : Nat) (Option.some Jvm.ClassFile.FieldType.int)).before args0 about1 = true := code_word (m := ⟨7, 11⟩) (meth := k7m11) (c := k7c11) (by decide +kernel) rfl rfl rfl (by decide +kernel)
set_option maxRecDepth 65536 in
theorem w_c49 : (Jvm.Cond.code ({ cls := "jdk/internal/util/Preconditions", name := "checkFromIndexSize", desc := "(IIILjava/util/function/BiFunction;)I" } : Jvm.MethodName) jdk_41_method_13_code (4 : Nat) (Option.some Jvm.ClassFile.FieldType.int)).before args0 about1 = true := code_word (m := ⟨18, 2⟩) (meth := k18m2) (c := k18c2) (by decide +kernel) rfl rfl rfl (by decide +kernel)
set_option maxRecDepth 65536 in
theorem w_c50 : (Jvm.Cond.code ({ cls := "java/lang/StringUTF16", name := "charAt", desc := "([BI)C" } : Jvm.MethodName) jdk_52_method_83_code (2 : Nat) (Option.some Jvm.ClassFile.FieldType.char)).before args0 about1 = true := code_word (m := ⟨8, 10⟩) (meth := k8m10) (c := k8c10) (by decide +kernel) rfl rfl rfl (by decide +kernel)
set_option maxRecDepth 65536 in
theorem w_c51 : (Jvm.Cond.code ({ cls := "java/lang/StringUTF16", name := "checkIndex", desc := "(I[B)V" } : Jvm.MethodName) jdk_52_method_91_code (2 : Nat) (Option.none : Option Jvm.ClassFile.FieldType)).before args0 about1 = true := code_word (m := ⟨8, 12⟩) (meth := k8m12) (c := k8c12) (by decide +kernel) rfl rfl rfl (by decide +kernel)
def codes1 : List Jvm.Cond := [Jvm.Cond.code x code maxLocals ret, Jvm.Cond.code ({ cls := "java/lang/String", name := "<init>", desc := "([C)V" } : Jvm.MethodName) jdk_42_method_3_code (2 : Nat) (Option.none : Option Jvm.ClassFile.FieldType), Jvm.Cond.code ({ cls := "java/lang/String", name := "<init>", desc := "([CIILjava/lang/Void;)V" } : Jvm.MethodName) jdk_42_method_149_code (6 : Nat) (Option.none : Option Jvm.ClassFile.FieldType), Jvm.Cond.code ({ cls := "java/lang/Object", name := "<init>", desc := "()V" } : Jvm.MethodName) object_method_1_code (1 : Nat) (Option.none : Option Jvm.ClassFile.FieldType), Jvm.Cond.code ({ cls := "java/lang/StringUTF16", name := "compress", desc := "([CII)[B" } : Jvm.MethodName) jdk_52_method_16_code (6 : Nat) (Option.some (Jvm.ClassFile.FieldType.array Jvm.ClassFile.FieldType.byte)), Jvm.Cond.code ({ cls := "java/lang/StringUTF16", name := "compress", desc := "([CI[BII)I" } : Jvm.MethodName) jdk_52_method_21_code (7 : Nat) (Option.some Jvm.ClassFile.FieldType.int), Jvm.Cond.code ({ cls := "java/lang/StringUTF16", name := "coderFromArrayLen", desc := "([BI)B" } : Jvm.MethodName) jdk_52_method_15_code (2 : Nat) (Option.some Jvm.ClassFile.FieldType.byte), Jvm.Cond.code ({ cls := "com/example/aproape/aproape/io/MarkupReader$Tag", name := "<init>", desc := "(Ljava/lang/String;ZJ)V" } : Jvm.MethodName) prog_16_method_1_code (5 : Nat) (Option.none : Option Jvm.ClassFile.FieldType), Jvm.Cond.code ({ cls := "java/lang/Record", name := "<init>", desc := "()V" } : Jvm.MethodName) jdk_30_method_1_code (1 : Nat) (Option.none : Option Jvm.ClassFile.FieldType), Jvm.Cond.code ({ cls := "com/example/aproape/aproape/io/MarkupReader$Tag", name := "toString", desc := "()Ljava/lang/String;" } : Jvm.MethodName) prog_16_method_3_code (1 : Nat) (Option.some (Jvm.ClassFile.FieldType.object "java/lang/String")), Jvm.Cond.code ({ cls := "java/lang/StringBuilder", name := "<init>", desc := "()V" } : Jvm.MethodName) jdk_67_method_1_code (1 : Nat) (Option.none : Option Jvm.ClassFile.FieldType), Jvm.Cond.code ({ cls := "java/lang/AbstractStringBuilder", name := "<init>", desc := "(I)V" } : Jvm.MethodName) jdk_68_method_2_code (2 : Nat) (Option.none : Option Jvm.ClassFile.FieldType), Jvm.Cond.code ({ cls := "java/lang/StringBuilder", name := "append", desc := "(Ljava/lang/String;)Ljava/lang/StringBuilder;" } : Jvm.MethodName) jdk_67_method_7_code (2 : Nat) (Option.some (Jvm.ClassFile.FieldType.object "java/lang/StringBuilder")), Jvm.Cond.code ({ cls := "java/lang/AbstractStringBuilder", name := "append", desc := "(Ljava/lang/String;)Ljava/lang/AbstractStringBuilder;" } : Jvm.MethodName) jdk_68_method_22_code (3 : Nat) (Option.some (Jvm.ClassFile.FieldType.object "java/lang/AbstractStringBuilder")), Jvm.Cond.code ({ cls := "java/lang/String", name := "length", desc := "()I" } : Jvm.MethodName) jdk_42_method_54_code (1 : Nat) (Option.some Jvm.ClassFile.FieldType.int), Jvm.Cond.code ({ cls := "java/lang/String", name := "coder", desc := "()B" } : Jvm.MethodName) jdk_42_method_152_code (1 : Nat) (Option.some Jvm.ClassFile.FieldType.byte), Jvm.Cond.code ({ cls := "java/lang/AbstractStringBuilder", name := "ensureCapacityInternal", desc := "(I)V" } : Jvm.MethodName) jdk_68_method_9_code (3 : Nat) (Option.none : Option Jvm.ClassFile.FieldType), Jvm.Cond.code ({ cls := "java/lang/AbstractStringBuilder", name := "putStringAt", desc := "(ILjava/lang/String;)V" } : Jvm.MethodName) jdk_68_method_73_code (3 : Nat) (Option.none : Option Jvm.ClassFile.FieldType), Jvm.Cond.code ({ cls := "java/lang/AbstractStringBuilder", name := "inflateIfNeededFor", desc := "(Ljava/lang/String;)V" } : Jvm.MethodName) jdk_68_method_71_code (2 : Nat) (Option.none : Option Jvm.ClassFile.FieldType), Jvm.Cond.code ({ cls := "java/lang/String", name := "getBytes", desc := "([BIB)V" } : Jvm.MethodName) jdk_42_method_147_code (4 : Nat) (Option.none : Option Jvm.ClassFile.FieldType), Jvm.Cond.code ({ cls := "java/lang/StringBuilder", name := "toString", desc := "()Ljava/lang/String;" } : Jvm.MethodName) jdk_67_method_42_code (1 : Nat) (Option.some (Jvm.ClassFile.FieldType.object "java/lang/String")), Jvm.Cond.code ({ cls := "java/lang/String", name := "<init>", desc := "(Ljava/lang/StringBuilder;)V" } : Jvm.MethodName) jdk_42_method_53_code (2 : Nat) (Option.none : Option Jvm.ClassFile.FieldType), Jvm.Cond.code ({ cls := "java/lang/String", name := "<init>", desc := "(Ljava/lang/AbstractStringBuilder;Ljava/lang/Void;)V" } : Jvm.MethodName) jdk_42_method_150_code (5 : Nat) (Option.none : Option Jvm.ClassFile.FieldType), Jvm.Cond.code ({ cls := "java/lang/AbstractStringBuilder", name := "getValue", desc := "()[B" } : Jvm.MethodName) jdk_68_method_64_code (1 : Nat) (Option.some (Jvm.ClassFile.FieldType.array Jvm.ClassFile.FieldType.byte)), Jvm.Cond.code ({ cls := "java/lang/StringBuilder", name := "length", desc := "()I" } : Jvm.MethodName) jdk_67_method_93_code (1 : Nat) (Option.some Jvm.ClassFile.FieldType.int), Jvm.Cond.code ({ cls := "java/lang/AbstractStringBuilder", name := "length", desc := "()I" } : Jvm.MethodName) jdk_68_method_6_code (1 : Nat) (Option.some Jvm.ClassFile.FieldType.int), Jvm.Cond.code ({ cls := "java/lang/AbstractStringBuilder", name := "isLatin1", desc := "()Z" } : Jvm.MethodName) jdk_68_method_68_code (1 : Nat) (Option.some Jvm.ClassFile.FieldType.boolean), Jvm.Cond.code ({ cls := "java/util/Arrays", name := "copyOfRange", desc := "([BII)[B" } : Jvm.MethodName) jdk_65_method_132_code (3 : Nat) (Option.some (Jvm.ClassFile.FieldType.array Jvm.ClassFile.FieldType.byte)), Jvm.Cond.code ({ cls := "java/util/Arrays", name := "copyOfRangeByte", desc := "([BII)[B" } : Jvm.MethodName) jdk_65_method_133_code (5 : Nat) (Option.some (Jvm.ClassFile.FieldType.array Jvm.ClassFile.FieldType.byte)), Jvm.Cond.code ({ cls := "java/util/Arrays", name := "checkLength", desc := "(II)V" } : Jvm.MethodName) jdk_65_method_131_code (2 : Nat) (Option.none : Option Jvm.ClassFile.FieldType), Jvm.Cond.code ({ cls := "java/lang/Math", name := "min", desc := "(II)I" } : Jvm.MethodName) jdk_29_method_69_code (2 : Nat) (Option.some Jvm.ClassFile.FieldType.int), Jvm.Cond.code ({ cls := "com/example/aproape/aproape/io/TagToStringPinLaw", name := "at", desc := "(Ljava/lang/String;IIIICCC)Z" } : Jvm.MethodName) method_3_code (8 : Nat) (Option.some Jvm.ClassFile.FieldType.boolean), Jvm.Cond.code ({ cls := "java/lang/String", name := "charAt", desc := "(I)C" } : Jvm.MethodName) jdk_42_method_56_code (2 : Nat) (Option.some Jvm.ClassFile.FieldType.char), Jvm.Cond.code ({ cls := "java/lang/String", name := "isLatin1", desc := "()Z" } : Jvm.MethodName) jdk_42_method_154_code (1 : Nat) (Option.some Jvm.ClassFile.FieldType.boolean), Jvm.Cond.code ({ cls := "java/lang/StringLatin1", name := "charAt", desc := "([BI)C" } : Jvm.MethodName) jdk_43_method_2_code (2 : Nat) (Option.some Jvm.ClassFile.FieldType.char), Jvm.Cond.code ({ cls := "java/lang/String", name := "checkIndex", desc := "(II)V" } : Jvm.MethodName) jdk_42_method_155_code (2 : Nat) (Option.none : Option Jvm.ClassFile.FieldType), Jvm.Cond.code ({ cls := "jdk/internal/util/Preconditions", name := "checkIndex", desc := "(IILjava/util/function/BiFunction;)I" } : Jvm.MethodName) jdk_41_method_11_code (3 : Nat) (Option.some Jvm.ClassFile.FieldType.int), Jvm.Cond.code ({ cls := "com/example/aproape/aproape/io/TagToStringPinLaw", name := "expected", desc := "(IIICCC)C" } : Jvm.MethodName) method_4_code (7 : Nat) (Option.some Jvm.ClassFile.FieldType.char), Jvm.Cond.code ({ cls := "java/lang/StringUTF16", name := "toBytes", desc := "([CII)[B" } : Jvm.MethodName) jdk_52_method_14_code (5 : Nat) (Option.some (Jvm.ClassFile.FieldType.array Jvm.ClassFile.FieldType.byte)), Jvm.Cond.code ({ cls := "java/lang/StringUTF16", name := "newBytesFor", desc := "(I)[B" } : Jvm.MethodName) jdk_52_method_2_code (1 : Nat) (Option.some (Jvm.ClassFile.FieldType.array Jvm.ClassFile.FieldType.byte)), Jvm.Cond.code ({ cls := "java/lang/StringUTF16", name := "newBytesLength", desc := "(I)I" } : Jvm.MethodName) jdk_52_method_3_code (1 : Nat) (Option.some Jvm.ClassFile.FieldType.int), Jvm.Cond.code ({ cls := "java/lang/StringUTF16", name := "putChar", desc := "([BII)V" } : Jvm.MethodName) jdk_52_method_4_code (3 : Nat) (Option.none : Option Jvm.ClassFile.FieldType), Jvm.Cond.code ({ cls := "java/lang/StringUTF16", name := "getChar", desc := "([BI)C" } : Jvm.MethodName) jdk_52_method_5_code (2 : Nat) (Option.some Jvm.ClassFile.FieldType.char), Jvm.Cond.code ({ cls := "java/lang/AbstractStringBuilder", name := "inflate", desc := "()V" } : Jvm.MethodName) jdk_68_method_11_code (2 : Nat) (Option.none : Option Jvm.ClassFile.FieldType), Jvm.Cond.code ({ cls := "java/lang/StringLatin1", name := "inflate", desc := "([BI[BII)V" } : Jvm.MethodName) jdk_43_method_50_code (5 : Nat) (Option.none : Option Jvm.ClassFile.FieldType), Jvm.Cond.code ({ cls := "java/lang/StringUTF16", name := "inflate", desc := "([BI[BII)V" } : Jvm.MethodName) jdk_52_method_86_code (6 : Nat) (Option.none : Option Jvm.ClassFile.FieldType), Jvm.Cond.code ({ cls := "java/lang/StringUTF16", name := "checkBoundsOffCount", desc := "(II[B)V" } : Jvm.MethodName) jdk_52_method_94_code (3 : Nat) (Option.none : Option Jvm.ClassFile.FieldType), Jvm.Cond.code ({ cls := "java/lang/StringUTF16", name := "length", desc := "([B)I" } : Jvm.MethodName) jdk_52_method_6_code (1 : Nat) (Option.some Jvm.ClassFile.FieldType.int), Jvm.Cond.code ({ cls := "java/lang/String", name := "checkBoundsOffCount", desc := "(III)I" } : Jvm.MethodName) jdk_42_method_157_code (3 : Nat) (Option.some Jvm.ClassFile.FieldType.int), Jvm.Cond.code ({ cls := "jdk/internal/util/Preconditions", name := "checkFromIndexSize", desc := "(IIILjava/util/function/BiFunction;)I" } : Jvm.MethodName) jdk_41_method_13_code (4 : Nat) (Option.some Jvm.ClassFile.FieldType.int), Jvm.Cond.code ({ cls := "java/lang/StringUTF16", name := "charAt", desc := "([BI)C" } : Jvm.MethodName) jdk_52_method_83_code (2 : Nat) (Option.some Jvm.ClassFile.FieldType.char), Jvm.Cond.code ({ cls := "java/lang/StringUTF16", name := "checkIndex", desc := "(I[B)V" } : Jvm.MethodName) jdk_52_method_91_code (2 : Nat) (Option.none : Option Jvm.ClassFile.FieldType)]
set_option maxRecDepth 65536 in
theorem codes_eq : words1.filter isCode = codes1 := rfl
theorem w_codes : ∀ c ∈ words1.filter isCode, c.before args0 about1 = true := by
  rw [codes_eq]
  intro c hc
  simp only [codes1, List.mem_cons, List.not_mem_nil, or_false] at hc
  rcases hc with rfl | rfl | rfl | rfl | rfl | rfl | rfl | rfl | rfl | rfl | rfl | rfl | rfl | rfl | rfl | rfl | rfl | rfl | rfl | rfl | rfl | rfl | rfl | rfl | rfl | rfl | rfl | rfl | rfl | rfl | rfl | rfl | rfl | rfl | rfl | rfl | rfl | rfl | rfl | rfl | rfl | rfl | rfl | rfl | rfl | rfl | rfl | rfl | rfl | rfl | rfl | rfl
  · exact w_c0
  · exact w_c1
  · exact w_c2
  · exact w_c3
  · exact w_c4
  · exact w_c5
  · exact w_c6
  · exact w_c7
  · exact w_c8
  · exact w_c9
  · exact w_c10
  · exact w_c11
  · exact w_c12
  · exact w_c13
  · exact w_c14
  · exact w_c15
  · exact w_c16
  · exact w_c17
  · exact w_c18
  · exact w_c19
  · exact w_c20
  · exact w_c21
  · exact w_c22
  · exact w_c23
  · exact w_c24
  · exact w_c25
  · exact w_c26
  · exact w_c27
  · exact w_c28
  · exact w_c29
  · exact w_c30
  · exact w_c31
  · exact w_c32
  · exact w_c33
  · exact w_c34
  · exact w_c35
  · exact w_c36
  · exact w_c37
  · exact w_c38
  · exact w_c39
  · exact w_c40
  · exact w_c41
  · exact w_c42
  · exact w_c43
  · exact w_c44
  · exact w_c45
  · exact w_c46
  · exact w_c47
  · exact w_c48
  · exact w_c49
  · exact w_c50
  · exact w_c51
set_option maxRecDepth 65536 in
theorem w_t1 : (words1.take 24).all (fun c => isCode c || c.before args0 about1) = true := by decide +kernel
set_option maxRecDepth 65536 in
theorem w_t2 : ((words1.drop 24).take 24).all (fun c => isCode c || c.before args0 about1) = true := by decide +kernel
set_option maxRecDepth 65536 in
theorem w_t3 : (((words1.drop 24).drop 24).take 24).all (fun c => isCode c || c.before args0 about1) = true := by decide +kernel
set_option maxRecDepth 65536 in
theorem w_t4 : ((((words1.drop 24).drop 24).drop 24).take 24).all (fun c => isCode c || c.before args0 about1) = true := by decide +kernel
set_option maxRecDepth 65536 in
theorem w_t5 : (((((words1.drop 24).drop 24).drop 24).drop 24).take 24).all (fun c => isCode c || c.before args0 about1) = true := by decide +kernel
set_option maxRecDepth 65536 in
theorem w_t6 : ((((((words1.drop 24).drop 24).drop 24).drop 24).drop 24).take 24).all (fun c => isCode c || c.before args0 about1) = true := by decide +kernel
set_option maxRecDepth 65536 in
theorem w_t7 : (((((((words1.drop 24).drop 24).drop 24).drop 24).drop 24).drop 24).take 24).all (fun c => isCode c || c.before args0 about1) = true := by decide +kernel
set_option maxRecDepth 65536 in
theorem w_t8 : ((((((((words1.drop 24).drop 24).drop 24).drop 24).drop 24).drop 24).drop 24).take 24).all (fun c => isCode c || c.before args0 about1) = true := by decide +kernel
set_option maxRecDepth 65536 in
theorem w_t9 : (((((((((words1.drop 24).drop 24).drop 24).drop 24).drop 24).drop 24).drop 24).drop 24).take 24).all (fun c => isCode c || c.before args0 about1) = true := by decide +kernel
set_option maxRecDepth 65536 in
theorem w_t10 : ((((((((((words1.drop 24).drop 24).drop 24).drop 24).drop 24).drop 24).drop 24).drop 24).drop 24).take 24).all (fun c => isCode c || c.before args0 about1) = true := by decide +kernel
set_option maxRecDepth 65536 in
theorem w_t11 : ((((((((((words1.drop 24).drop 24).drop 24).drop 24).drop 24).drop 24).drop 24).drop 24).drop 24).drop 24).all (fun c => isCode c || c.before args0 about1) = true := by decide +kernel
theorem w_tables : (allAtoms (Jvm.Cond.code x code maxLocals ret :: tables_1)).before args0 about1 = true := by
  rw [allAtoms_all]
  show words1.all (fun c => c.before args0 about1) = true
  refine all_split ?_ w_codes
  rw [← List.take_append_drop 24 words1, List.all_append, w_t1, ← List.take_append_drop 24 (words1.drop 24), List.all_append, w_t2, ← List.take_append_drop 24 ((words1.drop 24).drop 24), List.all_append, w_t3, ← List.take_append_drop 24 (((words1.drop 24).drop 24).drop 24), List.all_append, w_t4, ← List.take_append_drop 24 ((((words1.drop 24).drop 24).drop 24).drop 24), List.all_append, w_t5, ← List.take_append_drop 24 (((((words1.drop 24).drop 24).drop 24).drop 24).drop 24), List.all_append, w_t6, ← List.take_append_drop 24 ((((((words1.drop 24).drop 24).drop 24).drop 24).drop 24).drop 24), List.all_append, w_t7, ← List.take_append_drop 24 (((((((words1.drop 24).drop 24).drop 24).drop 24).drop 24).drop 24).drop 24), List.all_append, w_t8, ← List.take_append_drop 24 ((((((((words1.drop 24).drop 24).drop 24).drop 24).drop 24).drop 24).drop 24).drop 24), List.all_append, w_t9, ← List.take_append_drop 24 (((((((((words1.drop 24).drop 24).drop 24).drop 24).drop 24).drop 24).drop 24).drop 24).drop 24), List.all_append, w_t10, w_t11]
  rfl
set_option maxRecDepth 65536 in
theorem w_rest : rest_1_c.before args0 about1 = true := by decide +kernel
set_option maxRecDepth 65536 in
theorem w_case : (Jvm.Cond.and given_1 narrow_1).before args0 about1 = true := by decide +kernel
set_option maxRecDepth 65536 in
theorem w_consts : constsHeld consts_1 about1 := Jvm.Lit.constsHeldB_iff.mp (by decide +kernel)
theorem w_applies : (headSpec (Jvm.Cond.code x code maxLocals ret :: tables_1) room_1).applies x e0.platform about1 = true :=
  (Spec.applies_iff w_frames).mpr ⟨w_running, w_runnable, w_alone, w_named, w_hears, w_ripe, w_room, w_tables⟩
theorem atStart : AtStart classFile x code maxLocals ret World_1 tables_1 room_1 Calls_1 rest_1 Pre_1 launch0 p0 e0 about1 theMethod args0 below0 :=
  ⟨lists_1, trivial, launch0.admits_env _ _ _, launch0.least_env, fairChoices_fair.cas, fairChoices_fair.clock, w_frames, w_args, w_heap, w_applies, ⟨w_consts, trivial⟩, w_rest, w_case⟩
end start1
theorem witness_1 : WitnessClaimed_1 := ⟨start1.p0, start1.e0, start1.about1, start1.theMethod, start1.args0, start1.below0, start1.atStart⟩
end Jvm.Pilot.@@N@@
