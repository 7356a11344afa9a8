import JvmDerived
import JvmDerived.Pilot.@@N@@Statement
import JvmDerived.Pilot.@@N@@Code
set_option linter.unusedVariables false
set_option linter.unusedSimpArgs false
/- laws to paste: Road.backV, Road.lenW, Road.chN, Road.empW, Road.codOf (cut by pick.py; bodies as the Statement names them) -/
namespace Jvm.Pilot.@@N@@
namespace StrChars
open Jvm Sem ClassFile Op Lib Jvm.Stand Jvm.Free.XT Jvm.Free.ALB Jvm.Free.JM Jvm.Free
open Jvm.Lib.Cold (StaticIs)
/-- a char array whose places are chars -/
def Ch (a : Addr) (A : Cell) (U : State) : Prop := Arr .char a A U ∧ Typed .char A
theorem Ch.mv {a : Addr} {A : Cell} {U U' : State} (h : Ch a A U) (hal : U.vm.Alike U'.vm) (hh : U'.heap = U.heap) : Ch a A U' := ⟨h.1.mv hal hh, h.2⟩
theorem Ch.keep {a : Addr} {A : Cell} {U U' : State} (h : Ch a A U) (hal : U.vm.Alike U'.vm) (hk : U'.heap[a]? = some A) : Ch a A U' := ⟨h.1.keep hal hk, h.2⟩
/-- what place i of a char[]'s cell holds -/
def cv (A : Cell) (i : Nat) : Int32 := match A.slots[i]? with | some (.int x) => x | _ => 0
theorem Ch.get {a : Addr} {A : Cell} {U : State} (h : Ch a A U) {i : Nat} (hi : i < A.slots.size) : A.slots[i]? = some (.int (cv A i)) := by
  have e := Array.getElem?_eq_getElem hi
  have f := h.2 i _ e
  unfold cv; rw [e]
  generalize A.slots[i] = v at f
  cases v <;> simp [fits] at f ⊢
/-- the byte that i2b leaves of a char -/
def lo8 (x : Int32) : Int32 := x.toInt8.toInt32
theorem fits_lo8 (y : Int32) : fits .byte (.int (lo8 y)) = true := by
  have h1 := y.toInt8.le_toInt
  have h2 := y.toInt8.toInt_lt
  simp only [lo8, fits, Bool.and_eq_true, decide_eq_true_eq, Int32.le_iff_toInt_le, Int8.toInt_toInt32, show (-128 : Int32).toInt = -128 from by decide, show (127 : Int32).toInt = 127 from by decide]
  omega
/-- A' is A but that each place j of lo .. hi - 1 holds f j -/
def Laid (A A' : Cell) (lo hi : Nat) (f : Nat → Value) : Prop := A'.cls = A.cls ∧ A'.vm = A.vm ∧ A'.slots.size = A.slots.size ∧ ∀ i, A'.slots[i]? = if lo ≤ i ∧ i < hi then some (f i) else A.slots[i]?
theorem Laid.zero (A : Cell) (lo : Nat) (f : Nat → Value) : Laid A A lo (lo + 0) f := ⟨rfl, rfl, rfl, fun i => by rw [if_neg (by omega)]⟩
theorem Laid.step {A Ak : Cell} {lo k : Nat} {f : Nat → Value} {v : Value} (h : Laid A Ak lo k f) (hlo : lo ≤ k) (hk : k < Ak.slots.size) (hv : v = f k) : Laid A (Ak.setSlot k v) lo (k + 1) f := by
  refine ⟨h.1, h.2.1, by simpa [Cell.setSlot] using h.2.2.1, fun i => ?_⟩
  by_cases e : k = i
  · subst e; rw [Cell.slots_setSlot_self v hk, if_pos (by omega), hv]
  · rw [Cell.slots_setSlot_ne v e, h.2.2.2 i]
    by_cases q : lo ≤ i ∧ i < k
    · rw [if_pos q, if_pos (by omega)]
    · rw [if_neg q, if_neg (by omega)]
def U16 : String := "java/lang/StringUTF16"
namespace Cmp5
def yN : MethodName := ⟨"java/lang/StringUTF16", "compress", "([CI[BII)I"⟩
abbrev yB : ByteArray := jdk_52_method_21_code
theorem d0 : decode yB 0 = .ok (.iconst 0, 1) := by decide +kernel
theorem d1 : decode yB 1 = .ok (.istore 5, 2) := by decide +kernel
theorem d3 : decode yB 3 = .ok (.iload 5, 2) := by decide +kernel
theorem d5 : decode yB 5 = .ok (.iload 4, 2) := by decide +kernel
theorem d7 : decode yB 7 = .ok (.if_icmp (.ge) 37, 3) := by decide +kernel
theorem d10 : decode yB 10 = .ok (.aload_n 0, 1) := by decide +kernel
theorem d11 : decode yB 11 = .ok (.iload_n 1, 1) := by decide +kernel
theorem d12 : decode yB 12 = .ok (.caload, 1) := by decide +kernel
theorem d13 : decode yB 13 = .ok (.istore 6, 2) := by decide +kernel
theorem d15 : decode yB 15 = .ok (.iload 6, 2) := by decide +kernel
theorem d17 : decode yB 17 = .ok (.sipush 255, 3) := by decide +kernel
theorem d20 : decode yB 20 = .ok (.if_icmp (.le) 6, 3) := by decide +kernel
theorem d26 : decode yB 26 = .ok (.aload_n 2, 1) := by decide +kernel
theorem d27 : decode yB 27 = .ok (.iload_n 3, 1) := by decide +kernel
theorem d28 : decode yB 28 = .ok (.iload 6, 2) := by decide +kernel
theorem d30 : decode yB 30 = .ok (.i2b, 1) := by decide +kernel
theorem d31 : decode yB 31 = .ok (.bastore, 1) := by decide +kernel
theorem d32 : decode yB 32 = .ok (.iinc 1 1, 3) := by decide +kernel
theorem d35 : decode yB 35 = .ok (.iinc 3 1, 3) := by decide +kernel
theorem d38 : decode yB 38 = .ok (.iinc 5 1, 3) := by decide +kernel
theorem d41 : decode yB 41 = .ok (.goto (-38), 3) := by decide +kernel
theorem d44 : decode yB 44 = .ok (.iload 4, 2) := by decide +kernel
theorem d46 : decode yB 46 = .ok (.ireturn, 1) := by decide +kernel
def site : List Cond := []
def tab : Cond := tabOf yN yB 7 (some .int) site
def P (b : Addr) (A : Cell) (d : Addr) (B : Cell) (o q len : Nat) (args : Array Value) (s : State) : Prop := args = #[.ref b, .int (Int32.ofNat o), .ref d, .int (Int32.ofNat q), .int (Int32.ofNat len)] ∧ Ch b A s ∧ Arr .byte d B s ∧ b ≠ d ∧ o + len ≤ A.slots.size ∧ q + len ≤ B.slots.size ∧ ∀ i, i < len → ¬ 255 < cv A (o + i)
def E (b : Addr) (A : Cell) (d : Addr) (B : Cell) (o q len : Nat) (r : Option Value) (s u : State) : Prop := r = some (.int (Int32.ofNat len)) ∧ ∃ B', Put d B' s u ∧ Laid B B' q (q + len) (fun j => Value.int (lo8 (cv A (o + (j - q)))))
/-- no char of the range above 255: len; the places written hold each char's low byte -/
theorem law (l : Launch) (b : Addr) (A : Cell) (d : Addr) (B : Cell) (o q len : Nat) : Law l yN 5 5 0 0 yB 7 (some .int) site (P b A d B o q len) (E b A d B o q len) (copyLocs d q len) 0 0 := by
  refine Law.of_walk (plainFor_of_name (by decide +kernel)) (by decide +kernel) (by decide +kernel) (by decide) (fun _ _ h => by rw [h.1]; rfl) (fun _ U U' hal hh h => ⟨h.1, h.2.1.mv hal hh, h.2.2.1.mv hal hh, h.2.2.2⟩) (fun r U U' V V' h1 hal h2 h => ⟨h.1, h.2.elim fun B' q => ⟨B', q.1.mv h1 h2, q.2⟩⟩) ?_
  intro p e s m args below meth c s₁ X0 hexec hbytes hml hret hlk hnm hown hh0 W hP
  obtain ⟨rfl, hA, hB, hne, l1, l2, hp⟩ := hP
  have c1 : Steps p.tables e below (s₁.setTop (entryFrame m #[.ref b, .int (Int32.ofNat o), .ref d, .int (Int32.ofNat q), .int (Int32.ofNat len)] 7)) (s₁.setTop (mkF m 0 #[.val (.ref b), .val (.int (Int32.ofNat o)), .val (.ref d), .val (.int (Int32.ofNat q)), .val (.int (Int32.ofNat len)), .unset, .unset] [])) := entry rfl
  have hA0 := hA.1.mv X0.warmed.alike hh0
  have hB0 := hB.mv X0.warmed.alike hh0
  have a31 := hA.1.2.2.2
  have c2 : Steps p.tables e below (s₁.setTop (entryFrame m #[.ref b, .int (Int32.ofNat o), .ref d, .int (Int32.ofNat q), .int (Int32.ofNat len)] 7)) (s₁.setTop (mkF m 3 #[.val (.ref b), .val (.int (Int32.ofNat o)), .val (.ref d), .val (.int (Int32.ofNat q)), .val (.int (Int32.ofNat len)), .val (.int 0), .unset] [])) := c1.trans (by
    refine iconstV X0.here hexec rfl 0 (hb hbytes d0) (by decide) ?_
    refine XS.istore X0.here hexec rfl (hb hbytes d1) rfl rfl ?_
    exact Steps.refl _)
  have loop : ∀ (r i : Nat), i + r = len → ∀ (z : Slot), (z = .unset ∨ ∃ w, z = .val w ∧ w.category = 1) → ∀ (Tl : State) (Bk : Cell), Stand p l e { frames := 0, locals := 0, cells := 0, slots := 0 } s m #[.ref b, .int (Int32.ofNat o), .ref d, .int (Int32.ofNat q), .int (Int32.ofNat len)] below meth c Tl ([] ++ copyLocs d q i) 0 0 → Put d Bk s₁ Tl → Laid B Bk q (q + i) (fun j => Value.int (lo8 (cv A (o + (j - q))))) →
      Steps p.tables e below (s₁.setTop (entryFrame m #[.ref b, .int (Int32.ofNat o), .ref d, .int (Int32.ofNat q), .int (Int32.ofNat len)] 7)) (Tl.setTop (mkF m 3 #[.val (.ref b), .val (.int (Int32.ofNat (o + i))), .val (.ref d), .val (.int (Int32.ofNat (q + i))), .val (.int (Int32.ofNat len)), .val (.int (Int32.ofNat i)), z] [])) → ∃ (T' : State) (B' : Cell) (z' : Slot), Stand p l e { frames := 0, locals := 0, cells := 0, slots := 0 } s m #[.ref b, .int (Int32.ofNat o), .ref d, .int (Int32.ofNat q), .int (Int32.ofNat len)] below meth c T' ([] ++ copyLocs d q len) 0 0 ∧ Put d B' s₁ T' ∧ Laid B B' q (q + len) (fun j => Value.int (lo8 (cv A (o + (j - q))))) ∧
      Steps p.tables e below (s₁.setTop (entryFrame m #[.ref b, .int (Int32.ofNat o), .ref d, .int (Int32.ofNat q), .int (Int32.ofNat len)] 7)) (T'.setTop (mkF m 3 #[.val (.ref b), .val (.int (Int32.ofNat (o + len))), .val (.ref d), .val (.int (Int32.ofNat (q + len))), .val (.int (Int32.ofNat len)), .val (.int (Int32.ofNat len)), z'] [])) := by
    intro r
    induction r with
    | zero =>
      intro i hi z hz Tl Bk Xl pl fl cl
      have hil : i = len := by omega
      rw [hil] at Xl fl cl
      exact ⟨Tl, Bk, z, Xl, pl, fl, cl⟩
    | succ r ih =>
      intro i hi z hz Tl Bk Xl pl fl cl
      have all := X0.warmed.alike.symm.trans Xl.warmed.alike
      have hAl := hA0.keep all (pl.other hne hA0.1)
      have hBk := hB0.like all pl.1 fl.1 fl.2.1 fl.2.2.1
      have hlt : q + i < Bk.slots.size := by rw [fl.2.2.1]; omega
      have c3 : Steps p.tables e below (s₁.setTop (entryFrame m #[.ref b, .int (Int32.ofNat o), .ref d, .int (Int32.ofNat q), .int (Int32.ofNat len)] 7)) (Tl.setTop (mkF m 12 #[.val (.ref b), .val (.int (Int32.ofNat (o + i))), .val (.ref d), .val (.int (Int32.ofNat (q + i))), .val (.int (Int32.ofNat len)), .val (.int (Int32.ofNat i)), z] [.int (Int32.ofNat (o + i)), .ref b])) := cl.trans (by
        refine XS.iload Xl.here hexec rfl (hb hbytes d3) rfl ?_
        refine XS.iload Xl.here hexec rfl (hb hbytes d5) rfl ?_
        refine XS.icmpNo Xl.here hexec rfl (hb hbytes d7) rfl (ii_ge_f (lt32 (by omega) (by omega))) ?_
        refine XS.aloadN Xl.here hexec rfl (hb hbytes d10) rfl rfl ?_
        refine XS.iloadN Xl.here hexec rfl (hb hbytes d11) rfl ?_
        exact Steps.refl _)
      have c4 : Steps p.tables e below (s₁.setTop (entryFrame m #[.ref b, .int (Int32.ofNat o), .ref d, .int (Int32.ofNat q), .int (Int32.ofNat len)] 7)) (Tl.setTop (mkF m 13 #[.val (.ref b), .val (.int (Int32.ofNat (o + i))), .val (.ref d), .val (.int (Int32.ofNat (q + i))), .val (.int (Int32.ofNat len)), .val (.int (Int32.ofNat i)), z] [.int (cv A (o + i))])) := c3.trans (by
        refine Xl.aget hexec hAl rfl (hA.get (i := o + i) (by omega)) rfl rfl (hb hbytes d12) ?_
        exact Steps.refl _)
      have c5 : Steps p.tables e below (s₁.setTop (entryFrame m #[.ref b, .int (Int32.ofNat o), .ref d, .int (Int32.ofNat q), .int (Int32.ofNat len)] 7)) (Tl.setTop (mkF m 15 #[.val (.ref b), .val (.int (Int32.ofNat (o + i))), .val (.ref d), .val (.int (Int32.ofNat (q + i))), .val (.int (Int32.ofNat len)), .val (.int (Int32.ofNat i)), .val (.int (cv A (o + i)))] [])) := c4.trans (by
        refine XS.istoreS Xl.here hexec rfl (hb hbytes d13) rfl rfl hz ?_
        exact Steps.refl _)
      have c6 : Steps p.tables e below (s₁.setTop (entryFrame m #[.ref b, .int (Int32.ofNat o), .ref d, .int (Int32.ofNat q), .int (Int32.ofNat len)] 7)) (Tl.setTop (mkF m 31 #[.val (.ref b), .val (.int (Int32.ofNat (o + i))), .val (.ref d), .val (.int (Int32.ofNat (q + i))), .val (.int (Int32.ofNat len)), .val (.int (Int32.ofNat i)), .val (.int (cv A (o + i)))] [.int (lo8 (cv A (o + i))), .int (Int32.ofNat (q + i)), .ref d])) := c5.trans (by
        refine XS.iload Xl.here hexec rfl (hb hbytes d15) rfl ?_
        refine sipushV Xl.here hexec rfl 255 (hb hbytes d17) (by decide) ?_
        refine XS.icmpYes Xl.here hexec rfl (pc0 := 20) rfl (hb hbytes d20) rfl (ii_le_t (hp i (by omega))) (by decide) rfl ?_
        refine XS.aloadN Xl.here hexec rfl (hb hbytes d26) rfl rfl ?_
        refine XS.iloadN Xl.here hexec rfl (hb hbytes d27) rfl ?_
        refine XS.iload Xl.here hexec rfl (hb hbytes d28) rfl ?_
        refine i2b Xl.here hexec rfl (hb hbytes d30) rfl ?_
        exact Steps.refl _)
      obtain ⟨T7, X7, p7, st7⟩ := Xl.aput hexec hBk rfl hlt rfl (fits_lo8 (cv A (o + i))) (g := (mkF m 31 #[.val (.ref b), .val (.int (Int32.ofNat (o + i))), .val (.ref d), .val (.int (Int32.ofNat (q + i))), .val (.int (Int32.ofNat len)), .val (.int (Int32.ofNat i)), .val (.int (cv A (o + i)))] [.int (lo8 (cv A (o + i))), .int (Int32.ofNat (q + i)), .ref d])) rfl (rest := []) rfl (hb hbytes d31)
      have c8 : Steps p.tables e below (s₁.setTop (entryFrame m #[.ref b, .int (Int32.ofNat o), .ref d, .int (Int32.ofNat q), .int (Int32.ofNat len)] 7)) (T7.setTop (mkF m 32 #[.val (.ref b), .val (.int (Int32.ofNat (o + i))), .val (.ref d), .val (.int (Int32.ofNat (q + i))), .val (.int (Int32.ofNat len)), .val (.int (Int32.ofNat i)), .val (.int (cv A (o + i)))] [])) := c6.trans (st7 _ (Steps.refl _))
      have c9 : Steps p.tables e below (s₁.setTop (entryFrame m #[.ref b, .int (Int32.ofNat o), .ref d, .int (Int32.ofNat q), .int (Int32.ofNat len)] 7)) (T7.setTop (mkF m 3 #[.val (.ref b), .val (.int (Int32.ofNat (o + i) + 1)), .val (.ref d), .val (.int (Int32.ofNat (q + i) + 1)), .val (.int (Int32.ofNat len)), .val (.int (Int32.ofNat i + 1)), .val (.int (cv A (o + i)))] [])) := c8.trans (by
        refine iincV X7.here hexec rfl 1 (hb hbytes d32) (by decide) rfl rfl ?_
        refine iincV X7.here hexec rfl 1 (hb hbytes d35) (by decide) rfl rfl ?_
        refine iincV X7.here hexec rfl 1 (hb hbytes d38) (by decide) rfl rfl ?_
        refine XS.goto X7.here hexec rfl (pc0 := 41) rfl (hb hbytes d41) (by decide) rfl ?_
        exact Steps.refl _)
      have c10 : Steps p.tables e below (s₁.setTop (entryFrame m #[.ref b, .int (Int32.ofNat o), .ref d, .int (Int32.ofNat q), .int (Int32.ofNat len)] 7)) (T7.setTop (mkF m 3 #[.val (.ref b), .val (.int (Int32.ofNat (o + (i + 1)))), .val (.ref d), .val (.int (Int32.ofNat (q + (i + 1)))), .val (.int (Int32.ofNat len)), .val (.int (Int32.ofNat (i + 1))), .val (.int (cv A (o + i)))] [])) := by
        have := c9
        rw [succ32, succ32, succ32] at this
        exact this
      exact ih (i + 1) (by omega) _ (Or.inr ⟨_, rfl, rfl⟩) T7 _ (by rw [copyLocs_step, ← List.append_assoc]; exact X7) (pl.trans p7) (fl.step (by omega) hlt (by simp)) c10
  obtain ⟨T9, B9, z9, X9, p9, f9, g9⟩ := loop len 0 (by omega) .unset (Or.inl rfl) s₁ B (by simpa [copyLocs] using X0) ⟨hB0.1, fun _ _ => rfl, rfl⟩ (Laid.zero _ _ _) c2
  have c11 : Steps p.tables e below (s₁.setTop (entryFrame m #[.ref b, .int (Int32.ofNat o), .ref d, .int (Int32.ofNat q), .int (Int32.ofNat len)] 7)) (T9.setTop (mkF m 46 #[.val (.ref b), .val (.int (Int32.ofNat (o + len))), .val (.ref d), .val (.int (Int32.ofNat (q + len))), .val (.int (Int32.ofNat len)), .val (.int (Int32.ofNat len)), z9] [.int (Int32.ofNat len)])) := g9.trans (by
    refine XS.iload X9.here hexec rfl (hb hbytes d3) rfl ?_
    refine XS.iload X9.here hexec rfl (hb hbytes d5) rfl ?_
    refine XS.icmpYes X9.here hexec rfl (pc0 := 7) rfl (hb hbytes d7) rfl (ii_ge_t (nlt32 (by omega) (Nat.le_refl _))) (by decide) rfl ?_
    refine XS.iload X9.here hexec rfl (hb hbytes d44) rfl ?_
    exact Steps.refl _)
  exact ⟨T9, some (.int (Int32.ofNat len)), _, _, _, X9, by simp, rfl, rfl, (fun h => by cases h), ⟨rfl, B9, p9.from hh0, f9⟩, fun fs hl => c11.trans (X9.ireturnOut hexec hret rfl (Or.inl rfl) (hb hbytes d46) hl)⟩
end Cmp5
namespace Cmp3
def yN : MethodName := ⟨"java/lang/StringUTF16", "compress", "([CII)[B"⟩
abbrev yB : ByteArray := jdk_52_method_16_code
theorem d0 : decode yB 0 = .ok (.iload_n 2, 1) := by decide +kernel
theorem d1 : decode yB 1 = .ok (.newarray .byte, 2) := by decide +kernel
theorem d3 : decode yB 3 = .ok (.astore_n 3, 1) := by decide +kernel
theorem d4 : decode yB 4 = .ok (.aload_n 0, 1) := by decide +kernel
theorem d5 : decode yB 5 = .ok (.iload_n 1, 1) := by decide +kernel
theorem d6 : decode yB 6 = .ok (.aload_n 3, 1) := by decide +kernel
theorem d7 : decode yB 7 = .ok (.iconst 0, 1) := by decide +kernel
theorem d8 : decode yB 8 = .ok (.iload_n 2, 1) := by decide +kernel
theorem d9 : decode yB 9 = .ok (.invokestatic 115, 3) := by decide +kernel
theorem d12 : decode yB 12 = .ok (.istore 4, 2) := by decide +kernel
theorem d14 : decode yB 14 = .ok (.iload 4, 2) := by decide +kernel
theorem d16 : decode yB 16 = .ok (.iload_n 2, 1) := by decide +kernel
theorem d17 : decode yB 17 = .ok (.if_icmp (.eq) 40, 3) := by decide +kernel
theorem d57 : decode yB 57 = .ok (.aload_n 3, 1) := by decide +kernel
theorem d58 : decode yB 58 = .ok (.areturn, 1) := by decide +kernel
def site : List Cond := [.arrayClass .byte, Cmp5.tab] ++ staticW U16 115 Cmp5.yN
def tab : Cond := tabOf yN yB 6 (some (.array .byte)) site
def P (b : Addr) (A : Cell) (o len : Nat) (args : Array Value) (s : State) : Prop := args = #[.ref b, .int (Int32.ofNat o), .int (Int32.ofNat len)] ∧ Ch b A s ∧ o + len ≤ A.slots.size ∧ len ≤ 536870912 ∧ ∀ i, i < len → ¬ 255 < cv A (o + i)
def E (b : Addr) (A : Cell) (o len : Nat) (r : Option Value) (s u : State) : Prop := NewArr .byte "[B" len (fun j => .int (lo8 (cv A (o + j)))) r s u ∧ u.heap.size = s.heap.size + 1
/-- no char of the range above 255: a new byte[] of their low bytes -/
theorem law (l : Launch) (b : Addr) (A : Cell) (o len : Nat) : Law l yN 3 3 1 18 yB 6 (some (.array .byte)) site (P b A o len) (E b A o len) [] 1 len := by
  refine Law.of_walk (plainFor_of_name (by decide +kernel)) (by decide +kernel) (by decide +kernel) (by decide) (fun _ _ h => by rw [h.1]; rfl) (fun _ U U' hal hh h => ⟨h.1, h.2.1.mv hal hh, h.2.2⟩) (fun r U U' V V' h1 hal h2 h => ⟨NewArr.mv r U U' V V' h1 hal h2 h.1, by rw [h1, h2]; exact h.2⟩) ?_
  intro p e s m args below meth c s₁ X0 hexec hbytes hml hret hlk hnm hown hh0 W hP
  obtain ⟨rfl, hA, l1, l2, hp⟩ := hP
  have a31 := hA.1.2.2.2
  have c1 : Steps p.tables e below (s₁.setTop (entryFrame m #[.ref b, .int (Int32.ofNat o), .int (Int32.ofNat len)] 6)) (s₁.setTop (mkF m 0 #[.val (.ref b), .val (.int (Int32.ofNat o)), .val (.int (Int32.ofNat len)), .unset, .unset, .unset] [])) := entry rfl
  have c2 : Steps p.tables e below (s₁.setTop (entryFrame m #[.ref b, .int (Int32.ofNat o), .int (Int32.ofNat len)] 6)) (s₁.setTop (mkF m 1 #[.val (.ref b), .val (.int (Int32.ofNat o)), .val (.int (Int32.ofNat len)), .unset, .unset, .unset] [.int (Int32.ofNat len)])) := c1.trans (by
    refine XS.iloadN X0.here hexec rfl (hb hbytes d0) rfl ?_
    exact Steps.refl _)
  obtain ⟨T3, B3, X3, ba3, bs3, bv3, bh3, bf3, st3⟩ := X0.anew hexec (atype := .byte) (wk W (.arrayClass .byte)) rfl (by show len * 1 ≤ _; omega) (by omega) (g := (mkF m 1 #[.val (.ref b), .val (.int (Int32.ofNat o)), .val (.int (Int32.ofNat len)), .unset, .unset, .unset] [.int (Int32.ofNat len)])) rfl (hb hbytes d1) (rest := []) rfl (Nat.le_refl _) (by show 0 + len ≤ len; omega)
  rw [hh0] at ba3 st3
  have kp3 : XT.Kept s T3 := (XT.Kept.of_eq hh0).push bh3
  have hA3 := hA.keep X3.warmed.alike (kp3 _ _ hA.1.1)
  have hne : b ≠ s.heap.size := hA.1.ne
  have c4 : Steps p.tables e below (s₁.setTop (entryFrame m #[.ref b, .int (Int32.ofNat o), .int (Int32.ofNat len)] 6)) (T3.setTop (mkF m 3 #[.val (.ref b), .val (.int (Int32.ofNat o)), .val (.int (Int32.ofNat len)), .unset, .unset, .unset] [.ref s.heap.size])) := c2.trans (st3 _ (Steps.refl _))
  have c5 : Steps p.tables e below (s₁.setTop (entryFrame m #[.ref b, .int (Int32.ofNat o), .int (Int32.ofNat len)] 6)) (T3.setTop (mkF m 9 #[.val (.ref b), .val (.int (Int32.ofNat o)), .val (.int (Int32.ofNat len)), .val (.ref s.heap.size), .unset, .unset] [.int (Int32.ofNat len), .int 0, .ref s.heap.size, .int (Int32.ofNat o), .ref b])) := c4.trans (by
    refine XS.astoreN X3.here hexec rfl (hb hbytes d3) rfl rfl rfl ?_
    refine XS.aloadN X3.here hexec rfl (hb hbytes d4) rfl rfl ?_
    refine XS.iloadN X3.here hexec rfl (hb hbytes d5) rfl ?_
    refine XS.aloadN X3.here hexec rfl (hb hbytes d6) rfl rfl ?_
    refine iconstV X3.here hexec rfl 0 (hb hbytes d7) (by decide) ?_
    refine XS.iloadN X3.here hexec rfl (hb hbytes d8) rfl ?_
    exact Steps.refl _)
  obtain ⟨v6, T6, X6, E6, g6⟩ := X3.callS hexec (Cmp5.law l b A s.heap.size B3 o 0 len) hown (wks W (staticW U16 115 Cmp5.yN)) (wk W Cmp5.tab) (W := 0) (Nat.le_of_ble_eq_true rfl) (Nat.le_of_ble_eq_true rfl) (Nat.le_refl _) (by show 0 + len + 0 ≤ len; omega) (g := (mkF m 9 #[.val (.ref b), .val (.int (Int32.ofNat o)), .val (.int (Int32.ofNat len)), .val (.ref s.heap.size), .unset, .unset] [.int (Int32.ofNat len), .int (Int32.ofNat 0), .ref s.heap.size, .int (Int32.ofNat o), .ref b])) rfl (by rw [hml]; rfl) c5 (argsL := [.ref b, .int (Int32.ofNat o), .ref s.heap.size, .int (Int32.ofNat 0), .int (Int32.ofNat len)]) (rest := []) rfl rfl (by show 2 * 0 + 0 ≤ _; decide) (hb hbytes d9) (⟨rfl, hA3, ba3, hne, l1, by rw [bs3]; simp, hp⟩)
  obtain ⟨rfl, B6, p6, f6⟩ := E6
  have c7 : Steps p.tables e below (s₁.setTop (entryFrame m #[.ref b, .int (Int32.ofNat o), .int (Int32.ofNat len)] 6)) (T6.setTop (mkF m 12 #[.val (.ref b), .val (.int (Int32.ofNat o)), .val (.int (Int32.ofNat len)), .val (.ref s.heap.size), .unset, .unset] [.int (Int32.ofNat len)])) := g6
  have c8 : Steps p.tables e below (s₁.setTop (entryFrame m #[.ref b, .int (Int32.ofNat o), .int (Int32.ofNat len)] 6)) (T6.setTop (mkF m 58 #[.val (.ref b), .val (.int (Int32.ofNat o)), .val (.int (Int32.ofNat len)), .val (.ref s.heap.size), .val (.int (Int32.ofNat len)), .unset] [.ref s.heap.size])) := c7.trans (by
    refine XS.istore X6.here hexec rfl (hb hbytes d12) rfl rfl ?_
    refine XS.iload X6.here hexec rfl (hb hbytes d14) rfl ?_
    refine XS.iloadN X6.here hexec rfl (hb hbytes d16) rfl ?_
    refine XS.icmpYes X6.here hexec rfl (pc0 := 17) rfl (hb hbytes d17) rfl (ii_eq_t rfl) (by decide) rfl ?_
    refine XS.aloadN X6.here hexec rfl (hb hbytes d57) rfl rfl ?_
    exact Steps.refl _)
  have X8 := X6.wide (L' := []) (cells' := 1) (slots' := len) (fun x hx hlt => by
    simp only [List.nil_append, copyLocs, List.mem_map, List.mem_range] at hx
    obtain ⟨i, -, rfl⟩ := hx
    exact absurd hlt (Nat.lt_irrefl _)) (Nat.le_refl _) (by omega)
  exact ⟨T6, some (.ref s.heap.size), _, _, _, X8, rfl, rfl, rfl, (fun h => by cases h), ⟨⟨rfl, B6, ba3.like (X3.warmed.alike.symm.trans X6.warmed.alike) p6.1 f6.1 f6.2.1 f6.2.2.1, f6.2.1.trans bv3, by rw [X6.warmed.alike.findClass, f6.1]; exact bf3, by rw [f6.2.2.1, bs3]; simp, fun j hj => by rw [f6.2.2.2 j, if_pos (by omega)]; rfl, kp3.put p6 (Nat.le_refl _)⟩, by rw [p6.2.2, bh3, hh0]; simp⟩, fun fs hl => c8.trans (X8.areturnOut hexec rfl hret rfl (hb hbytes d58) hl)⟩
end Cmp3
namespace CodL
def yN : MethodName := ⟨"java/lang/StringUTF16", "coderFromArrayLen", "([BI)B"⟩
abbrev yB : ByteArray := jdk_52_method_15_code
theorem d0 : decode yB 0 = .ok (.iload_n 1, 1) := by decide +kernel
theorem d1 : decode yB 1 = .ok (.aload_n 0, 1) := by decide +kernel
theorem d2 : decode yB 2 = .ok (.arraylength, 1) := by decide +kernel
theorem d3 : decode yB 3 = .ok (.isub, 1) := by decide +kernel
theorem d4 : decode yB 4 = .ok (.bipush 31, 2) := by decide +kernel
theorem d6 : decode yB 6 = .ok (.iushr, 1) := by decide +kernel
theorem d7 : decode yB 7 = .ok (.i2b, 1) := by decide +kernel
theorem d8 : decode yB 8 = .ok (.ireturn, 1) := by decide +kernel
def site : List Cond := []
def tab : Cond := tabOf yN yB 2 (some .byte) site
def P (d : Addr) (B : Cell) (args : Array Value) (s : State) : Prop := args = #[.ref d, .int (Int32.ofNat B.slots.size)] ∧ Arr .byte d B s
def E (r : Option Value) (s u : State) : Prop := XT.PureE (some (.int 0)) r s u
/-- an array as long as the number of chars: LATIN1 -/
theorem law (l : Launch) (d : Addr) (B : Cell) : Law l yN 2 2 0 0 yB 2 (some .byte) site (P d B) E [] 0 0 := by
  refine Law.of_walk (plainFor_of_name (by decide +kernel)) (by decide +kernel) (by decide +kernel) (by decide) (fun _ _ h => by rw [h.1]; rfl) (fun _ U U' hal hh h => ⟨h.1, h.2.mv hal hh⟩) (fun r U U' V V' h1 hal h2 h => XT.PureE.mv r U U' V V' h1 hal h2 h) ?_
  intro p e s m args below meth c s₁ X0 hexec hbytes hml hret hlk hnm hown hh0 W hP
  obtain ⟨rfl, hB⟩ := hP
  have hB0 := hB.mv X0.warmed.alike hh0
  have c1 : Steps p.tables e below (s₁.setTop (entryFrame m #[.ref d, .int (Int32.ofNat B.slots.size)] 2)) (s₁.setTop (mkF m 0 #[.val (.ref d), .val (.int (Int32.ofNat B.slots.size))] [])) := entry rfl
  have c2 : Steps p.tables e below (s₁.setTop (entryFrame m #[.ref d, .int (Int32.ofNat B.slots.size)] 2)) (s₁.setTop (mkF m 2 #[.val (.ref d), .val (.int (Int32.ofNat B.slots.size))] [.ref d, .int (Int32.ofNat B.slots.size)])) := c1.trans (by
    refine XS.iloadN X0.here hexec rfl (hb hbytes d0) rfl ?_
    refine XS.aloadN X0.here hexec rfl (hb hbytes d1) rfl rfl ?_
    exact Steps.refl _)
  have c3 : Steps p.tables e below (s₁.setTop (entryFrame m #[.ref d, .int (Int32.ofNat B.slots.size)] 2)) (s₁.setTop (mkF m 8 #[.val (.ref d), .val (.int (Int32.ofNat B.slots.size))] [.int (lo8 (ushr (Int32.ofNat B.slots.size - Int32.ofNat B.slots.size) 31))])) := c2.trans (by
    refine X0.alen hexec hB0 rfl rfl (hb hbytes d2) ?_
    refine XS.isub X0.here hexec rfl (hb hbytes d3) rfl ?_
    refine bipushV X0.here hexec rfl 31 (hb hbytes d4) (by decide) ?_
    refine iushr X0.here hexec rfl (hb hbytes d6) rfl ?_
    refine i2b X0.here hexec rfl (hb hbytes d7) rfl ?_
    exact Steps.refl _)
  have e0 : lo8 (ushr (Int32.ofNat B.slots.size - Int32.ofNat B.slots.size) 31) = 0 := by rw [Int32.sub_self]; decide
  rw [e0] at c3
  exact ⟨s₁, some (.int 0), _, _, _, X0, rfl, rfl, rfl, (fun h => by cases h), ⟨rfl, hh0⟩, fun fs hl => c3.trans (X0.ireturnOut hexec hret rfl (Or.inr (Or.inr (Or.inl rfl))) (hb hbytes d8) hl)⟩
end CodL
/-- the String at a is Latin-1 over a new byte[] (the heap's one new cell): the low bytes of the len chars of A from o on; every cell but a is kept -/
def Got (a : Addr) (D : Cell) (fV fC : Field) (A : Cell) (o len : Nat) (r : Option Value) (s u : State) : Prop := r = none ∧ ∃ D' V : Cell, Blank "java/lang/String" a D' u ∧ Same D D' [fV.slot, fC.slot] ∧ D'.slots[fV.slot]? = some (.ref s.heap.size) ∧ D'.slots[fC.slot]? = some (.int 0) ∧ Arr .byte s.heap.size V u ∧ V.vm = .none ∧ u.vm.findClass "[B" = some V.cls ∧ V.slots.size = len ∧ (∀ j, j < len → V.slots[j]? = some (.int (lo8 (cv A (o + j))))) ∧ (∀ (y : Addr) (c : Cell), y ≠ a → s.heap[y]? = some c → u.heap[y]? = some c) ∧ u.heap.size = s.heap.size + 1
theorem Got.mv {a : Addr} {D A : Cell} {fV fC : Field} {o len : Nat} : ∀ r (U U' V V' : State), U'.heap = U.heap → V.vm.Alike V'.vm → V'.heap = V.heap → Got a D fV fC A o len r U V → Got a D fV fC A o len r U' V' :=
  fun r U U' V V' h1 hal h2 ⟨e0, D', X, a1, a2, a3, a4, a5, a6, a7, a8, a9, a10, a11⟩ => ⟨e0, D', X, a1.mv hal h2, a2, by rw [h1]; exact a3, a4, by rw [h1]; exact a5.mv hal h2, a6, by rw [hal.findClass]; exact a7, a8, a9, by rw [h1, h2]; exact a10, by rw [h1, h2]; exact a11⟩
namespace New4
def yN : MethodName := ⟨"java/lang/String", "<init>", "([CIILjava/lang/Void;)V"⟩
abbrev yB : ByteArray := jdk_42_method_149_code
theorem d0 : decode yB 0 = .ok (.aload_n 0, 1) := by decide +kernel
theorem d1 : decode yB 1 = .ok (.invokespecial 1, 3) := by decide +kernel
theorem d4 : decode yB 4 = .ok (.iload_n 3, 1) := by decide +kernel
theorem d5 : decode yB 5 = .ok (.ifCond (.ne) 22, 3) := by decide +kernel
theorem d27 : decode yB 27 = .ok (.getstatic 38, 3) := by decide +kernel
theorem d30 : decode yB 30 = .ok (.ifCond (.eq) 28, 3) := by decide +kernel
theorem d33 : decode yB 33 = .ok (.aload_n 1, 1) := by decide +kernel
theorem d34 : decode yB 34 = .ok (.iload_n 2, 1) := by decide +kernel
theorem d35 : decode yB 35 = .ok (.iload_n 3, 1) := by decide +kernel
theorem d36 : decode yB 36 = .ok (.invokestatic 177, 3) := by decide +kernel
theorem d39 : decode yB 39 = .ok (.astore 5, 2) := by decide +kernel
theorem d41 : decode yB 41 = .ok (.aload_n 0, 1) := by decide +kernel
theorem d42 : decode yB 42 = .ok (.aload 5, 2) := by decide +kernel
theorem d44 : decode yB 44 = .ok (.iload_n 3, 1) := by decide +kernel
theorem d45 : decode yB 45 = .ok (.invokestatic 47, 3) := by decide +kernel
theorem d48 : decode yB 48 = .ok (.putfield 15, 3) := by decide +kernel
theorem d51 : decode yB 51 = .ok (.aload_n 0, 1) := by decide +kernel
theorem d52 : decode yB 52 = .ok (.aload 5, 2) := by decide +kernel
theorem d54 : decode yB 54 = .ok (.putfield 9, 3) := by decide +kernel
theorem d57 : decode yB 57 = .ok (.return_, 1) := by decide +kernel
def site : List Cond := [.fieldLink "java/lang/String" 38 "java/lang/String" "COMPACT_STRINGS" "Z", Cmp3.tab, CodL.tab, .laysFinal "java/lang/String" "java/lang/String" "value" "[B", .fieldLink "java/lang/String" 9 "java/lang/String" "value" "[B", .laysFinal "java/lang/String" "java/lang/String" "coder" "B", .fieldLink "java/lang/String" 15 "java/lang/String" "coder" "B"] ++ objW "java/lang/String" 1 ++ staticW "java/lang/String" 177 Cmp3.yN ++ staticW "java/lang/String" 47 CodL.yN
def tab : Cond := tabOf yN yB 6 none site
def P (a : Addr) (D : Cell) (fV fC : Field) (b : Addr) (A : Cell) (z : Int32) (o len : Nat) (args : Array Value) (s : State) : Prop := args = #[.ref a, .ref b, .int (Int32.ofNat o), .int (Int32.ofNat len), .null] ∧ Blank "java/lang/String" a D s ∧ Found "java/lang/String" "value" "[B" fV s ∧ Found "java/lang/String" "coder" "B" fC s ∧ Ch b A s ∧ StaticIs s "java/lang/String" "COMPACT_STRINGS" "Z" (.int z) ∧ ¬ z = 0 ∧ 0 < len ∧ o + len ≤ A.slots.size ∧ len ≤ 536870912 ∧ ∀ i, i < len → ¬ 255 < cv A (o + i)
def E (a : Addr) (D : Cell) (fV fC : Field) (A : Cell) (o len : Nat) (r : Option Value) (s u : State) : Prop := Got a D fV fC A o len r s u
/-- len > 0, no char of the range above 255: a Latin-1 String of their low bytes -/
theorem law (l : Launch) (a : Addr) (D : Cell) (fV fC : Field) (b : Addr) (A : Cell) (z : Int32) (o len : Nat) : Law l yN 5 4 2 35 yB 6 none site (P a D fV fC b A z o len) (E a D fV fC A o len) [⟨a, fC.slot⟩, ⟨a, fV.slot⟩] 1 len := by
  refine Law.of_walk (plainFor_of_name (by decide +kernel)) (by decide +kernel) (by decide +kernel) (by decide) (fun _ _ h => by rw [h.1]; rfl) (fun _ U U' hal hh h => ⟨h.1, h.2.1.mv hal hh, h.2.2.1.al hal, h.2.2.2.1.al hal, h.2.2.2.2.1.mv hal hh, h.2.2.2.2.2.1.there hal hh, h.2.2.2.2.2.2⟩) (fun r U U' V V' h1 hal h2 h => Got.mv r U U' V V' h1 hal h2 h) ?_
  intro p e s m args below meth c s₁ X0 hexec hbytes hml hret hlk hnm hown hh0 W hP
  obtain ⟨rfl, hB, f1, f2, hA, s1, hz, l0, l1, l2, hp⟩ := hP
  have a31 := hA.1.2.2.2
  have c1 : Steps p.tables e below (s₁.setTop (entryFrame m #[.ref a, .ref b, .int (Int32.ofNat o), .int (Int32.ofNat len), .null] 6)) (s₁.setTop (mkF m 0 #[.val (.ref a), .val (.ref b), .val (.int (Int32.ofNat o)), .val (.int (Int32.ofNat len)), .val .null, .unset] [])) := entry rfl
  have c2 : Steps p.tables e below (s₁.setTop (entryFrame m #[.ref a, .ref b, .int (Int32.ofNat o), .int (Int32.ofNat len), .null] 6)) (s₁.setTop (mkF m 1 #[.val (.ref a), .val (.ref b), .val (.int (Int32.ofNat o)), .val (.int (Int32.ofNat len)), .val .null, .unset] [.ref a])) := c1.trans (by
    refine XS.aloadN X0.here hexec rfl (hb hbytes d0) rfl rfl ?_
    exact Steps.refl _)
  obtain ⟨T3, X3, q3, st3⟩ := X0.oinit hexec hown (wks W (objW "java/lang/String" 1)) (g := (mkF m 1 #[.val (.ref a), .val (.ref b), .val (.int (Int32.ofNat o)), .val (.int (Int32.ofNat len)), .val .null, .unset] [.ref a])) rfl (by rw [hml]; rfl) (rest := []) rfl (hb hbytes d1) (W := 0) (by show 2 * 0 + 0 ≤ _; decide) (Nat.le_of_ble_eq_true rfl) (Nat.le_of_ble_eq_true rfl)
  have hh3 := q3.trans hh0
  have c4 : Steps p.tables e below (s₁.setTop (entryFrame m #[.ref a, .ref b, .int (Int32.ofNat o), .int (Int32.ofNat len), .null] 6)) (T3.setTop (mkF m 27 #[.val (.ref a), .val (.ref b), .val (.int (Int32.ofNat o)), .val (.int (Int32.ofNat len)), .val .null, .unset] [])) := (c2.trans (st3 _ (Steps.refl _))).trans (by
    refine XS.iloadN X3.here hexec rfl (hb hbytes d4) rfl ?_
    refine XS.ifYes X3.here hexec rfl (pc0 := 5) rfl (hb hbytes d5) rfl (i0_ne_t (nz32 (by omega) l0)) (by decide) rfl ?_
    exact Steps.refl _)
  obtain ⟨T5, X5, q5, st5⟩ := X3.sget hexec hown (wk W (.fieldLink "java/lang/String" 38 "java/lang/String" "COMPACT_STRINGS" "Z")) s1 (fun _ _ h => by rw [hh3]; exact h) (g := (mkF m 27 #[.val (.ref a), .val (.ref b), .val (.int (Int32.ofNat o)), .val (.int (Int32.ofNat len)), .val .null, .unset] [])) rfl (hb hbytes d27)
  have hh5 := q5.trans hh3
  have c6 : Steps p.tables e below (s₁.setTop (entryFrame m #[.ref a, .ref b, .int (Int32.ofNat o), .int (Int32.ofNat len), .null] 6)) (T5.setTop (mkF m 30 #[.val (.ref a), .val (.ref b), .val (.int (Int32.ofNat o)), .val (.int (Int32.ofNat len)), .val .null, .unset] [.int z])) := c4.trans (st5 _ (Steps.refl _))
  have c7 : Steps p.tables e below (s₁.setTop (entryFrame m #[.ref a, .ref b, .int (Int32.ofNat o), .int (Int32.ofNat len), .null] 6)) (T5.setTop (mkF m 36 #[.val (.ref a), .val (.ref b), .val (.int (Int32.ofNat o)), .val (.int (Int32.ofNat len)), .val .null, .unset] [.int (Int32.ofNat len), .int (Int32.ofNat o), .ref b])) := c6.trans (by
    refine XS.ifNo X5.here hexec rfl (hb hbytes d30) rfl (i0_eq_f hz) ?_
    refine XS.aloadN X5.here hexec rfl (hb hbytes d33) rfl rfl ?_
    refine XS.iloadN X5.here hexec rfl (hb hbytes d34) rfl ?_
    refine XS.iloadN X5.here hexec rfl (hb hbytes d35) rfl ?_
    exact Steps.refl _)
  obtain ⟨v8, T8, X8, E8, g8⟩ := X5.callS hexec (Cmp3.law l b A o len) hown (wks W (staticW "java/lang/String" 177 Cmp3.yN)) (wk W Cmp3.tab) (W := 0) (Nat.le_of_ble_eq_true rfl) (Nat.le_of_ble_eq_true rfl) (Nat.le_refl _) (by show 0 + len ≤ len; omega) (g := (mkF m 36 #[.val (.ref a), .val (.ref b), .val (.int (Int32.ofNat o)), .val (.int (Int32.ofNat len)), .val .null, .unset] [.int (Int32.ofNat len), .int (Int32.ofNat o), .ref b])) rfl (by rw [hml]; rfl) c7 (argsL := [.ref b, .int (Int32.ofNat o), .int (Int32.ofNat len)]) (rest := []) rfl rfl (by show 2 * 0 + 0 ≤ _; decide) (hb hbytes d36) (⟨rfl, hA.mv X5.warmed.alike hh5, l1, l2, hp⟩)
  obtain ⟨e8, z8⟩ := E8
  obtain ⟨rfl, N, n1, n2, n3, n4, n5, n6⟩ := NewArr.mv _ T5 s _ _ hh5.symm (Vm.Alike.refl _) rfl e8
  rw [hh5] at z8
  have hB1 := hB.keep X8.warmed.alike (n6 _ _ hB.1)
  have hne : s.heap.size ≠ a := (Nat.ne_of_lt (Array.getElem?_eq_some_iff.mp hB.1).1).symm
  have c9 : Steps p.tables e below (s₁.setTop (entryFrame m #[.ref a, .ref b, .int (Int32.ofNat o), .int (Int32.ofNat len), .null] 6)) (T8.setTop (mkF m 39 #[.val (.ref a), .val (.ref b), .val (.int (Int32.ofNat o)), .val (.int (Int32.ofNat len)), .val .null, .unset] [.ref s.heap.size])) := g8
  have c10 : Steps p.tables e below (s₁.setTop (entryFrame m #[.ref a, .ref b, .int (Int32.ofNat o), .int (Int32.ofNat len), .null] 6)) (T8.setTop (mkF m 45 #[.val (.ref a), .val (.ref b), .val (.int (Int32.ofNat o)), .val (.int (Int32.ofNat len)), .val .null, .val (.ref s.heap.size)] [.int (Int32.ofNat N.slots.size), .ref s.heap.size, .ref a])) := by
    have hc : Steps p.tables e below (s₁.setTop (entryFrame m #[.ref a, .ref b, .int (Int32.ofNat o), .int (Int32.ofNat len), .null] 6)) (T8.setTop (mkF m 45 #[.val (.ref a), .val (.ref b), .val (.int (Int32.ofNat o)), .val (.int (Int32.ofNat len)), .val .null, .val (.ref s.heap.size)] [.int (Int32.ofNat len), .ref s.heap.size, .ref a])) := c9.trans (by
      refine XS.astore X8.here hexec rfl (hb hbytes d39) rfl rfl rfl ?_
      refine XS.aloadN X8.here hexec rfl (hb hbytes d41) rfl rfl ?_
      refine XS.aload X8.here hexec rfl (hb hbytes d42) rfl rfl ?_
      refine XS.iloadN X8.here hexec rfl (hb hbytes d44) rfl ?_
      exact Steps.refl _)
    rw [n4]; exact hc
  obtain ⟨v11, T11, X11, E11, g11⟩ := X8.callS hexec (CodL.law l s.heap.size N) hown (wks W (staticW "java/lang/String" 47 CodL.yN)) (wk W CodL.tab) (W := 1) (Nat.le_of_ble_eq_true rfl) (Nat.le_of_ble_eq_true rfl) (Nat.le_refl _) (by show 0 + len + 0 ≤ len; omega) (g := (mkF m 45 #[.val (.ref a), .val (.ref b), .val (.int (Int32.ofNat o)), .val (.int (Int32.ofNat len)), .val .null, .val (.ref s.heap.size)] [.int (Int32.ofNat N.slots.size), .ref s.heap.size, .ref a])) rfl (by rw [hml]; rfl) c10 (argsL := [.ref s.heap.size, .int (Int32.ofNat N.slots.size)]) (rest := [.ref a]) rfl rfl (by show 2 * 0 + (1 + 0) ≤ _; decide) (hb hbytes d45) (⟨rfl, n1⟩)
  obtain ⟨rfl, q11⟩ := E11
  have hB11 := hB1.mv (X8.warmed.alike.symm.trans X11.warmed.alike) q11
  have c12 : Steps p.tables e below (s₁.setTop (entryFrame m #[.ref a, .ref b, .int (Int32.ofNat o), .int (Int32.ofNat len), .null] 6)) (T11.setTop (mkF m 48 #[.val (.ref a), .val (.ref b), .val (.int (Int32.ofNat o)), .val (.int (Int32.ofNat len)), .val .null, .val (.ref s.heap.size)] [.int 0, .ref a])) := g11
  obtain ⟨T13, X13, p13, bl13, sl13, st13⟩ := X11.finit hexec hown (wk W (.fieldLink "java/lang/String" 15 "java/lang/String" "coder" "B")) (Or.inr ⟨_, (wk W (.laysFinal "java/lang/String" "java/lang/String" "coder" "B"))⟩) (Or.inl ⟨rfl, hnm⟩) f2 (Or.inl rfl) hB11 (t := .byte) (by decide +kernel) rfl (g := (mkF m 48 #[.val (.ref a), .val (.ref b), .val (.int (Int32.ofNat o)), .val (.int (Int32.ofNat len)), .val .null, .val (.ref s.heap.size)] [.int 0, .ref a])) rfl (rest := []) rfl (hb hbytes d48)
  have c14 : Steps p.tables e below (s₁.setTop (entryFrame m #[.ref a, .ref b, .int (Int32.ofNat o), .int (Int32.ofNat len), .null] 6)) (T13.setTop (mkF m 54 #[.val (.ref a), .val (.ref b), .val (.int (Int32.ofNat o)), .val (.int (Int32.ofNat len)), .val .null, .val (.ref s.heap.size)] [.ref s.heap.size, .ref a])) := (c12.trans (st13 _ (Steps.refl _))).trans (by
    refine XS.aloadN X13.here hexec rfl (hb hbytes d51) rfl rfl ?_
    refine XS.aload X13.here hexec rfl (hb hbytes d52) rfl rfl ?_
    exact Steps.refl _)
  obtain ⟨T15, X15, p15, bl15, sl15, st15⟩ := X13.finit hexec hown (wk W (.fieldLink "java/lang/String" 9 "java/lang/String" "value" "[B")) (Or.inr ⟨_, (wk W (.laysFinal "java/lang/String" "java/lang/String" "value" "[B"))⟩) (Or.inl ⟨rfl, hnm⟩) f1 (Or.inl rfl) bl13 (t := (.array .byte)) (by decide +kernel) rfl (g := (mkF m 54 #[.val (.ref a), .val (.ref b), .val (.int (Int32.ofNat o)), .val (.int (Int32.ofNat len)), .val .null, .val (.ref s.heap.size)] [.ref s.heap.size, .ref a])) rfl (rest := []) rfl (hb hbytes d54)
  have c16 : Steps p.tables e below (s₁.setTop (entryFrame m #[.ref a, .ref b, .int (Int32.ofNat o), .int (Int32.ofNat len), .null] 6)) (T15.setTop (mkF m 57 #[.val (.ref a), .val (.ref b), .val (.int (Int32.ofNat o)), .val (.int (Int32.ofNat len)), .val .null, .val (.ref s.heap.size)] [])) := c14.trans (st15 _ (Steps.refl _))
  have ap := apart (Or.inr ⟨_, (wk W (.laysFinal "java/lang/String" "java/lang/String" "value" "[B"))⟩) (Or.inr ⟨_, (wk W (.laysFinal "java/lang/String" "java/lang/String" "coder" "B"))⟩) f1 f2 (t₁ := .array .byte) (t₂ := .byte) (by decide +kernel) (by decide +kernel) (by decide)
  have al := X8.warmed.alike.symm.trans X15.warmed.alike
  have n7 : T11.heap[s.heap.size]? = some N := by rw [q11]; exact n1.1
  exact ⟨T15, none, _, _, _, X15, by simp, rfl, by omega, (fun _ => rfl), ⟨rfl, _, N, bl15, ((Same.refl D _).set _ (by simp)).set _ (by simp), sl15, (Cell.slots_setSlot_ne _ ap).trans sl13, n1.keep al (p15.other hne (p13.other hne n7)), n2, by rw [al.findClass]; exact n3, n4, n5, fun y c h1 h2 => p15.other h1 (p13.other h1 (by rw [q11]; exact n6 y c h2)), by rw [p15.2.2, p13.2.2, q11]; exact z8⟩, fun fs hl => c16.trans (X15.returnOut hexec hret (hb hbytes d57) hl)⟩
end New4
namespace New1
def yN : MethodName := ⟨"java/lang/String", "<init>", "([C)V"⟩
abbrev yB : ByteArray := jdk_42_method_3_code
theorem d0 : decode yB 0 = .ok (.aload_n 0, 1) := by decide +kernel
theorem d1 : decode yB 1 = .ok (.aload_n 1, 1) := by decide +kernel
theorem d2 : decode yB 2 = .ok (.iconst 0, 1) := by decide +kernel
theorem d3 : decode yB 3 = .ok (.aload_n 1, 1) := by decide +kernel
theorem d4 : decode yB 4 = .ok (.arraylength, 1) := by decide +kernel
theorem d5 : decode yB 5 = .ok (.aconst_null, 1) := by decide +kernel
theorem d6 : decode yB 6 = .ok (.invokespecial 27, 3) := by decide +kernel
theorem d9 : decode yB 9 = .ok (.return_, 1) := by decide +kernel
def site : List Cond := [New4.tab] ++ initW "java/lang/String" 27 New4.yN
def tab : Cond := tabOf yN yB 2 none site
def P (a : Addr) (D : Cell) (fV fC : Field) (b : Addr) (A : Cell) (z : Int32) (args : Array Value) (s : State) : Prop := args = #[.ref a, .ref b] ∧ Blank "java/lang/String" a D s ∧ Found "java/lang/String" "value" "[B" fV s ∧ Found "java/lang/String" "coder" "B" fC s ∧ Ch b A s ∧ StaticIs s "java/lang/String" "COMPACT_STRINGS" "Z" (.int z) ∧ ¬ z = 0 ∧ 0 < A.slots.size ∧ A.slots.size ≤ 536870912 ∧ ∀ i, i < A.slots.size → ¬ 255 < cv A i
def E (a : Addr) (D : Cell) (fV fC : Field) (A : Cell) (r : Option Value) (s u : State) : Prop := Got a D fV fC A 0 A.slots.size r s u
/-- new String(chars), not empty, no char above 255: a Latin-1 String of their low bytes -/
theorem law (l : Launch) (a : Addr) (D : Cell) (fV fC : Field) (b : Addr) (A : Cell) (z : Int32) : Law l yN 2 1 3 52 yB 2 none site (P a D fV fC b A z) (E a D fV fC A) [⟨a, fC.slot⟩, ⟨a, fV.slot⟩] 1 A.slots.size := by
  refine Law.of_walk (plainFor_of_name (by decide +kernel)) (by decide +kernel) (by decide +kernel) (by decide) (fun _ _ h => by rw [h.1]; rfl) (fun _ U U' hal hh h => ⟨h.1, h.2.1.mv hal hh, h.2.2.1.al hal, h.2.2.2.1.al hal, h.2.2.2.2.1.mv hal hh, h.2.2.2.2.2.1.there hal hh, h.2.2.2.2.2.2⟩) (fun r U U' V V' h1 hal h2 h => Got.mv r U U' V V' h1 hal h2 h) ?_
  intro p e s m args below meth c s₁ X0 hexec hbytes hml hret hlk hnm hown hh0 W hP
  obtain ⟨rfl, hB, f1, f2, hA, s1, hz, l0, l2, hp⟩ := hP
  have c1 : Steps p.tables e below (s₁.setTop (entryFrame m #[.ref a, .ref b] 2)) (s₁.setTop (mkF m 0 #[.val (.ref a), .val (.ref b)] [])) := entry rfl
  have c2 : Steps p.tables e below (s₁.setTop (entryFrame m #[.ref a, .ref b] 2)) (s₁.setTop (mkF m 6 #[.val (.ref a), .val (.ref b)] [.null, .int (Int32.ofNat A.slots.size), .int 0, .ref b, .ref a])) := c1.trans (by
    refine XS.aloadN X0.here hexec rfl (hb hbytes d0) rfl rfl ?_
    refine XS.aloadN X0.here hexec rfl (hb hbytes d1) rfl rfl ?_
    refine iconstV X0.here hexec rfl 0 (hb hbytes d2) (by decide) ?_
    refine XS.aloadN X0.here hexec rfl (hb hbytes d3) rfl rfl ?_
    refine X0.alen hexec (hA.1.mv X0.warmed.alike hh0) rfl rfl (hb hbytes d4) ?_
    refine XS.aconstNull X0.here hexec rfl (hb hbytes d5) ?_
    exact Steps.refl _)
  obtain ⟨v3, T3, X3, E3, g3⟩ := X0.callN hexec (New4.law l a D fV fC b A z 0 A.slots.size) rfl hown (wks W (initW "java/lang/String" 27 New4.yN)) (W New4.tab (by simp only [site, List.mem_cons, List.mem_append, true_or, or_true])) (W := 0) (Nat.le_of_ble_eq_true rfl) (Nat.le_of_ble_eq_true rfl) (Nat.le_refl _) (by show 0 + A.slots.size ≤ A.slots.size; omega) (g := (mkF m 6 #[.val (.ref a), .val (.ref b)] [.null, .int (Int32.ofNat A.slots.size), .int (Int32.ofNat 0), .ref b, .ref a])) rfl (by rw [hml]; rfl) c2 (argsL := [.ref b, .int (Int32.ofNat 0), .int (Int32.ofNat A.slots.size), .null]) (rest := []) rfl rfl (by show 2 * 0 + 0 ≤ _; decide) (hb hbytes d6) (⟨rfl, hB.mv X0.warmed.alike hh0, f1.al X0.warmed.alike, f2.al X0.warmed.alike, hA.mv X0.warmed.alike hh0, s1.there X0.warmed.alike hh0, hz, l0, by omega, l2, fun i hi => by rw [Nat.zero_add]; exact hp i hi⟩)
  have e0 := Got.mv _ s₁ s _ _ hh0.symm (Vm.Alike.refl _) rfl E3
  obtain rfl := e0.1
  have c4 : Steps p.tables e below (s₁.setTop (entryFrame m #[.ref a, .ref b] 2)) (T3.setTop (mkF m 9 #[.val (.ref a), .val (.ref b)] [])) := g3
  exact ⟨T3, none, _, _, _, X3, by simp, rfl, by omega, (fun _ => rfl), e0, fun fs hl => c4.trans (X3.returnOut hexec hret (hb hbytes d9) hl)⟩
theorem pays {l : Launch} {R : Room} {p : Program} {e : Env} {below : List Frame} {s : State} {sargs : Array Value} {len W : Nat} (a : Addr) (D : Cell) (fV fC : Field) (b : Addr) (A : Cell) (z : Int32) (htab : tab.before sargs s = true) (hfr : 4 ≤ R.frames) (hlo : W + 65 ≤ R.locals) :
    Back l R p e below s sargs yN len W (fun A₁ a₁ => A₁.cells + 1 ≤ R.cells ∧ A₁.slots + A.slots.size ≤ R.slots ∧ P a D fV fC b A z a₁ A₁.U) (fun A₁ _ v₁ B₁ => E a D fV fC A v₁ A₁.U B₁.U ∧ B₁.locs = A₁.locs ++ [⟨a, fC.slot⟩, ⟨a, fV.slot⟩] ∧ B₁.cells = A₁.cells + 1 ∧ B₁.slots = A₁.slots + A.slots.size) :=
  (law l a D fV fC b A z).pays htab hfr (by omega)
end New1
/-- the byte, read back as charAt reads it, is the char -/
theorem lo8_mask {x : Int32} (h0 : ¬ x < 0) (h1 : ¬ 255 < x) : lo8 x &&& 255 = x := by
  have t : ∀ k : Fin 256, lo8 (Int32.ofNat k.val) &&& 255 = Int32.ofNat k.val := by decide +kernel
  rw [Int32.lt_iff_toInt_lt] at h0 h1
  have e0 : (0 : Int32).toInt = 0 := rfl
  have e1 : (255 : Int32).toInt = 255 := rfl
  obtain ⟨k, hk⟩ : ∃ k : Nat, x.toInt = k := ⟨x.toInt.toNat, by omega⟩
  have hx : x = Int32.ofNat k := Int32.toInt_inj.mp (by rw [hk, Int32.toInt_ofNat_small (by omega)])
  rw [hx]
  exact t ⟨k, by omega⟩
end StrChars
namespace StrChars.Road
open Jvm Sem ClassFile Op Lib Jvm.Stand Jvm.Free Jvm.Free.XT
open Jvm.Lib.Cold (StaticIs)
abbrev ST : String := "java/lang/String"
/-- every table word that New1's law asks, flat -/
abbrev words : List Jvm.Cond := [.code New1.yN New1.yB 2 none, .initialized ST, .methodLink ST 27 New4.yN, .instanceMethod New4.yN,
  .code New4.yN New4.yB 6 none, .fieldLink ST 38 ST "COMPACT_STRINGS" "Z", .laysFinal ST ST "value" "[B", .fieldLink ST 9 ST "value" "[B", .laysFinal ST ST "coder" "B", .fieldLink ST 15 ST "coder" "B",
  .methodLink ST 1 Lib.objectInit, .instanceMethod Lib.objectInit, .code Lib.objectInit ⟨#[0xb1]⟩ 1 none, .methodLink ST 177 Cmp3.yN, .static Cmp3.yN, .methodLink ST 47 CodL.yN, .static CodL.yN,
  .code Cmp3.yN Cmp3.yB 6 (some (.array .byte)), .initialized U16, .arrayClass .byte, .methodLink U16 115 Cmp5.yN, .static Cmp5.yN, .code Cmp5.yN Cmp5.yB 7 (some .int), .code CodL.yN CodL.yB 2 (some .byte)]
theorem tab_of {a : Array Value} {s : State} (h : ∀ w ∈ words, w.before a s = true) : New1.tab.before a s = true := by
  have h5 : Cmp5.tab.before a s = true := unparts (wk h (.code Cmp5.yN Cmp5.yB 7 (some .int))) (wks h (.initialized Cmp5.yN.cls :: Cmp5.site))
  have hc : CodL.tab.before a s = true := unparts (wk h (.code CodL.yN CodL.yB 2 (some .byte))) (wks h (.initialized CodL.yN.cls :: CodL.site))
  have q5 : ∀ w ∈ Cmp5.tab :: words, w.before a s = true := fun w hw => (List.mem_cons.mp hw).elim (fun e => e ▸ h5) (h w)
  have h3 : Cmp3.tab.before a s = true := unparts (wk q5 (.code Cmp3.yN Cmp3.yB 6 (some (.array .byte)))) (wks q5 (.initialized Cmp3.yN.cls :: Cmp3.site))
  have q3 : ∀ w ∈ Cmp3.tab :: CodL.tab :: words, w.before a s = true := fun w hw => (List.mem_cons.mp hw).elim (fun e => e ▸ h3) fun hw => (List.mem_cons.mp hw).elim (fun e => e ▸ hc) (h w)
  have h4 : New4.tab.before a s = true := unparts (wk q3 (.code New4.yN New4.yB 6 none)) (wks q3 (.initialized New4.yN.cls :: New4.site))
  have q4 : ∀ w ∈ New4.tab :: words, w.before a s = true := fun w hw => (List.mem_cons.mp hw).elim (fun e => e ▸ h4) (h w)
  exact unparts (wk q4 (.code New1.yN New1.yB 2 none)) (wks q4 (.initialized New1.yN.cls :: New1.site))
/-- the words ride from the start Z to the walk's own state -/
theorem moved {Z s : State} {a0 args : Array Value} (hZ : Z.Warmed39 s.vm) (hw : ∀ d ∈ words, d.before a0 Z = true) : ∀ d ∈ words, d.before args s = true := fun d hd => by
  have q := hw d hd
  have t : ∀ d ∈ words, d = .arrayClass .byte ∨ (d.onTables && d.keepsFace) = true := by decide +kernel
  rcases t d hd with rfl | t
  · exact RoadKit.mvA hZ q
  · exact RoadKit.mv hZ q t
/-- WHAT COMES BACK, over the tables of the start Z: h the heap at the call, h' behind it -/
def Q (Z : State) (x : Addr) (A : Cell) (h : Heap) (v : Option Value) (h' : Heap) (L : List Loc) : Prop := v = none ∧ (∀ y ∈ L, y.base = x) ∧ RoadKit.Keep h h' [x] ∧ h'.size = h.size + 1 ∧ RoadKit.Exa Z h' x ST ∧ RoadKit.Fld Z h' x ST "value" "[B" (.ref h.size) ∧ RoadKit.Fld Z h' x ST "coder" "B" (.int 0) ∧
  (∃ V : Cell, RoadKit.Arr Z h' h.size V .byte ∧ V.vm = .none ∧ Z.vm.findClass "[B" = some V.cls ∧ V.slots.size = A.slots.size ∧ ∀ j, j < A.slots.size → V.slots[j]? = some (.int (lo8 (cv A j)))) ∧
  ∀ (O n d : String) (w : Value), RoadKit.Fld Z h x O n d w → RoadKit.slotOf Z O n d ≠ RoadKit.slotOf Z ST "value" "[B" → RoadKit.slotOf Z O n d ≠ RoadKit.slotOf Z ST "coder" "B" → RoadKit.Fld Z h' x O n d w
/-- **new String(chars) AT A CALL, IN THE ROAD'S FORM**: for specialBack behind newO: x the fresh String, b the char[] with the cell A -/
theorem back {p : Program} {l : Launch} {e : Env} {R : Room} {s : State} {args : Array Value} {below : List Frame} {len W : Nat} {Z : State} {a0 : Array Value} {h : Heap} (hZ : Z.Warmed39 s.vm) (hw : ∀ d ∈ words, d.before a0 Z = true) {kI : Nat} (wi : (Jvm.Cond.instantiable ST kI).before a0 Z = true)
    {x b : Addr} {A : Cell} {z : Int32} {v0 c0 : Value} (E : RoadKit.Exa Z h x ST) (V : RoadKit.Fld Z h x ST "value" "[B" v0) (C : RoadKit.Fld Z h x ST "coder" "B" c0) (K : RoadKit.Arr Z h b A .char) (hty : Typed .char A) (S : RoadKit.Sta Z h ST "COMPACT_STRINGS" "Z" (.int z)) (hz : ¬ z = 0)
    (l0 : 0 < A.slots.size) (l2 : A.slots.size ≤ 536870912) (hp : ∀ i, i < A.slots.size → ¬ 255 < cv A i) (hfr : 4 ≤ R.frames) (hlo : W + 65 ≤ R.locals) :
    Back l R p e below s args New1.yN len W (fun P a => a = #[.ref x, .ref b] ∧ P.U.heap = h ∧ P.cells + 1 ≤ R.cells ∧ P.slots + A.slots.size ≤ R.slots)
      (fun P _ v B => ∃ L, Q Z x A h v B.U.heap L ∧ B.locs = P.locs ++ L ∧ B.cells = P.cells + 1 ∧ B.slots = P.slots + A.slots.size) := by
  intro m meth c P g ig mk a X hg hsize hdg hW hn hp'
  obtain ⟨rfl, rfl, r1, r2⟩ := hp'
  have al : Z.vm.Alike P.U.vm := hZ.alike.trans X.warmed.alike
  obtain ⟨D, cfV, kV, iV, fV, hD, gV, stV, knV, obV, asV, slV⟩ := id V
  obtain ⟨D', cfC, kC, iC, fC, hD', gC, stC, -, -, asC, slC⟩ := id C
  cases hD.symm.trans hD'
  obtain ⟨D2, kD, e1, e2, e3, e4, e5⟩ := id E
  cases hD.symm.trans e1
  obtain ⟨c2, k2, i1, i2, i3, -⟩ := Cond.instantiable_spec wi
  cases e2.symm.trans i1
  cases e3.symm.trans i2
  obtain ⟨kU, u1, u2⟩ := al.2.2 _ _ e3
  have hB : Blank ST x D P.U := ⟨hD, ⟨knV, fun q hq => by rw [hq] at obV; cases obV⟩, by rw [al.findClass]; exact e2, kU, u1, by rw [u2]; exact i3, by rw [u2]; exact e5 i3⟩
  have F1 : Found ST "value" "[B" fV P.U := ⟨SBG.found_only al ⟨cfV, kV, iV, gV⟩, stV⟩
  have F2 : Found ST "coder" "B" fC P.U := ⟨SBG.found_only al ⟨cfC, kC, iC, gC⟩, stC⟩
  have hA : Ch b A P.U := ⟨⟨K.1, State.isArrayOf_alike al K.2.1, K.2.2, by omega⟩, hty⟩
  have hS : StaticIs P.U ST "COMPACT_STRINGS" "Z" (.int z) := by
    obtain ⟨cfS, iS, kS, fS, st, cS, t1, t2, t3, t4, t5, t6, t7⟩ := S
    exact StaticIs.there (s := { Z with heap := P.U.heap }) ⟨cfS, iS, kS, fS, st, cS, t1, t2, t3, t4, t5, (fun q => by rw [q] at t6; cases t6), t7⟩ al rfl
  obtain ⟨v, B, X', ⟨⟨hv, E', V', q1, q2, q3, q4, q5, q6, q7, q8, q9, q10, q11⟩, hl, hc, hs⟩, st⟩ := New1.pays x D fV fC b A z (tab_of (moved hZ hw)) hfr hlo m meth c P g ig mk _ X hg hsize hdg hW hn ⟨r1, r2, rfl, hB, F1, F2, hA, hS, hz, l0, l2, hp⟩
  have al' : Z.vm.Alike B.U.vm := hZ.alike.trans X'.warmed.alike
  have hsz : E'.slots.size = D.slots.size := by
    obtain ⟨-, -, -, kB, w1, w2, w3⟩ := q1
    obtain ⟨kB', y1, y2⟩ := al'.2.2 _ _ e3
    rw [q2.2.1] at w1
    cases w1.symm.trans y1
    rw [w3, e5 i3, y2]
  refine ⟨v, B, X', ⟨_, ⟨hv, ?_, ⟨by omega, fun y cy hy hn' => q10 y cy (by simpa using hn') hy, fun y cy hy => ?_⟩, q11, ⟨E', _, q1.1, by rw [q2.2.1]; exact e2, by rw [q2.2.1]; exact e3, by rw [q2.1]; exact obV, fun _ => by rw [hsz]; exact e5 i3⟩,
    ⟨E', cfV, kV, iV, fV, q1.1, gV, stV, by rw [q2.1]; exact knV, by rw [q2.1]; exact obV, by rw [q2.2.1]; exact asV, q3⟩, ⟨E', cfC, kC, iC, fC, q1.1, gC, stC, by rw [q2.1]; exact knV, by rw [q2.1]; exact obV, by rw [q2.2.1]; exact asC, q4⟩,
    ⟨V', ⟨q5.1, State.isArrayOf_alike al'.symm q5.2.1, q5.2.2.1⟩, q6, by rw [← al'.findClass]; exact q7, q8, fun j hj => by have := q9 j hj; rwa [Nat.zero_add] at this⟩, fun O n d w F n1 n2 => ?_⟩, hl, hc, hs⟩, st⟩
  · intro y hy
    simp only [List.mem_cons, List.not_mem_nil, or_false] at hy
    rcases hy with rfl | rfl <;> rfl
  · by_cases q : y = x
    · subst q
      cases hD.symm.trans hy
      exact ⟨E', q1.1, q2.2.1, q2.1, hsz⟩
    · exact ⟨cy, q10 y cy q hy, rfl, rfl, rfl⟩
  · obtain ⟨D3, cf, k, i, f, g1, g2, g3, g4, g5, g6, g7⟩ := F
    cases hD.symm.trans g1
    simp only [RoadKit.slotOf, g2, gV, gC, Option.map_some, Option.getD_some] at n1 n2
    exact ⟨E', cf, k, i, f, q1.1, g2, g3, by rw [q2.1]; exact g4, by rw [q2.1]; exact g5, by rw [q2.2.1]; exact g6, by rw [q2.2.2 f.slot (by simp [n1, n2])]; exact g7⟩
end StrChars.Road
namespace StrChars.Road
open Jvm Sem ClassFile Op Lib Jvm.Stand Jvm.Free Jvm.Free.XT
/-- WHAT COMES BACK, the byte[] as a list of values -/
def QA (Z : State) (x : Addr) (zn : Int32) (cs : List Int32) (h : Heap) (v : Option Value) (h' : Heap) (L : List Loc) : Prop := v = none ∧ (∀ y ∈ L, y.base = x) ∧ RoadKit.Keep h h' [x] ∧ h'.size = h.size + 1 ∧ RoadKit.Exa Z h' x ST ∧ RoadKit.Fld Z h' x ST "value" "[B" (.ref h.size) ∧ RoadKit.Fld Z h' x ST "coder" "B" (.int 0) ∧
  (∃ kb, Z.vm.findClass "[B" = some kb ∧ RoadKit.Arv Z h' h.size kb .byte zn (cs.map fun c => .int (lo8 c)) (.int 0)) ∧
  ∀ (O n d : String) (w : Value), RoadKit.Fld Z h x O n d w → RoadKit.slotOf Z O n d ≠ RoadKit.slotOf Z ST "value" "[B" → RoadKit.slotOf Z O n d ≠ RoadKit.slotOf Z ST "coder" "B" → RoadKit.Fld Z h' x O n d w
/-- **new String(chars) AT A CALL, THE ARRAYS AS LISTS**: the char[] at b holds cs, not empty, no char above 255 -/
theorem backArv {p : Program} {l : Launch} {e : Env} {R : Room} {s : State} {args : Array Value} {below : List Frame} {len W : Nat} {Z : State} {a0 : Array Value} {h : Heap} (hZ : Z.Warmed39 s.vm) (hw : ∀ d ∈ words, d.before a0 Z = true) {kI : Nat} (wi : (Jvm.Cond.instantiable ST kI).before a0 Z = true)
    {x b : Addr} {k : ClassId} {zn z : Int32} {cs : List Int32} {dv v0 c0 : Value} (E : RoadKit.Exa Z h x ST) (V : RoadKit.Fld Z h x ST "value" "[B" v0) (C : RoadKit.Fld Z h x ST "coder" "B" c0) (K : RoadKit.Arv Z h b k .char zn (cs.map Value.int) dv) (S : RoadKit.Sta Z h ST "COMPACT_STRINGS" "Z" (.int z)) (hz : ¬ z = 0)
    (hlen : zn.toNatClampNeg = cs.length) (h0 : 0 < cs.length) (hbig : cs.length ≤ 536870912) (hall : ∀ c ∈ cs, ¬ 255 < c) (hfr : 4 ≤ R.frames) (hlo : W + 65 ≤ R.locals) :
    Back l R p e below s args New1.yN len W (fun P a => a = #[.ref x, .ref b] ∧ P.U.heap = h ∧ P.cells + 1 ≤ R.cells ∧ P.slots + cs.length ≤ R.slots)
      (fun P _ v B => ∃ L, QA Z x zn cs h v B.U.heap L ∧ B.locs = P.locs ++ L ∧ B.cells = P.cells + 1 ∧ B.slots = P.slots + cs.length) := by
  obtain ⟨A, K1, K2, K3, K4, K5, K6⟩ := K
  have e : A.slots.size = cs.length := K3.trans hlen
  have hat : ∀ (i : Nat) (hi : i < cs.length), A.slots[i]? = some (.int cs[i]) := fun i hi => by rw [K5 i (by omega)]; simp [List.getD_eq_getElem?_getD, hi]
  have hcv : ∀ (i : Nat) (hi : i < cs.length), cv A i = cs[i] := fun i hi => by unfold cv; rw [hat i hi]
  have hty : Typed .char A := fun i v hv => by
    have hi : i < A.slots.size := (Array.getElem?_eq_some_iff.mp hv).1
    have q := K5 i hi
    rw [hv] at q
    rw [Option.some.inj q]
    exact K6 i hi
  refine Back.mono (back hZ hw wi E V C K1 hty S hz (by omega) (by omega) (fun i hi => by rw [hcv i (by omega)]; exact hall _ (List.getElem_mem _)) hfr hlo) (fun P a hp => ⟨hp.1, hp.2.1, hp.2.2.1, by rw [e]; exact hp.2.2.2⟩) (fun P a v B hp hq => ?_)
  obtain ⟨L, ⟨q1, q2, q3, q4, q5, q6, q7, ⟨V', v1, v2, v3, v4, v5⟩, q9⟩, hl, hc, hs⟩ := hq
  refine ⟨L, ⟨q1, q2, q3, q4, q5, q6, q7, ⟨V'.cls, v3, V', v1, rfl, by rw [v4, e, hlen], K4, fun i hi => ?_, fun i hi => ?_⟩, q9⟩, hl, hc, by rw [hs, e]⟩
  · have hi' : i < cs.length := by omega
    rw [v5 i (by omega), hcv i hi']; simp [List.getD_eq_getElem?_getD, hi']
  · have hi' : i < cs.length := by omega
    simp only [List.getD_eq_getElem?_getD, List.getElem?_map, List.getElem?_eq_getElem hi', Option.map_some, Option.getD_some]
    exact fits_lo8 _
end StrChars.Road
namespace StrChars.Road
open Jvm Sem ClassFile Op Lib Jvm.Stand Jvm.Free Jvm.Free.XT
/-- WHAT COMES BACK, in the writer's own shape -/
def QV (Z : State) (x : Addr) (N : Int32) (bs : List Int32) (h : Heap) (n0 : Nat) (v : Option Value) (h' : Heap) (L : List Loc) : Prop := v = none ∧ RoadKit.Fr n0 L ∧ RoadKit.Keep h h' [x] ∧ RoadKit.Exa Z h' x ST ∧ RoadKit.Fld Z h' x ST "coder" "B" (.int 0) ∧
  ∃ (t : Addr) (kb : ClassId), n0 ≤ t ∧ h.size ≤ t ∧ ¬ t = x ∧ RoadKit.Fld Z h' x ST "value" "[B" (.ref t) ∧ RoadKit.Arv Z h' t kb .byte N (bs.map Value.int) (.int 0)
/-- **new String(chars) AT A CALL, FOR THE WRITER**: a char[] of n known ints, each 0 to 255 -/
theorem backV {p : Program} {l : Launch} {e : Env} {R : Room} {s : State} {args : Array Value} {below : List Frame} {len W : Nat} {Z : State} {a0 : Array Value} {h : Heap} (hZ : Z.Warmed39 s.vm) (hw : ∀ d ∈ words, d.before a0 Z = true) {kI : Nat} (wi : (Jvm.Cond.instantiable ST kI).before a0 Z = true)
    {x b : Addr} {kC : ClassId} {cs bs : List Int32} {d v0 c0 : Value} {z N : Int32} {n n0 : Nat} (hx0 : n0 ≤ x) (hh0 : n0 ≤ h.size) (E : RoadKit.Exa Z h x ST) (V : RoadKit.Fld Z h x ST "value" "[B" v0) (C : RoadKit.Fld Z h x ST "coder" "B" c0) (K : RoadKit.Arv Z h b kC .char N (cs.map Value.int) d) (S : RoadKit.Sta Z h ST "COMPACT_STRINGS" "Z" (.int z)) (hz : ¬ z = 0)
    (hn : cs.length = n) (hN : N = Int32.ofNat n) (l0 : 0 < n) (l2 : n ≤ 4000) (hp : ∀ c ∈ cs, ¬ c < 0 ∧ ¬ (255 : Int32) < c) (hb : bs = cs.map (fun c => c.toInt8.toInt32)) (hfr : 4 ≤ R.frames) (hlo : W + 65 ≤ R.locals) :
    Back l R p e below s args (⟨"java/lang/String", "<init>", "([C)V"⟩ : MethodName) len W (fun P a => a = #[.ref x, .ref b] ∧ P.U.heap = h ∧ P.cells + 1 ≤ R.cells ∧ P.slots + n ≤ R.slots)
      (fun P _ v B => ∃ L, QV Z x N bs h n0 v B.U.heap L ∧ B.locs = P.locs ++ L ∧ B.cells = P.cells + 1 ∧ B.slots = P.slots + n) := by
  subst hn hN hb
  refine Back.mono (backArv hZ hw wi E V C K S hz (n32 (by omega)) l0 (by omega) (fun c hc => (hp c hc).2) hfr hlo) (fun P a hp => hp) (fun P a v B hp hq => ?_)
  obtain ⟨L, ⟨q1, q2, q3, q4, q5, q6, q7, ⟨kb, v1, v2⟩, q9⟩, hl, hc, hs⟩ := hq
  exact ⟨L, ⟨q1, fun y hy => by rw [q2 y hy]; exact hx0, q3, q5, q7, h.size, kb, hh0, Nat.le_refl _, Nat.ne_of_gt E.lt, q6, by rw [List.map_map]; exact v2⟩, hl, hc, hs⟩
end StrChars.Road
namespace StrChars
open Jvm Sem ClassFile Op Lib Jvm.Stand Jvm.Free.XT Jvm.Free.ALB Jvm.Free.JM Jvm.Free
open Jvm.Lib.Cold (StaticIs)
def hi8 (x : Int32) : Int32 := lo8 (x >>> ((8 : Int32) &&& 31))
/-- what StringUTF16.getChar makes of two bytes -/
def pairCh (u v : Int32) : Int32 := (((u &&& 255) <<< ((0 : Int32) &&& 31)) ||| ((v &&& 255) <<< ((8 : Int32) &&& 31))).toUInt32.toUInt16.toUInt32.toInt32
theorem shr0 (c : Int32) : c >>> ((0 : Int32) &&& 31) = c := by
  have e : ((0 : Int32) &&& 31) = 0 := by decide
  rw [e]
  apply Int32.toBitVec_inj.mp
  rw [Int32.toBitVec_shiftRight]
  have e1 : ((0 : Int32).toBitVec.smod 32) = 0#32 := by decide
  rw [e1, BitVec.sshiftRight_eq']
  exact BitVec.sshiftRight_zero
theorem lo8_and (x : Int32) : (lo8 x &&& 255).toBitVec.toNat = x.toBitVec.toNat % 256 := by
  have h : (lo8 x).toBitVec = (x.toBitVec.signExtend 8).signExtend 32 := by rw [lo8, Int8.toBitVec_toInt32, Int32.toBitVec_toInt8]
  rw [Int32.toBitVec_and, BitVec.toNat_and, h]
  have e : ((x.toBitVec.signExtend 8).signExtend 32).toNat % 256 = x.toBitVec.toNat % 256 := by
    rw [BitVec.toNat_signExtend]
    have hlt := x.toBitVec.isLt
    simp only [BitVec.toNat_setWidth, BitVec.toNat_signExtend]
    split <;> split <;> omega
  rw [← e]
  exact Nat.and_two_pow_sub_one_eq_mod _ 8
theorem pair_says {c : Int32} (h0 : ¬ c < 0) (h1 : ¬ 65535 < c) : pairCh (lo8 c) (hi8 c) = c := by
  rw [Int32.lt_iff_toInt_lt] at h0 h1
  have e0 : (0 : Int32).toInt = 0 := rfl
  have e1 : (65535 : Int32).toInt = 65535 := rfl
  have hc : c.toInt = c.toBitVec.toNat := by
    have := c.toBitVec.isLt
    have e : c.toInt = c.toBitVec.toInt := rfl
    rw [e] at h0 h1
    rw [e]
    rw [BitVec.toInt_eq_toNat_cond] at h0 h1 ⊢
    split at h0 <;> split <;> omega
  have hn : c.toBitVec.toNat < 65536 := by omega
  have a1 := lo8_and c
  have a2 : (hi8 c &&& 255).toBitVec.toNat = c.toBitVec.toNat / 256 := by
    rw [hi8, lo8_and]
    have e : ((8 : Int32) &&& 31) = 8 := by decide
    rw [e, Int32.toBitVec_shiftRight]
    have e2 : ((8 : Int32).toBitVec.smod 32) = 8#32 := by decide
    rw [e2, BitVec.sshiftRight_eq', BitVec.toNat_sshiftRight_of_msb_false (by rw [BitVec.msb_eq_false_iff_two_mul_lt]; omega)]
    show c.toBitVec.toNat >>> 8 % 256 = _
    rw [Nat.shiftRight_eq_div_pow]
    omega
  unfold pairCh
  apply Int32.toBitVec_inj.mp
  apply BitVec.eq_of_toNat_eq
  have f0 : ((0 : Int32) &&& 31) = 0 := by decide
  have f8 : ((8 : Int32) &&& 31) = 8 := by decide
  rw [f0, f8]
  have g : (((lo8 c &&& 255) <<< (0 : Int32)) ||| ((hi8 c &&& 255) <<< (8 : Int32))).toBitVec.toNat = c.toBitVec.toNat := by
    rw [Int32.toBitVec_or, Int32.toBitVec_shiftLeft, Int32.toBitVec_shiftLeft]
    have s0 : ((0 : Int32).toBitVec.smod 32) = 0#32 := by decide
    have s8 : ((8 : Int32).toBitVec.smod 32) = 8#32 := by decide
    rw [s0, s8, BitVec.toNat_or]
    simp only [BitVec.shiftLeft_eq', BitVec.toNat_shiftLeft, a1, a2]
    show (c.toBitVec.toNat % 256) <<< 0 % 2 ^ 32 ||| (c.toBitVec.toNat / 256) <<< 8 % 2 ^ 32 = _
    rw [Nat.shiftLeft_zero, Nat.mod_eq_of_lt (show c.toBitVec.toNat % 256 < 2 ^ 32 by omega), Nat.mod_eq_of_lt (show (c.toBitVec.toNat / 256) <<< 8 < 2 ^ 32 by rw [Nat.shiftLeft_eq]; omega), Nat.or_comm, ← Nat.shiftLeft_add_eq_or_of_lt (by omega), Nat.shiftLeft_eq]
    omega
  show BitVec.toNat (((((lo8 c &&& 255) <<< (0 : Int32)) ||| ((hi8 c &&& 255) <<< (8 : Int32))).toBitVec.setWidth 16).setWidth 32) = _
  rw [BitVec.toNat_setWidth, BitVec.toNat_setWidth, g]
  omega
end StrChars
namespace StrChars
open Jvm Sem ClassFile Op Lib Jvm.Stand Jvm.Free.XT Jvm.Free.ALB Jvm.Free.JM Jvm.Free
open Jvm.Lib.Cold (StaticIs)
theorem shr1 {n : Nat} (h : 2 * n < 2 ^ 31) : Int32.ofNat (2 * n) >>> ((1 : Int32) &&& 31) = Int32.ofNat n := by
  have e : ((1 : Int32) &&& 31) = 1 := by decide
  rw [e]
  apply Int32.toBitVec_inj.mp
  rw [Int32.toBitVec_shiftRight]
  have e1 : ((1 : Int32).toBitVec.smod 32) = 1#32 := by decide
  have hm : (BitVec.ofNat 32 (2 * n)).toNat = 2 * n := by rw [BitVec.toNat_ofNat, Nat.mod_eq_of_lt (by omega)]
  rw [e1, BitVec.sshiftRight_eq']
  apply BitVec.eq_of_toNat_eq
  show ((BitVec.ofNat 32 (2 * n)).sshiftRight 1).toNat = (BitVec.ofNat 32 n).toNat
  rw [BitVec.toNat_sshiftRight_of_msb_false (by rw [BitVec.msb_eq_false_iff_two_mul_lt, hm]; omega), hm, BitVec.toNat_ofNat, Nat.shiftRight_eq_div_pow]
  omega
/-- charAt's cast of a byte read back -/
def chr8 (u : Int32) : Int32 := (u &&& 255).toUInt32.toUInt16.toUInt32.toInt32
theorem chr8_lo8 {c : Int32} (h0 : ¬ c < 0) (h1 : ¬ 255 < c) : chr8 (lo8 c) = c := by
  have t : ∀ k : Fin 256, (Int32.ofNat k.val).toUInt32.toUInt16.toUInt32.toInt32 = Int32.ofNat k.val := by decide +kernel
  unfold chr8
  rw [lo8_mask h0 h1]
  rw [Int32.lt_iff_toInt_lt] at h0 h1
  have e0 : (0 : Int32).toInt = 0 := rfl
  have e1 : (255 : Int32).toInt = 255 := rfl
  obtain ⟨k, hk⟩ : ∃ k : Nat, c.toInt = k := ⟨c.toInt.toNat, by omega⟩
  have hx : c = Int32.ofNat k := Int32.toInt_inj.mp (by rw [hk, Int32.toInt_ofNat_small (by omega)])
  rw [hx]
  exact t ⟨k, by omega⟩
theorem narrow_ch {c : Int32} (h0 : ¬ c < 0) (h1 : ¬ 65535 < c) : narrow .char (.int c) = .int c := by
  have q : narrow .char (.int (pairCh (lo8 c) (hi8 c))) = .int (pairCh (lo8 c) (hi8 c)) := narrow_c _
  rwa [pair_says h0 h1] at q
/-- the array's cell V codes the n chars f 0 .. f (n - 1) by the coder cd, as the JDK does: coder 1 just where some char is above 255 -/
def Cod (cd : Int32) (n : Nat) (f : Nat → Int32) (V : Cell) : Prop := (cd = 0 ∧ V.slots.size = n ∧ ∀ j, j < n → V.slots[j]? = some (.int (lo8 (f j))) ∧ ¬ 255 < f j) ∨ (cd = 1 ∧ V.slots.size = 2 * n ∧ (∀ j, j < n → V.slots[2 * j]? = some (.int (lo8 (f j))) ∧ V.slots[2 * j + 1]? = some (.int (hi8 (f j)))) ∧ ∃ j, j < n ∧ 255 < f j)
theorem Cod.cd {cd : Int32} {n : Nat} {f : Nat → Int32} {V : Cell} (h : Cod cd n f V) : cd = 0 ∨ cd = 1 := h.imp (fun q => q.1) fun q => q.1
theorem Cod.len {cd : Int32} {n : Nat} {f : Nat → Int32} {V : Cell} (h : Cod cd n f V) (hs : V.slots.size < 2 ^ 31) : Int32.ofNat V.slots.size >>> (cd &&& 31) = Int32.ofNat n := by
  rcases h with ⟨rfl, h, -⟩ | ⟨rfl, h, -⟩
  · rw [shr0, h]
  · rw [h, shr1 (by omega)]
/-- **x is a String of the n chars f 0 .. f (n - 1)**, Latin-1 or UTF-16; its array at t has the cell V -/
def Txt (x t : Addr) (V : Cell) (cd : Int32) (n : Nat) (f : Nat → Int32) (U : State) : Prop := Exact "java/lang/String" x U ∧ Has x "java/lang/String" "value" "[B" (.ref t) U ∧ Has x "java/lang/String" "coder" "B" (.int cd) U ∧ XT.Arr .byte t V U ∧ Cod cd n f V ∧ ∀ j, j < n → ¬ f j < 0 ∧ ¬ 65535 < f j
theorem Txt.mv {x t : Addr} {V : Cell} {cd : Int32} {n : Nat} {f : Nat → Int32} {U U' : State} (h : Txt x t V cd n f U) (hal : U.vm.Alike U'.vm) (hh : U'.heap = U.heap) : Txt x t V cd n f U' := ⟨h.1.mv hal hh, h.2.1.mv hal hh, h.2.2.1.mv hal hh, h.2.2.2.1.mv hal hh, h.2.2.2.2⟩
namespace Cdr
def yN : MethodName := ⟨"java/lang/String", "coder", "()B"⟩
abbrev yB : ByteArray := jdk_42_method_152_code
theorem d0 : decode yB 0 = .ok (.getstatic 38, 3) := by decide +kernel
theorem d3 : decode yB 3 = .ok (.ifCond (.eq) 10, 3) := by decide +kernel
theorem d6 : decode yB 6 = .ok (.aload_n 0, 1) := by decide +kernel
theorem d7 : decode yB 7 = .ok (.getfield 15, 3) := by decide +kernel
theorem d10 : decode yB 10 = .ok (.goto 4, 3) := by decide +kernel
theorem d14 : decode yB 14 = .ok (.ireturn, 1) := by decide +kernel
def site : List Cond := [.fieldLink "java/lang/String" 38 "java/lang/String" "COMPACT_STRINGS" "Z", .fieldLink "java/lang/String" 15 "java/lang/String" "coder" "B"]
def tab : Cond := tabOf yN yB 1 (some .byte) site
def P (x : Addr) (cd z : Int32) (args : Array Value) (s : State) : Prop := args = #[.ref x] ∧ Has x "java/lang/String" "coder" "B" (.int cd) s ∧ (cd = 0 ∨ cd = 1) ∧ StaticIs s "java/lang/String" "COMPACT_STRINGS" "Z" (.int z) ∧ ¬ z = 0
def E (cd : Int32) (r : Option Value) (s u : State) : Prop := XT.PureE (some (.int cd)) r s u
theorem law (l : Launch) (x : Addr) (cd z : Int32) : Law l yN 1 0 0 0 yB 1 (some .byte) site (P x cd z) (E cd) [] 0 0 := by
  refine Law.of_walk (plainFor_of_name (by decide +kernel)) (by decide +kernel) (by decide +kernel) (by decide) (fun _ _ h => by rw [h.1]; rfl) (fun _ U U' hal hh h => ⟨h.1, h.2.1.mv hal hh, h.2.2.1, h.2.2.2.1.there hal hh, h.2.2.2.2⟩) (fun r U U' V V' h1 hal h2 h => XT.PureE.mv r U U' V V' h1 hal h2 h) ?_
  intro p e s m args below meth c s₁ X0 hexec hbytes hml hret hlk hnm hown hh0 W hP
  obtain ⟨rfl, hx, hc, s1, hz⟩ := hP
  have c1 : Steps p.tables e below (s₁.setTop (entryFrame m #[.ref x] 1)) (s₁.setTop (mkF m 0 #[.val (.ref x)] [])) := entry rfl
  obtain ⟨T2, X2, q2, st2⟩ := X0.sget hexec hown (wk W (.fieldLink "java/lang/String" 38 "java/lang/String" "COMPACT_STRINGS" "Z")) s1 (fun _ _ h => by rw [hh0]; exact h) (g := (mkF m 0 #[.val (.ref x)] [])) rfl (hb hbytes d0)
  have hh2 := q2.trans hh0
  have c3 : Steps p.tables e below (s₁.setTop (entryFrame m #[.ref x] 1)) (T2.setTop (mkF m 7 #[.val (.ref x)] [.ref x])) := (c1.trans (st2 _ (Steps.refl _))).trans (by
    refine XS.ifNo X2.here hexec rfl (hb hbytes d3) rfl (i0_eq_f hz) ?_
    refine XS.aloadN X2.here hexec rfl (hb hbytes d6) rfl rfl ?_
    exact Steps.refl _)
  obtain ⟨T4, X4, q4, st4⟩ := X2.hget hexec hown (wk W (.fieldLink "java/lang/String" 15 "java/lang/String" "coder" "B")) (hx.mv X2.warmed.alike hh2) (g := (mkF m 7 #[.val (.ref x)] [.ref x])) rfl (rest := []) rfl (hb hbytes d7)
  have c5 : Steps p.tables e below (s₁.setTop (entryFrame m #[.ref x] 1)) (T4.setTop (mkF m 14 #[.val (.ref x)] [.int cd])) := (c3.trans (st4 _ (Steps.refl _))).trans (by
    refine XS.goto X4.here hexec rfl (pc0 := 10) rfl (hb hbytes d10) (by decide) rfl ?_
    exact Steps.refl _)
  exact ⟨T4, some (.int cd), _, _, _, X4, rfl, rfl, rfl, (fun h => by cases h), ⟨rfl, q4.trans hh2⟩, fun fs hl => c5.trans (X4.ireturnOut hexec hret (by rcases hc with rfl | rfl <;> rfl) (Or.inr (Or.inr (Or.inl rfl))) (hb hbytes d14) hl)⟩
end Cdr
namespace Len
def yN : MethodName := ⟨"java/lang/String", "length", "()I"⟩
abbrev yB : ByteArray := jdk_42_method_54_code
theorem d0 : decode yB 0 = .ok (.aload_n 0, 1) := by decide +kernel
theorem d1 : decode yB 1 = .ok (.getfield 9, 3) := by decide +kernel
theorem d4 : decode yB 4 = .ok (.arraylength, 1) := by decide +kernel
theorem d5 : decode yB 5 = .ok (.aload_n 0, 1) := by decide +kernel
theorem d6 : decode yB 6 = .ok (.invokevirtual 335, 3) := by decide +kernel
theorem d9 : decode yB 9 = .ok (.ishr, 1) := by decide +kernel
theorem d10 : decode yB 10 = .ok (.ireturn, 1) := by decide +kernel
def site : List Cond := [.fieldLink "java/lang/String" 9 "java/lang/String" "value" "[B", Cdr.tab] ++ virtW "java/lang/String" 335 "java/lang/String" Cdr.yN Cdr.yN
def tab : Cond := tabOf yN yB 1 (some .int) site
def P (x t : Addr) (V : Cell) (cd : Int32) (n : Nat) (f : Nat → Int32) (z : Int32) (args : Array Value) (s : State) : Prop := args = #[.ref x] ∧ Txt x t V cd n f s ∧ StaticIs s "java/lang/String" "COMPACT_STRINGS" "Z" (.int z) ∧ ¬ z = 0
def E (n : Nat) (r : Option Value) (s u : State) : Prop := XT.PureE (some (.int (Int32.ofNat n))) r s u
/-- length() of a String of n chars, in either coding -/
theorem law (l : Launch) (x t : Addr) (V : Cell) (cd : Int32) (n : Nat) (f : Nat → Int32) (z : Int32) : Law l yN 1 0 1 13 yB 1 (some .int) site (P x t V cd n f z) (E n) [] 0 0 := by
  refine Law.of_walk (plainFor_of_name (by decide +kernel)) (by decide +kernel) (by decide +kernel) (by decide) (fun _ _ h => by rw [h.1]; rfl) (fun _ U U' hal hh h => ⟨h.1, h.2.1.mv hal hh, h.2.2.1.there hal hh, h.2.2.2⟩) (fun r U U' V V' h1 hal h2 h => XT.PureE.mv r U U' V V' h1 hal h2 h) ?_
  intro p e s m args below meth c s₁ X0 hexec hbytes hml hret hlk hnm hown hh0 W hP
  obtain ⟨rfl, hx, s1, hz⟩ := hP
  have v31 := hx.2.2.2.1.2.2.2
  have c1 : Steps p.tables e below (s₁.setTop (entryFrame m #[.ref x] 1)) (s₁.setTop (mkF m 1 #[.val (.ref x)] [.ref x])) := Steps.trans (entry rfl) (by
    show Steps p.tables e below (s₁.setTop (mkF m 0 #[.val (.ref x)] [])) _
    refine XS.aloadN X0.here hexec rfl (hb hbytes d0) rfl rfl ?_
    exact Steps.refl _)
  obtain ⟨T2, X2, q2, st2⟩ := X0.hget hexec hown (wk W (.fieldLink "java/lang/String" 9 "java/lang/String" "value" "[B")) (hx.mv X0.warmed.alike hh0).2.1 (g := (mkF m 1 #[.val (.ref x)] [.ref x])) rfl (rest := []) rfl (hb hbytes d1)
  have hh2 := q2.trans hh0
  have hx2 := hx.mv X2.warmed.alike hh2
  have c3 : Steps p.tables e below (s₁.setTop (entryFrame m #[.ref x] 1)) (T2.setTop (mkF m 6 #[.val (.ref x)] [.ref x, .int (Int32.ofNat V.slots.size)])) := (c1.trans (st2 _ (Steps.refl _))).trans (by
    refine X2.alen hexec hx2.2.2.2.1 rfl rfl (hb hbytes d4) ?_
    refine XS.aloadN X2.here hexec rfl (hb hbytes d5) rfl rfl ?_
    exact Steps.refl _)
  obtain ⟨v4, T4, X4, E4, g4⟩ := X2.callV hexec (Cdr.law l x cd z) hown (wks W (virtW "java/lang/String" 335 "java/lang/String" Cdr.yN Cdr.yN)) rfl (by decide) (wk W Cdr.tab) (W := 1) (Nat.le_of_ble_eq_true rfl) (Nat.le_of_ble_eq_true rfl) (Nat.le_refl _) (Nat.le_refl _) (hx2.1.fc X2.warmed.alike) hx2.1.is (g := (mkF m 6 #[.val (.ref x)] [.ref x, .int (Int32.ofNat V.slots.size)])) rfl (by rw [hml]; rfl) c3 (argsL := []) (rest := [.int (Int32.ofNat V.slots.size)]) rfl rfl (by show 2 * 0 + (1 + 0) ≤ _; decide) (hb hbytes d6) (⟨rfl, hx2.2.2.1, hx.2.2.2.2.1.cd, s1.there X2.warmed.alike hh2, hz⟩)
  obtain ⟨rfl, q4⟩ := E4
  have c5 : Steps p.tables e below (s₁.setTop (entryFrame m #[.ref x] 1)) (T4.setTop (mkF m 10 #[.val (.ref x)] [.int (Int32.ofNat V.slots.size >>> (cd &&& 31))])) := Steps.trans g4 (by
    refine ishr X4.here hexec rfl (hb hbytes d9) rfl ?_
    exact Steps.refl _)
  rw [hx.2.2.2.2.1.len v31] at c5
  exact ⟨T4, some (.int (Int32.ofNat n)), _, _, _, X4, rfl, rfl, rfl, (fun h => by cases h), ⟨rfl, q4.trans hh2⟩, fun fs hl => c5.trans (X4.ireturnOut hexec hret rfl (Or.inl rfl) (hb hbytes d10) hl)⟩
theorem pays {l : Launch} {R : Room} {p : Program} {e : Env} {below : List Frame} {s : State} {sargs : Array Value} {len W : Nat} (x t : Addr) (V : Cell) (cd : Int32) (n : Nat) (f : Nat → Int32) (z : Int32) (htab : tab.before sargs s = true) (hfr : 2 ≤ R.frames) (hlo : W + 25 ≤ R.locals) :
    Back l R p e below s sargs yN len W (fun A₁ a₁ => A₁.cells + 0 ≤ R.cells ∧ A₁.slots + 0 ≤ R.slots ∧ P x t V cd n f z a₁ A₁.U) (fun A₁ _ v₁ B₁ => E n v₁ A₁.U B₁.U ∧ B₁.locs = A₁.locs ++ [] ∧ B₁.cells = A₁.cells + 0 ∧ B₁.slots = A₁.slots + 0) :=
  (law l x t V cd n f z).pays htab hfr (by omega)
end Len
namespace IsL
def yN : MethodName := ⟨"java/lang/String", "isLatin1", "()Z"⟩
abbrev yB : ByteArray := jdk_42_method_154_code
theorem d0 : decode yB 0 = .ok (.getstatic 38, 3) := by decide +kernel
theorem d3 : decode yB 3 = .ok (.ifCond (.eq) 14, 3) := by decide +kernel
theorem d6 : decode yB 6 = .ok (.aload_n 0, 1) := by decide +kernel
theorem d7 : decode yB 7 = .ok (.getfield 15, 3) := by decide +kernel
theorem d10 : decode yB 10 = .ok (.ifCond (.ne) 7, 3) := by decide +kernel
theorem d13 : decode yB 13 = .ok (.iconst 1, 1) := by decide +kernel
theorem d14 : decode yB 14 = .ok (.goto 4, 3) := by decide +kernel
theorem d17 : decode yB 17 = .ok (.iconst 0, 1) := by decide +kernel
theorem d18 : decode yB 18 = .ok (.ireturn, 1) := by decide +kernel
def site : List Cond := [.fieldLink "java/lang/String" 38 "java/lang/String" "COMPACT_STRINGS" "Z", .fieldLink "java/lang/String" 15 "java/lang/String" "coder" "B"]
def tab : Cond := tabOf yN yB 1 (some .boolean) site
def P (x : Addr) (cd z : Int32) (args : Array Value) (s : State) : Prop := args = #[.ref x] ∧ Has x "java/lang/String" "coder" "B" (.int cd) s ∧ (cd = 0 ∨ cd = 1) ∧ StaticIs s "java/lang/String" "COMPACT_STRINGS" "Z" (.int z) ∧ ¬ z = 0
def E (cd : Int32) (r : Option Value) (s u : State) : Prop := XT.PureE (some (.int (1 - cd))) r s u
theorem law (l : Launch) (x : Addr) (cd z : Int32) : Law l yN 1 0 0 0 yB 1 (some .boolean) site (P x cd z) (E cd) [] 0 0 := by
  refine Law.of_walk (plainFor_of_name (by decide +kernel)) (by decide +kernel) (by decide +kernel) (by decide) (fun _ _ h => by rw [h.1]; rfl) (fun _ U U' hal hh h => ⟨h.1, h.2.1.mv hal hh, h.2.2.1, h.2.2.2.1.there hal hh, h.2.2.2.2⟩) (fun r U U' V V' h1 hal h2 h => XT.PureE.mv r U U' V V' h1 hal h2 h) ?_
  intro p e s m args below meth c s₁ X0 hexec hbytes hml hret hlk hnm hown hh0 W hP
  obtain ⟨rfl, hx, hc, s1, hz⟩ := hP
  have c1 : Steps p.tables e below (s₁.setTop (entryFrame m #[.ref x] 1)) (s₁.setTop (mkF m 0 #[.val (.ref x)] [])) := entry rfl
  obtain ⟨T2, X2, q2, st2⟩ := X0.sget hexec hown (wk W (.fieldLink "java/lang/String" 38 "java/lang/String" "COMPACT_STRINGS" "Z")) s1 (fun _ _ h => by rw [hh0]; exact h) (g := (mkF m 0 #[.val (.ref x)] [])) rfl (hb hbytes d0)
  have hh2 := q2.trans hh0
  have c3 : Steps p.tables e below (s₁.setTop (entryFrame m #[.ref x] 1)) (T2.setTop (mkF m 7 #[.val (.ref x)] [.ref x])) := (c1.trans (st2 _ (Steps.refl _))).trans (by
    refine XS.ifNo X2.here hexec rfl (hb hbytes d3) rfl (i0_eq_f hz) ?_
    refine XS.aloadN X2.here hexec rfl (hb hbytes d6) rfl rfl ?_
    exact Steps.refl _)
  obtain ⟨T4, X4, q4, st4⟩ := X2.hget hexec hown (wk W (.fieldLink "java/lang/String" 15 "java/lang/String" "coder" "B")) (hx.mv X2.warmed.alike hh2) (g := (mkF m 7 #[.val (.ref x)] [.ref x])) rfl (rest := []) rfl (hb hbytes d7)
  have c5 : Steps p.tables e below (s₁.setTop (entryFrame m #[.ref x] 1)) (T4.setTop (mkF m 10 #[.val (.ref x)] [.int cd])) := c3.trans (st4 _ (Steps.refl _))
  have c6 : Steps p.tables e below (s₁.setTop (entryFrame m #[.ref x] 1)) (T4.setTop (mkF m 18 #[.val (.ref x)] [.int (1 - cd)])) := by
    rcases hc with rfl | rfl
    · exact c5.trans (by
        refine XS.ifNo X4.here hexec rfl (hb hbytes d10) rfl (i0_ne_f rfl) ?_
        refine iconstV X4.here hexec rfl 1 (hb hbytes d13) (by decide) ?_
        refine XS.goto X4.here hexec rfl (pc0 := 14) rfl (hb hbytes d14) (by decide) rfl ?_
        exact Steps.refl _)
    · exact c5.trans (by
        refine XS.ifYes X4.here hexec rfl (pc0 := 10) rfl (hb hbytes d10) rfl (i0_ne_t (by decide)) (by decide) rfl ?_
        refine iconstV X4.here hexec rfl 0 (hb hbytes d17) (by decide) ?_
        exact Steps.refl _)
  exact ⟨T4, some (.int (1 - cd)), _, _, _, X4, rfl, rfl, rfl, (fun h => by cases h), ⟨rfl, q4.trans hh2⟩, fun fs hl => c6.trans (X4.ireturnOut hexec hret (by rcases hc with rfl | rfl <;> rfl) (Or.inr (Or.inl rfl)) (hb hbytes d18) hl)⟩
end IsL
namespace LChA
def yN : MethodName := ⟨"java/lang/StringLatin1", "charAt", "([BI)C"⟩
abbrev yB : ByteArray := jdk_43_method_2_code
theorem d0 : decode yB 0 = .ok (.iload_n 1, 1) := by decide +kernel
theorem d1 : decode yB 1 = .ok (.aload_n 0, 1) := by decide +kernel
theorem d2 : decode yB 2 = .ok (.arraylength, 1) := by decide +kernel
theorem d3 : decode yB 3 = .ok (.invokestatic 9, 3) := by decide +kernel
theorem d6 : decode yB 6 = .ok (.aload_n 0, 1) := by decide +kernel
theorem d7 : decode yB 7 = .ok (.iload_n 1, 1) := by decide +kernel
theorem d8 : decode yB 8 = .ok (.baload, 1) := by decide +kernel
theorem d9 : decode yB 9 = .ok (.sipush 255, 3) := by decide +kernel
theorem d12 : decode yB 12 = .ok (.iand, 1) := by decide +kernel
theorem d13 : decode yB 13 = .ok (.i2c, 1) := by decide +kernel
theorem d14 : decode yB 14 = .ok (.ireturn, 1) := by decide +kernel
def site : List Cond := [JO.Str_checkIndex.tab] ++ staticW "java/lang/StringLatin1" 9 JO.Str_checkIndex.yN
def tab : Cond := tabOf yN yB 2 (some .char) site
def P (t : Addr) (V : Cell) (i : Nat) (u : Int32) (fm : Value) (args : Array Value) (s : State) : Prop := args = #[.ref t, .int (Int32.ofNat i)] ∧ XT.Arr .byte t V s ∧ V.slots[i]? = some (.int u) ∧ (StaticIs s "jdk/internal/util/Preconditions" "SIOOBE_FORMATTER" "Ljava/util/function/BiFunction;" fm ∧ fm.isRef = true)
def E (u : Int32) (r : Option Value) (s w : State) : Prop := XT.PureE (some (.int (chr8 u))) r s w
theorem law (l : Launch) (t : Addr) (V : Cell) (i : Nat) (u : Int32) (fm : Value) : Law l yN 2 2 2 27 yB 2 (some .char) site (P t V i u fm) (E u) [] 0 0 := by
  refine Law.of_walk (plainFor_of_name (by decide +kernel)) (by decide +kernel) (by decide +kernel) (by decide) (fun _ _ h => by rw [h.1]; rfl) (fun _ U U' hal hh h => ⟨h.1, h.2.1.mv hal hh, h.2.2.1, h.2.2.2.1.there hal hh, h.2.2.2.2⟩) (fun r U U' V V' h1 hal h2 h => XT.PureE.mv r U U' V V' h1 hal h2 h) ?_
  intro p e s m args below meth c s₁ X0 hexec hbytes hml hret hlk hnm hown hh0 W hP
  obtain ⟨rfl, hV, hu, s1, rf⟩ := hP
  have v31 := hV.2.2.2
  have hi : i < V.slots.size := (Array.getElem?_eq_some_iff.mp hu).1
  have c1 : Steps p.tables e below (s₁.setTop (entryFrame m #[.ref t, .int (Int32.ofNat i)] 2)) (s₁.setTop (mkF m 0 #[.val (.ref t), .val (.int (Int32.ofNat i))] [])) := entry rfl
  have c2 : Steps p.tables e below (s₁.setTop (entryFrame m #[.ref t, .int (Int32.ofNat i)] 2)) (s₁.setTop (mkF m 3 #[.val (.ref t), .val (.int (Int32.ofNat i))] [.int (Int32.ofNat V.slots.size), .int (Int32.ofNat i)])) := c1.trans (by
    refine XS.iloadN X0.here hexec rfl (hb hbytes d0) rfl ?_
    refine XS.aloadN X0.here hexec rfl (hb hbytes d1) rfl rfl ?_
    refine X0.alen hexec (hV.mv X0.warmed.alike hh0) rfl rfl (hb hbytes d2) ?_
    exact Steps.refl _)
  obtain ⟨v3, T3, X3, E3, g3⟩ := X0.callS hexec (JO.Str_checkIndex.law l (Int32.ofNat i) (Int32.ofNat V.slots.size) fm) hown (wks W (staticW "java/lang/StringLatin1" 9 JO.Str_checkIndex.yN)) (wk W JO.Str_checkIndex.tab) (W := 0) (Nat.le_of_ble_eq_true rfl) (Nat.le_of_ble_eq_true rfl) (Nat.le_refl _) (Nat.le_refl _) (g := (mkF m 3 #[.val (.ref t), .val (.int (Int32.ofNat i))] [.int (Int32.ofNat V.slots.size), .int (Int32.ofNat i)])) rfl (by rw [hml]; rfl) c2 (argsL := [.int (Int32.ofNat i), .int (Int32.ofNat V.slots.size)]) (rest := []) rfl rfl (by show 2 * 0 + 0 ≤ _; decide) (hb hbytes d3) (⟨rfl, rf, s1.there X0.warmed.alike hh0, Int32.ofNat_not_neg (by omega), lt32 v31 hi⟩)
  obtain ⟨rfl, q3⟩ := E3
  have hh3 := q3.trans hh0
  have c4 : Steps p.tables e below (s₁.setTop (entryFrame m #[.ref t, .int (Int32.ofNat i)] 2)) (T3.setTop (mkF m 14 #[.val (.ref t), .val (.int (Int32.ofNat i))] [.int (chr8 u)])) := Steps.trans g3 (by
    refine XS.aloadN X3.here hexec rfl (hb hbytes d6) rfl rfl ?_
    refine XS.iloadN X3.here hexec rfl (hb hbytes d7) rfl ?_
    refine X3.aget hexec (hV.mv X3.warmed.alike hh3) rfl hu rfl rfl (hb hbytes d8) ?_
    refine sipushV X3.here hexec rfl 255 (hb hbytes d9) (by decide) ?_
    refine XS.iand X3.here hexec rfl (hb hbytes d12) rfl ?_
    refine i2c X3.here hexec rfl (hb hbytes d13) rfl ?_
    exact Steps.refl _)
  exact ⟨T3, some (.int (chr8 u)), _, _, _, X3, rfl, rfl, rfl, (fun h => by cases h), ⟨rfl, hh3⟩, fun fs hl => c4.trans (X3.ireturnOut hexec hret (narrow_c _) (Or.inr (Or.inr (Or.inr (Or.inl rfl)))) (hb hbytes d14) hl)⟩
end LChA
end StrChars
namespace StrChars.Road
open Jvm Sem ClassFile Op Lib Jvm.Stand Jvm.Free Jvm.Free.XT
open Jvm.Lib.Cold (StaticIs)
theorem consq {a : Array Value} {s : State} {c : Jvm.Cond} {L : List Jvm.Cond} (h0 : c.before a s = true) (h : ∀ w ∈ L, w.before a s = true) : ∀ w ∈ c :: L, w.before a s = true := fun w hw => (List.mem_cons.mp hw).elim (fun e => e ▸ h0) (h w)
/-- the words of String.length(), either coding -/
abbrev wordsLen : List Jvm.Cond := [.code Len.yN Len.yB 1 (some .int), .initialized ST, .fieldLink ST 9 ST "value" "[B", .fieldLink ST 38 ST "COMPACT_STRINGS" "Z", .fieldLink ST 15 ST "coder" "B", .code Cdr.yN Cdr.yB 1 (some .byte), .methodLink ST 335 Cdr.yN, .declares Cdr.yN, .selects ST Cdr.yN Cdr.yN, .instanceMethod Cdr.yN]
theorem tabLen_of {a : Array Value} {s : State} (h : ∀ w ∈ wordsLen, w.before a s = true) : Len.tab.before a s = true := by
  have hc : Cdr.tab.before a s = true := unparts (wk h (.code Cdr.yN Cdr.yB 1 (some .byte))) (wks h (.initialized Cdr.yN.cls :: Cdr.site))
  have q := consq hc h
  exact unparts (wk q (.code Len.yN Len.yB 1 (some .int))) (wks q (.initialized Len.yN.cls :: Len.site))
theorem movedLen {Z s : State} {a0 args : Array Value} (hZ : Z.Warmed39 s.vm) (hw : ∀ d ∈ wordsLen, d.before a0 Z = true) : ∀ d ∈ wordsLen, d.before args s = true := fun d hd => by
  have q := hw d hd
  have t : ∀ d ∈ wordsLen, d = .arrayClass .byte ∨ (d.onTables && d.keepsFace) = true := by decide +kernel
  rcases t d hd with rfl | t
  · exact RoadKit.mvA hZ q
  · exact RoadKit.mv hZ q t
/-- the bytes of the chars cs, low before high -/
def wideBytes : List Int32 → List Value
  | [] => []
  | c :: cs => .int (lo8 c) :: .int (hi8 c) :: wideBytes cs
theorem wide_lo (d : Value) : ∀ (cs : List Int32) (j : Nat), j < cs.length → (wideBytes cs).getD (2 * j) d = .int (lo8 (cs.getD j 0))
  | [], j, h => absurd h (Nat.not_lt_zero j)
  | c :: cs, 0, _ => rfl
  | c :: cs, j + 1, h => by
    have q := wide_lo d cs j (by simpa using h)
    rw [show 2 * (j + 1) = 2 * j + 1 + 1 from by omega]
    simpa [wideBytes] using q
theorem wide_hi (d : Value) : ∀ (cs : List Int32) (j : Nat), j < cs.length → (wideBytes cs).getD (2 * j + 1) d = .int (hi8 (cs.getD j 0))
  | [], j, h => absurd h (Nat.not_lt_zero j)
  | c :: cs, 0, _ => rfl
  | c :: cs, j + 1, h => by
    have q := wide_hi d cs j (by simpa using h)
    rw [show 2 * (j + 1) + 1 = 2 * j + 1 + 1 + 1 from by omega]
    simpa [wideBytes] using q
theorem low_at (d : Value) (cs : List Int32) (j : Nat) (h : j < cs.length) : (cs.map fun c => Value.int (lo8 c)).getD j d = .int (lo8 (cs.getD j 0)) := by
  simp [List.getD_eq_getElem?_getD, h]
/-- an array of N2 bytes vs codes the chars cs by the coder cd -/
def CodA (cs : List Int32) (cd N2 : Int32) (vs : List Value) : Prop := (cd = 0 ∧ N2 = Int32.ofNat cs.length ∧ vs = (cs.map fun c => Value.int (lo8 c)) ∧ ∀ c ∈ cs, ¬ 255 < c) ∨ (cd = 1 ∧ N2 = Int32.ofNat (2 * cs.length) ∧ vs = wideBytes cs ∧ ∃ c ∈ cs, 255 < c)
theorem CodA.cod {cs : List Int32} {cd N2 : Int32} {vs : List Value} {V : Cell} (h : CodA cs cd N2 vs) (hn : 2 * cs.length < 2 ^ 31) (hs : V.slots.size = N2.toNatClampNeg) (hv : RoadKit.Has V vs (.int 0)) : Cod cd cs.length (fun j => cs.getD j 0) V := by
  rcases h with ⟨rfl, rfl, rfl, h⟩ | ⟨rfl, rfl, rfl, c, hc, hw⟩
  · rw [n32 (by omega)] at hs
    exact Or.inl ⟨rfl, hs, fun j hj => ⟨by rw [hv j (by omega), low_at _ _ _ hj], by
      have e : cs.getD j 0 = cs[j] := by simp [List.getD_eq_getElem?_getD, hj]
      show ¬ 255 < cs.getD j 0
      rw [e]; exact h _ (List.getElem_mem _)⟩⟩
  · rw [n32 (by omega)] at hs
    obtain ⟨j, hj, rfl⟩ := List.getElem_of_mem hc
    exact Or.inr ⟨rfl, hs, fun j hj => ⟨by rw [hv _ (by omega), wide_lo _ _ _ hj], by rw [hv _ (by omega), wide_hi _ _ _ hj]⟩, j, hj, by
      have e : cs.getD j 0 = cs[j] := by simp [List.getD_eq_getElem?_getD, hj]
      show 255 < cs.getD j 0
      rw [e]; exact hw⟩
/-- an object of exactly java/lang/String, its two fields found: as the laws ask it -/
theorem strObj {Z U : State} {a0 : Array Value} {kI : Nat} (wi : (Jvm.Cond.instantiable ST kI).before a0 Z = true) (al : Z.vm.Alike U.vm) {x : Addr} {v0 c0 : Value} (E : RoadKit.Exa Z U.heap x ST) (V : RoadKit.Fld Z U.heap x ST "value" "[B" v0) (C : RoadKit.Fld Z U.heap x ST "coder" "B" c0) :
    ∃ (D : Cell) (fV fC : Field), Blank ST x D U ∧ Found ST "value" "[B" fV U ∧ Found ST "coder" "B" fC U ∧ D.slots[fV.slot]? = some v0 ∧ D.slots[fC.slot]? = some c0 ∧ RoadKit.slotOf Z ST "value" "[B" = fV.slot ∧ RoadKit.slotOf Z ST "coder" "B" = fC.slot := by
  obtain ⟨D, cfV, kV, iV, fV, hD, gV, stV, knV, obV, asV, slV⟩ := V
  obtain ⟨D', cfC, kC, iC, fC, hD', gC, stC, -, -, asC, slC⟩ := C
  cases hD.symm.trans hD'
  obtain ⟨D2, kD, e1, e2, e3, e4, e5⟩ := E
  cases hD.symm.trans e1
  obtain ⟨c2, k2, i1, i2, i3, -⟩ := Cond.instantiable_spec wi
  cases e2.symm.trans i1
  cases e3.symm.trans i2
  obtain ⟨kU, u1, u2⟩ := al.2.2 _ _ e3
  exact ⟨D, fV, fC, ⟨hD, ⟨knV, fun q hq => by rw [hq] at obV; cases obV⟩, by rw [al.findClass]; exact e2, kU, u1, by rw [u2]; exact i3, by rw [u2]; exact e5 i3⟩, ⟨SBG.found_only al ⟨cfV, kV, iV, gV⟩, stV⟩, ⟨SBG.found_only al ⟨cfC, kC, iC, gC⟩, stC⟩, slV, slC, by simp [RoadKit.slotOf, gV], by simp [RoadKit.slotOf, gC]⟩
theorem sta_is {Z U : State} (al : Z.vm.Alike U.vm) {C n d : String} {v : Value} (S : RoadKit.Sta Z U.heap C n d v) : StaticIs U C n d v := by
  obtain ⟨cfS, iS, kS, fS, st, cS, t1, t2, t3, t4, t5, t6, t7⟩ := S
  exact StaticIs.there (s := { Z with heap := U.heap }) ⟨cfS, iS, kS, fS, st, cS, t1, t2, t3, t4, t5, (fun q => by rw [q] at t6; cases t6), t7⟩ al rfl
/-- **length() OF SUCH A STRING** -/
theorem lenW {p : Program} {l : Launch} {e : Env} {R : Room} {s : State} {args : Array Value} {below : List Frame} {len W : Nat} {Z : State} {a0 : Array Value} {h : Heap} (hZ : Z.Warmed39 s.vm) (hw : ∀ d ∈ wordsLen, d.before a0 Z = true) {kI : Nat} (wi : (Jvm.Cond.instantiable ST kI).before a0 Z = true)
    {x t : Addr} {kb : ClassId} {cs : List Int32} {cd N2 z : Int32} {vs : List Value} (E : RoadKit.Exa Z h x ST) (V : RoadKit.Fld Z h x ST "value" "[B" (.ref t)) (C : RoadKit.Fld Z h x ST "coder" "B" (.int cd)) (K : RoadKit.Arv Z h t kb .byte N2 vs (.int 0)) (hc : CodA cs cd N2 vs) (hb : ∀ c ∈ cs, ¬ c < 0 ∧ ¬ (65535 : Int32) < c)
    (S : RoadKit.Sta Z h ST "COMPACT_STRINGS" "Z" (.int z)) (hz : ¬ z = 0) (l2 : cs.length ≤ 4000) (hfr : 2 ≤ R.frames) (hlo : W + 25 ≤ R.locals) :
    Back l R p e below s args (⟨"java/lang/String", "length", "()I"⟩ : MethodName) len W (fun P a => a = #[.ref x] ∧ P.U.heap = h ∧ P.cells + 0 ≤ R.cells ∧ P.slots + 0 ≤ R.slots)
      (fun P _ v B => ∃ L, (v = some (.int (Int32.ofNat cs.length)) ∧ L = [] ∧ B.U.heap = h) ∧ B.locs = P.locs ++ L ∧ B.cells = P.cells + 0 ∧ B.slots = P.slots + 0) := by
  obtain ⟨A, K1, K2, K3, K4, K5, K6⟩ := K
  have hcod := hc.cod (by omega) K3 K5
  intro m meth c P g ig mk a X hg hsize hdg hW hn hp'
  obtain ⟨rfl, rfl, r1, r2⟩ := hp'
  have al : Z.vm.Alike P.U.vm := hZ.alike.trans X.warmed.alike
  obtain ⟨D, fV, fC, hB, F1, F2, g1, g2, -, -⟩ := strObj wi al E V C
  have hx : Txt x t A cd cs.length (fun j => cs.getD j 0) P.U := ⟨⟨_, hB.2.2.1, D, hB.1, rfl, by cases q : D.vm <;> first | rfl | exact absurd q (hB.2.1.2 _)⟩, Has.of hB F1 g1, Has.of hB F2 g2, ⟨K1.1, State.isArrayOf_alike al K1.2.1, K1.2.2, by rcases hcod with ⟨-, q, -⟩ | ⟨-, q, -⟩ <;> omega⟩, hcod, fun j hj => by
    have e : cs.getD j 0 = cs[j] := by simp [List.getD_eq_getElem?_getD, hj]
    show ¬ cs.getD j 0 < 0 ∧ ¬ 65535 < cs.getD j 0
    rw [e]; exact hb _ (List.getElem_mem _)⟩
  obtain ⟨v, B, X', ⟨⟨hv, hh⟩, hl, hk, hs⟩, st⟩ := Len.pays x t A cd cs.length (fun j => cs.getD j 0) z (tabLen_of (movedLen hZ hw)) hfr hlo m meth c P g ig mk _ X hg hsize hdg hW hn ⟨r1, r2, rfl, hx, sta_is al S, hz⟩
  exact ⟨v, B, X', ⟨[], ⟨hv, rfl, hh⟩, hl, hk, hs⟩, st⟩
end StrChars.Road
namespace StrChars
open Jvm Sem ClassFile Op Lib Jvm.Stand Jvm.Free.XT Jvm.Free.ALB Jvm.Free.JM Jvm.Free
open Jvm.Lib.Cold (StaticIs)
namespace Emp
def yN : MethodName := ⟨"java/lang/String", "isEmpty", "()Z"⟩
abbrev yB : ByteArray := jdk_42_method_55_code
theorem d0 : decode yB 0 = .ok (.aload_n 0, 1) := by decide +kernel
theorem d1 : decode yB 1 = .ok (.getfield 9, 3) := by decide +kernel
theorem d4 : decode yB 4 = .ok (.arraylength, 1) := by decide +kernel
theorem d5 : decode yB 5 = .ok (.ifCond (.ne) 7, 3) := by decide +kernel
theorem d8 : decode yB 8 = .ok (.iconst 1, 1) := by decide +kernel
theorem d9 : decode yB 9 = .ok (.goto 4, 3) := by decide +kernel
theorem d12 : decode yB 12 = .ok (.iconst 0, 1) := by decide +kernel
theorem d13 : decode yB 13 = .ok (.ireturn, 1) := by decide +kernel
def site : List Cond := [.fieldLink "java/lang/String" 9 "java/lang/String" "value" "[B"]
def tab : Cond := tabOf yN yB 1 (some .boolean) site
def P (x t : Addr) (V : Cell) (cd : Int32) (n : Nat) (f : Nat → Int32) (args : Array Value) (s : State) : Prop := args = #[.ref x] ∧ Txt x t V cd n f s
def E (n : Nat) (r : Option Value) (s u : State) : Prop := XT.PureE (some (.int (if n = 0 then 1 else 0))) r s u
/-- isEmpty() of a String of n chars -/
theorem law (l : Launch) (x t : Addr) (V : Cell) (cd : Int32) (n : Nat) (f : Nat → Int32) : Law l yN 1 0 0 0 yB 1 (some .boolean) site (P x t V cd n f) (E n) [] 0 0 := by
  refine Law.of_walk (plainFor_of_name (by decide +kernel)) (by decide +kernel) (by decide +kernel) (by decide) (fun _ _ h => by rw [h.1]; rfl) (fun _ U U' hal hh h => ⟨h.1, h.2.mv hal hh⟩) (fun r U U' V V' h1 hal h2 h => XT.PureE.mv r U U' V V' h1 hal h2 h) ?_
  intro p e s m args below meth c s₁ X0 hexec hbytes hml hret hlk hnm hown hh0 W hP
  obtain ⟨rfl, hx⟩ := hP
  have v31 := hx.2.2.2.1.2.2.2
  have c1 : Steps p.tables e below (s₁.setTop (entryFrame m #[.ref x] 1)) (s₁.setTop (mkF m 1 #[.val (.ref x)] [.ref x])) := Steps.trans (entry rfl) (by
    show Steps p.tables e below (s₁.setTop (mkF m 0 #[.val (.ref x)] [])) _
    refine XS.aloadN X0.here hexec rfl (hb hbytes d0) rfl rfl ?_
    exact Steps.refl _)
  obtain ⟨T2, X2, q2, st2⟩ := X0.hget hexec hown (wk W (.fieldLink "java/lang/String" 9 "java/lang/String" "value" "[B")) (hx.mv X0.warmed.alike hh0).2.1 (g := (mkF m 1 #[.val (.ref x)] [.ref x])) rfl (rest := []) rfl (hb hbytes d1)
  have hh2 := q2.trans hh0
  have hx2 := hx.mv X2.warmed.alike hh2
  have c3 : Steps p.tables e below (s₁.setTop (entryFrame m #[.ref x] 1)) (T2.setTop (mkF m 5 #[.val (.ref x)] [.int (Int32.ofNat V.slots.size)])) := (c1.trans (st2 _ (Steps.refl _))).trans (by
    refine X2.alen hexec hx2.2.2.2.1 rfl rfl (hb hbytes d4) ?_
    exact Steps.refl _)
  have hz : V.slots.size = 0 ↔ n = 0 := by
    rcases hx.2.2.2.2.1 with ⟨-, q, -⟩ | ⟨-, q, -⟩ <;> omega
  by_cases h0 : n = 0
  · have c4 : Steps p.tables e below (s₁.setTop (entryFrame m #[.ref x] 1)) (T2.setTop (mkF m 13 #[.val (.ref x)] [.int 1])) := c3.trans (by
      refine XS.ifNo X2.here hexec rfl (hb hbytes d5) rfl (i0_ne_f (by rw [hz.mpr h0]; rfl)) ?_
      refine iconstV X2.here hexec rfl 1 (hb hbytes d8) (by decide) ?_
      refine XS.goto X2.here hexec rfl (pc0 := 9) rfl (hb hbytes d9) (by decide) rfl ?_
      exact Steps.refl _)
    exact ⟨T2, some (.int 1), _, _, _, X2, rfl, rfl, rfl, (fun h => by cases h), ⟨by rw [if_pos h0], hh2⟩, fun fs hl => c4.trans (X2.ireturnOut hexec hret rfl (Or.inr (Or.inl rfl)) (hb hbytes d13) hl)⟩
  · have c4 : Steps p.tables e below (s₁.setTop (entryFrame m #[.ref x] 1)) (T2.setTop (mkF m 13 #[.val (.ref x)] [.int 0])) := c3.trans (by
      refine XS.ifYes X2.here hexec rfl (pc0 := 5) rfl (hb hbytes d5) rfl (i0_ne_t (nz32 v31 (by omega))) (by decide) rfl ?_
      refine iconstV X2.here hexec rfl 0 (hb hbytes d12) (by decide) ?_
      exact Steps.refl _)
    exact ⟨T2, some (.int 0), _, _, _, X2, rfl, rfl, rfl, (fun h => by cases h), ⟨by rw [if_neg h0], hh2⟩, fun fs hl => c4.trans (X2.ireturnOut hexec hret rfl (Or.inr (Or.inl rfl)) (hb hbytes d13) hl)⟩
theorem pays {l : Launch} {R : Room} {p : Program} {e : Env} {below : List Frame} {s : State} {sargs : Array Value} {len W : Nat} (x t : Addr) (V : Cell) (cd : Int32) (n : Nat) (f : Nat → Int32) (htab : tab.before sargs s = true) (hfr : 1 ≤ R.frames) (hlo : W + 12 ≤ R.locals) :
    Back l R p e below s sargs yN len W (fun A₁ a₁ => A₁.cells + 0 ≤ R.cells ∧ A₁.slots + 0 ≤ R.slots ∧ P x t V cd n f a₁ A₁.U) (fun A₁ _ v₁ B₁ => E n v₁ A₁.U B₁.U ∧ B₁.locs = A₁.locs ++ [] ∧ B₁.cells = A₁.cells + 0 ∧ B₁.slots = A₁.slots + 0) :=
  (law l x t V cd n f).pays htab hfr (by omega)
end Emp
end StrChars
namespace StrChars.Road
open Jvm Sem ClassFile Op Lib Jvm.Stand Jvm.Free Jvm.Free.XT
open Jvm.Lib.Cold (StaticIs)
/-- the words of String.isEmpty() -/
abbrev wordsEmp : List Jvm.Cond := [.code Emp.yN Emp.yB 1 (some .boolean), .initialized ST, .fieldLink ST 9 ST "value" "[B"]
theorem tabEmp_of {a : Array Value} {s : State} (h : ∀ w ∈ wordsEmp, w.before a s = true) : Emp.tab.before a s = true := unparts (wk h (.code Emp.yN Emp.yB 1 (some .boolean))) (wks h (.initialized Emp.yN.cls :: Emp.site))
theorem movedEmp {Z s : State} {a0 args : Array Value} (hZ : Z.Warmed39 s.vm) (hw : ∀ d ∈ wordsEmp, d.before a0 Z = true) : ∀ d ∈ wordsEmp, d.before args s = true := fun d hd => by
  have t : ∀ d ∈ wordsEmp, (d.onTables && d.keepsFace) = true := by decide +kernel
  exact RoadKit.mv hZ (hw d hd) (t d hd)
/-- the road's facts of a String, as the laws ask it -/
theorem txt_of {Z U : State} {a0 : Array Value} {kI : Nat} (wi : (Jvm.Cond.instantiable ST kI).before a0 Z = true) (al : Z.vm.Alike U.vm) {x t : Addr} {kb : ClassId} {cs : List Int32} {cd N2 : Int32} {vs : List Value} (E : RoadKit.Exa Z U.heap x ST) (V : RoadKit.Fld Z U.heap x ST "value" "[B" (.ref t)) (C : RoadKit.Fld Z U.heap x ST "coder" "B" (.int cd)) (K : RoadKit.Arv Z U.heap t kb .byte N2 vs (.int 0)) (hc : CodA cs cd N2 vs) (hb : ∀ c ∈ cs, ¬ c < 0 ∧ ¬ (65535 : Int32) < c) (l2 : cs.length ≤ 4000) :
    ∃ A, Txt x t A cd cs.length (fun j => cs.getD j 0) U := by
  obtain ⟨A, K1, K2, K3, K4, K5, K6⟩ := K
  have hcod := hc.cod (by omega) K3 K5
  obtain ⟨D, fV, fC, hB, F1, F2, g1, g2, -, -⟩ := strObj wi al E V C
  exact ⟨A, ⟨_, hB.2.2.1, D, hB.1, rfl, by cases q : D.vm <;> first | rfl | exact absurd q (hB.2.1.2 _)⟩, Has.of hB F1 g1, Has.of hB F2 g2, ⟨K1.1, State.isArrayOf_alike al K1.2.1, K1.2.2, by rcases hcod with ⟨-, q, -⟩ | ⟨-, q, -⟩ <;> omega⟩, hcod, fun j hj => by
    have e : cs.getD j 0 = cs[j] := by simp [List.getD_eq_getElem?_getD, hj]
    show ¬ cs.getD j 0 < 0 ∧ ¬ 65535 < cs.getD j 0
    rw [e]; exact hb _ (List.getElem_mem _)⟩
/-- **isEmpty() OF SUCH A STRING** -/
theorem empW {p : Program} {l : Launch} {e : Env} {R : Room} {s : State} {args : Array Value} {below : List Frame} {len W : Nat} {Z : State} {a0 : Array Value} {h : Heap} (hZ : Z.Warmed39 s.vm) (hw : ∀ d ∈ wordsEmp, d.before a0 Z = true) {kI : Nat} (wi : (Jvm.Cond.instantiable ST kI).before a0 Z = true)
    {x t : Addr} {kb : ClassId} {cs : List Int32} {cd N2 : Int32} {vs : List Value} (E : RoadKit.Exa Z h x ST) (V : RoadKit.Fld Z h x ST "value" "[B" (.ref t)) (C : RoadKit.Fld Z h x ST "coder" "B" (.int cd)) (K : RoadKit.Arv Z h t kb .byte N2 vs (.int 0)) (hc : CodA cs cd N2 vs) (hb : ∀ c ∈ cs, ¬ c < 0 ∧ ¬ (65535 : Int32) < c) (l2 : cs.length ≤ 4000) (hfr : 1 ≤ R.frames) (hlo : W + 12 ≤ R.locals) :
    Back l R p e below s args (⟨"java/lang/String", "isEmpty", "()Z"⟩ : MethodName) len W (fun P a => a = #[.ref x] ∧ P.U.heap = h ∧ P.cells + 0 ≤ R.cells ∧ P.slots + 0 ≤ R.slots)
      (fun P _ v B => ∃ L, (v = some (.int (if cs.length = 0 then 1 else 0)) ∧ L = [] ∧ B.U.heap = h) ∧ B.locs = P.locs ++ L ∧ B.cells = P.cells + 0 ∧ B.slots = P.slots + 0) := by
  intro m meth c P g ig mk a X hg hsize hdg hW hn hp'
  obtain ⟨rfl, rfl, r1, r2⟩ := hp'
  have al : Z.vm.Alike P.U.vm := hZ.alike.trans X.warmed.alike
  obtain ⟨A, hx⟩ := txt_of wi al E V C K hc hb l2
  obtain ⟨v, B, X', ⟨⟨hv, hh⟩, hl, hk, hs⟩, st⟩ := Emp.pays x t A cd cs.length (fun j => cs.getD j 0) (tabEmp_of (movedEmp hZ hw)) hfr hlo m meth c P g ig mk _ X hg hsize hdg hW hn ⟨r1, r2, rfl, hx⟩
  exact ⟨v, B, X', ⟨[], ⟨hv, rfl, hh⟩, hl, hk, hs⟩, st⟩
end StrChars.Road
namespace StrChars
open Jvm Sem ClassFile Op Lib Jvm.Stand Jvm.Free.XT Jvm.Free.ALB Jvm.Free.JM Jvm.Free
open Jvm.Lib.Cold (StaticIs)
namespace ChN
def yN : MethodName := ⟨"java/lang/String", "charAt", "(I)C"⟩
abbrev yB : ByteArray := jdk_42_method_56_code
theorem d0 : decode yB 0 = .ok (.aload_n 0, 1) := by decide +kernel
theorem d1 : decode yB 1 = .ok (.invokevirtual 492, 3) := by decide +kernel
theorem d4 : decode yB 4 = .ok (.ifCond (.eq) 12, 3) := by decide +kernel
theorem d7 : decode yB 7 = .ok (.aload_n 0, 1) := by decide +kernel
theorem d8 : decode yB 8 = .ok (.getfield 9, 3) := by decide +kernel
theorem d11 : decode yB 11 = .ok (.iload_n 1, 1) := by decide +kernel
theorem d12 : decode yB 12 = .ok (.invokestatic 495, 3) := by decide +kernel
theorem d15 : decode yB 15 = .ok (.ireturn, 1) := by decide +kernel
def site : List Cond := [.fieldLink "java/lang/String" 9 "java/lang/String" "value" "[B", IsL.tab, LChA.tab] ++ virtW "java/lang/String" 492 "java/lang/String" IsL.yN IsL.yN ++ staticW "java/lang/String" 495 LChA.yN
def tab : Cond := tabOf yN yB 2 (some .char) site
def P (x t : Addr) (V : Cell) (n : Nat) (f : Nat → Int32) (z : Int32) (fm : Value) (i : Nat) (args : Array Value) (s : State) : Prop := args = #[.ref x, .int (Int32.ofNat i)] ∧ Txt x t V 0 n f s ∧ i < n ∧ StaticIs s "java/lang/String" "COMPACT_STRINGS" "Z" (.int z) ∧ ¬ z = 0 ∧ StaticIs s "jdk/internal/util/Preconditions" "SIOOBE_FORMATTER" "Ljava/util/function/BiFunction;" fm ∧ fm.isRef = true
def E (f : Nat → Int32) (i : Nat) (r : Option Value) (s u : State) : Prop := XT.PureE (some (.int (f i))) r s u
/-- charAt(i) of a Latin-1 String of n chars, i < n: f i -/
theorem law (l : Launch) (x t : Addr) (V : Cell) (n : Nat) (f : Nat → Int32) (z : Int32) (fm : Value) (i : Nat) : Law l yN 2 1 3 40 yB 2 (some .char) site (P x t V n f z fm i) (E f i) [] 0 0 := by
  refine Law.of_walk (plainFor_of_name (by decide +kernel)) (by decide +kernel) (by decide +kernel) (by decide) (fun _ _ h => by rw [h.1]; rfl) (fun _ U U' hal hh h => ⟨h.1, h.2.1.mv hal hh, h.2.2.1, h.2.2.2.1.there hal hh, h.2.2.2.2.1, h.2.2.2.2.2.1.there hal hh, h.2.2.2.2.2.2⟩) (fun r U U' V V' h1 hal h2 h => XT.PureE.mv r U U' V V' h1 hal h2 h) ?_
  intro p e s m args below meth c s₁ X0 hexec hbytes hml hret hlk hnm hown hh0 W hP
  obtain ⟨rfl, hx, hi, s1, hz, s3, rf⟩ := hP
  have v31 := hx.2.2.2.1.2.2.2
  have hr := hx.2.2.2.2.2 i hi
  have hx0 := hx.mv X0.warmed.alike hh0
  have c1 : Steps p.tables e below (s₁.setTop (entryFrame m #[.ref x, .int (Int32.ofNat i)] 2)) (s₁.setTop (mkF m 1 #[.val (.ref x), .val (.int (Int32.ofNat i))] [.ref x])) := Steps.trans (entry rfl) (by
    show Steps p.tables e below (s₁.setTop (mkF m 0 #[.val (.ref x), .val (.int (Int32.ofNat i))] [])) _
    refine XS.aloadN X0.here hexec rfl (hb hbytes d0) rfl rfl ?_
    exact Steps.refl _)
  obtain ⟨v2, T2, X2, E2, g2⟩ := X0.callV hexec (IsL.law l x 0 z) hown (wks W (virtW "java/lang/String" 492 "java/lang/String" IsL.yN IsL.yN)) rfl (by decide) (wk W IsL.tab) (W := 0) (Nat.le_of_ble_eq_true rfl) (Nat.le_of_ble_eq_true rfl) (Nat.le_refl _) (Nat.le_refl _) (hx0.1.fc X0.warmed.alike) hx0.1.is (g := (mkF m 1 #[.val (.ref x), .val (.int (Int32.ofNat i))] [.ref x])) rfl (by rw [hml]; rfl) c1 (argsL := []) (rest := []) rfl rfl (by show 2 * 0 + 0 ≤ _; decide) (hb hbytes d1) (⟨rfl, hx0.2.2.1, hx.2.2.2.2.1.cd, s1.there X0.warmed.alike hh0, hz⟩)
  obtain ⟨rfl, q2⟩ := E2
  have hh2 := q2.trans hh0
  have hx2 := hx.mv X2.warmed.alike hh2
  obtain ⟨-, k1, k2⟩ | ⟨k0, -⟩ := hx.2.2.2.2.1
  · have c3 : Steps p.tables e below (s₁.setTop (entryFrame m #[.ref x, .int (Int32.ofNat i)] 2)) (T2.setTop (mkF m 8 #[.val (.ref x), .val (.int (Int32.ofNat i))] [.ref x])) := Steps.trans g2 (by
      refine XS.ifNo X2.here hexec rfl (hb hbytes d4) rfl (i0_eq_f (by decide)) ?_
      refine XS.aloadN X2.here hexec rfl (hb hbytes d7) rfl rfl ?_
      exact Steps.refl _)
    obtain ⟨T4, X4, q4, st4⟩ := X2.hget hexec hown (wk W (.fieldLink "java/lang/String" 9 "java/lang/String" "value" "[B")) hx2.2.1 (g := (mkF m 8 #[.val (.ref x), .val (.int (Int32.ofNat i))] [.ref x])) rfl (rest := []) rfl (hb hbytes d8)
    have hh4 := q4.trans hh2
    have c5 : Steps p.tables e below (s₁.setTop (entryFrame m #[.ref x, .int (Int32.ofNat i)] 2)) (T4.setTop (mkF m 12 #[.val (.ref x), .val (.int (Int32.ofNat i))] [.int (Int32.ofNat i), .ref t])) := (c3.trans (st4 _ (Steps.refl _))).trans (by
      refine XS.iloadN X4.here hexec rfl (hb hbytes d11) rfl ?_
      exact Steps.refl _)
    obtain ⟨v6, T6, X6, E6, g6⟩ := X4.callS hexec (LChA.law l t V i (lo8 (f i)) fm) hown (wks W (staticW "java/lang/String" 495 LChA.yN)) (wk W LChA.tab) (W := 0) (Nat.le_of_ble_eq_true rfl) (Nat.le_of_ble_eq_true rfl) (Nat.le_refl _) (Nat.le_refl _) (g := (mkF m 12 #[.val (.ref x), .val (.int (Int32.ofNat i))] [.int (Int32.ofNat i), .ref t])) rfl (by rw [hml]; rfl) c5 (argsL := [.ref t, .int (Int32.ofNat i)]) (rest := []) rfl rfl (by show 2 * 0 + 0 ≤ _; decide) (hb hbytes d12) (⟨rfl, hx.2.2.2.1.mv X4.warmed.alike hh4, (k2 i hi).1, s3.there X4.warmed.alike hh4, rf⟩)
    obtain ⟨rfl, q6⟩ := E6
    rw [chr8_lo8 hr.1 (k2 i hi).2] at g6
    exact ⟨T6, some (.int (f i)), _, _, _, X6, rfl, rfl, rfl, (fun h => by cases h), ⟨rfl, q6.trans hh4⟩, fun fs hl => Steps.trans g6 (X6.ireturnOut hexec hret (narrow_ch hr.1 hr.2) (Or.inr (Or.inr (Or.inr (Or.inl rfl)))) (hb hbytes d15) hl)⟩
  · exact absurd k0 (by decide)
theorem pays {l : Launch} {R : Room} {p : Program} {e : Env} {below : List Frame} {s : State} {sargs : Array Value} {len W : Nat} (x t : Addr) (V : Cell) (n : Nat) (f : Nat → Int32) (z : Int32) (fm : Value) (i : Nat) (htab : tab.before sargs s = true) (hfr : 4 ≤ R.frames) (hlo : W + 53 ≤ R.locals) :
    Back l R p e below s sargs yN len W (fun A₁ a₁ => A₁.cells + 0 ≤ R.cells ∧ A₁.slots + 0 ≤ R.slots ∧ P x t V n f z fm i a₁ A₁.U) (fun A₁ _ v₁ B₁ => E f i v₁ A₁.U B₁.U ∧ B₁.locs = A₁.locs ++ [] ∧ B₁.cells = A₁.cells + 0 ∧ B₁.slots = A₁.slots + 0) :=
  (law l x t V n f z fm i).pays htab hfr (by omega)
end ChN
end StrChars
namespace StrChars.Road
open Jvm Sem ClassFile Op Lib Jvm.Stand Jvm.Free Jvm.Free.XT
open Jvm.Lib.Cold (StaticIs)
/-- the words of String.charAt(int), the Latin-1 road alone -/
abbrev wordsChN : List Jvm.Cond := [.code ChN.yN ChN.yB 2 (some .char), .initialized ST, .fieldLink ST 9 ST "value" "[B", .fieldLink ST 38 ST "COMPACT_STRINGS" "Z", .fieldLink ST 15 ST "coder" "B", .code IsL.yN IsL.yB 1 (some .boolean), .methodLink ST 492 IsL.yN, .declares IsL.yN, .selects ST IsL.yN IsL.yN, .instanceMethod IsL.yN,
  .methodLink ST 495 LChA.yN, .static LChA.yN, .code LChA.yN LChA.yB 2 (some .char), .initialized "java/lang/StringLatin1", .methodLink "java/lang/StringLatin1" 9 JO.Str_checkIndex.yN, .static JO.Str_checkIndex.yN, .code JO.Str_checkIndex.yN JO.Str_checkIndex.yB 2 none,
  .fieldLink ST 1053 "jdk/internal/util/Preconditions" "SIOOBE_FORMATTER" "Ljava/util/function/BiFunction;", .methodLink ST 1059 JC.PreCheck.yN, .static JC.PreCheck.yN, .code JC.PreCheck.yN JC.PreCheck.yB 3 (some .int), .initialized "jdk/internal/util/Preconditions"]
theorem tabChN_of {a : Array Value} {s : State} (h : ∀ w ∈ wordsChN, w.before a s = true) : ChN.tab.before a s = true := by
  have hp : JC.PreCheck.tab.before a s = true := unparts (wk h (.code JC.PreCheck.yN JC.PreCheck.yB 3 (some .int))) (wks h (.initialized JC.PreCheck.yN.cls :: JC.PreCheck.site))
  have qk := consq hp h
  have hk : JO.Str_checkIndex.tab.before a s = true := unparts (wk qk (.code JO.Str_checkIndex.yN JO.Str_checkIndex.yB 2 none)) (wks qk (.initialized JO.Str_checkIndex.yN.cls :: JO.Str_checkIndex.site))
  have ql := consq hk h
  have hl : LChA.tab.before a s = true := unparts (wk ql (.code LChA.yN LChA.yB 2 (some .char))) (wks ql (.initialized LChA.yN.cls :: LChA.site))
  have hi : IsL.tab.before a s = true := unparts (wk h (.code IsL.yN IsL.yB 1 (some .boolean))) (wks h (.initialized IsL.yN.cls :: IsL.site))
  have q := consq hi (consq hl h)
  exact unparts (wk q (.code ChN.yN ChN.yB 2 (some .char))) (wks q (.initialized ChN.yN.cls :: ChN.site))
theorem movedChN {Z s : State} {a0 args : Array Value} (hZ : Z.Warmed39 s.vm) (hw : ∀ d ∈ wordsChN, d.before a0 Z = true) : ∀ d ∈ wordsChN, d.before args s = true := fun d hd => by
  have t : ∀ d ∈ wordsChN, (d.onTables && d.keepsFace) = true := by decide +kernel
  exact RoadKit.mv hZ (hw d hd) (t d hd)
/-- **charAt(i) OF A LATIN-1 STRING**, i < n: the char -/
theorem chN {p : Program} {l : Launch} {e : Env} {R : Room} {s : State} {args : Array Value} {below : List Frame} {len W : Nat} {Z : State} {a0 : Array Value} {h : Heap} (hZ : Z.Warmed39 s.vm) (hw : ∀ d ∈ wordsChN, d.before a0 Z = true) {kI : Nat} (wi : (Jvm.Cond.instantiable ST kI).before a0 Z = true)
    {x t : Addr} {kb : ClassId} {cs : List Int32} {N2 z : Int32} {vs : List Value} {fm : Value} {i : Nat} {j : Int32} (E : RoadKit.Exa Z h x ST) (V : RoadKit.Fld Z h x ST "value" "[B" (.ref t)) (C : RoadKit.Fld Z h x ST "coder" "B" (.int 0)) (K : RoadKit.Arv Z h t kb .byte N2 vs (.int 0)) (hc : CodA cs 0 N2 vs) (hb : ∀ c ∈ cs, ¬ c < 0 ∧ ¬ (65535 : Int32) < c)
    (S : RoadKit.Sta Z h ST "COMPACT_STRINGS" "Z" (.int z)) (hz : ¬ z = 0) (F : RoadKit.Sta Z h "jdk/internal/util/Preconditions" "SIOOBE_FORMATTER" "Ljava/util/function/BiFunction;" fm) (rf : fm.isRef = true) (l2 : cs.length ≤ 4000) (hi : i < cs.length) (hj : j = Int32.ofNat i) (hfr : 4 ≤ R.frames) (hlo : W + 53 ≤ R.locals) :
    Back l R p e below s args (⟨"java/lang/String", "charAt", "(I)C"⟩ : MethodName) len W (fun P a => a = #[.ref x, .int j] ∧ P.U.heap = h ∧ P.cells + 0 ≤ R.cells ∧ P.slots + 0 ≤ R.slots)
      (fun P _ v B => ∃ L, (v = some (.int (cs.getD i 0)) ∧ L = [] ∧ B.U.heap = h) ∧ B.locs = P.locs ++ L ∧ B.cells = P.cells + 0 ∧ B.slots = P.slots + 0) := by
  subst hj
  intro m meth c P g ig mk a X hg hsize hdg hW hn hp'
  obtain ⟨rfl, rfl, r1, r2⟩ := hp'
  have al : Z.vm.Alike P.U.vm := hZ.alike.trans X.warmed.alike
  obtain ⟨A, hx⟩ := txt_of wi al E V C K hc hb l2
  obtain ⟨v, B, X', ⟨⟨hv, hh⟩, hl, hk, hs⟩, st⟩ := ChN.pays x t A cs.length (fun j => cs.getD j 0) z fm i (tabChN_of (movedChN hZ hw)) hfr hlo m meth c P g ig mk _ X hg hsize hdg hW hn ⟨r1, r2, rfl, hx, hi, sta_is al S, hz, sta_is al F, rf⟩
  exact ⟨v, B, X', ⟨[], ⟨hv, rfl, hh⟩, hl, hk, hs⟩, st⟩
/-- what backV says of its String, as the contracts of this text ask it: cs's low bytes, coder 0 -/
theorem codOf {cs : List Int32} {n : Nat} (hn : cs.length = n) (hb : ∀ c ∈ cs, ¬ 255 < c) : CodA cs 0 (Int32.ofNat n) ((cs.map lo8).map Value.int) := Or.inl ⟨rfl, by rw [hn], by simp [List.map_map, Function.comp_def], hb⟩
end StrChars.Road
end Jvm.Pilot.@@N@@
namespace Jvm.Pilot.@@N@@
open Jvm Jvm.ClassFile Sem Op Lib Jvm.Free Jvm.Stand Jvm.LawKit Jvm.RoadKit Bundle Jvm.Pilot.@@N@@.Jvm.D
section OwnKit
variable {Z : State} {a0 : Array Value} {EL : List (String × Nat)} {own : String} {p : Program} {l : Launch} {e : Env} {R : Room} {s : State} {m : MethodId} {args : Array Value} {below : List Frame} {meth : Method} {c : Code} {vm : Vm} {T : State} {h : Heap} {cells slots : Nat}
theorem nle {a b : Nat} (h : Nat.ble a b = true) : a ≤ b := Nat.le_of_ble_eq_true h
theorem olt {x : Addr} {n : Nat} (h : @LT.lt Nat _ x n) : x < n := h
theorem one {x y : Addr} (h : @Ne Nat x y) : x ≠ y := h
theorem own_xr (h1 : Heap) : Ext h1 h1 := ⟨Nat.le_refl _, fun _ _ q => q⟩
theorem own_xt {h1 h2 h3 : Heap} (A : Ext h1 h2) (B : Ext h2 h3) : Ext h1 h3 := ⟨Nat.le_trans A.1 B.1, fun a c q => B.2 a c (A.2 a c q)⟩
theorem own_xk {h1 h2 h3 : Heap} {ws : List Addr} (A : Ext h1 h2) (K : Keep h2 h3 ws) (q : ∀ x ∈ ws, h1.size ≤ x) : Ext h1 h3 :=
  ⟨Nat.le_trans A.1 K.1, fun a c r => K.2.1 a c (A.2 a c r) fun z => absurd (Array.getElem?_eq_some_iff.mp r).1 (Nat.not_lt.mpr (q a z))⟩
theorem own_xw {h1 h2 h3 : Heap} {a : Addr} {sl : Nat} {v : Value} (A : Ext h1 h2) (W : Wr h2 h3 a sl v) (q : h1.size ≤ a) : Ext h1 h3 := own_xk A (Keep.of_wr W) (allS q all0)
/-- the walk stands: over the start with the tables at hand; its heap; the literals' word; all that it wrote is new -/
def Wk (Z : State) (a0 : Array Value) (EL : List (String × Nat)) (own : String) (p : Program) (l : Launch) (e : Env) (R : Room) (s : State) (m : MethodId) (args : Array Value) (below : List Frame) (meth : Method) (c : Code) (vm : Vm) (T : State) (h : Heap) (cells slots : Nat) : Prop :=
  ∃ (locs : List Loc) (k : Nat), Stand p l e R s m args below meth c T locs cells slots ∧ T.heap = h ∧ vm = s.vm ∧ k ≤ h.size ∧ Z.Warmed39 vm ∧ vm.findClass own = some m.cls ∧ EW Z a0 EL ∧ CHr Z EL s.vm s.heap vm h ∧ Fr Z.heap.size locs ∧ Ext Z.heap h
theorem Wk.here (W : Wk Z a0 EL own p l e R s m args below meth c vm T h cells slots) : At T m c below := by obtain ⟨_, _, X, -⟩ := W; exact X.here
theorem Wk.al (W : Wk Z a0 EL own p l e R s m args below meth c vm T h cells slots) : Z.vm.Alike vm := by obtain ⟨_, _, -, -, -, -, hZ, -⟩ := W; exact hZ.alike
theorem Wk.old (W : Wk Z a0 EL own p l e R s m args below meth c vm T h cells slots) : Ext Z.heap h := by obtain ⟨_, _, -, -, -, -, -, -, -, -, -, q⟩ := W; exact q
theorem Wk.ch (W : Wk Z a0 EL own p l e R s m args below meth c vm T h cells slots) : CHv Z EL vm h := by obtain ⟨_, _, -, -, -, -, -, -, -, q, -⟩ := W; exact q.1
theorem Wk.sz (W : Wk Z a0 EL own p l e R s m args below meth c vm T h cells slots) : Z.heap.size ≤ h.size := W.old.1
theorem own_safeB {h' : Heap} {x : Addr} (W : Wk Z a0 EL own p l e R s m args below meth c vm T h cells slots) (E : Ext h h') (q : h.size ≤ x) : Safe Z EL vm h' x := Safe.ext E W.ch (Safe.new q)
theorem own_safeE {x : Addr} {C : String} (W : Wk Z a0 EL own p l e R s m args below meth c vm T h cells slots) (E : Exa Z h x C) (h1 : C ≠ "java/lang/String") (h2 : C ≠ "[B") : Safe Z EL vm h x := Safe.exa W.al E h1 h2
/-- a step that grows the heap at its end and leaves the tables -/
theorem own_mkE {T' : State} {h' : Heap} {cells' slots' : Nat} {locs' : List Loc} {k : Nat} (X : Stand p l e R s m args below meth c T' locs' cells' slots') (e' : T'.heap = h') (hS : vm = s.vm) (hk : k ≤ h.size) (hZ : Z.Warmed39 vm) (ho : vm.findClass own = some m.cls) (hEW : EW Z a0 EL) (hC : CHr Z EL s.vm s.heap vm h) (N : Fr Z.heap.size locs') (O : Ext Z.heap h) (E : Ext h h') :
    Wk Z a0 EL own p l e R s m args below meth c vm T' h' cells' slots' :=
  ⟨locs', k, X, e', hS, Nat.le_trans hk E.1, hZ, ho, hEW, hC.trans (CHr.ext E hC.1), N, own_xt O E⟩
theorem own_new (W : Wk Z a0 EL own p l e R s m args below meth c vm T h cells slots) (hx : p.tables.exec = Jvm.exec) {C : String} {index n : Nat} (w : (Cond.classLink own index C).before a0 Z = true) (wi : (Cond.instantiable C n).before a0 Z = true) (wz : (Cond.initialized C).before a0 Z = true)
    {g : JFrame} (hg : g.method = m) (hd : decode c.code g.pc = .ok (.new index, 3)) (hc : cells + 1 ≤ R.cells) (hl : slots + n ≤ R.slots) :
    ∃ (x : Addr) (T' : State) (h' : Heap), h.size ≤ x ∧ Wk Z a0 EL own p l e R s m args below meth c vm T' h' (cells + 1) (slots + n) ∧ Ext h h' ∧ Exa Z h' x C ∧ (∀ {O nm d : String} {ty : FieldType}, Laid Z a0 C O nm d → parseFieldDescriptor d = some ty → Fld Z h' x O nm d (defaultValue ty)) ∧ Unt h' x ∧
      ∀ target, Steps p.tables e below (T'.setTop { g with pc := g.pc + 3, stack := .ref x :: g.stack }) target → Steps p.tables e below (T.setTop g) target := by
  obtain ⟨locs, k, X, eT, rfl, hk, hZ, ho, hEW, hC, N, O⟩ := W
  obtain ⟨T', h', X', e', E, A, D, U, st⟩ := newO X hx hZ ho w wi wz eT hg hd hc hl
  exact ⟨_, T', h', Nat.le_refl _, own_mkE X' e' rfl hk hZ ho hEW hC N O E, E, A, D, U, st⟩
theorem own_newP (W : Wk Z a0 EL own p l e R s m args below meth c vm T h cells slots) (hx : p.tables.exec = Jvm.exec) {aty : ArrayType} (w : (Cond.arrayClass (newarray.typeOf aty)).before a0 Z = true) {g : JFrame} (hg : g.method = m) (hd : decode c.code g.pc = .ok (.newarray aty, 2)) {n : Int32} {rest : List Value} (hs : g.stack = .int n :: rest)
    (hn : ¬ n < 0) {cap : Nat} (hcap : n.toNatClampNeg ≤ cap) (hb : cap * 8 ≤ 536870912) (hc : cells + 1 ≤ R.cells) (hl : slots + cap ≤ R.slots) :
    ∃ (x : Addr) (T' : State) (h' : Heap) (k : ClassId), h.size ≤ x ∧ Wk Z a0 EL own p l e R s m args below meth c vm T' h' (cells + 1) (slots + cap) ∧ Ext h h' ∧ Arv Z h' x k (newarray.typeOf aty) n [] (defaultValue (newarray.typeOf aty)) ∧
      ∀ target, Steps p.tables e below (T'.setTop { g with pc := g.pc + 2, stack := .ref x :: rest }) target → Steps p.tables e below (T.setTop g) target := by
  obtain ⟨locs, k, X, eT, rfl, hk, hZ, ho, hEW, hC, N, O⟩ := W
  obtain ⟨T', h', cA, X', e', E, A, st⟩ := newP X hx hZ w eT hg hd hs hn hcap hb hc hl
  exact ⟨_, T', h', cA, Nat.le_refl _, own_mkE X' e' rfl hk hZ ho hEW hC N O E, E, Arv.new A hn, st⟩
theorem own_mkW {T' : State} {h' : Heap} {cells' slots' : Nat} {locs' : List Loc} {k : Nat} {a : Addr} {sl : Nat} {v : Value} (X : Stand p l e R s m args below meth c T' (locs' ++ [⟨a, sl⟩]) cells' slots') (e' : T'.heap = h') (hS : vm = s.vm) (hk : k ≤ h.size) (hZ : Z.Warmed39 vm) (ho : vm.findClass own = some m.cls) (hEW : EW Z a0 EL) (hC : CHr Z EL s.vm s.heap vm h) (N : Fr Z.heap.size locs') (O : Ext Z.heap h) (W : Wr h h' a sl v) (S : Safe Z EL vm h a) (q : Z.heap.size ≤ a) :
    Wk Z a0 EL own p l e R s m args below meth c vm T' h' cells' slots' :=
  ⟨_, k, X, e', hS, by rw [W.size]; exact hk, hZ, ho, hEW, hC.trans (CHr.wr W S hC.1), N.app fun y hy => by cases List.mem_singleton.mp hy; exact q, own_xw O W q⟩
theorem own_nc {x : Int32} (h : ¬ x < 0 ∧ ¬ 65535 < x) : nar .char x = x := by
  show x.toUInt32.toUInt16.toUInt32.toInt32 = x
  obtain ⟨h1, h2⟩ := h
  rw [Int32.lt_iff_toInt_lt] at h1 h2
  have e1 : (0 : Int32).toInt = 0 := rfl
  have e2 : (65535 : Int32).toInt = 65535 := rfl
  rw [e1] at h1; rw [e2] at h2
  apply Int32.toBitVec_inj.mp
  apply BitVec.eq_of_toNat_eq
  have hx : x.toInt = x.toBitVec.toInt := rfl
  rw [hx, BitVec.toInt_eq_toNat_cond] at h1 h2
  have hlt := x.toBitVec.isLt
  have hn : x.toBitVec.toNat < 65536 := by split at h1 <;> split at h2 <;> omega
  show ((x.toUInt32.toUInt16.toUInt32)).toBitVec.toNat = _
  have e3 : (x.toUInt32.toUInt16.toUInt32).toNat = x.toUInt32.toNat % 65536 := by simp
  have e4 : x.toUInt32.toNat = x.toBitVec.toNat := rfl
  show (x.toUInt32.toUInt16.toUInt32).toNat = _
  rw [e3, e4]; omega
theorem own_stC (W : Wk Z a0 EL own p l e R s m args below meth c vm T h cells slots) (hx : p.tables.exec = Jvm.exec) {a : Addr} {k : ClassId} {z : Int32} {vs : List Value} {dv : Value} (F : Arv Z h a k .char z vs dv) (q : Z.heap.size ≤ a) {j x : Int32} {i : Nat} (hj : ¬ j < 0 ∧ j < z) (hi : j.toNatClampNeg = i) (hl : i < vs.length) (hr : ¬ x < 0 ∧ ¬ 65535 < x)
    {g : JFrame} (hg : g.method = m) {rest : List Value} (hs : g.stack = .int x :: .int j :: .ref a :: rest) (hd : decode c.code g.pc = .ok (.castore, 1)) :
    ∃ (T' : State) (h' : Heap), Wk Z a0 EL own p l e R s m args below meth c vm T' h' cells slots ∧ Wr h h' a i (.int x) ∧ Arv Z h' a k .char z (vs.set i (.int x)) dv ∧
      ∀ target, Steps p.tables e below (T'.setTop { g with pc := g.pc + 1, stack := rest }) target → Steps p.tables e below (T.setTop g) target := by
  obtain ⟨locs, k1, X, eT, rfl, hk, hZ, ho, hEW, hC, N, O⟩ := W
  obtain ⟨cl, A, q1, S, q3, H, U⟩ := id F
  obtain ⟨T', h', X', e', Wr', st⟩ := stC X hx hZ eT A (inb_of S hj) hg hs hd
  rw [own_nc hr, hi] at Wr'
  rw [hi] at X'
  have fx : fits .char (.int x) = true := by have := fits_nar_char x; rw [own_nc hr] at this; exact this
  refine ⟨T', h', own_mkW X' e' rfl hk hZ ho hEW hC N O Wr' (Safe.arr hZ.alike A (by decide)) q, Wr', ?_, st⟩
  exact Arv.set A q1 S q3 H U fx (by rw [hi]; exact Wr') i hi hl
theorem own_stB (W : Wk Z a0 EL own p l e R s m args below meth c vm T h cells slots) (hx : p.tables.exec = Jvm.exec) {a : Addr} {k : ClassId} {z : Int32} {vs : List Value} {dv : Value} (F : Arv Z h a k .byte z vs dv) (q : Z.heap.size ≤ a) (Sf : Safe Z EL vm h a) {j x : Int32} {i : Nat} (hj : ¬ j < 0 ∧ j < z) (hi : j.toNatClampNeg = i) (hl : i < vs.length)
    {g : JFrame} (hg : g.method = m) {rest : List Value} (hs : g.stack = .int x :: .int j :: .ref a :: rest) (hd : decode c.code g.pc = .ok (.bastore, 1)) :
    ∃ (T' : State) (h' : Heap), Wk Z a0 EL own p l e R s m args below meth c vm T' h' cells slots ∧ Wr h h' a i (.int x.toInt8.toInt32) ∧ Arv Z h' a k .byte z (vs.set i (.int x.toInt8.toInt32)) dv ∧
      ∀ target, Steps p.tables e below (T'.setTop { g with pc := g.pc + 1, stack := rest }) target → Steps p.tables e below (T.setTop g) target := by
  obtain ⟨locs, k1, X, eT, rfl, hk, hZ, ho, hEW, hC, N, O⟩ := W
  obtain ⟨cl, A, q1, S, q3, H, U⟩ := id F
  obtain ⟨T', h', X', e', Wr', st⟩ := stB X hx hZ eT A (inb_of S hj) hg hs hd
  have Wr2 : Wr h h' a i (.int x.toInt8.toInt32) := by rw [← hi]; exact Wr'
  rw [hi] at X'
  refine ⟨T', h', own_mkW X' e' rfl hk hZ ho hEW hC N O Wr2 Sf q, Wr2, ?_, st⟩
  exact Arv.set A q1 S q3 H U (fits_nar_byte x) Wr' i hi hl
theorem own_put (W : Wk Z a0 EL own p l e R s m args below meth c vm T h cells slots) (hx : p.tables.exec = Jvm.exec) {R0 O n d host C : String} {index kk : Nat} {ty : FieldType} (w : (Cond.fieldLink own index R0 n d).before a0 Z = true ∨ (Cond.fieldLinkNest own index R0 n d host).before a0 Z = true) (via : Via Z R0 O n d)
    {a : Addr} {v old : Value} (F : Fld Z h a O n d old) (E : Exa Z h a C) (L : (Cond.lays C O n d).before a0 Z = true ∨ ((Cond.laysFinal C O n d).before a0 Z = true ∧ own = O ∧ meth.name = "<init>")) (wi : (Cond.instantiable C kk).before a0 Z = true)
    (hty : parseFieldDescriptor d = some ty) (hn : narrow ty v = v) (hf : fits ty v = true) (S : Safe Z EL vm h a) (q : Z.heap.size ≤ a) {g : JFrame} (hg : g.method = m) {rest : List Value} (hs : g.stack = v :: .ref a :: rest) (hd : decode c.code g.pc = .ok (.putfield index, 3)) :
    ∃ (T' : State) (h' : Heap), Wk Z a0 EL own p l e R s m args below meth c vm T' h' cells slots ∧ Wr h h' a (RoadKit.slotOf Z O n d) v ∧ Fld Z h' a O n d v ∧
      ∀ target, Steps p.tables e below (T'.setTop { g with pc := g.pc + 3, stack := rest }) target → Steps p.tables e below (T.setTop g) target := by
  obtain ⟨locs, k1, X, eT, rfl, hk, hZ, ho, hEW, hC, N, O'⟩ := W
  obtain ⟨T', h', X', e', W', st⟩ := putF X hx hZ ho w via eT F E L wi hty hn hf hg hs hd
  exact ⟨T', h', own_mkW X' e' rfl hk hZ ho hEW hC N O' W' S q, W', F.same W', st⟩
theorem own_get (W : Wk Z a0 EL own p l e R s m args below meth c vm T h cells slots) (hx : p.tables.exec = Jvm.exec) {R0 O n d host : String} {index : Nat} (w : (Cond.fieldLink own index R0 n d).before a0 Z = true ∨ (Cond.fieldLinkNest own index R0 n d host).before a0 Z = true) (via : Via Z R0 O n d)
    {a : Addr} {v : Value} (F : Fld Z h a O n d v) {g : JFrame} (hg : g.method = m) {rest : List Value} (hs : g.stack = .ref a :: rest) (hd : decode c.code g.pc = .ok (.getfield index, 3)) :
    ∃ T' : State, Wk Z a0 EL own p l e R s m args below meth c vm T' h cells slots ∧
      ∀ target, Steps p.tables e below (T'.setTop { g with pc := g.pc + 3, stack := v :: rest }) target → Steps p.tables e below (T.setTop g) target := by
  obtain ⟨locs, k1, X, eT, rfl, hk, hZ, ho, hEW, hC, N, O'⟩ := W
  obtain ⟨T', X', e', st⟩ := getF X hx hZ ho w via eT F hg hs hd
  exact ⟨T', ⟨locs, k1, X', e', rfl, hk, hZ, ho, hEW, hC, N, O'⟩, st⟩
theorem own_getS (W : Wk Z a0 EL own p l e R s m args below meth c vm T h cells slots) (hx : p.tables.exec = Jvm.exec) {R0 O n d host : String} {index : Nat} (w : (Cond.fieldLink own index R0 n d).before a0 Z = true ∨ (Cond.fieldLinkNest own index R0 n d host).before a0 Z = true) (via : Via Z R0 O n d)
    {v : Value} (F : Sta Z Z.heap O n d v) {g : JFrame} (hg : g.method = m) (hd : decode c.code g.pc = .ok (.getstatic index, 3)) :
    ∃ T' : State, Wk Z a0 EL own p l e R s m args below meth c vm T' h cells slots ∧
      ∀ target, Steps p.tables e below (T'.setTop { g with pc := g.pc + 3, stack := v :: g.stack }) target → Steps p.tables e below (T.setTop g) target := by
  obtain ⟨locs, k1, X, eT, rfl, hk, hZ, ho, hEW, hC, N, O'⟩ := W
  obtain ⟨T', X', e', st⟩ := getS2 X hx hZ ho w via eT (F.ext O') hg hd
  exact ⟨T', ⟨locs, k1, X', e', rfl, hk, hZ, ho, hEW, hC, N, O'⟩, st⟩
theorem own_initO (W : Wk Z a0 EL own p l e R s m args below meth c vm T h cells slots) (hx : p.tables.exec = Jvm.exec) {idx : Nat} (w1 : (Cond.methodLink own idx Lib.objectInit).before a0 Z = true) (w2 : (Cond.instanceMethod Lib.objectInit).before a0 Z = true)
    (w3 : (Cond.code Lib.objectInit ⟨#[0xb1]⟩ 1 none).before a0 Z = true) {g : JFrame} (hg : g.method = m) (hsize : g.locals.size = c.maxLocals) {a : Addr} {rest : List Value} (hs : g.stack = .ref a :: rest) (hd : decode c.code g.pc = .ok (.invokespecial idx, 3))
    (hf : 1 ≤ R.frames) {Wd : Nat} (hW : 2 * g.monitorRoom + (rest.map fun v => v.category).sum ≤ Wd) (hl : Wd + 12 ≤ R.locals) :
    ∃ T' : State, Wk Z a0 EL own p l e R s m args below meth c vm T' h cells slots ∧ ∀ target, Steps p.tables e below (T'.setTop { g with pc := g.pc + 3, stack := rest }) target → Steps p.tables e below (T.setTop g) target := by
  obtain ⟨locs, k1, X, eT, rfl, hk, hZ, ho, hEW, hC, N, O'⟩ := W
  obtain ⟨T', X', e', st⟩ := initO X hx hZ ho w1 w2 w3 eT hg hsize hs hd hf hW hl
  exact ⟨T', ⟨locs, k1, X', e', rfl, hk, hZ, ho, hEW, hC, N, O'⟩, st⟩
theorem own_ldcI (W : Wk Z a0 EL own p l e R s m args below meth c vm T h cells slots) (hx : p.tables.exec = Jvm.exec) {index : Nat} {v : Int32} (w : (Cond.constant own index v).before a0 Z = true) {g : JFrame} (hg : g.method = m) (hd : decode c.code g.pc = .ok (.ldc index, 2)) :
    ∀ target, Steps p.tables e below (T.setTop { g with pc := g.pc + 2, stack := .int v :: g.stack }) target → Steps p.tables e below (T.setTop g) target := by
  obtain ⟨locs, k1, X, eT, rfl, hk, hZ, ho, hEW, hC, N, O'⟩ := W
  exact X.ldcInt hx ho (mv (s := s) hZ w) hg hd
theorem own_alen (W : Wk Z a0 EL own p l e R s m args below meth c vm T h cells slots) (hx : p.tables.exec = Jvm.exec) {a : Addr} {k : ClassId} {ty : FieldType} {z : Int32} {vs : List Value} {dv : Value} (F : Arv Z h a k ty z vs dv) {g : JFrame} (hg : g.method = m) {rest : List Value} (hs : g.stack = .ref a :: rest) (hd : decode c.code g.pc = .ok (.arraylength, 1)) :
    ∀ target, Steps p.tables e below (T.setTop { g with pc := g.pc + 1, stack := .int z :: rest }) target → Steps p.tables e below (T.setTop g) target := by
  obtain ⟨locs, k1, X, eT, rfl, hk, hZ, ho, hEW, hC, N, O'⟩ := W
  obtain ⟨cl, A, q1, S, q3, H, U⟩ := F
  intro target q
  have e1 := len_of S q3
  refine X.arraylength hx (by rw [eT]; exact A.1) (State.isArrayOf_alike (T := s) hZ.alike A.2.1) hg hs hd _ ?_
  rw [e1]; exact q
theorem own_cal (W : Wk Z a0 EL own p l e R s m args below meth c vm T h cells slots) (hx : p.tables.exec = Jvm.exec) {a : Addr} {k : ClassId} {z : Int32} {vs : List Value} {dv : Value} (F : Arv Z h a k .char z vs dv) {j x : Int32} (hj : ¬ j < 0 ∧ j < z) (hv : vs.getD j.toNatClampNeg dv = .int x) {g : JFrame} (hg : g.method = m) {rest : List Value} (hs : g.stack = .int j :: .ref a :: rest) (hd : decode c.code g.pc = .ok (.caload, 1)) :
    ∀ target, Steps p.tables e below (T.setTop { g with pc := g.pc + 1, stack := .int x :: rest }) target → Steps p.tables e below (T.setTop g) target := by
  obtain ⟨locs, k1, X, eT, rfl, hk, hZ, ho, hEW, hC, N, O'⟩ := W
  obtain ⟨cl, A, q1, S, q3, H, U⟩ := F
  exact X.caload hx (by rw [eT]; exact A.1) (State.isArrayOf_alike (T := s) hZ.alike A.2.1) A.2.2 (inb_of S hj) (H.at (inb_of S hj) hv) hg hs hd
theorem own_bal (W : Wk Z a0 EL own p l e R s m args below meth c vm T h cells slots) (hx : p.tables.exec = Jvm.exec) {a : Addr} {k : ClassId} {z : Int32} {vs : List Value} {dv : Value} (F : Arv Z h a k .byte z vs dv) {j x : Int32} (hj : ¬ j < 0 ∧ j < z) (hv : vs.getD j.toNatClampNeg dv = .int x) {g : JFrame} (hg : g.method = m) {rest : List Value} (hs : g.stack = .int j :: .ref a :: rest) (hd : decode c.code g.pc = .ok (.baload, 1)) :
    ∀ target, Steps p.tables e below (T.setTop { g with pc := g.pc + 1, stack := .int x :: rest }) target → Steps p.tables e below (T.setTop g) target := by
  obtain ⟨locs, k1, X, eT, rfl, hk, hZ, ho, hEW, hC, N, O'⟩ := W
  obtain ⟨cl, A, q1, S, q3, H, U⟩ := F
  exact X.baloadBytes hx (by rw [eT]; exact A.1) (State.isArrayOf_alike (T := s) hZ.alike A.2.1) A.2.2 (inb_of S hj) (H.at (inb_of S hj) hv) hg hs hd
theorem own_irem (W : Wk Z a0 EL own p l e R s m args below meth c vm T h cells slots) (hx : p.tables.exec = Jvm.exec) {g : JFrame} (hg : g.method = m) {x y : Int32} {rest : List Value} (hd : decode c.code g.pc = .ok (.irem, 1)) (hs : g.stack = .int y :: .int x :: rest) (hy : y ≠ 0) :
    ∀ target, Steps p.tables e below (T.setTop { g with pc := g.pc + 1, stack := .int (x % y) :: rest }) target → Steps p.tables e below (T.setTop g) target := by
  obtain ⟨locs, k1, X, -⟩ := W
  exact fun _ q => iremM X hx hg hd hs hy q
theorem own_acmp (W : Wk Z a0 EL own p l e R s m args below meth c vm T h cells slots) (hx : p.tables.exec = Jvm.exec) {g : JFrame} (hg : g.method = m) {cd : ACond} {x y : Value} (h1 : x.isRef = true) (h2 : y.isRef = true) {rest : List Value} {o : Int} {pc0 pc' : Nat} {same : Bool} (hpc : g.pc = pc0)
    (hd : decode c.code g.pc = .ok (.if_acmp cd o, 3)) (hs : g.stack = y :: x :: rest) (hq : decide (x = y) = same) (ho : 0 ≤ (pc0 : Int) + o) (hp : pc' = if acV cd same = true then ((pc0 : Int) + o).toNat else pc0 + 3) :
    ∀ target, Steps p.tables e below (T.setTop { g with pc := pc', stack := rest }) target → Steps p.tables e below (T.setTop g) target := by
  obtain ⟨locs, k1, X, -⟩ := W
  exact fun _ q => Jvm.RoadKit.acmp X hx hg h1 h2 hpc hd hs hq ho hp q
theorem own_cast (W : Wk Z a0 EL own p l e R s m args below meth c vm T h cells slots) (hx : p.tables.exec = Jvm.exec) {K : String} {index : Nat} (w : (Cond.classLink own index K).before a0 Z = true) {a : Addr} (F : Ins Z h a K true) {g : JFrame} (hg : g.method = m) {rest : List Value} (hs : g.stack = .ref a :: rest) (hd : decode c.code g.pc = .ok (.checkcast index, 3)) :
    ∃ T' : State, Wk Z a0 EL own p l e R s m args below meth c vm T' h cells slots ∧ ∀ target, Steps p.tables e below (T'.setTop { g with pc := g.pc + 3 }) target → Steps p.tables e below (T.setTop g) target := by
  obtain ⟨locs, k1, X, eT, rfl, hk, hZ, ho, hEW, hC, N, O'⟩ := W
  obtain ⟨T', X', e', st⟩ := castY X hx hZ ho w eT F hg hs hd
  exact ⟨T', ⟨locs, k1, X', e', rfl, hk, hZ, ho, hEW, hC, N, O'⟩, st⟩
theorem own_chr0 {vm vm' : Vm} {h h' : Heap} (q : h.size ≤ h'.size) : CHr Z [] vm h vm' h' := ⟨fun _ q => (nomatch q), q, fun y B => by obtain ⟨p, hp, -⟩ := B; cases hp⟩
theorem own_safe0 {vm : Vm} {h : Heap} {x : Addr} : Safe Z [] vm h x := fun B => by obtain ⟨p, hp, -⟩ := B; cases hp
/-- a method's contract, at a heap -/
def Ct (l : Launch) (Z : State) (a0 : Array Value) (EL : List (String × Nat)) (y : MethodName) (bytes : ByteArray) (maxL : Nat) (ret : Option FieldType) (ws : List Jvm.Cond) (rm : Room) (as' : Array Value) (h : Heap) (sf : List Addr) (Q : Option Value → Heap → List Addr → Prop) : Prop :=
  Ext Z.heap h → MetFree l y (head1 (Cond.code y bytes maxL ret :: ws) rm) (fun a U => a = as' ∧ Z.Warmed39 U.vm ∧ U.heap = h) (fun _ _ _ _ _ => True)
    (fun _ U o U' => ∃ v L, o = .returned v ∧ ((∃ so, Q v U'.heap so) ∧ Fr Z.heap.size L ∧ Ext Z.heap U'.heap ∧ h.size ≤ U'.heap.size) ∧ FrameEnd U o U' L rm.cells rm.slots)
theorem own_mkB {B : Pt} {L locs : List Loc} {k : Nat} {kc ks : Nat} (X : Stand p l e R s m args below meth c B.U B.locs B.cells B.slots) (hg : h.size ≤ B.U.heap.size) (hk : k ≤ h.size) (hZ : Z.Warmed39 s.vm) (ho : s.vm.findClass own = some m.cls) (hEW : EW Z a0 []) (hC : CHr Z [] s.vm s.heap s.vm h) (N : Fr Z.heap.size locs)
    (hL : Fr Z.heap.size L) (O' : Ext Z.heap B.U.heap) (e1 : B.locs = locs ++ L) (e2 : B.cells = kc) (e3 : B.slots = ks) :
    Wk Z a0 [] own p l e R s m args below meth c s.vm B.U B.U.heap kc ks := by
  subst e2 e3
  exact ⟨B.locs, k, X, rfl, rfl, Nat.le_trans hk hg, hZ, ho, hEW, hC.trans (own_chr0 hg), by rw [e1]; exact N.app hL, O'⟩
theorem own_static (W : Wk Z a0 [] own p l e R s m args below meth c vm T h cells slots) (hx : p.tables.exec = Jvm.exec) {index : Nat} {y : MethodName} {bytes : ByteArray} {maxL : Nat} {ret : Option FieldType} {rm : Room} {as' : Array Value} {sf : List Addr} {Q : Option Value → Heap → List Addr → Prop}
    (w1 : (Cond.methodLink own index y).before a0 Z = true) (w2 : (Cond.static y).before a0 Z = true) (w3 : (Cond.initialized y.cls).before a0 Z = true) (w4 : (Cond.code y bytes maxL ret).before a0 Z = true) (hy : y.cls ≠ "java/lang/invoke/MethodHandle" ∧ y.cls ≠ "java/lang/invoke/VarHandle")
    (hM : Ct l Z a0 [] y bytes maxL ret [] rm as' h sf Q) (hsf : ∀ x ∈ sf, Safe Z [] vm h x) {Wd : Nat} (hf : rm.frames + 1 ≤ R.frames) (hlo : Wd + (maxL + 11) + rm.locals ≤ R.locals) (hce : cells + rm.cells ≤ R.cells) (hsl : slots + rm.slots ≤ R.slots)
    {g : JFrame} (hg : g.method = m) (hsize : g.locals.size = c.maxLocals) {argsL rest : List Value} (hlen : ∀ sig, parseMethodDescriptor y.desc = some sig → argsL.length = sig.parameters.length) (hstack : g.stack = argsL.reverse ++ rest) (has : argsL.toArray = as') (hW : 2 * g.monitorRoom + (rest.map fun v => v.category).sum ≤ Wd)
    (hdg : decode c.code g.pc = .ok (.invokestatic index, 3)) :
    ∃ (v : Option Value) (so : List Addr) (vm' : Vm) (T' : State) (h' : Heap), Wk Z a0 [] own p l e R s m args below meth c vm' T' h' (cells + rm.cells) (slots + rm.slots) ∧ CHr Z [] vm h vm' h' ∧ Q v h' so ∧ (∀ x ∈ so, Safe Z [] vm' h' x) ∧
      ∀ target, Steps p.tables e below (T'.setTop { g with pc := g.pc + 3, stack := v.toList ++ rest }) target → Steps p.tables e below (T.setTop g) target := by
  obtain ⟨locs, k1, X, rfl, rfl, hk, hZ, ho, hEW, hC, N, O'⟩ := W
  obtain ⟨v, vm1, B, -, X', ⟨L, ⟨⟨so, hQ⟩, hL, O2, hg2⟩, e1, e2, e3⟩, st⟩ := Jvm.LawKit.callS X hx ho (mv (s := s) hZ w1) (mv (s := s) hZ w2) (mv (s := s) hZ w3) (mv (s := s) hZ w4) hy (backOf (h := T.heap) (Q := fun v h' L => (∃ so, Q v h' so) ∧ Fr Z.heap.size L ∧ Ext Z.heap h' ∧ T.heap.size ≤ h'.size) (hM O') hZ w4 w3 hf hlo) hg hsize hlen hstack hW hdg (fun _ _ => ⟨has, rfl, hce, hsl⟩)
  exact ⟨v, so, _, B.U, _, own_mkB X' hg2 hk hZ ho hEW hC N hL O2 e1 e2 e3, own_chr0 hg2, hQ, fun _ _ => own_safe0, fun _ q => st _ q⟩
theorem own_special (W : Wk Z a0 [] own p l e R s m args below meth c vm T h cells slots) (hx : p.tables.exec = Jvm.exec) {index : Nat} {y : MethodName} {bytes : ByteArray} {maxL : Nat} {rm : Room} {as' : Array Value} {sf : List Addr} {Q : Option Value → Heap → List Addr → Prop} (hy1 : y.name = "<init>")
    (w1 : (Cond.methodLink own index y).before a0 Z = true) (w2 : (Cond.instanceMethod y).before a0 Z = true) (w3 : (Cond.initialized y.cls).before a0 Z = true) (w4 : (Cond.code y bytes maxL none).before a0 Z = true) (hy : y.cls ≠ "java/lang/invoke/MethodHandle" ∧ y.cls ≠ "java/lang/invoke/VarHandle")
    (hM : Ct l Z a0 [] y bytes maxL none [] rm as' h sf Q) (hsf : ∀ x ∈ sf, Safe Z [] vm h x) {Wd : Nat} (hf : rm.frames + 1 ≤ R.frames) (hlo : Wd + (maxL + 11) + rm.locals ≤ R.locals) (hce : cells + rm.cells ≤ R.cells) (hsl : slots + rm.slots ≤ R.slots)
    {g : JFrame} (hg : g.method = m) (hsize : g.locals.size = c.maxLocals) {a : Addr} {argsL rest : List Value} (hlen : ∀ sig, parseMethodDescriptor y.desc = some sig → argsL.length = sig.parameters.length) (hstack : g.stack = argsL.reverse ++ .ref a :: rest) (has : (.ref a :: argsL).toArray = as') (hW : 2 * g.monitorRoom + (rest.map fun v => v.category).sum ≤ Wd)
    (hdg : decode c.code g.pc = .ok (.invokespecial index, 3)) :
    ∃ (v : Option Value) (so : List Addr) (vm' : Vm) (T' : State) (h' : Heap), Wk Z a0 [] own p l e R s m args below meth c vm' T' h' (cells + rm.cells) (slots + rm.slots) ∧ CHr Z [] vm h vm' h' ∧ Q v h' so ∧ (∀ x ∈ so, Safe Z [] vm' h' x) ∧
      ∀ target, Steps p.tables e below (T'.setTop { g with pc := g.pc + 3, stack := v.toList ++ rest }) target → Steps p.tables e below (T.setTop g) target := by
  obtain ⟨locs, k1, X, rfl, rfl, hk, hZ, ho, hEW, hC, N, O'⟩ := W
  obtain ⟨v, vm1, B, -, X', ⟨L, ⟨⟨so, hQ⟩, hL, O2, hg2⟩, e1, e2, e3⟩, st⟩ := X.specialBack hx hy1 ho (mv (s := s) hZ w1) (mv (s := s) hZ w2) (mv (s := s) hZ w4) hy (backOf (h := T.heap) (Q := fun v h' L => (∃ so, Q v h' so) ∧ Fr Z.heap.size L ∧ Ext Z.heap h' ∧ T.heap.size ≤ h'.size) (hM O') hZ w4 w3 hf hlo) hg hsize (Steps.refl _) hlen hstack hW hdg (fun _ _ => ⟨has, rfl, hce, hsl⟩)
  exact ⟨v, so, _, B.U, _, own_mkB X' hg2 hk hZ ho hEW hC N hL O2 e1 e2 e3, own_chr0 hg2, hQ, fun _ _ => own_safe0, fun _ q => st.trans q⟩
theorem own_virtual (W : Wk Z a0 [] own p l e R s m args below meth c vm T h cells slots) (hx : p.tables.exec = Jvm.exec) {index : Nat} {C : String} {y z : MethodName} {bytes : ByteArray} {maxL : Nat} {ret : Option FieldType} {rm : Room} {as' : Array Value} {sf : List Addr} {Q : Option Value → Heap → List Addr → Prop}
    (w1 : (Cond.methodLink own index y).before a0 Z = true) (w2 : (Cond.declares y).before a0 Z = true) (w5 : (Cond.selects C y z).before a0 Z = true) (w6 : (Cond.instanceMethod z).before a0 Z = true) (w3 : (Cond.initialized z.cls).before a0 Z = true) (w4 : (Cond.code z bytes maxL ret).before a0 Z = true) (hy : y.cls ≠ "java/lang/invoke/MethodHandle" ∧ y.cls ≠ "java/lang/invoke/VarHandle") (hnf : NotFace s y)
    {a : Addr} (E : Exa Z h a C)
    (hM : Ct l Z a0 [] z bytes maxL ret [] rm as' h sf Q) (hsf : ∀ x ∈ sf, Safe Z [] vm h x) {Wd : Nat} (hf : rm.frames + 1 ≤ R.frames) (hlo : Wd + (maxL + 11) + rm.locals ≤ R.locals) (hce : cells + rm.cells ≤ R.cells) (hsl : slots + rm.slots ≤ R.slots)
    {g : JFrame} (hg : g.method = m) (hsize : g.locals.size = c.maxLocals) {argsL rest : List Value} (hlen : ∀ sig, parseMethodDescriptor y.desc = some sig → argsL.length = sig.parameters.length) (hstack : g.stack = argsL.reverse ++ .ref a :: rest) (has : (.ref a :: argsL).toArray = as') (hW : 2 * g.monitorRoom + (rest.map fun v => v.category).sum ≤ Wd)
    (hdg : decode c.code g.pc = .ok (.invokevirtual index, 3)) :
    ∃ (v : Option Value) (so : List Addr) (vm' : Vm) (T' : State) (h' : Heap), Wk Z a0 [] own p l e R s m args below meth c vm' T' h' (cells + rm.cells) (slots + rm.slots) ∧ CHr Z [] vm h vm' h' ∧ Q v h' so ∧ (∀ x ∈ so, Safe Z [] vm' h' x) ∧
      ∀ target, Steps p.tables e below (T'.setTop { g with pc := g.pc + 3, stack := v.toList ++ rest }) target → Steps p.tables e below (T.setTop g) target := by
  obtain ⟨locs, k1, X, rfl, rfl, hk, hZ, ho, hEW, hC, N, O'⟩ := W
  obtain ⟨cB, kB, q1, q2, q3⟩ := isOf (s := s) hZ rfl E
  obtain ⟨v, vm1, B, -, X', ⟨L, ⟨⟨so, hQ⟩, hL, O2, hg2⟩, e1, e2, e3⟩, st⟩ := X.virtualBack hx ho (mv (s := s) hZ w1) (mv (s := s) hZ w2) hnf (mv (s := s) hZ w5) (mv (s := s) hZ w6) hy (backOf (h := T.heap) (Q := fun v h' L => (∃ so, Q v h' so) ∧ Fr Z.heap.size L ∧ Ext Z.heap h' ∧ T.heap.size ≤ h'.size) (hM O') hZ w4 w3 hf hlo) q1 q3 hg hsize (Steps.refl _) hlen hstack hW hdg (fun _ _ => ⟨has, rfl, hce, hsl⟩)
  exact ⟨v, so, _, B.U, _, own_mkB X' hg2 hk hZ ho hEW hC N hL O2 e1 e2 e3, own_chr0 hg2, hQ, fun _ _ => own_safe0, fun _ q => st.trans q⟩
/-- that the class of a method that its own class selects is no interface -/
theorem own_nf (W : Wk Z a0 EL own p l e R s m args below meth c vm T h cells slots) {C : String} {y : MethodName} (w : (Cond.selects C y y).before a0 Z = true) : NotFace s y := by
  obtain ⟨locs, k1, X, eT, rfl, hk, hZ, ho, hEW, hC, N, O'⟩ := W
  exact notFace_of_selects (args := #[]) (mv (s := s) hZ w)
/-- a callee of the library that leaves the tables, as a Back -/
theorem own_mkK {B : Pt} {L locs : List Loc} {k : Nat} {kc ks : Nat} {ws : List Addr} (X : Stand p l e R s m args below meth c B.U B.locs B.cells B.slots) (hS : vm = s.vm) (hk : k ≤ h.size) (hZ : Z.Warmed39 vm) (ho : vm.findClass own = some m.cls) (hEW : EW Z a0 EL) (hC : CHr Z EL s.vm s.heap vm h) (N : Fr Z.heap.size locs) (O' : Ext Z.heap h)
    (hL : Fr Z.heap.size L) (K : Keep h B.U.heap ws) (hs : ∀ x ∈ ws, Safe Z EL vm h x) (hn : ∀ x ∈ ws, Z.heap.size ≤ x) (e1 : B.locs = locs ++ L) (e2 : B.cells = kc) (e3 : B.slots = ks) :
    Wk Z a0 EL own p l e R s m args below meth c vm B.U B.U.heap kc ks := by
  subst e2 e3
  exact ⟨B.locs, k, X, rfl, hS, Nat.le_trans hk K.1, hZ, ho, hEW, hC.trans (CHr.keep K hs hC.1), by rw [e1]; exact N.app hL, own_xk O' K hn⟩
/-- an instance method that the library pays by a Back -/
theorem own_virtB (W : Wk Z a0 EL own p l e R s m args below meth c vm T h cells slots) (hx : p.tables.exec = Jvm.exec) {index : Nat} {C : String} {y z : MethodName} {kc ks : Nat} {as' : Array Value} {ws : List Addr} {Q : Option Value → Heap → List Loc → Prop}
    (w1 : (Cond.methodLink own index y).before a0 Z = true) (w2 : (Cond.declares y).before a0 Z = true) (w5 : (Cond.selects C y z).before a0 Z = true) (w6 : (Cond.instanceMethod z).before a0 Z = true) (hy : y.cls ≠ "java/lang/invoke/MethodHandle" ∧ y.cls ≠ "java/lang/invoke/VarHandle") (hnf : NotFace s y)
    {a : Addr} (E : Exa Z h a C) {Wd : Nat}
    (hK : ∀ s' : State, Z.Warmed39 s'.vm → Back l R p e below s' args z 3 Wd (fun P a => a = as' ∧ P.U.heap = h ∧ P.cells + kc ≤ R.cells ∧ P.slots + ks ≤ R.slots) (fun P _ v B => ∃ L, Q v B.U.heap L ∧ B.locs = P.locs ++ L ∧ B.cells = P.cells + kc ∧ B.slots = P.slots + ks))
    (hQ : ∀ v h' L, Q v h' L → Fr Z.heap.size L ∧ Keep h h' ws) (hs : ∀ x ∈ ws, Safe Z EL vm h x) (hn : ∀ x ∈ ws, Z.heap.size ≤ x) (hce : cells + kc ≤ R.cells) (hsl : slots + ks ≤ R.slots)
    {g : JFrame} (hg : g.method = m) (hsize : g.locals.size = c.maxLocals) {argsL rest : List Value} (hlen : ∀ sig, parseMethodDescriptor y.desc = some sig → argsL.length = sig.parameters.length) (hstack : g.stack = argsL.reverse ++ .ref a :: rest) (has : (.ref a :: argsL).toArray = as') (hW : 2 * g.monitorRoom + (rest.map fun v => v.category).sum ≤ Wd)
    (hdg : decode c.code g.pc = .ok (.invokevirtual index, 3)) :
    ∃ (v : Option Value) (T' : State) (h' : Heap) (L : List Loc), Wk Z a0 EL own p l e R s m args below meth c vm T' h' (cells + kc) (slots + ks) ∧ Q v h' L ∧
      ∀ target, Steps p.tables e below (T'.setTop { g with pc := g.pc + 3, stack := v.toList ++ rest }) target → Steps p.tables e below (T.setTop g) target := by
  obtain ⟨locs, k1, X, eT, rfl, hk, hZ, ho, hEW, hC, N, O'⟩ := W
  obtain ⟨cB, kB, q1, q2, q3⟩ := isOf (s := s) hZ eT E
  obtain ⟨v, vm1, B, -, X', ⟨L, hq, e1, e2, e3⟩, st⟩ := X.virtualBack hx ho (mv (s := s) hZ w1) (mv (s := s) hZ w2) hnf (mv (s := s) hZ w5) (mv (s := s) hZ w6) hy (hK _ hZ) q1 q3 hg hsize (Steps.refl _) hlen hstack hW hdg (fun _ _ => ⟨has, eT, hce, hsl⟩)
  obtain ⟨hL, K⟩ := hQ _ _ _ hq
  exact ⟨v, B.U, _, L, own_mkK X' rfl hk hZ ho hEW hC N O' hL K hs hn e1 e2 e3, hq, fun _ q => st.trans q⟩
/-- a constructor that the library pays by a Back -/
theorem own_specB (W : Wk Z a0 EL own p l e R s m args below meth c vm T h cells slots) (hx : p.tables.exec = Jvm.exec) {index : Nat} {y : MethodName} {bytes : ByteArray} {maxL kc ks : Nat} {as' : Array Value} {ws : List Addr} {Q : Option Value → Heap → List Loc → Prop} (hy1 : y.name = "<init>")
    (w1 : (Cond.methodLink own index y).before a0 Z = true) (w2 : (Cond.instanceMethod y).before a0 Z = true) (w4 : (Cond.code y bytes maxL none).before a0 Z = true) (hy : y.cls ≠ "java/lang/invoke/MethodHandle" ∧ y.cls ≠ "java/lang/invoke/VarHandle") {Wd : Nat}
    (hK : ∀ s' : State, Z.Warmed39 s'.vm → Back l R p e below s' args y 3 Wd (fun P a => a = as' ∧ P.U.heap = h ∧ P.cells + kc ≤ R.cells ∧ P.slots + ks ≤ R.slots) (fun P _ v B => ∃ L, Q v B.U.heap L ∧ B.locs = P.locs ++ L ∧ B.cells = P.cells + kc ∧ B.slots = P.slots + ks))
    (hQ : ∀ v h' L, Q v h' L → Fr Z.heap.size L ∧ Keep h h' ws) (hs : ∀ x ∈ ws, Safe Z EL vm h x) (hn : ∀ x ∈ ws, Z.heap.size ≤ x) (hce : cells + kc ≤ R.cells) (hsl : slots + ks ≤ R.slots)
    {g : JFrame} (hg : g.method = m) (hsize : g.locals.size = c.maxLocals) {a : Addr} {argsL rest : List Value} (hlen : ∀ sig, parseMethodDescriptor y.desc = some sig → argsL.length = sig.parameters.length) (hstack : g.stack = argsL.reverse ++ .ref a :: rest) (has : (.ref a :: argsL).toArray = as') (hW : 2 * g.monitorRoom + (rest.map fun v => v.category).sum ≤ Wd)
    (hdg : decode c.code g.pc = .ok (.invokespecial index, 3)) :
    ∃ (v : Option Value) (T' : State) (h' : Heap) (L : List Loc), Wk Z a0 EL own p l e R s m args below meth c vm T' h' (cells + kc) (slots + ks) ∧ Q v h' L ∧
      ∀ target, Steps p.tables e below (T'.setTop { g with pc := g.pc + 3, stack := v.toList ++ rest }) target → Steps p.tables e below (T.setTop g) target := by
  obtain ⟨locs, k1, X, eT, rfl, hk, hZ, ho, hEW, hC, N, O'⟩ := W
  obtain ⟨v, vm1, B, -, X', ⟨L, hq, e1, e2, e3⟩, st⟩ := X.specialBack hx hy1 ho (mv (s := s) hZ w1) (mv (s := s) hZ w2) (mv (s := s) hZ w4) hy (hK _ hZ) hg hsize (Steps.refl _) hlen hstack hW hdg (fun _ _ => ⟨has, eT, hce, hsl⟩)
  obtain ⟨hL, K⟩ := hQ _ _ _ hq
  exact ⟨v, B.U, _, L, own_mkK X' rfl hk hZ ho hEW hC N O' hL K hs hn e1 e2 e3, hq, fun _ q => st.trans q⟩
/-- System.arraycopy between two primitive arrays -/
theorem own_cp (W : Wk Z a0 EL own p l e R s m args below meth c vm T h cells slots) (hx : p.tables.exec = Jvm.exec) {index : Nat} (w1 : (Cond.methodLink own index Jvm.Stand.acN).before a0 Z = true) (w2 : (Cond.native Jvm.Stand.acN).before a0 Z = true) (w3 : (Cond.static Jvm.Stand.acN).before a0 Z = true) (w4 : (Cond.initialized "java/lang/System").before a0 Z = true)
    {a b : Addr} {k k' : ClassId} {ty : FieldType} {z z' sp dp nn : Int32} {vs vd us : List Value} {dv dd : Value} (A : Arv Z h a k ty z vs dv) (B : Arv Z h b k' ty z' vd dd) (hty : refKind ty = false) (Sf : Safe Z EL vm h b)
    (h1 : ¬ sp < 0) (h2 : ¬ dp < 0) (h3 : ¬ nn < 0) (h4 : sp.toNatClampNeg + nn.toNatClampNeg ≤ z.toNatClampNeg) (h5 : dp.toNatClampNeg + nn.toNatClampNeg ≤ z'.toNatClampNeg)
    (hus : us = (List.range nn.toNatClampNeg).map fun i => vs.getD (sp.toNatClampNeg + i) dv) (hl : dp.toNatClampNeg + nn.toNatClampNeg ≤ vd.length) (ge : Z.heap.size ≤ b)
    {g : JFrame} (hg : g.method = m) (hsize : g.locals.size = c.maxLocals) {rest : List Value} (hs : g.stack = .int nn :: .int dp :: .ref b :: .int sp :: .ref a :: rest) (hd : decode c.code g.pc = .ok (.invokestatic index, 3))
    (hf : 1 ≤ R.frames) {Wd : Nat} (hW : 2 * g.monitorRoom + (rest.map fun v => v.category).sum ≤ Wd) (hlo : Wd + (nativeFrameWords "java/lang/System" "arraycopy" 5 + 11) ≤ R.locals) :
    ∃ (T' : State) (h' : Heap), Wk Z a0 EL own p l e R s m args below meth c vm T' h' cells slots ∧ Keep h h' [b] ∧ Arv Z h' b k' ty z' (vd.take dp.toNatClampNeg ++ us ++ vd.drop (dp.toNatClampNeg + nn.toNatClampNeg)) dd ∧
      ∀ target, Steps p.tables e below (T'.setTop { g with pc := g.pc + 3, stack := rest }) target → Steps p.tables e below (T.setTop g) target := by
  obtain ⟨locs, k1, X, eT, rfl, hk, hZ, ho, hEW, hC, N, O'⟩ := W
  obtain ⟨T', h', L, X', e', N', K, V, st⟩ := cpA X hx hZ ho w1 w2 w3 w4 eT A B (Or.inl ⟨rfl, hty⟩) h1 h2 h3 h4 h5 hus hl N ge hg hsize hs hd hf hW hlo
  exact ⟨T', h', ⟨L, k1, X', e', rfl, Nat.le_trans hk K.1, hZ, ho, hEW, hC.trans (CHr.keep K (allS Sf all0) hC.1), N', own_xk O' K (allS ge all0)⟩, K, V, st⟩
theorem own_cat {v : Value} (h : v.isRef = true) : v.category = 1 := by rcases ref_cases h with rfl | ⟨_, rfl⟩ <;> rfl
theorem own_nrR {v : Value} {t : FieldType} (h : v.isRef = true) (ht : t.isReference = true) : narrow t v = v := by rcases ref_cases h with rfl | ⟨_, rfl⟩ <;> cases t <;> first | rfl | cases ht
theorem own_ftR {v : Value} {t : FieldType} (h : v.isRef = true) (ht : t.isReference = true) : fits t v = true := by rcases ref_cases h with rfl | ⟨_, rfl⟩ <;> cases t <;> first | rfl | cases ht
theorem own_up {x : Int32} (h : ¬ x < 0 ∧ ¬ (255 : Int32) < x) : ¬ x < 0 ∧ ¬ (65535 : Int32) < x := ⟨h.1, fun q => h.2 (by rw [Int32.lt_iff_toInt_lt] at q ⊢; have e1 : (65535 : Int32).toInt = 65535 := rfl; have e2 : (255 : Int32).toInt = 255 := rfl; omega)⟩
theorem own_retV (W : Wk Z a0 EL own p l e R s m args below meth c vm T h cells slots) (hx : p.tables.exec = Jvm.exec) {pc : Nat} {Ls : Array Slot} (hret : meth.sig.returnType = none) (hd : decode c.code pc = .ok (.return_, 1)) :
    ∀ fs : List Frame, (∀ (f : JFrame) (acts : List Action), f.method = m → f.locked = none → f.entered = [] → (doReturn e (T.setTop f) acts none).1 = T.setFrames fs) → Steps p.tables e below (T.setTop (mkF m pc Ls [])) (T.setFrames fs) := by
  obtain ⟨locs, k1, X, -⟩ := W
  exact fun fs hr => X.returnOut hx hret hd hr
theorem own_retI (W : Wk Z a0 EL own p l e R s m args below meth c vm T h cells slots) (hx : p.tables.exec = Jvm.exec) {pc : Nat} {Ls : Array Slot} {z : Int32} {rest : List Value} {t : FieldType} (hret : meth.sig.returnType = some t) (ht : t = .int ∨ t = .boolean ∨ t = .byte ∨ t = .char ∨ t = .short) (hn : narrow t (.int z) = .int z) (hd : decode c.code pc = .ok (.ireturn, 1)) :
    ∀ fs : List Frame, (∀ (f : JFrame) (acts : List Action), f.method = m → f.locked = none → f.entered = [] → (doReturn e (T.setTop f) acts (some (.int z))).1 = T.setFrames fs) → Steps p.tables e below (T.setTop (mkF m pc Ls (.int z :: rest))) (T.setFrames fs) := by
  obtain ⟨locs, k1, X, -⟩ := W
  exact fun fs hr => retOut X hx hret hn (Or.inl ⟨rfl, ht, z, rfl⟩) hd hr
theorem own_retA (W : Wk Z a0 EL own p l e R s m args below meth c vm T h cells slots) (hx : p.tables.exec = Jvm.exec) {pc : Nat} {Ls : Array Slot} {w : Value} {rest : List Value} {t : FieldType} (hret : meth.sig.returnType = some t) (ht : t.isReference = true) (hw : w.isRef = true) (hn : narrow t w = w) (hd : decode c.code pc = .ok (.areturn, 1)) :
    ∀ fs : List Frame, (∀ (f : JFrame) (acts : List Action), f.method = m → f.locked = none → f.entered = [] → (doReturn e (T.setTop f) acts (some w)).1 = T.setFrames fs) → Steps p.tables e below (T.setTop (mkF m pc Ls (w :: rest))) (T.setFrames fs) := by
  obtain ⟨locs, k1, X, -⟩ := W
  exact fun fs hr => retOut X hx hret hn (Or.inr (Or.inr (Or.inr (Or.inr ⟨rfl, ht, hw⟩)))) hd hr
theorem own_enter {y : MethodName} {bytes : ByteArray} {maxL : Nat} {ret : Option FieldType} {ws : List Jvm.Cond} {rm : Room} {as' : Array Value} {sf : List Addr} {Q : Option Value → Heap → List Addr → Prop} {F0 : MethodId → JFrame} (hp : plainFor y = true) (hEW : EW Z a0 []) (ef : ∀ m, entryFrame m as' maxL = F0 m)
    (body : ∀ (p : Program) (e : Env) (s : State) (m : MethodId) (below : List Frame) (meth : Method) (c : Code) (s₁ : State) (G : State → JFrame → Prop), p.tables.exec = Jvm.exec → c.code = bytes → c.maxLocals = maxL → meth.sig.returnType = ret → meth.name = y.name →
      Wk Z a0 [] y.cls p l e rm s m as' below meth c s.vm s₁ h 0 0 → (∀ x ∈ sf, Safe Z [] s.vm h x) →
      (∀ {T T' : State} {g g' : JFrame}, (∀ target, Steps p.tables e below (T'.setTop g') target → Steps p.tables e below (T.setTop g) target) → G T' g' → G T g) →
      (∀ {v : Option Value} {so : List Addr} {vm : Vm} {T : State} {h' : Heap} {cells slots : Nat} {g : JFrame}, Wk Z a0 [] y.cls p l e rm s m as' below meth c vm T h' cells slots → cells ≤ rm.cells → slots ≤ rm.slots → Q v h' so → (∀ x ∈ so, Safe Z [] vm h' x) → (ret = none → v = none) →
        (∀ fs : List Frame, (∀ (f : JFrame) (acts : List Action), f.method = m → f.locked = none → f.entered = [] → (doReturn e (T.setTop f) acts v).1 = T.setFrames fs) → Steps p.tables e below (T.setTop g) (T.setFrames fs)) → G T g) →
      G s₁ (F0 m)) : Ct l Z a0 [] y bytes maxL ret ws rm as' h sf Q := by
  intro hE
  refine MetFree.of_bodySF hp hisR ?_
  intro p e s m args below meth c s₁ Bd hml0 hP hK
  obtain ⟨rfl, hZ, hh⟩ := hP
  have X0 : Stand p l e rm s m args below meth c s₁ [] 0 0 := Stand.of_body Bd
  have e0 : s₁.heap = h := by rw [← hh, Bd.state]; rfl
  have W0 : Wk Z a0 [] y.cls p l e rm s m args below meth c s.vm s₁ h 0 0 :=
    ⟨[], h.size, X0, e0, rfl, Nat.le_refl _, hZ, findClass_of_methodNamed Bd.named, hEW, own_chr0 (by rw [hh]; exact Nat.le_refl _), Fr.nil _, hE⟩
  have key := body p e s m below meth c s₁
    (fun T g => ∃ (v : Option Value) (so : List Addr) (vm : Vm) (T' : State) (h' : Heap) (cells slots : Nat), Wk Z a0 [] y.cls p l e rm s m args below meth c vm T' h' cells slots ∧ cells ≤ rm.cells ∧ slots ≤ rm.slots ∧ Q v h' so ∧ (ret = none → v = none) ∧
      ∀ fs : List Frame, (∀ (f : JFrame) (acts : List Action), f.method = m → f.locked = none → f.entered = [] → (doReturn e (T'.setTop f) acts v).1 = T'.setFrames fs) → Steps p.tables e below (T.setTop g) (T'.setFrames fs))
    Bd.exec Bd.bytes hml0 Bd.returns (name_of_methodNamed Bd.named Bd.method).1 W0 (fun _ _ => own_safe0)
    (fun st ⟨v, so, vm1, T', h', k1, k2, q1, q2, q3, q4, q5, q6⟩ => ⟨v, so, vm1, T', h', k1, k2, q1, q2, q3, q4, q5, fun fs hr => st _ (q6 fs hr)⟩)
    (fun q1 q2 q3 q4 _ q5 q6 => ⟨_, _, _, _, _, _, _, q1, q2, q3, q4, q5, q6⟩)
  obtain ⟨v, so, vm, T', h', k1, k2, ⟨locs, k, X, rfl, rfl, hk, hZ', ho, -, hC', N, O⟩, q2, q3, q4, q5, q6⟩ := key
  obtain ⟨fs, hr, hrun, hended, hW, hsame⟩ := X.leave (v := v) (fun q => q5 (Bd.returns ▸ q))
  exact ⟨_, _, castTop (ef m) (q6 fs hr), hrun, hended, v, locs, rfl, ⟨⟨so, q4⟩, N, O, by have := hC'.2.1; rw [hh] at this; exact this⟩, ⟨_, rfl⟩, hW, hsame.mono q2 q3⟩
end OwnKit
section OwnStr
variable {Z : State} {a0 : Array Value} {EL : List (String × Nat)} {own : String} {p : Program} {l : Launch} {e : Env} {R : Room} {s : State} {m : MethodId} {args : Array Value} {below : List Frame} {meth : Method} {c : Code} {vm : Vm} {T : State} {h : Heap} {cells slots : Nat}
/-- a String that spells cs, each sign 0 to 255 -/
def Str (Z : State) (h : Heap) (a : Addr) (cs : List Int32) : Prop := Exa Z h a "java/lang/String" ∧ Fld Z h a "java/lang/String" "coder" "B" (.int 0) ∧ (∀ c ∈ cs, ¬ c < 0 ∧ ¬ (255 : Int32) < c) ∧ ∃ (t : Addr) (kb : ClassId), Fld Z h a "java/lang/String" "value" "[B" (.ref t) ∧ Arv Z h t kb .byte (Int32.ofNat cs.length) ((cs.map fun c => c.toInt8.toInt32).map Value.int) (.int 0)
theorem Str.ext {h' : Heap} {a : Addr} {cs : List Int32} (S : Str Z h a cs) (X : Ext h h') : Str Z h' a cs := by
  obtain ⟨E, C, hp, t, kb, V, K⟩ := S; exact ⟨E.ext X, C.ext X, hp, t, kb, V.ext X, K.ext X⟩
theorem Str.lt {a : Addr} {cs : List Int32} (S : Str Z h a cs) : a < h.size := S.1.lt
theorem own_ups {cs : List Int32} (h : ∀ c ∈ cs, ¬ c < 0 ∧ ¬ (255 : Int32) < c) : ∀ c ∈ cs, ¬ c < 0 ∧ ¬ (65535 : Int32) < c := fun c hc => own_up (h c hc)
theorem own_strNew (W : Wk Z a0 EL own p l e R s m args below meth c vm T h cells slots) (hx : p.tables.exec = Jvm.exec) (hws : ∀ d ∈ StrChars.Road.words, d.before a0 Z = true) {index kI : Nat} {bytes : ByteArray} {maxL : Nat} (w1 : (Cond.methodLink own index ⟨"java/lang/String", "<init>", "([C)V"⟩).before a0 Z = true) (w2 : (Cond.instanceMethod ⟨"java/lang/String", "<init>", "([C)V"⟩).before a0 Z = true) (w4 : (Cond.code ⟨"java/lang/String", "<init>", "([C)V"⟩ bytes maxL none).before a0 Z = true) (wi : (Cond.instantiable "java/lang/String" kI).before a0 Z = true)
    {x b : Addr} {kC : ClassId} {cs : List Int32} {d v0 c0 : Value} {N : Int32} (E : Exa Z h x "java/lang/String") (V : Fld Z h x "java/lang/String" "value" "[B" v0) (C : Fld Z h x "java/lang/String" "coder" "B" c0) (K : Arv Z h b kC .char N (cs.map Value.int) d) (hN : N = Int32.ofNat cs.length) (cmp : ∃ z : Int32, Sta Z Z.heap "java/lang/String" "COMPACT_STRINGS" "Z" (.int z) ∧ ¬ z = 0)
    (l0 : 0 < cs.length) (l2 : cs.length ≤ 4000) (hp : ∀ c ∈ cs, ¬ c < 0 ∧ ¬ (255 : Int32) < c) (Sf : Safe Z EL vm h x) (hfr : Z.heap.size ≤ x) {Wd : Nat} (hf : 4 ≤ R.frames) (hlo : Wd + 65 ≤ R.locals) (hce : cells + 1 ≤ R.cells) (hsl : slots + cs.length ≤ R.slots)
    {g : JFrame} (hg : g.method = m) (hsize : g.locals.size = c.maxLocals) {rest : List Value} (hs : g.stack = .ref b :: .ref x :: rest) (hW : 2 * g.monitorRoom + (rest.map fun v => v.category).sum ≤ Wd) (hd : decode c.code g.pc = .ok (.invokespecial index, 3)) :
    ∃ (T' : State) (h' : Heap), Wk Z a0 EL own p l e R s m args below meth c vm T' h' (cells + 1) (slots + cs.length) ∧ Keep h h' [x] ∧ Str Z h' x cs ∧
      ∀ target, Steps p.tables e below (T'.setTop { g with pc := g.pc + 3, stack := rest }) target → Steps p.tables e below (T.setTop g) target := by
  obtain ⟨z, OS, hz⟩ := cmp
  obtain ⟨v, T', h', L, W', ⟨rfl, hL, hK, q1, q2, t, kb, -, -, -, q3, q4⟩, st⟩ := own_specB W hx (y := ⟨"java/lang/String", "<init>", "([C)V"⟩) (Q := fun v h' L => StrChars.Road.QV Z x N (cs.map fun c => c.toInt8.toInt32) h Z.heap.size v h' L) (kc := 1) (ks := cs.length) (ws := [x]) rfl w1 w2 w4 (by decide)
    (fun s' hZ' => StrChars.Road.backV hZ' hws wi hfr W.sz E V C K (OS.ext W.old) hz rfl hN l0 l2 hp rfl hf hlo)
    (fun v h' L q => ⟨q.2.1, q.2.2.1⟩) (allS Sf all0) (allS hfr all0) hce hsl hg hsize (a := x) (argsL := [.ref b]) (rest := rest) (lenOf (d := "([C)V") (ps := [.array .char]) (r := none) (by decide +kernel) rfl) hs rfl hW hd
  exact ⟨T', h', W', hK, ⟨q1, q2, hp, t, kb, q3, hN ▸ q4⟩, st⟩
theorem own_slen (W : Wk Z a0 EL own p l e R s m args below meth c vm T h cells slots) (hx : p.tables.exec = Jvm.exec) (hln : ∀ d ∈ StrChars.Road.wordsLen, d.before a0 Z = true) {index kI : Nat} (w1 : (Cond.methodLink own index ⟨"java/lang/String", "length", "()I"⟩).before a0 Z = true) (w2 : (Cond.declares ⟨"java/lang/String", "length", "()I"⟩).before a0 Z = true) (w5 : (Cond.selects "java/lang/String" ⟨"java/lang/String", "length", "()I"⟩ ⟨"java/lang/String", "length", "()I"⟩).before a0 Z = true) (w6 : (Cond.instanceMethod ⟨"java/lang/String", "length", "()I"⟩).before a0 Z = true) (wi : (Cond.instantiable "java/lang/String" kI).before a0 Z = true)
    {x : Addr} {cs : List Int32} (S : Str Z h x cs) (cmp : ∃ z : Int32, Sta Z Z.heap "java/lang/String" "COMPACT_STRINGS" "Z" (.int z) ∧ ¬ z = 0) (l2 : cs.length ≤ 4000) {Wd : Nat} (hf : 2 ≤ R.frames) (hlo : Wd + 25 ≤ R.locals) (hce : cells + 0 ≤ R.cells) (hsl : slots + 0 ≤ R.slots)
    {g : JFrame} (hg : g.method = m) (hsize : g.locals.size = c.maxLocals) {rest : List Value} (hs : g.stack = .ref x :: rest) (hW : 2 * g.monitorRoom + (rest.map fun v => v.category).sum ≤ Wd) (hd : decode c.code g.pc = .ok (.invokevirtual index, 3)) :
    ∃ T' : State, Wk Z a0 EL own p l e R s m args below meth c vm T' h cells slots ∧
      ∀ target, Steps p.tables e below (T'.setTop { g with pc := g.pc + 3, stack := .int (Int32.ofNat cs.length) :: rest }) target → Steps p.tables e below (T.setTop g) target := by
  obtain ⟨z, OS, hz⟩ := cmp
  obtain ⟨E, C, hp, t, kb, V, K⟩ := S
  obtain ⟨v, T', h', L, W', ⟨rfl, -, rfl⟩, st⟩ := own_virtB W hx (y := ⟨"java/lang/String", "length", "()I"⟩) (z := ⟨"java/lang/String", "length", "()I"⟩) (Q := fun v h' L => v = some (.int (Int32.ofNat cs.length)) ∧ L = [] ∧ h' = h) (kc := 0) (ks := 0) (ws := []) w1 w2 w5 w6 (by decide) (own_nf W w5) E
    (fun s' hZ' => StrChars.Road.lenW hZ' hln wi E V C K (StrChars.Road.codOf rfl (fun c hc => (hp c hc).2)) (own_ups hp) (OS.ext W.old) hz l2 hf hlo)
    (fun v h' L q => by obtain ⟨-, rfl, rfl⟩ := q; exact ⟨Fr.nil _, Keep.refl _ _⟩) all0 all0 hce hsl hg hsize (argsL := []) (rest := rest) (lenOf (d := "()I") (ps := []) (r := some .int) (by decide +kernel) rfl) hs rfl hW hd
  exact ⟨T', W', st⟩
theorem own_sch (W : Wk Z a0 EL own p l e R s m args below meth c vm T h cells slots) (hx : p.tables.exec = Jvm.exec) (hln : ∀ d ∈ StrChars.Road.wordsChN, d.before a0 Z = true) {index kI : Nat} (w1 : (Cond.methodLink own index ⟨"java/lang/String", "charAt", "(I)C"⟩).before a0 Z = true) (w2 : (Cond.declares ⟨"java/lang/String", "charAt", "(I)C"⟩).before a0 Z = true) (w5 : (Cond.selects "java/lang/String" ⟨"java/lang/String", "charAt", "(I)C"⟩ ⟨"java/lang/String", "charAt", "(I)C"⟩).before a0 Z = true) (w6 : (Cond.instanceMethod ⟨"java/lang/String", "charAt", "(I)C"⟩).before a0 Z = true) (wi : (Cond.instantiable "java/lang/String" kI).before a0 Z = true)
    {x : Addr} {cs : List Int32} (S : Str Z h x cs) (cmp : ∃ z : Int32, Sta Z Z.heap "java/lang/String" "COMPACT_STRINGS" "Z" (.int z) ∧ ¬ z = 0) (sfm : ∃ z : Value, Sta Z Z.heap "jdk/internal/util/Preconditions" "SIOOBE_FORMATTER" "Ljava/util/function/BiFunction;" z ∧ z.isRef = true) (l2 : cs.length ≤ 4000) {i : Nat} {j : Int32} (hi : i < cs.length) (hj : j = Int32.ofNat i) {Wd : Nat} (hf : 4 ≤ R.frames) (hlo : Wd + 53 ≤ R.locals) (hce : cells + 0 ≤ R.cells) (hsl : slots + 0 ≤ R.slots)
    {g : JFrame} (hg : g.method = m) (hsize : g.locals.size = c.maxLocals) {rest : List Value} (hs : g.stack = .int j :: .ref x :: rest) (hW : 2 * g.monitorRoom + (rest.map fun v => v.category).sum ≤ Wd) (hd : decode c.code g.pc = .ok (.invokevirtual index, 3)) :
    ∃ T' : State, Wk Z a0 EL own p l e R s m args below meth c vm T' h cells slots ∧
      ∀ target, Steps p.tables e below (T'.setTop { g with pc := g.pc + 3, stack := .int (cs.getD i 0) :: rest }) target → Steps p.tables e below (T.setTop g) target := by
  obtain ⟨z, OS, hz⟩ := cmp
  obtain ⟨fm, OF, hfm⟩ := sfm
  obtain ⟨E, C, hp, t, kb, V, K⟩ := S
  obtain ⟨v, T', h', L, W', ⟨rfl, -, rfl⟩, st⟩ := own_virtB W hx (y := ⟨"java/lang/String", "charAt", "(I)C"⟩) (z := ⟨"java/lang/String", "charAt", "(I)C"⟩) (Q := fun v h' L => v = some (.int (cs.getD i 0)) ∧ L = [] ∧ h' = h) (kc := 0) (ks := 0) (ws := []) w1 w2 w5 w6 (by decide) (own_nf W w5) E
    (fun s' hZ' => StrChars.Road.chN hZ' hln wi E V C K (StrChars.Road.codOf rfl (fun c hc => (hp c hc).2)) (own_ups hp) (OS.ext W.old) hz (OF.ext W.old) hfm l2 hi hj hf hlo)
    (fun v h' L q => by obtain ⟨-, rfl, rfl⟩ := q; exact ⟨Fr.nil _, Keep.refl _ _⟩) all0 all0 hce hsl hg hsize (argsL := [.int j]) (rest := rest) (lenOf (d := "(I)C") (ps := [.int]) (r := some .char) (by decide +kernel) rfl) hs rfl hW hd
  exact ⟨T', W', st⟩
theorem own_semp (W : Wk Z a0 EL own p l e R s m args below meth c vm T h cells slots) (hx : p.tables.exec = Jvm.exec) (hln : ∀ d ∈ StrChars.Road.wordsEmp, d.before a0 Z = true) {index kI : Nat} (w1 : (Cond.methodLink own index ⟨"java/lang/String", "isEmpty", "()Z"⟩).before a0 Z = true) (w2 : (Cond.declares ⟨"java/lang/String", "isEmpty", "()Z"⟩).before a0 Z = true) (w5 : (Cond.selects "java/lang/String" ⟨"java/lang/String", "isEmpty", "()Z"⟩ ⟨"java/lang/String", "isEmpty", "()Z"⟩).before a0 Z = true) (w6 : (Cond.instanceMethod ⟨"java/lang/String", "isEmpty", "()Z"⟩).before a0 Z = true) (wi : (Cond.instantiable "java/lang/String" kI).before a0 Z = true)
    {x : Addr} {cs : List Int32} (S : Str Z h x cs) (l2 : cs.length ≤ 4000) {Wd : Nat} (hf : 1 ≤ R.frames) (hlo : Wd + 12 ≤ R.locals) (hce : cells + 0 ≤ R.cells) (hsl : slots + 0 ≤ R.slots)
    {g : JFrame} (hg : g.method = m) (hsize : g.locals.size = c.maxLocals) {rest : List Value} (hs : g.stack = .ref x :: rest) (hW : 2 * g.monitorRoom + (rest.map fun v => v.category).sum ≤ Wd) (hd : decode c.code g.pc = .ok (.invokevirtual index, 3)) :
    ∃ T' : State, Wk Z a0 EL own p l e R s m args below meth c vm T' h cells slots ∧
      ∀ target, Steps p.tables e below (T'.setTop { g with pc := g.pc + 3, stack := .int (if cs.length = 0 then 1 else 0) :: rest }) target → Steps p.tables e below (T.setTop g) target := by
  obtain ⟨E, C, hp, t, kb, V, K⟩ := S
  obtain ⟨v, T', h', L, W', ⟨rfl, -, rfl⟩, st⟩ := own_virtB W hx (y := ⟨"java/lang/String", "isEmpty", "()Z"⟩) (z := ⟨"java/lang/String", "isEmpty", "()Z"⟩) (Q := fun v h' L => v = some (.int (if cs.length = 0 then 1 else 0)) ∧ L = [] ∧ h' = h) (kc := 0) (ks := 0) (ws := []) w1 w2 w5 w6 (by decide) (own_nf W w5) E
    (fun s' hZ' => StrChars.Road.empW hZ' hln wi E V C K (StrChars.Road.codOf rfl (fun c hc => (hp c hc).2)) (own_ups hp) l2 hf hlo)
    (fun v h' L q => by obtain ⟨-, rfl, rfl⟩ := q; exact ⟨Fr.nil _, Keep.refl _ _⟩) all0 all0 hce hsl hg hsize (argsL := []) (rest := rest) (lenOf (d := "()Z") (ps := []) (r := some .boolean) (by decide +kernel) rfl) hs rfl hW hd
  exact ⟨T', W', st⟩
end OwnStr
theorem own_al0 {α : Type} {P : α → Prop} : ∀ x ∈ ([] : List α), P x := fun _ q => nomatch q
theorem own_alS {α : Type} {P : α → Prop} {y : α} {L : List α} (q : P y) (r : ∀ x ∈ L, P x) : ∀ x ∈ y :: L, P x := fun x z => (List.mem_cons.mp z).elim (fun u => u ▸ q) (r x)
theorem own_c255 (x : Int32) : ¬ ((x &&& (255 : Int32)).toUInt32.toUInt16.toUInt32.toInt32) < 0 ∧ ¬ (255 : Int32) < ((x &&& (255 : Int32)).toUInt32.toUInt16.toUInt32.toInt32) := by
  have t : ∀ k : Fin 256, ¬ ((Int32.ofNat k.val).toUInt32.toUInt16.toUInt32.toInt32) < 0 ∧ ¬ (255 : Int32) < ((Int32.ofNat k.val).toUInt32.toUInt16.toUInt32.toInt32) := by decide +kernel
  have h : (x &&& 255).toBitVec.toNat < 256 := by
    simp only [Int32.toBitVec_and, BitVec.toNat_and]
    exact Nat.lt_succ_of_le Nat.and_le_right
  have e : (x &&& 255) = Int32.ofNat (x &&& 255).toBitVec.toNat := by
    apply Int32.toBitVec_inj.mp
    show _ = BitVec.ofNat 32 _
    rw [BitVec.ofNat_toNat]; simp
  rw [e]
  exact t ⟨_, h⟩
theorem own_bz {b : Int32} {P Q : Prop} (h : (b = 1 ∧ P) ∨ (b = 0 ∧ Q)) : narrow .boolean (.int b) = .int b ∧ fits .boolean (.int b) = true := by rcases h with ⟨rfl, -⟩ | ⟨rfl, -⟩ <;> exact ⟨rfl, by decide⟩
theorem own_oft {n : Nat} (h : n < 2147483648) : (Int32.ofNat n).toInt = n := Int32.toInt_ofNat_small h
theorem own_ltn {i n : Nat} (hi : i < 2147483648) (hn : n < 2147483648) : Int32.ofNat i < Int32.ofNat n ↔ i < n := by rw [Int32.lt_iff_toInt_lt, own_oft hi, own_oft hn]; omega
theorem own_inc (i : Nat) : Int32.ofNat i + (1 : Int32) = Int32.ofNat (i + 1) := by
  apply Int32.toBitVec_inj.mp
  show BitVec.ofNat 32 i + BitVec.ofNat 32 1 = BitVec.ofNat 32 (i + 1)
  rw [← BitVec.ofNat_add]
theorem own_gd {cs : List Int32} {P : Int32 → Prop} (h : ∀ c ∈ cs, P c) {i : Nat} (hi : i < cs.length) : P (cs.getD i 0) := by
  rw [List.getD_eq_getElem?_getD, List.getElem?_eq_getElem hi]; exact h _ (List.getElem_mem _)
theorem own_mask (x : Int32) : 0 ≤ (x &&& (2147483647 : Int32)).toInt := by
  have h : (x &&& 2147483647).toBitVec.toNat ≤ 2147483647 := by
    simp only [Int32.toBitVec_and, BitVec.toNat_and]
    exact Nat.and_le_right
  show 0 ≤ (x &&& 2147483647).toBitVec.toInt
  rw [BitVec.toInt_eq_toNat_cond]; split <;> omega
theorem own_modk (x k : Int32) (h : 0 < k.toInt) : 0 ≤ ((x &&& (2147483647 : Int32)) % k).toInt ∧ ((x &&& (2147483647 : Int32)) % k).toInt < k.toInt := by
  rw [Int32.toInt_mod]
  exact ⟨Int.tmod_nonneg _ (own_mask x), Int.tmod_lt_of_pos _ h⟩
theorem own_b8 (x : Int32) : (x.toInt8.toInt32).toInt8.toInt32 = x.toInt8.toInt32 := by simp
theorem own_mod3 (x : Int32) : (x &&& (2147483647 : Int32)) % (3 : Int32) + (1 : Int32) = (1 : Int32) ∨ (x &&& (2147483647 : Int32)) % (3 : Int32) + (1 : Int32) = (2 : Int32) ∨ (x &&& (2147483647 : Int32)) % (3 : Int32) + (1 : Int32) = (3 : Int32) := by
  obtain ⟨h1, h2⟩ := own_modk x 3 (by decide)
  generalize (x &&& (2147483647 : Int32)) % (3 : Int32) = z at h1 h2
  have e3 : (3 : Int32).toInt = 3 := rfl
  rw [e3] at h2
  have h : z.toInt = 0 ∨ z.toInt = 1 ∨ z.toInt = 2 := by omega
  rcases h with h | h | h
  · exact Or.inl (by rw [Int32.toInt_inj.mp (h.trans (show (0 : Int) = (0 : Int32).toInt from rfl))]; rfl)
  · exact Or.inr (Or.inl (by rw [Int32.toInt_inj.mp (h.trans (show (1 : Int) = (1 : Int32).toInt from rfl))]; rfl))
  · exact Or.inr (Or.inr (by rw [Int32.toInt_inj.mp (h.trans (show (2 : Int) = (2 : Int32).toInt from rfl))]; rfl))
def own_EL : List (String × Nat) := []
def Cx (Z : State) (a0 : Array Value) : Prop := (∀ d ∈ tables_1, d.before a0 Z = true) ∧ EW Z a0 own_EL ∧ (∃ z : Int32, Sta Z Z.heap "java/lang/String" "COMPACT_STRINGS" "Z" (.int z) ∧ ¬ z = 0) ∧ (∃ z : Value, Sta Z Z.heap "jdk/internal/util/Preconditions" "SIOOBE_FORMATTER" "Ljava/util/function/BiFunction;" z ∧ z.isRef = true)
theorem Cx.hw {Z : State} {a0 : Array Value} (C : Cx Z a0) : (∀ d ∈ tables_1, d.before a0 Z = true) := C.1
theorem Cx.ew {Z : State} {a0 : Array Value} (C : Cx Z a0) : EW Z a0 own_EL := C.2.1
theorem Cx.cs {Z : State} {a0 : Array Value} (C : Cx Z a0) : (∃ z : Int32, Sta Z Z.heap "java/lang/String" "COMPACT_STRINGS" "Z" (.int z) ∧ ¬ z = 0) := C.2.2.1
theorem Cx.sf {Z : State} {a0 : Array Value} (C : Cx Z a0) : (∃ z : Value, Sta Z Z.heap "jdk/internal/util/Preconditions" "SIOOBE_FORMATTER" "Ljava/util/function/BiFunction;" z ∧ z.isRef = true) := C.2.2.2
theorem own_ws {Z : State} {a0 : Array Value} (C : Cx Z a0) : ∀ d ∈ StrChars.Road.words, d.before a0 Z = true := fun d hd => C.1 d ((by decide +kernel : ∀ d ∈ StrChars.Road.words, d ∈ tables_1) d hd)
theorem own_wln {Z : State} {a0 : Array Value} (C : Cx Z a0) : ∀ d ∈ StrChars.Road.wordsLen, d.before a0 Z = true := fun d hd => C.1 d ((by decide +kernel : ∀ d ∈ StrChars.Road.wordsLen, d ∈ tables_1) d hd)
theorem own_wch {Z : State} {a0 : Array Value} (C : Cx Z a0) : ∀ d ∈ StrChars.Road.wordsChN, d.before a0 Z = true := fun d hd => C.1 d ((by decide +kernel : ∀ d ∈ StrChars.Road.wordsChN, d ∈ tables_1) d hd)
theorem own_wem {Z : State} {a0 : Array Value} (C : Cx Z a0) : ∀ d ∈ StrChars.Road.wordsEmp, d.before a0 Z = true := fun d hd => C.1 d ((by decide +kernel : ∀ d ∈ StrChars.Road.wordsEmp, d ∈ tables_1) d hd)
theorem w0 {Z : State} {a0 : Array Value} (C : Cx Z a0) : (Jvm.Cond.constant "com/example/forseti/forseti/io/CsvRequiredPinLaw" (7 : Nat) (2147483647 : Int32)).before a0 Z = true := C.1 _ (List.mem_of_getElem? (i := 0) rfl)
theorem w1 {Z : State} {a0 : Array Value} (C : Cx Z a0) : (Jvm.Cond.arrayClass Jvm.ClassFile.FieldType.char).before a0 Z = true := C.1 _ (List.mem_of_getElem? (i := 1) rfl)
theorem w2 {Z : State} {a0 : Array Value} (C : Cx Z a0) : (Jvm.Cond.classLink "com/example/forseti/forseti/io/CsvRequiredPinLaw" (8 : Nat) "java/lang/String").before a0 Z = true := C.1 _ (List.mem_of_getElem? (i := 2) rfl)
theorem w3 {Z : State} {a0 : Array Value} (C : Cx Z a0) : (Jvm.Cond.instantiable "java/lang/String" (4 : Nat)).before a0 Z = true := C.1 _ (List.mem_of_getElem? (i := 3) rfl)
theorem w4 {Z : State} {a0 : Array Value} (C : Cx Z a0) : (Jvm.Cond.initialized "java/lang/String").before a0 Z = true := C.1 _ (List.mem_of_getElem? (i := 4) rfl)
theorem w5 {Z : State} {a0 : Array Value} (C : Cx Z a0) : (Jvm.Cond.methodLink "com/example/forseti/forseti/io/CsvRequiredPinLaw" (10 : Nat) ({ cls := "java/lang/String", name := "<init>", desc := "([C)V" } : Jvm.MethodName)).before a0 Z = true := C.1 _ (List.mem_of_getElem? (i := 5) rfl)
theorem w6 {Z : State} {a0 : Array Value} (C : Cx Z a0) : (Jvm.Cond.instanceMethod ({ cls := "java/lang/String", name := "<init>", desc := "([C)V" } : Jvm.MethodName)).before a0 Z = true := C.1 _ (List.mem_of_getElem? (i := 6) rfl)
theorem w7 {Z : State} {a0 : Array Value} (C : Cx Z a0) : (Jvm.Cond.code ({ cls := "java/lang/String", name := "<init>", desc := "([C)V" } : Jvm.MethodName) jdk_42_method_3_code (2 : Nat) (Option.none : Option Jvm.ClassFile.FieldType)).before a0 Z = true := C.1 _ (List.mem_of_getElem? (i := 7) rfl)
theorem w12 {Z : State} {a0 : Array Value} (C : Cx Z a0) : (Jvm.Cond.methodLink "java/lang/String" (1 : Nat) ({ cls := "java/lang/Object", name := "<init>", desc := "()V" } : Jvm.MethodName)).before a0 Z = true := C.1 _ (List.mem_of_getElem? (i := 12) rfl)
theorem w13 {Z : State} {a0 : Array Value} (C : Cx Z a0) : (Jvm.Cond.instanceMethod ({ cls := "java/lang/Object", name := "<init>", desc := "()V" } : Jvm.MethodName)).before a0 Z = true := C.1 _ (List.mem_of_getElem? (i := 13) rfl)
theorem w14 {Z : State} {a0 : Array Value} (C : Cx Z a0) : (Jvm.Cond.code ({ cls := "java/lang/Object", name := "<init>", desc := "()V" } : Jvm.MethodName) object_method_1_code (1 : Nat) (Option.none : Option Jvm.ClassFile.FieldType)).before a0 Z = true := C.1 _ (List.mem_of_getElem? (i := 14) rfl)
theorem w15 {Z : State} {a0 : Array Value} (C : Cx Z a0) : (Jvm.Cond.fieldLink "java/lang/String" (38 : Nat) "java/lang/String" "COMPACT_STRINGS" "Z").before a0 Z = true := C.1 _ (List.mem_of_getElem? (i := 15) rfl)
theorem w20 {Z : State} {a0 : Array Value} (C : Cx Z a0) : (Jvm.Cond.arrayClass Jvm.ClassFile.FieldType.byte).before a0 Z = true := C.1 _ (List.mem_of_getElem? (i := 20) rfl)
theorem w27 {Z : State} {a0 : Array Value} (C : Cx Z a0) : (Jvm.Cond.fieldLink "java/lang/String" (15 : Nat) "java/lang/String" "coder" "B").before a0 Z = true := C.1 _ (List.mem_of_getElem? (i := 27) rfl)
theorem w28 {Z : State} {a0 : Array Value} (C : Cx Z a0) : (Jvm.Cond.laysFinal "java/lang/String" "java/lang/String" "coder" "B").before a0 Z = true := C.1 _ (List.mem_of_getElem? (i := 28) rfl)
theorem w29 {Z : State} {a0 : Array Value} (C : Cx Z a0) : (Jvm.Cond.fieldLink "java/lang/String" (9 : Nat) "java/lang/String" "value" "[B").before a0 Z = true := C.1 _ (List.mem_of_getElem? (i := 29) rfl)
theorem w30 {Z : State} {a0 : Array Value} (C : Cx Z a0) : (Jvm.Cond.laysFinal "java/lang/String" "java/lang/String" "value" "[B").before a0 Z = true := C.1 _ (List.mem_of_getElem? (i := 30) rfl)
theorem w31 {Z : State} {a0 : Array Value} (C : Cx Z a0) : (Jvm.Cond.methodLink "com/example/forseti/forseti/io/CsvRequiredPinLaw" (13 : Nat) ({ cls := "java/lang/String", name := "valueOf", desc := "(C)Ljava/lang/String;" } : Jvm.MethodName)).before a0 Z = true := C.1 _ (List.mem_of_getElem? (i := 31) rfl)
theorem w32 {Z : State} {a0 : Array Value} (C : Cx Z a0) : (Jvm.Cond.static ({ cls := "java/lang/String", name := "valueOf", desc := "(C)Ljava/lang/String;" } : Jvm.MethodName)).before a0 Z = true := C.1 _ (List.mem_of_getElem? (i := 32) rfl)
theorem w33 {Z : State} {a0 : Array Value} (C : Cx Z a0) : (Jvm.Cond.code ({ cls := "java/lang/String", name := "valueOf", desc := "(C)Ljava/lang/String;" } : Jvm.MethodName) jdk_42_method_139_code (1 : Nat) (Option.some (Jvm.ClassFile.FieldType.object "java/lang/String"))).before a0 Z = true := C.1 _ (List.mem_of_getElem? (i := 33) rfl)
theorem w34 {Z : State} {a0 : Array Value} (C : Cx Z a0) : (Jvm.Cond.methodLink "java/lang/String" (1015 : Nat) ({ cls := "java/lang/StringLatin1", name := "canEncode", desc := "(C)Z" } : Jvm.MethodName)).before a0 Z = true := C.1 _ (List.mem_of_getElem? (i := 34) rfl)
theorem w35 {Z : State} {a0 : Array Value} (C : Cx Z a0) : (Jvm.Cond.static ({ cls := "java/lang/StringLatin1", name := "canEncode", desc := "(C)Z" } : Jvm.MethodName)).before a0 Z = true := C.1 _ (List.mem_of_getElem? (i := 35) rfl)
theorem w36 {Z : State} {a0 : Array Value} (C : Cx Z a0) : (Jvm.Cond.initialized "java/lang/StringLatin1").before a0 Z = true := C.1 _ (List.mem_of_getElem? (i := 36) rfl)
theorem w37 {Z : State} {a0 : Array Value} (C : Cx Z a0) : (Jvm.Cond.code ({ cls := "java/lang/StringLatin1", name := "canEncode", desc := "(C)Z" } : Jvm.MethodName) jdk_43_method_3_code (1 : Nat) (Option.some Jvm.ClassFile.FieldType.boolean)).before a0 Z = true := C.1 _ (List.mem_of_getElem? (i := 37) rfl)
theorem w38 {Z : State} {a0 : Array Value} (C : Cx Z a0) : (Jvm.Cond.classLink "java/lang/String" (10 : Nat) "java/lang/String").before a0 Z = true := C.1 _ (List.mem_of_getElem? (i := 38) rfl)
theorem w39 {Z : State} {a0 : Array Value} (C : Cx Z a0) : (Jvm.Cond.methodLink "java/lang/String" (1018 : Nat) ({ cls := "java/lang/StringLatin1", name := "toBytes", desc := "(C)[B" } : Jvm.MethodName)).before a0 Z = true := C.1 _ (List.mem_of_getElem? (i := 39) rfl)
theorem w40 {Z : State} {a0 : Array Value} (C : Cx Z a0) : (Jvm.Cond.static ({ cls := "java/lang/StringLatin1", name := "toBytes", desc := "(C)[B" } : Jvm.MethodName)).before a0 Z = true := C.1 _ (List.mem_of_getElem? (i := 40) rfl)
theorem w41 {Z : State} {a0 : Array Value} (C : Cx Z a0) : (Jvm.Cond.code ({ cls := "java/lang/StringLatin1", name := "toBytes", desc := "(C)[B" } : Jvm.MethodName) jdk_43_method_46_code (1 : Nat) (Option.some (Jvm.ClassFile.FieldType.array Jvm.ClassFile.FieldType.byte))).before a0 Z = true := C.1 _ (List.mem_of_getElem? (i := 41) rfl)
theorem w42 {Z : State} {a0 : Array Value} (C : Cx Z a0) : (Jvm.Cond.methodLink "java/lang/String" (209 : Nat) ({ cls := "java/lang/String", name := "<init>", desc := "([BB)V" } : Jvm.MethodName)).before a0 Z = true := C.1 _ (List.mem_of_getElem? (i := 42) rfl)
theorem w43 {Z : State} {a0 : Array Value} (C : Cx Z a0) : (Jvm.Cond.instanceMethod ({ cls := "java/lang/String", name := "<init>", desc := "([BB)V" } : Jvm.MethodName)).before a0 Z = true := C.1 _ (List.mem_of_getElem? (i := 43) rfl)
theorem w44 {Z : State} {a0 : Array Value} (C : Cx Z a0) : (Jvm.Cond.code ({ cls := "java/lang/String", name := "<init>", desc := "([BB)V" } : Jvm.MethodName) jdk_42_method_151_code (3 : Nat) (Option.none : Option Jvm.ClassFile.FieldType)).before a0 Z = true := C.1 _ (List.mem_of_getElem? (i := 44) rfl)
theorem w45 {Z : State} {a0 : Array Value} (C : Cx Z a0) : (Jvm.Cond.methodLink "com/example/forseti/forseti/io/CsvRequiredPinLaw" (17 : Nat) ({ cls := "com/example/forseti/forseti/io/Csv", name := "required", desc := "(Ljava/lang/String;Ljava/lang/String;Ljava/lang/String;)Ljava/lang/String;" } : Jvm.MethodName)).before a0 Z = true := C.1 _ (List.mem_of_getElem? (i := 45) rfl)
theorem w46 {Z : State} {a0 : Array Value} (C : Cx Z a0) : (Jvm.Cond.static ({ cls := "com/example/forseti/forseti/io/Csv", name := "required", desc := "(Ljava/lang/String;Ljava/lang/String;Ljava/lang/String;)Ljava/lang/String;" } : Jvm.MethodName)).before a0 Z = true := C.1 _ (List.mem_of_getElem? (i := 46) rfl)
theorem w47 {Z : State} {a0 : Array Value} (C : Cx Z a0) : (Jvm.Cond.initialized "com/example/forseti/forseti/io/Csv").before a0 Z = true := C.1 _ (List.mem_of_getElem? (i := 47) rfl)
theorem w48 {Z : State} {a0 : Array Value} (C : Cx Z a0) : (Jvm.Cond.code ({ cls := "com/example/forseti/forseti/io/Csv", name := "required", desc := "(Ljava/lang/String;Ljava/lang/String;Ljava/lang/String;)Ljava/lang/String;" } : Jvm.MethodName) prog_1_method_14_code (3 : Nat) (Option.some (Jvm.ClassFile.FieldType.object "java/lang/String"))).before a0 Z = true := C.1 _ (List.mem_of_getElem? (i := 48) rfl)
theorem w49 {Z : State} {a0 : Array Value} (C : Cx Z a0) : (Jvm.Cond.methodLink "com/example/forseti/forseti/io/Csv" (195 : Nat) ({ cls := "java/lang/String", name := "isEmpty", desc := "()Z" } : Jvm.MethodName)).before a0 Z = true := C.1 _ (List.mem_of_getElem? (i := 49) rfl)
theorem w50 {Z : State} {a0 : Array Value} (C : Cx Z a0) : (Jvm.Cond.declares ({ cls := "java/lang/String", name := "isEmpty", desc := "()Z" } : Jvm.MethodName)).before a0 Z = true := C.1 _ (List.mem_of_getElem? (i := 50) rfl)
theorem w51 {Z : State} {a0 : Array Value} (C : Cx Z a0) : (Jvm.Cond.instanceMethod ({ cls := "java/lang/String", name := "isEmpty", desc := "()Z" } : Jvm.MethodName)).before a0 Z = true := C.1 _ (List.mem_of_getElem? (i := 51) rfl)
theorem w52 {Z : State} {a0 : Array Value} (C : Cx Z a0) : (Jvm.Cond.selects "java/lang/String" ({ cls := "java/lang/String", name := "isEmpty", desc := "()Z" } : Jvm.MethodName) ({ cls := "java/lang/String", name := "isEmpty", desc := "()Z" } : Jvm.MethodName)).before a0 Z = true := C.1 _ (List.mem_of_getElem? (i := 52) rfl)
theorem w54 {Z : State} {a0 : Array Value} (C : Cx Z a0) : (Jvm.Cond.methodLink "com/example/forseti/forseti/io/CsvRequiredPinLaw" (23 : Nat) ({ cls := "java/lang/String", name := "length", desc := "()I" } : Jvm.MethodName)).before a0 Z = true := C.1 _ (List.mem_of_getElem? (i := 54) rfl)
theorem w55 {Z : State} {a0 : Array Value} (C : Cx Z a0) : (Jvm.Cond.declares ({ cls := "java/lang/String", name := "length", desc := "()I" } : Jvm.MethodName)).before a0 Z = true := C.1 _ (List.mem_of_getElem? (i := 55) rfl)
theorem w56 {Z : State} {a0 : Array Value} (C : Cx Z a0) : (Jvm.Cond.instanceMethod ({ cls := "java/lang/String", name := "length", desc := "()I" } : Jvm.MethodName)).before a0 Z = true := C.1 _ (List.mem_of_getElem? (i := 56) rfl)
theorem w57 {Z : State} {a0 : Array Value} (C : Cx Z a0) : (Jvm.Cond.selects "java/lang/String" ({ cls := "java/lang/String", name := "length", desc := "()I" } : Jvm.MethodName) ({ cls := "java/lang/String", name := "length", desc := "()I" } : Jvm.MethodName)).before a0 Z = true := C.1 _ (List.mem_of_getElem? (i := 57) rfl)
theorem w64 {Z : State} {a0 : Array Value} (C : Cx Z a0) : (Jvm.Cond.methodLink "com/example/forseti/forseti/io/CsvRequiredPinLaw" (27 : Nat) ({ cls := "java/lang/String", name := "charAt", desc := "(I)C" } : Jvm.MethodName)).before a0 Z = true := C.1 _ (List.mem_of_getElem? (i := 64) rfl)
theorem w65 {Z : State} {a0 : Array Value} (C : Cx Z a0) : (Jvm.Cond.declares ({ cls := "java/lang/String", name := "charAt", desc := "(I)C" } : Jvm.MethodName)).before a0 Z = true := C.1 _ (List.mem_of_getElem? (i := 65) rfl)
theorem w66 {Z : State} {a0 : Array Value} (C : Cx Z a0) : (Jvm.Cond.instanceMethod ({ cls := "java/lang/String", name := "charAt", desc := "(I)C" } : Jvm.MethodName)).before a0 Z = true := C.1 _ (List.mem_of_getElem? (i := 66) rfl)
theorem w67 {Z : State} {a0 : Array Value} (C : Cx Z a0) : (Jvm.Cond.selects "java/lang/String" ({ cls := "java/lang/String", name := "charAt", desc := "(I)C" } : Jvm.MethodName) ({ cls := "java/lang/String", name := "charAt", desc := "(I)C" } : Jvm.MethodName)).before a0 Z = true := C.1 _ (List.mem_of_getElem? (i := 67) rfl)
theorem w85 {Z : State} {a0 : Array Value} (C : Cx Z a0) : (Jvm.Cond.methodLink "com/example/forseti/forseti/io/CsvRequiredPinLaw" (31 : Nat) ({ cls := "java/lang/String", name := "equals", desc := "(Ljava/lang/Object;)Z" } : Jvm.MethodName)).before a0 Z = true := C.1 _ (List.mem_of_getElem? (i := 85) rfl)
theorem w86 {Z : State} {a0 : Array Value} (C : Cx Z a0) : (Jvm.Cond.declares ({ cls := "java/lang/String", name := "equals", desc := "(Ljava/lang/Object;)Z" } : Jvm.MethodName)).before a0 Z = true := C.1 _ (List.mem_of_getElem? (i := 86) rfl)
theorem w87 {Z : State} {a0 : Array Value} (C : Cx Z a0) : (Jvm.Cond.instanceMethod ({ cls := "java/lang/String", name := "equals", desc := "(Ljava/lang/Object;)Z" } : Jvm.MethodName)).before a0 Z = true := C.1 _ (List.mem_of_getElem? (i := 87) rfl)
theorem w88 {Z : State} {a0 : Array Value} (C : Cx Z a0) : (Jvm.Cond.selects "java/lang/String" ({ cls := "java/lang/String", name := "equals", desc := "(Ljava/lang/Object;)Z" } : Jvm.MethodName) ({ cls := "java/lang/String", name := "equals", desc := "(Ljava/lang/Object;)Z" } : Jvm.MethodName)).before a0 Z = true := C.1 _ (List.mem_of_getElem? (i := 88) rfl)
theorem w89 {Z : State} {a0 : Array Value} (C : Cx Z a0) : (Jvm.Cond.code ({ cls := "java/lang/String", name := "equals", desc := "(Ljava/lang/Object;)Z" } : Jvm.MethodName) jdk_42_method_66_code (3 : Nat) (Option.some Jvm.ClassFile.FieldType.boolean)).before a0 Z = true := C.1 _ (List.mem_of_getElem? (i := 89) rfl)
theorem d0_0 : decode jdk_43_method_3_code 0 = .ok (.iload_n 0, 1) := by decide +kernel
theorem d0_1 : decode jdk_43_method_3_code 1 = .ok (.sipush 255, 3) := by decide +kernel
theorem d0_12 : decode jdk_43_method_3_code 12 = .ok (.ireturn, 1) := by decide +kernel
theorem d0_4 : decode jdk_43_method_3_code 4 = .ok (.if_icmp .gt 7, 3) := by decide +kernel
theorem d0_7 : decode jdk_43_method_3_code 7 = .ok (.iconst 1, 1) := by decide +kernel
theorem d0_8 : decode jdk_43_method_3_code 8 = .ok (.goto 4, 3) := by decide +kernel
theorem d1_0 : decode jdk_43_method_46_code 0 = .ok (.iconst 1, 1) := by decide +kernel
theorem d1_1 : decode jdk_43_method_46_code 1 = .ok (.newarray .byte, 2) := by decide +kernel
theorem d1_3 : decode jdk_43_method_46_code 3 = .ok (.dup, 1) := by decide +kernel
theorem d1_4 : decode jdk_43_method_46_code 4 = .ok (.iconst 0, 1) := by decide +kernel
theorem d1_5 : decode jdk_43_method_46_code 5 = .ok (.iload_n 0, 1) := by decide +kernel
theorem d1_6 : decode jdk_43_method_46_code 6 = .ok (.i2b, 1) := by decide +kernel
theorem d1_7 : decode jdk_43_method_46_code 7 = .ok (.bastore, 1) := by decide +kernel
theorem d1_8 : decode jdk_43_method_46_code 8 = .ok (.areturn, 1) := by decide +kernel
theorem d2_0 : decode jdk_42_method_151_code 0 = .ok (.aload_n 0, 1) := by decide +kernel
theorem d2_1 : decode jdk_42_method_151_code 1 = .ok (.invokespecial 1, 3) := by decide +kernel
theorem d2_10 : decode jdk_42_method_151_code 10 = .ok (.iload_n 2, 1) := by decide +kernel
theorem d2_11 : decode jdk_42_method_151_code 11 = .ok (.putfield 15, 3) := by decide +kernel
theorem d2_14 : decode jdk_42_method_151_code 14 = .ok (.return_, 1) := by decide +kernel
theorem d2_4 : decode jdk_42_method_151_code 4 = .ok (.aload_n 0, 1) := by decide +kernel
theorem d2_5 : decode jdk_42_method_151_code 5 = .ok (.aload_n 1, 1) := by decide +kernel
theorem d2_6 : decode jdk_42_method_151_code 6 = .ok (.putfield 9, 3) := by decide +kernel
theorem d2_9 : decode jdk_42_method_151_code 9 = .ok (.aload_n 0, 1) := by decide +kernel
theorem d3_0 : decode jdk_42_method_139_code 0 = .ok (.getstatic 38, 3) := by decide +kernel
theorem d3_10 : decode jdk_42_method_139_code 10 = .ok (.ifCond .eq 16, 3) := by decide +kernel
theorem d3_13 : decode jdk_42_method_139_code 13 = .ok (.new 10, 3) := by decide +kernel
theorem d3_16 : decode jdk_42_method_139_code 16 = .ok (.dup, 1) := by decide +kernel
theorem d3_17 : decode jdk_42_method_139_code 17 = .ok (.iload_n 0, 1) := by decide +kernel
theorem d3_18 : decode jdk_42_method_139_code 18 = .ok (.invokestatic 1018, 3) := by decide +kernel
theorem d3_21 : decode jdk_42_method_139_code 21 = .ok (.iconst 0, 1) := by decide +kernel
theorem d3_22 : decode jdk_42_method_139_code 22 = .ok (.invokespecial 209, 3) := by decide +kernel
theorem d3_25 : decode jdk_42_method_139_code 25 = .ok (.areturn, 1) := by decide +kernel
theorem d3_3 : decode jdk_42_method_139_code 3 = .ok (.ifCond .eq 23, 3) := by decide +kernel
theorem d3_6 : decode jdk_42_method_139_code 6 = .ok (.iload_n 0, 1) := by decide +kernel
theorem d3_7 : decode jdk_42_method_139_code 7 = .ok (.invokestatic 1015, 3) := by decide +kernel
theorem d4_0 : decode jdk_42_method_66_code 0 = .ok (.aload_n 0, 1) := by decide +kernel
theorem d4_1 : decode jdk_42_method_66_code 1 = .ok (.aload_n 1, 1) := by decide +kernel
theorem d4_2 : decode jdk_42_method_66_code 2 = .ok (.if_acmp .ne 5, 3) := by decide +kernel
theorem d4_5 : decode jdk_42_method_66_code 5 = .ok (.iconst 1, 1) := by decide +kernel
theorem d4_6 : decode jdk_42_method_66_code 6 = .ok (.ireturn, 1) := by decide +kernel
theorem d5_0 : decode prog_1_method_14_code 0 = .ok (.aload_n 1, 1) := by decide +kernel
theorem d5_1 : decode prog_1_method_14_code 1 = .ok (.invokevirtual 195, 3) := by decide +kernel
theorem d5_22 : decode prog_1_method_14_code 22 = .ok (.aload_n 1, 1) := by decide +kernel
theorem d5_23 : decode prog_1_method_14_code 23 = .ok (.areturn, 1) := by decide +kernel
theorem d5_4 : decode prog_1_method_14_code 4 = .ok (.ifCond .eq 18, 3) := by decide +kernel
theorem pd_0 : parseMethodDescriptor "(C)Z" = some ⟨[.char], some .boolean⟩ := by decide +kernel
theorem pd_1 : parseMethodDescriptor "(C)[B" = some ⟨[.char], some (.array .byte)⟩ := by decide +kernel
theorem pd_2 : parseMethodDescriptor "([BB)V" = some ⟨[(.array .byte), .byte], none⟩ := by decide +kernel
theorem pd_3 : parseMethodDescriptor "(C)Ljava/lang/String;" = some ⟨[.char], some (.object "java/lang/String")⟩ := by decide +kernel
theorem pd_4 : parseMethodDescriptor "(Ljava/lang/String;Ljava/lang/String;Ljava/lang/String;)Ljava/lang/String;" = some ⟨[(.object "java/lang/String"), (.object "java/lang/String"), (.object "java/lang/String")], some (.object "java/lang/String")⟩ := by decide +kernel
theorem pd_5 : parseMethodDescriptor "(Ljava/lang/Object;)Z" = some ⟨[(.object "java/lang/Object")], some .boolean⟩ := by decide +kernel
theorem pn_0 : plainName "java/lang/StringLatin1" = true := by first | (simp [plainName, overriddenIn]; done) | decide +kernel
theorem pn_1 : plainName "java/lang/String" = true := by first | (simp [plainName, overriddenIn]; done) | decide +kernel
theorem pn_2 : plainName "com/example/forseti/forseti/io/Csv" = true := by first | (simp [plainName, overriddenIn]; done) | decide +kernel
theorem pn_3 : plainName "com/example/forseti/forseti/io/CsvRequiredPinLaw" = true := by first | (simp [plainName, overriddenIn]; done) | decide +kernel
set_option maxRecDepth 65536 in
set_option maxHeartbeats 40000000 in
theorem rm_canenc {l : Launch} {Z : State} {a0 : Array Value} (C : Cx Z a0) (h0 : Heap) (c1 : Int32) (hc1 : ¬ c1 < 0 ∧ ¬ (255 : Int32) < c1) :
    Ct l Z a0 [] (⟨"java/lang/StringLatin1", "canEncode", "(C)Z"⟩ : MethodName) jdk_43_method_3_code 1 (Option.some Jvm.ClassFile.FieldType.boolean) [] ({ frames := 0, cells := 0, slots := 0, locals := 0 } : Room) #[(.int c1)] h0 [] (fun v h so => v = some (.int 1) ∧ h0 = h) := by
  refine own_enter (plainFor_of_name pn_0) C.ew (F0 := fun m => mkF m 0 #[.val (.int c1)] []) (fun m => by first | (simp [entryFrame, mkF, argsToLocals, Value.category]; done) | rfl) ?_
  intro p e s m below meth c s₁ G hx hby hml hret hnm W0 S0 go fin
  have z0 : Z.heap.size ≤ h0.size := W0.sz
  show G s₁ (mkF m 0 #[.val (.int c1)] [])
  refine go (g' := (mkF m 1 #[.val (.int c1)] [(.int c1)])) (fun _ k => XS.iloadN W0.here hx rfl (hb hby d0_0) rfl k) ?_
  refine go (g' := (mkF m 4 #[.val (.int c1)] [(.int (255 : Int32)), (.int c1)])) (fun _ k => XS.sipush W0.here hx rfl (hb hby d0_1) k) ?_
  refine go (g' := (mkF m 7 #[.val (.int c1)] [])) (fun _ k => XS.icmpNo W0.here hx rfl (hb hby d0_4) rfl (flt hc1.2).2.2.1 k) ?_
  refine go (g' := (mkF m 8 #[.val (.int c1)] [(.int (1 : Int32))])) (fun _ k => XS.iconst W0.here hx rfl (hb hby d0_7) k) ?_
  refine go (g' := (mkF m 12 #[.val (.int c1)] [(.int (1 : Int32))])) (fun _ k => XS.goto W0.here hx rfl (pc0 := 8) (pc' := 12) rfl (hb hby d0_8) (by decide) (by decide) k) ?_
  exact fin (v := some (.int (1 : Int32))) (so := []) W0 (nle rfl) (nle rfl) (⟨rfl, rfl⟩) (fun _ q => nomatch q) (fun q => nomatch q) (own_retI W0 hx hret (by decide) rfl (hb hby d0_12))
set_option maxRecDepth 65536 in
set_option maxHeartbeats 40000000 in
theorem rm_tob {l : Launch} {Z : State} {a0 : Array Value} (C : Cx Z a0) (h0 : Heap) (c1 : Int32) :
    Ct l Z a0 [] (⟨"java/lang/StringLatin1", "toBytes", "(C)[B"⟩ : MethodName) jdk_43_method_46_code 1 (Option.some (Jvm.ClassFile.FieldType.array Jvm.ClassFile.FieldType.byte)) [] ({ frames := 0, cells := 1, slots := 1, locals := 0 } : Room) #[(.int c1)] h0 [] (fun v h so => ∃ (x : Addr) (k : ClassId), v = some (.ref x) ∧ Ext h0 h ∧ h0.size ≤ x ∧ Arv Z h x k .byte (1 : Int32) [(.int c1.toInt8.toInt32)] (.int (0 : Int32))) := by
  refine own_enter (plainFor_of_name pn_0) C.ew (F0 := fun m => mkF m 0 #[.val (.int c1)] []) (fun m => by first | (simp [entryFrame, mkF, argsToLocals, Value.category]; done) | rfl) ?_
  intro p e s m below meth c s₁ G hx hby hml hret hnm W0 S0 go fin
  have z0 : Z.heap.size ≤ h0.size := W0.sz
  show G s₁ (mkF m 0 #[.val (.int c1)] [])
  refine go (g' := (mkF m 1 #[.val (.int c1)] [(.int (1 : Int32))])) (fun _ k => XS.iconst W0.here hx rfl (hb hby d1_0) k) ?_
  obtain ⟨x1, T1, h1, k1, g1, W1, E1, A1, st1⟩ := own_newP W0 hx (aty := .byte) (w20 C) (g := (mkF m 1 #[.val (.int c1)] [(.int (1 : Int32))])) rfl (hb hby d1_1) rfl (by decide) (cap := 1) (by decide) (nle rfl) (nle rfl) (nle rfl)
  have z2 : h0.size ≤ h1.size := E1.1
  have l1 : @LT.lt Nat _ x1 h1.size := A1.lt
  have V1 : Arv Z h1 x1 k1 .byte (1 : Int32) [(.int (0 : Int32))] (.int (0 : Int32)) := A1.pad (pad_rep [] (.int (0 : Int32)) 1)
  refine go (g' := (mkF m 3 #[.val (.int c1)] [(.ref x1)])) (st1) ?_
  refine go (g' := (mkF m 4 #[.val (.int c1)] [(.ref x1), (.ref x1)])) (fun _ k => XS.dup W1.here hx rfl (hb hby d1_3) rfl rfl k) ?_
  refine go (g' := (mkF m 5 #[.val (.int c1)] [(.int (0 : Int32)), (.ref x1), (.ref x1)])) (fun _ k => XS.iconst W1.here hx rfl (hb hby d1_4) k) ?_
  refine go (g' := (mkF m 6 #[.val (.int c1)] [(.int c1), (.int (0 : Int32)), (.ref x1), (.ref x1)])) (fun _ k => XS.iloadN W1.here hx rfl (hb hby d1_5) rfl k) ?_
  refine go (g' := (mkF m 7 #[.val (.int c1)] [(.int (c1.toInt8.toInt32)), (.int (0 : Int32)), (.ref x1), (.ref x1)])) (fun _ k => XS.i2b W1.here hx rfl (hb hby d1_6) rfl k) ?_
  have X4 : Ext h0 h1 := own_xt (own_xr h0) E1
  obtain ⟨T3, h3, W3, R3, V3, st3⟩ := own_stB W1 hx V1 (by omega) (own_safeB W0 X4 (by omega)) (j := (0 : Int32)) (i := 0) ⟨by decide, by decide⟩ rfl (Nat.le_of_ble_eq_true rfl) (g := (mkF m 7 #[.val (.int c1)] [(.int (c1.toInt8.toInt32)), (.int (0 : Int32)), (.ref x1), (.ref x1)])) rfl rfl (hb hby d1_7)
  have z5 : h3.size = h1.size := R3.size
  have U3 : Arv Z h3 x1 k1 .byte (1 : Int32) [(.int (c1.toInt8.toInt32).toInt8.toInt32)] (.int (0 : Int32)) := V3
  refine go (g' := (mkF m 8 #[.val (.int c1)] [(.ref x1)])) (st3) ?_
  have q6 : Arv Z h3 x1 k1 .byte (1 : Int32) [(.int c1.toInt8.toInt32)] (.int (0 : Int32)) := own_b8 c1 ▸ U3
  have X7 : Ext h0 h3 := own_xw X4 R3 (by omega)
  exact fin (v := some (.ref x1)) (so := []) W3 (nle rfl) (nle rfl) (⟨_, _, rfl, X7, by omega, q6⟩) (fun _ q => nomatch q) (fun q => nomatch q) (own_retA W3 hx hret rfl rfl rfl (hb hby d1_8))
set_option maxRecDepth 65536 in
set_option maxHeartbeats 40000000 in
theorem rm_sinit {l : Launch} {Z : State} {a0 : Array Value} (C : Cx Z a0) (h0 : Heap) (x b : Addr) (Ex : Exa Z h0 x "java/lang/String") (Fv : Fld Z h0 x "java/lang/String" "value" "[B" .null) (Fc : Fld Z h0 x "java/lang/String" "coder" "B" (.int (0 : Int32))) (nx : Z.heap.size ≤ x) :
    Ct l Z a0 [] (⟨"java/lang/String", "<init>", "([BB)V"⟩ : MethodName) jdk_42_method_151_code 3 (Option.none : Option Jvm.ClassFile.FieldType) [] ({ frames := 1, cells := 0, slots := 0, locals := 12 } : Room) #[(.ref x), (.ref b), (.int (0 : Int32))] h0 [x] (fun v h so => v = none ∧ Keep h0 h [x] ∧ Exa Z h x "java/lang/String" ∧ Fld Z h x "java/lang/String" "value" "[B" (.ref b) ∧ Fld Z h x "java/lang/String" "coder" "B" (.int (0 : Int32))) := by
  refine own_enter (plainFor_of_name pn_1) C.ew (F0 := fun m => mkF m 0 #[.val (.ref x), .val (.ref b), .val (.int (0 : Int32))] []) (fun m => by first | (simp [entryFrame, mkF, argsToLocals, Value.category]; done) | rfl) ?_
  intro p e s m below meth c s₁ G hx hby hml hret hnm W0 S0 go fin
  have z0 : Z.heap.size ≤ h0.size := W0.sz
  show G s₁ (mkF m 0 #[.val (.ref x), .val (.ref b), .val (.int (0 : Int32))] [])
  have lx : @LT.lt Nat _ x h0.size := Ex.lt
  refine go (g' := (mkF m 1 #[.val (.ref x), .val (.ref b), .val (.int (0 : Int32))] [(.ref x)])) (fun _ k => XS.aloadN W0.here hx rfl (hb hby d2_0) rfl rfl k) ?_
  obtain ⟨T1, W1, st1⟩ := own_initO W0 hx (w12 C) (w13 C) (w14 C) (g := (mkF m 1 #[.val (.ref x), .val (.ref b), .val (.int (0 : Int32))] [(.ref x)])) rfl (by rw [hml]; rfl) rfl (hb hby d2_1) (nle rfl) (Wd := 0) (by show 2 * 0 + _ ≤ _; exact Nat.le_of_eq rfl) (nle rfl)
  refine go (g' := (mkF m 4 #[.val (.ref x), .val (.ref b), .val (.int (0 : Int32))] [])) (st1) ?_
  refine go (g' := (mkF m 5 #[.val (.ref x), .val (.ref b), .val (.int (0 : Int32))] [(.ref x)])) (fun _ k => XS.aloadN W1.here hx rfl (hb hby d2_4) rfl rfl k) ?_
  refine go (g' := (mkF m 6 #[.val (.ref x), .val (.ref b), .val (.int (0 : Int32))] [(.ref b), (.ref x)])) (fun _ k => XS.aloadN W1.here hx rfl (hb hby d2_5) rfl rfl k) ?_
  obtain ⟨T2, h2, W2, R2, F2, st2⟩ := own_put W1 hx (host := "") (Or.inl (w29 C)) Via.refl Fv Ex (Or.inr ⟨(w30 C), rfl, hnm⟩) (w3 C) (ty := (.array .byte)) (by decide) rfl rfl (S0 _ (List.mem_of_getElem? (i := 0) rfl)) (by omega) (g := (mkF m 6 #[.val (.ref x), .val (.ref b), .val (.int (0 : Int32))] [(.ref b), (.ref x)])) rfl rfl (hb hby d2_6)
  have z3 : h2.size = h0.size := R2.size
  have f4 : Exa Z h2 x "java/lang/String" := Ex.wr R2
  have f5 : Fld Z h2 x "java/lang/String" "coder" "B" (.int (0 : Int32)) := Fc.other R2 (Or.inr (slot_ne (Or.inr (w28 C)) (Or.inr (w30 C)) (by decide) (t := .byte) (t' := (.array .byte)) (by decide) (by decide)))
  have S2 : Safe Z [] s.vm h2 x := Safe.wr R2 (S0 _ (List.mem_of_getElem? (i := 0) rfl)) W1.ch (S0 _ (List.mem_of_getElem? (i := 0) rfl))
  refine go (g' := (mkF m 9 #[.val (.ref x), .val (.ref b), .val (.int (0 : Int32))] [])) (st2) ?_
  refine go (g' := (mkF m 10 #[.val (.ref x), .val (.ref b), .val (.int (0 : Int32))] [(.ref x)])) (fun _ k => XS.aloadN W2.here hx rfl (hb hby d2_9) rfl rfl k) ?_
  refine go (g' := (mkF m 11 #[.val (.ref x), .val (.ref b), .val (.int (0 : Int32))] [(.int (0 : Int32)), (.ref x)])) (fun _ k => XS.iloadN W2.here hx rfl (hb hby d2_10) rfl k) ?_
  obtain ⟨T6, h6, W6, R6, F6, st6⟩ := own_put W2 hx (host := "") (Or.inl (w27 C)) Via.refl f5 f4 (Or.inr ⟨(w28 C), rfl, hnm⟩) (w3 C) (ty := .byte) (by decide) rfl (by decide) S2 (by omega) (g := (mkF m 11 #[.val (.ref x), .val (.ref b), .val (.int (0 : Int32))] [(.int (0 : Int32)), (.ref x)])) rfl rfl (hb hby d2_11)
  have z7 : h6.size = h2.size := R6.size
  have f8 : Exa Z h6 x "java/lang/String" := f4.wr R6
  have f9 : Fld Z h6 x "java/lang/String" "value" "[B" (.ref b) := F2.other R6 (Or.inr (slot_ne (Or.inr (w30 C)) (Or.inr (w28 C)) (by decide) (t := (.array .byte)) (t' := .byte) (by decide) (by decide)))
  have S6 : Safe Z [] s.vm h6 x := Safe.wr R6 S2 W2.ch S2
  refine go (g' := (mkF m 14 #[.val (.ref x), .val (.ref b), .val (.int (0 : Int32))] [])) (st6) ?_
  have KK10 : Keep h0 h6 [x] := (((Keep.refl h0 [x]).wr R2 (Or.inl (List.mem_of_getElem? (i := 0) rfl))).wr R6 (Or.inl (List.mem_of_getElem? (i := 0) rfl)))
  exact fin (v := none) (so := []) W6 (nle rfl) (nle rfl) (⟨rfl, KK10, f8, f9, F6⟩) (fun _ q => nomatch q) (fun _ => rfl) (own_retV W6 hx hret (hb hby d2_14))
set_option maxRecDepth 65536 in
set_option maxHeartbeats 40000000 in
theorem rm_valof {l : Launch} {Z : State} {a0 : Array Value} (C : Cx Z a0) (h0 : Heap) (c1 : Int32) (hc1 : ¬ c1 < 0 ∧ ¬ (255 : Int32) < c1) :
    Ct l Z a0 [] (⟨"java/lang/String", "valueOf", "(C)Ljava/lang/String;"⟩ : MethodName) jdk_42_method_139_code 1 (Option.some (Jvm.ClassFile.FieldType.object "java/lang/String")) [] ({ frames := 2, cells := 2, slots := 5, locals := 27 } : Room) #[(.int c1)] h0 [] (fun v h so => ∃ x : Addr, v = some (.ref x) ∧ Ext h0 h ∧ h0.size ≤ x ∧ Str Z h x [c1]) := by
  refine own_enter (plainFor_of_name pn_1) C.ew (F0 := fun m => mkF m 0 #[.val (.int c1)] []) (fun m => by first | (simp [entryFrame, mkF, argsToLocals, Value.category]; done) | rfl) ?_
  intro p e s m below meth c s₁ G hx hby hml hret hnm W0 S0 go fin
  have z0 : Z.heap.size ≤ h0.size := W0.sz
  show G s₁ (mkF m 0 #[.val (.int c1)] [])
  obtain ⟨gCS, OCS, nCS⟩ := C.cs
  obtain ⟨T1, W1, st1⟩ := own_getS W0 hx (host := "") (Or.inl (w15 C)) Via.refl OCS (g := (mkF m 0 #[.val (.int c1)] [])) rfl (hb hby d3_0)
  refine go (g' := (mkF m 3 #[.val (.int c1)] [(.int gCS)])) (st1) ?_
  refine go (g' := (mkF m 6 #[.val (.int c1)] [])) (fun _ k => XS.ifNo W1.here hx rfl (hb hby d3_3) rfl ((if0 _ _).trans (feq nCS).1) k) ?_
  refine go (g' := (mkF m 7 #[.val (.int c1)] [(.int c1)])) (fun _ k => XS.iloadN W1.here hx rfl (hb hby d3_6) rfl k) ?_
  obtain ⟨v2, so2, vm2, T2, h2, W2, C2, q2, hso2, st2⟩ := own_static W1 hx (y := (⟨"java/lang/StringLatin1", "canEncode", "(C)Z"⟩ : MethodName)) (w34 C) (w35 C) (w36 C) (w37 C) (by decide) (rm_canenc C h0 c1 hc1) (fun _ q => nomatch q) (Wd := 0) (nle rfl) (nle rfl) (nle rfl) (nle rfl) (g := (mkF m 7 #[.val (.int c1)] [(.int c1)])) rfl (by rw [hml]; rfl) (argsL := [(.int c1)]) (rest := []) (lenOf pd_0 rfl) rfl rfl (by show 2 * 0 + _ ≤ _; exact Nat.le_of_eq rfl) (hb hby d3_7)
  obtain ⟨rfl, rfl⟩ := q2
  refine go (g' := (mkF m 10 #[.val (.int c1)] [(.int (1 : Int32))])) (st2) ?_
  refine go (g' := (mkF m 13 #[.val (.int c1)] [])) (fun _ k => XS.ifNo W2.here hx rfl (hb hby d3_10) rfl ((if0 _ _).trans (feq ((by decide) : ¬ ((1 : Int32) = (0 : Int32)))).1) k) ?_
  obtain ⟨x3, T3, h3, g3, W3, E3, A3, D3, U3, st3⟩ := own_new W2 hx (w38 C) (w3 C) (w4 C) (g := (mkF m 13 #[.val (.int c1)] [])) rfl (hb hby d3_13) (nle rfl) (nle rfl)
  have z4 : h0.size ≤ h3.size := E3.1
  have l3 : @LT.lt Nat _ x3 h3.size := A3.lt
  have F3_coder : Fld Z h3 x3 "java/lang/String" "coder" "B" (.int (0 : Int32)) := D3 (Or.inr (w28 C)) (ty := .byte) (by decide)
  have F3_value : Fld Z h3 x3 "java/lang/String" "value" "[B" .null := D3 (Or.inr (w30 C)) (ty := (.array .byte)) (by decide)
  refine go (g' := (mkF m 16 #[.val (.int c1)] [(.ref x3)])) (st3) ?_
  refine go (g' := (mkF m 17 #[.val (.int c1)] [(.ref x3), (.ref x3)])) (fun _ k => XS.dup W3.here hx rfl (hb hby d3_16) rfl rfl k) ?_
  refine go (g' := (mkF m 18 #[.val (.int c1)] [(.int c1), (.ref x3), (.ref x3)])) (fun _ k => XS.iloadN W3.here hx rfl (hb hby d3_17) rfl k) ?_
  have X6 : Ext h0 h3 := own_xt (own_xr h0) E3
  obtain ⟨v5, so5, vm5, T5, h5, W5, C5, q5, hso5, st5⟩ := own_static W3 hx (y := (⟨"java/lang/StringLatin1", "toBytes", "(C)[B"⟩ : MethodName)) (w39 C) (w40 C) (w36 C) (w41 C) (by decide) (rm_tob C h3 c1) (fun _ q => nomatch q) (Wd := 2) (nle rfl) (nle rfl) (nle rfl) (nle rfl) (g := (mkF m 18 #[.val (.int c1)] [(.int c1), (.ref x3), (.ref x3)])) rfl (by rw [hml]; rfl) (argsL := [(.int c1)]) (rest := [(.ref x3), (.ref x3)]) (lenOf pd_1 rfl) rfl rfl (by show 2 * 0 + _ ≤ _; exact Nat.le_of_eq rfl) (hb hby d3_18)
  obtain ⟨x5, k5, rfl, E5, g5, V5⟩ := q5
  have z7 : h3.size ≤ h5.size := E5.1
  have S5_x3 : Safe Z [] vm5 h5 x3 := C5.safe (olt (by omega)) (own_safeB W2 X6 (by omega))
  refine go (g' := (mkF m 21 #[.val (.int c1)] [(.ref x5), (.ref x3), (.ref x3)])) (st5) ?_
  refine go (g' := (mkF m 22 #[.val (.int c1)] [(.int (0 : Int32)), (.ref x5), (.ref x3), (.ref x3)])) (fun _ k => XS.iconst W5.here hx rfl (hb hby d3_21) k) ?_
  have X9 : Ext h3 h5 := own_xt (own_xr h3) E5
  have f10 : Exa Z h5 x3 "java/lang/String" := A3.ext X9
  have f11 : Fld Z h5 x3 "java/lang/String" "value" "[B" .null := F3_value.ext X9
  have f12 : Fld Z h5 x3 "java/lang/String" "coder" "B" (.int (0 : Int32)) := F3_coder.ext X9
  obtain ⟨v8, so8, vm8, T8, h8, W8, C8, q8, hso8, st8⟩ := own_special W5 hx (y := (⟨"java/lang/String", "<init>", "([BB)V"⟩ : MethodName)) rfl (w42 C) (w43 C) (w4 C) (w44 C) (by decide) (rm_sinit C h5 x3 x5 f10 f11 f12 (by omega)) (allS S5_x3 all0) (Wd := 1) (nle rfl) (nle rfl) (nle rfl) (nle rfl) (g := (mkF m 22 #[.val (.int c1)] [(.int (0 : Int32)), (.ref x5), (.ref x3), (.ref x3)])) rfl (by rw [hml]; rfl) (a := x3) (argsL := [(.ref x5), (.int (0 : Int32))]) (rest := [(.ref x3)]) (lenOf pd_2 rfl) rfl rfl (by show 2 * 0 + _ ≤ _; exact Nat.le_of_eq rfl) (hb hby d3_22)
  obtain ⟨rfl, K8, E8, F8, G8⟩ := q8
  have z13 : h5.size ≤ h8.size := K8.1
  have S8_x3 : Safe Z [] vm8 h8 x3 := C8.safe (olt (by omega)) S5_x3
  refine go (g' := (mkF m 25 #[.val (.int c1)] [(.ref x3)])) (st8) ?_
  have X14 : Ext h0 h5 := own_xt X6 E5
  have X15 : Ext h0 h8 := own_xk X14 K8 (allS (by omega) all0)
  have l17 : @LT.lt Nat _ x5 h5.size := V5.lt
  have f16 : Arv Z h8 x5 k5 .byte (1 : Int32) [(.int c1.toInt8.toInt32)] (.int (0 : Int32)) := V5.keep K8 (ninS (one (by omega)) nin0)
  exact fin (v := some (.ref x3)) (so := []) W8 (nle rfl) (nle rfl) (⟨_, rfl, X15, by omega, E8, G8, own_alS hc1 own_al0, _, _, F8, f16⟩) (fun _ q => nomatch q) (fun q => nomatch q) (own_retA W8 hx hret rfl rfl rfl (hb hby d3_25))
set_option maxRecDepth 65536 in
set_option maxHeartbeats 40000000 in
theorem rm_eqsame {l : Launch} {Z : State} {a0 : Array Value} (C : Cx Z a0) (h0 : Heap) (x : Addr) :
    Ct l Z a0 [] (⟨"java/lang/String", "equals", "(Ljava/lang/Object;)Z"⟩ : MethodName) jdk_42_method_66_code 3 (Option.some Jvm.ClassFile.FieldType.boolean) [] ({ frames := 0, cells := 0, slots := 0, locals := 0 } : Room) #[(.ref x), (.ref x)] h0 [] (fun v h so => v = some (.int 1) ∧ h0 = h) := by
  refine own_enter (plainFor_of_name pn_1) C.ew (F0 := fun m => mkF m 0 #[.val (.ref x), .val (.ref x), .unset] []) (fun m => by first | (simp [entryFrame, mkF, argsToLocals, Value.category]; done) | rfl) ?_
  intro p e s m below meth c s₁ G hx hby hml hret hnm W0 S0 go fin
  have z0 : Z.heap.size ≤ h0.size := W0.sz
  show G s₁ (mkF m 0 #[.val (.ref x), .val (.ref x), .unset] [])
  refine go (g' := (mkF m 1 #[.val (.ref x), .val (.ref x), .unset] [(.ref x)])) (fun _ k => XS.aloadN W0.here hx rfl (hb hby d4_0) rfl rfl k) ?_
  refine go (g' := (mkF m 2 #[.val (.ref x), .val (.ref x), .unset] [(.ref x), (.ref x)])) (fun _ k => XS.aloadN W0.here hx rfl (hb hby d4_1) rfl rfl k) ?_
  refine go (g' := (mkF m 5 #[.val (.ref x), .val (.ref x), .unset] [])) (own_acmp W0 hx (g := (mkF m 2 #[.val (.ref x), .val (.ref x), .unset] [(.ref x), (.ref x)])) rfl rfl rfl (pc0 := 2) (pc' := 5) (same := true) rfl (hb hby d4_2) rfl (decide_eq_true rfl) (by decide) (by decide)) ?_
  refine go (g' := (mkF m 6 #[.val (.ref x), .val (.ref x), .unset] [(.int (1 : Int32))])) (fun _ k => XS.iconst W0.here hx rfl (hb hby d4_5) k) ?_
  exact fin (v := some (.int (1 : Int32))) (so := []) W0 (nle rfl) (nle rfl) (⟨rfl, rfl⟩) (fun _ q => nomatch q) (fun q => nomatch q) (own_retI W0 hx hret (by decide) rfl (hb hby d4_6))
set_option maxRecDepth 65536 in
set_option maxHeartbeats 40000000 in
theorem rm_required {l : Launch} {Z : State} {a0 : Array Value} (C : Cx Z a0) (h0 : Heap) (a b d : Addr) (cs : List Int32) (Sb : Str Z h0 b cs) (l0 : 0 < cs.length) (hl_cs : cs.length ≤ 4000) :
    Ct l Z a0 [] (⟨"com/example/forseti/forseti/io/Csv", "required", "(Ljava/lang/String;Ljava/lang/String;Ljava/lang/String;)Ljava/lang/String;"⟩ : MethodName) prog_1_method_14_code 3 (Option.some (Jvm.ClassFile.FieldType.object "java/lang/String")) [] ({ frames := 1, cells := 0, slots := 0, locals := 12 } : Room) #[(.ref a), (.ref b), (.ref d)] h0 [] (fun v h so => v = some (.ref b) ∧ h0 = h) := by
  refine own_enter (plainFor_of_name pn_2) C.ew (F0 := fun m => mkF m 0 #[.val (.ref a), .val (.ref b), .val (.ref d)] []) (fun m => by first | (simp [entryFrame, mkF, argsToLocals, Value.category]; done) | rfl) ?_
  intro p e s m below meth c s₁ G hx hby hml hret hnm W0 S0 go fin
  have z0 : Z.heap.size ≤ h0.size := W0.sz
  show G s₁ (mkF m 0 #[.val (.ref a), .val (.ref b), .val (.ref d)] [])
  refine go (g' := (mkF m 1 #[.val (.ref a), .val (.ref b), .val (.ref d)] [(.ref b)])) (fun _ k => XS.aloadN W0.here hx rfl (hb hby d5_0) rfl rfl k) ?_
  obtain ⟨T1, W1, st1⟩ := own_semp W0 hx (own_wem C) (w49 C) (w50 C) (w52 C) (w51 C) (w3 C) Sb hl_cs (Wd := 0) (nle rfl) (nle rfl) (nle rfl) (nle rfl) (g := (mkF m 1 #[.val (.ref a), .val (.ref b), .val (.ref d)] [(.ref b)])) rfl (by rw [hml]; rfl) rfl (by show 2 * 0 + _ ≤ _; exact Nat.le_of_eq rfl) (hb hby d5_1)
  refine go (g' := (mkF m 4 #[.val (.ref a), .val (.ref b), .val (.ref d)] [(.int (if cs.length = 0 then 1 else 0))])) (st1) ?_
  refine go (g' := (mkF m 22 #[.val (.ref a), .val (.ref b), .val (.ref d)] [])) (fun _ k => XS.ifYes W1.here hx rfl (pc0 := 4) (pc' := 22) rfl (hb hby d5_4) rfl ((if0 _ _).trans (teq (if_neg (Nat.ne_of_gt l0))).1) (by decide) (by decide) k) ?_
  refine go (g' := (mkF m 23 #[.val (.ref a), .val (.ref b), .val (.ref d)] [(.ref b)])) (fun _ k => XS.aloadN W1.here hx rfl (hb hby d5_22) rfl rfl k) ?_
  exact fin (v := some (.ref b)) (so := []) W1 (nle rfl) (nle rfl) (⟨rfl, rfl⟩) (fun _ q => nomatch q) (fun q => nomatch q) (own_retA W1 hx hret rfl rfl rfl (hb hby d5_23))
set_option maxRecDepth 65536 in
set_option maxHeartbeats 40000000 in
theorem rm0 {l : Launch} {Z : State} {a0 : Array Value} (C : Cx Z a0) (h0 : Heap) (p1 p2 p3 p4 p5 p6 : Int32) :
    Ct l Z a0 [] x code maxLocals ret tables_1 room_1 #[(.int p1), (.int p2), (.int p3), (.int p4), (.int p5), (.int p6)] h0 [] (fun v h so => v = some (.int 1)) := by
  refine own_enter (plainFor_of_name pn_3) C.ew (F0 := fun m => mkF m 0 #[.val (.int p1), .val (.int p2), .val (.int p3), .val (.int p4), .val (.int p5), .val (.int p6), .unset, .unset, .unset, .unset, .unset, .unset, .unset, .unset, .unset, .unset, .unset] []) (fun m => by first | (simp [entryFrame, mkF, argsToLocals, Value.category, maxLocals]; done) | rfl) ?_
  intro p e s m below meth c s₁ G hx hby hml hret hnm W0 S0 go fin
  have z0 : Z.heap.size ≤ h0.size := W0.sz
  show G s₁ (mkF m 0 #[.val (.int p1), .val (.int p2), .val (.int p3), .val (.int p4), .val (.int p5), .val (.int p6), .unset, .unset, .unset, .unset, .unset, .unset, .unset, .unset, .unset, .unset, .unset] [])
  refine go (g' := (mkF m 1 #[.val (.int p1), .val (.int p2), .val (.int p3), .val (.int p4), .val (.int p5), .val (.int p6), .unset, .unset, .unset, .unset, .unset, .unset, .unset, .unset, .unset, .unset, .unset] [(.int p1)])) (fun _ k => XS.iloadN W0.here hx rfl (hb hby at_0) rfl k) ?_
  refine go (g' := (mkF m 3 #[.val (.int p1), .val (.int p2), .val (.int p3), .val (.int p4), .val (.int p5), .val (.int p6), .unset, .unset, .unset, .unset, .unset, .unset, .unset, .unset, .unset, .unset, .unset] [(.int (2147483647 : Int32)), (.int p1)])) (own_ldcI W0 hx (w0 C) (g := (mkF m 1 #[.val (.int p1), .val (.int p2), .val (.int p3), .val (.int p4), .val (.int p5), .val (.int p6), .unset, .unset, .unset, .unset, .unset, .unset, .unset, .unset, .unset, .unset, .unset] [(.int p1)])) rfl (hb hby at_1)) ?_
  refine go (g' := (mkF m 4 #[.val (.int p1), .val (.int p2), .val (.int p3), .val (.int p4), .val (.int p5), .val (.int p6), .unset, .unset, .unset, .unset, .unset, .unset, .unset, .unset, .unset, .unset, .unset] [(.int (p1 &&& (2147483647 : Int32)))])) (fun _ k => XS.iand W0.here hx rfl (hb hby at_3) rfl k) ?_
  refine go (g' := (mkF m 5 #[.val (.int p1), .val (.int p2), .val (.int p3), .val (.int p4), .val (.int p5), .val (.int p6), .unset, .unset, .unset, .unset, .unset, .unset, .unset, .unset, .unset, .unset, .unset] [(.int (3 : Int32)), (.int (p1 &&& (2147483647 : Int32)))])) (fun _ k => XS.iconst W0.here hx rfl (hb hby at_4) k) ?_
  refine go (g' := (mkF m 6 #[.val (.int p1), .val (.int p2), .val (.int p3), .val (.int p4), .val (.int p5), .val (.int p6), .unset, .unset, .unset, .unset, .unset, .unset, .unset, .unset, .unset, .unset, .unset] [(.int ((p1 &&& (2147483647 : Int32)) % (3 : Int32)))])) (own_irem W0 hx (g := (mkF m 5 #[.val (.int p1), .val (.int p2), .val (.int p3), .val (.int p4), .val (.int p5), .val (.int p6), .unset, .unset, .unset, .unset, .unset, .unset, .unset, .unset, .unset, .unset, .unset] [(.int (3 : Int32)), (.int (p1 &&& (2147483647 : Int32)))])) rfl (hb hby at_5) rfl (by decide)) ?_
  refine go (g' := (mkF m 7 #[.val (.int p1), .val (.int p2), .val (.int p3), .val (.int p4), .val (.int p5), .val (.int p6), .unset, .unset, .unset, .unset, .unset, .unset, .unset, .unset, .unset, .unset, .unset] [(.int (1 : Int32)), (.int ((p1 &&& (2147483647 : Int32)) % (3 : Int32)))])) (fun _ k => XS.iconst W0.here hx rfl (hb hby at_6) k) ?_
  refine go (g' := (mkF m 8 #[.val (.int p1), .val (.int p2), .val (.int p3), .val (.int p4), .val (.int p5), .val (.int p6), .unset, .unset, .unset, .unset, .unset, .unset, .unset, .unset, .unset, .unset, .unset] [(.int (((p1 &&& (2147483647 : Int32)) % (3 : Int32)) + (1 : Int32)))])) (fun _ k => XS.iadd W0.here hx rfl (hb hby at_7) rfl k) ?_
  generalize ec1 : (((p1 &&& (2147483647 : Int32)) % (3 : Int32)) + (1 : Int32)) = c1
  refine go (g' := (mkF m 10 #[.val (.int p1), .val (.int p2), .val (.int p3), .val (.int p4), .val (.int p5), .val (.int p6), .val (.int c1), .unset, .unset, .unset, .unset, .unset, .unset, .unset, .unset, .unset, .unset] [])) (fun _ k => XS.istore W0.here hx rfl (hb hby at_8) rfl (l' := #[.val (.int p1), .val (.int p2), .val (.int p3), .val (.int p4), .val (.int p5), .val (.int p6), .val (.int c1), .unset, .unset, .unset, .unset, .unset, .unset, .unset, .unset, .unset, .unset]) rfl k) ?_
  have h3 : c1 = (1 : Int32) ∨ c1 = (2 : Int32) ∨ c1 = (3 : Int32) := ec1 ▸ own_mod3 p1
  rcases h3 with rfl | rfl | rfl
  · show G s₁ (mkF m 10 #[.val (.int p1), .val (.int p2), .val (.int p3), .val (.int p4), .val (.int p5), .val (.int p6), .val (.int (1 : Int32)), .unset, .unset, .unset, .unset, .unset, .unset, .unset, .unset, .unset, .unset] [])
    refine go (g' := (mkF m 11 #[.val (.int p1), .val (.int p2), .val (.int p3), .val (.int p4), .val (.int p5), .val (.int p6), .val (.int (1 : Int32)), .unset, .unset, .unset, .unset, .unset, .unset, .unset, .unset, .unset, .unset] [(.int p2)])) (fun _ k => XS.iloadN W0.here hx rfl (hb hby at_10) rfl k) ?_
    refine go (g' := (mkF m 14 #[.val (.int p1), .val (.int p2), .val (.int p3), .val (.int p4), .val (.int p5), .val (.int p6), .val (.int (1 : Int32)), .unset, .unset, .unset, .unset, .unset, .unset, .unset, .unset, .unset, .unset] [(.int (255 : Int32)), (.int p2)])) (fun _ k => XS.sipush W0.here hx rfl (hb hby at_11) k) ?_
    refine go (g' := (mkF m 15 #[.val (.int p1), .val (.int p2), .val (.int p3), .val (.int p4), .val (.int p5), .val (.int p6), .val (.int (1 : Int32)), .unset, .unset, .unset, .unset, .unset, .unset, .unset, .unset, .unset, .unset] [(.int (p2 &&& (255 : Int32)))])) (fun _ k => XS.iand W0.here hx rfl (hb hby at_14) rfl k) ?_
    refine go (g' := (mkF m 16 #[.val (.int p1), .val (.int p2), .val (.int p3), .val (.int p4), .val (.int p5), .val (.int p6), .val (.int (1 : Int32)), .unset, .unset, .unset, .unset, .unset, .unset, .unset, .unset, .unset, .unset] [(.int ((p2 &&& (255 : Int32)).toUInt32.toUInt16.toUInt32.toInt32))])) (fun _ k => XS.i2c W0.here hx rfl (hb hby at_15) rfl k) ?_
    generalize ec2 : ((p2 &&& (255 : Int32)).toUInt32.toUInt16.toUInt32.toInt32) = c2
    have yc2 : ¬ c2 < 0 ∧ ¬ (255 : Int32) < c2 := ec2 ▸ own_c255 _
    refine go (g' := (mkF m 18 #[.val (.int p1), .val (.int p2), .val (.int p3), .val (.int p4), .val (.int p5), .val (.int p6), .val (.int (1 : Int32)), .val (.int c2), .unset, .unset, .unset, .unset, .unset, .unset, .unset, .unset, .unset] [])) (fun _ k => XS.istore W0.here hx rfl (hb hby at_16) rfl (l' := #[.val (.int p1), .val (.int p2), .val (.int p3), .val (.int p4), .val (.int p5), .val (.int p6), .val (.int (1 : Int32)), .val (.int c2), .unset, .unset, .unset, .unset, .unset, .unset, .unset, .unset, .unset]) rfl k) ?_
    refine go (g' := (mkF m 19 #[.val (.int p1), .val (.int p2), .val (.int p3), .val (.int p4), .val (.int p5), .val (.int p6), .val (.int (1 : Int32)), .val (.int c2), .unset, .unset, .unset, .unset, .unset, .unset, .unset, .unset, .unset] [(.int p3)])) (fun _ k => XS.iloadN W0.here hx rfl (hb hby at_18) rfl k) ?_
    refine go (g' := (mkF m 22 #[.val (.int p1), .val (.int p2), .val (.int p3), .val (.int p4), .val (.int p5), .val (.int p6), .val (.int (1 : Int32)), .val (.int c2), .unset, .unset, .unset, .unset, .unset, .unset, .unset, .unset, .unset] [(.int (255 : Int32)), (.int p3)])) (fun _ k => XS.sipush W0.here hx rfl (hb hby at_19) k) ?_
    refine go (g' := (mkF m 23 #[.val (.int p1), .val (.int p2), .val (.int p3), .val (.int p4), .val (.int p5), .val (.int p6), .val (.int (1 : Int32)), .val (.int c2), .unset, .unset, .unset, .unset, .unset, .unset, .unset, .unset, .unset] [(.int (p3 &&& (255 : Int32)))])) (fun _ k => XS.iand W0.here hx rfl (hb hby at_22) rfl k) ?_
    refine go (g' := (mkF m 24 #[.val (.int p1), .val (.int p2), .val (.int p3), .val (.int p4), .val (.int p5), .val (.int p6), .val (.int (1 : Int32)), .val (.int c2), .unset, .unset, .unset, .unset, .unset, .unset, .unset, .unset, .unset] [(.int ((p3 &&& (255 : Int32)).toUInt32.toUInt16.toUInt32.toInt32))])) (fun _ k => XS.i2c W0.here hx rfl (hb hby at_23) rfl k) ?_
    generalize ec3 : ((p3 &&& (255 : Int32)).toUInt32.toUInt16.toUInt32.toInt32) = c3
    have yc3 : ¬ c3 < 0 ∧ ¬ (255 : Int32) < c3 := ec3 ▸ own_c255 _
    refine go (g' := (mkF m 26 #[.val (.int p1), .val (.int p2), .val (.int p3), .val (.int p4), .val (.int p5), .val (.int p6), .val (.int (1 : Int32)), .val (.int c2), .val (.int c3), .unset, .unset, .unset, .unset, .unset, .unset, .unset, .unset] [])) (fun _ k => XS.istore W0.here hx rfl (hb hby at_24) rfl (l' := #[.val (.int p1), .val (.int p2), .val (.int p3), .val (.int p4), .val (.int p5), .val (.int p6), .val (.int (1 : Int32)), .val (.int c2), .val (.int c3), .unset, .unset, .unset, .unset, .unset, .unset, .unset, .unset]) rfl k) ?_
    refine go (g' := (mkF m 27 #[.val (.int p1), .val (.int p2), .val (.int p3), .val (.int p4), .val (.int p5), .val (.int p6), .val (.int (1 : Int32)), .val (.int c2), .val (.int c3), .unset, .unset, .unset, .unset, .unset, .unset, .unset, .unset] [(.int p4)])) (fun _ k => XS.iloadN W0.here hx rfl (hb hby at_26) rfl k) ?_
    refine go (g' := (mkF m 30 #[.val (.int p1), .val (.int p2), .val (.int p3), .val (.int p4), .val (.int p5), .val (.int p6), .val (.int (1 : Int32)), .val (.int c2), .val (.int c3), .unset, .unset, .unset, .unset, .unset, .unset, .unset, .unset] [(.int (255 : Int32)), (.int p4)])) (fun _ k => XS.sipush W0.here hx rfl (hb hby at_27) k) ?_
    refine go (g' := (mkF m 31 #[.val (.int p1), .val (.int p2), .val (.int p3), .val (.int p4), .val (.int p5), .val (.int p6), .val (.int (1 : Int32)), .val (.int c2), .val (.int c3), .unset, .unset, .unset, .unset, .unset, .unset, .unset, .unset] [(.int (p4 &&& (255 : Int32)))])) (fun _ k => XS.iand W0.here hx rfl (hb hby at_30) rfl k) ?_
    refine go (g' := (mkF m 32 #[.val (.int p1), .val (.int p2), .val (.int p3), .val (.int p4), .val (.int p5), .val (.int p6), .val (.int (1 : Int32)), .val (.int c2), .val (.int c3), .unset, .unset, .unset, .unset, .unset, .unset, .unset, .unset] [(.int ((p4 &&& (255 : Int32)).toUInt32.toUInt16.toUInt32.toInt32))])) (fun _ k => XS.i2c W0.here hx rfl (hb hby at_31) rfl k) ?_
    generalize ec4 : ((p4 &&& (255 : Int32)).toUInt32.toUInt16.toUInt32.toInt32) = c4
    have yc4 : ¬ c4 < 0 ∧ ¬ (255 : Int32) < c4 := ec4 ▸ own_c255 _
    refine go (g' := (mkF m 34 #[.val (.int p1), .val (.int p2), .val (.int p3), .val (.int p4), .val (.int p5), .val (.int p6), .val (.int (1 : Int32)), .val (.int c2), .val (.int c3), .val (.int c4), .unset, .unset, .unset, .unset, .unset, .unset, .unset] [])) (fun _ k => XS.istore W0.here hx rfl (hb hby at_32) rfl (l' := #[.val (.int p1), .val (.int p2), .val (.int p3), .val (.int p4), .val (.int p5), .val (.int p6), .val (.int (1 : Int32)), .val (.int c2), .val (.int c3), .val (.int c4), .unset, .unset, .unset, .unset, .unset, .unset, .unset]) rfl k) ?_
    refine go (g' := (mkF m 35 #[.val (.int p1), .val (.int p2), .val (.int p3), .val (.int p4), .val (.int p5), .val (.int p6), .val (.int (1 : Int32)), .val (.int c2), .val (.int c3), .val (.int c4), .unset, .unset, .unset, .unset, .unset, .unset, .unset] [(.int (1 : Int32))])) (fun _ k => XS.iconst W0.here hx rfl (hb hby at_34) k) ?_
    obtain ⟨x5, T5, h5, k5, g5, W5, E5, A5, st5⟩ := own_newP W0 hx (aty := .char) (w1 C) (g := (mkF m 35 #[.val (.int p1), .val (.int p2), .val (.int p3), .val (.int p4), .val (.int p5), .val (.int p6), .val (.int (1 : Int32)), .val (.int c2), .val (.int c3), .val (.int c4), .unset, .unset, .unset, .unset, .unset, .unset, .unset] [(.int (1 : Int32))])) rfl (hb hby at_35) rfl (by decide) (cap := 1) (by decide) (nle rfl) (nle rfl) (nle rfl)
    have z6 : h0.size ≤ h5.size := E5.1
    have l5 : @LT.lt Nat _ x5 h5.size := A5.lt
    have V5 : Arv Z h5 x5 k5 .char (1 : Int32) [(.int (0 : Int32))] (.int (0 : Int32)) := A5.pad (pad_rep [] (.int (0 : Int32)) 1)
    refine go (g' := (mkF m 37 #[.val (.int p1), .val (.int p2), .val (.int p3), .val (.int p4), .val (.int p5), .val (.int p6), .val (.int (1 : Int32)), .val (.int c2), .val (.int c3), .val (.int c4), .unset, .unset, .unset, .unset, .unset, .unset, .unset] [(.ref x5)])) (st5) ?_
    refine go (g' := (mkF m 39 #[.val (.int p1), .val (.int p2), .val (.int p3), .val (.int p4), .val (.int p5), .val (.int p6), .val (.int (1 : Int32)), .val (.int c2), .val (.int c3), .val (.int c4), .val (.ref x5), .unset, .unset, .unset, .unset, .unset, .unset] [])) (fun _ k => XS.astore W5.here hx rfl (hb hby at_37) rfl rfl (l' := #[.val (.int p1), .val (.int p2), .val (.int p3), .val (.int p4), .val (.int p5), .val (.int p6), .val (.int (1 : Int32)), .val (.int c2), .val (.int c3), .val (.int c4), .val (.ref x5), .unset, .unset, .unset, .unset, .unset, .unset]) rfl k) ?_
    refine go (g' := (mkF m 41 #[.val (.int p1), .val (.int p2), .val (.int p3), .val (.int p4), .val (.int p5), .val (.int p6), .val (.int (1 : Int32)), .val (.int c2), .val (.int c3), .val (.int c4), .val (.ref x5), .unset, .unset, .unset, .unset, .unset, .unset] [(.ref x5)])) (fun _ k => XS.aload W5.here hx rfl (hb hby at_39) rfl rfl k) ?_
    refine go (g' := (mkF m 42 #[.val (.int p1), .val (.int p2), .val (.int p3), .val (.int p4), .val (.int p5), .val (.int p6), .val (.int (1 : Int32)), .val (.int c2), .val (.int c3), .val (.int c4), .val (.ref x5), .unset, .unset, .unset, .unset, .unset, .unset] [(.int (0 : Int32)), (.ref x5)])) (fun _ k => XS.iconst W5.here hx rfl (hb hby at_41) k) ?_
    refine go (g' := (mkF m 44 #[.val (.int p1), .val (.int p2), .val (.int p3), .val (.int p4), .val (.int p5), .val (.int p6), .val (.int (1 : Int32)), .val (.int c2), .val (.int c3), .val (.int c4), .val (.ref x5), .unset, .unset, .unset, .unset, .unset, .unset] [(.int c2), (.int (0 : Int32)), (.ref x5)])) (fun _ k => XS.iload W5.here hx rfl (hb hby at_42) rfl k) ?_
    obtain ⟨T7, h7, W7, R7, V7, st7⟩ := own_stC W5 hx V5 (by omega) (j := (0 : Int32)) (i := 0) ⟨by decide, by decide⟩ rfl (Nat.le_of_ble_eq_true rfl) (own_up yc2) (g := (mkF m 44 #[.val (.int p1), .val (.int p2), .val (.int p3), .val (.int p4), .val (.int p5), .val (.int p6), .val (.int (1 : Int32)), .val (.int c2), .val (.int c3), .val (.int c4), .val (.ref x5), .unset, .unset, .unset, .unset, .unset, .unset] [(.int c2), (.int (0 : Int32)), (.ref x5)])) rfl rfl (hb hby at_44)
    have z8 : h7.size = h5.size := R7.size
    have U7 : Arv Z h7 x5 k5 .char (1 : Int32) [(.int c2)] (.int (0 : Int32)) := V7
    refine go (g' := (mkF m 45 #[.val (.int p1), .val (.int p2), .val (.int p3), .val (.int p4), .val (.int p5), .val (.int p6), .val (.int (1 : Int32)), .val (.int c2), .val (.int c3), .val (.int c4), .val (.ref x5), .unset, .unset, .unset, .unset, .unset, .unset] [])) (st7) ?_
    refine go (g' := (mkF m 46 #[.val (.int p1), .val (.int p2), .val (.int p3), .val (.int p4), .val (.int p5), .val (.int p6), .val (.int (1 : Int32)), .val (.int c2), .val (.int c3), .val (.int c4), .val (.ref x5), .unset, .unset, .unset, .unset, .unset, .unset] [(.int (2 : Int32))])) (fun _ k => XS.iconst W7.here hx rfl (hb hby at_45) k) ?_
    obtain ⟨x9, T9, h9, k9, g9, W9, E9, A9, st9⟩ := own_newP W7 hx (aty := .char) (w1 C) (g := (mkF m 46 #[.val (.int p1), .val (.int p2), .val (.int p3), .val (.int p4), .val (.int p5), .val (.int p6), .val (.int (1 : Int32)), .val (.int c2), .val (.int c3), .val (.int c4), .val (.ref x5), .unset, .unset, .unset, .unset, .unset, .unset] [(.int (2 : Int32))])) rfl (hb hby at_46) rfl (by decide) (cap := 2) (by decide) (nle rfl) (nle rfl) (nle rfl)
    have z10 : h7.size ≤ h9.size := E9.1
    have l9 : @LT.lt Nat _ x9 h9.size := A9.lt
    have V9 : Arv Z h9 x9 k9 .char (2 : Int32) [(.int (0 : Int32)), (.int (0 : Int32))] (.int (0 : Int32)) := A9.pad (pad_rep [] (.int (0 : Int32)) 2)
    refine go (g' := (mkF m 48 #[.val (.int p1), .val (.int p2), .val (.int p3), .val (.int p4), .val (.int p5), .val (.int p6), .val (.int (1 : Int32)), .val (.int c2), .val (.int c3), .val (.int c4), .val (.ref x5), .unset, .unset, .unset, .unset, .unset, .unset] [(.ref x9)])) (st9) ?_
    refine go (g' := (mkF m 50 #[.val (.int p1), .val (.int p2), .val (.int p3), .val (.int p4), .val (.int p5), .val (.int p6), .val (.int (1 : Int32)), .val (.int c2), .val (.int c3), .val (.int c4), .val (.ref x5), .val (.ref x9), .unset, .unset, .unset, .unset, .unset] [])) (fun _ k => XS.astore W9.here hx rfl (hb hby at_48) rfl rfl (l' := #[.val (.int p1), .val (.int p2), .val (.int p3), .val (.int p4), .val (.int p5), .val (.int p6), .val (.int (1 : Int32)), .val (.int c2), .val (.int c3), .val (.int c4), .val (.ref x5), .val (.ref x9), .unset, .unset, .unset, .unset, .unset]) rfl k) ?_
    refine go (g' := (mkF m 52 #[.val (.int p1), .val (.int p2), .val (.int p3), .val (.int p4), .val (.int p5), .val (.int p6), .val (.int (1 : Int32)), .val (.int c2), .val (.int c3), .val (.int c4), .val (.ref x5), .val (.ref x9), .unset, .unset, .unset, .unset, .unset] [(.ref x9)])) (fun _ k => XS.aload W9.here hx rfl (hb hby at_50) rfl rfl k) ?_
    refine go (g' := (mkF m 53 #[.val (.int p1), .val (.int p2), .val (.int p3), .val (.int p4), .val (.int p5), .val (.int p6), .val (.int (1 : Int32)), .val (.int c2), .val (.int c3), .val (.int c4), .val (.ref x5), .val (.ref x9), .unset, .unset, .unset, .unset, .unset] [(.int (0 : Int32)), (.ref x9)])) (fun _ k => XS.iconst W9.here hx rfl (hb hby at_52) k) ?_
    refine go (g' := (mkF m 55 #[.val (.int p1), .val (.int p2), .val (.int p3), .val (.int p4), .val (.int p5), .val (.int p6), .val (.int (1 : Int32)), .val (.int c2), .val (.int c3), .val (.int c4), .val (.ref x5), .val (.ref x9), .unset, .unset, .unset, .unset, .unset] [(.int c2), (.int (0 : Int32)), (.ref x9)])) (fun _ k => XS.iload W9.here hx rfl (hb hby at_53) rfl k) ?_
    obtain ⟨T11, h11, W11, R11, V11, st11⟩ := own_stC W9 hx V9 (by omega) (j := (0 : Int32)) (i := 0) ⟨by decide, by decide⟩ rfl (Nat.le_of_ble_eq_true rfl) (own_up yc2) (g := (mkF m 55 #[.val (.int p1), .val (.int p2), .val (.int p3), .val (.int p4), .val (.int p5), .val (.int p6), .val (.int (1 : Int32)), .val (.int c2), .val (.int c3), .val (.int c4), .val (.ref x5), .val (.ref x9), .unset, .unset, .unset, .unset, .unset] [(.int c2), (.int (0 : Int32)), (.ref x9)])) rfl rfl (hb hby at_55)
    have z12 : h11.size = h9.size := R11.size
    have U11 : Arv Z h11 x9 k9 .char (2 : Int32) [(.int c2), (.int (0 : Int32))] (.int (0 : Int32)) := V11
    refine go (g' := (mkF m 56 #[.val (.int p1), .val (.int p2), .val (.int p3), .val (.int p4), .val (.int p5), .val (.int p6), .val (.int (1 : Int32)), .val (.int c2), .val (.int c3), .val (.int c4), .val (.ref x5), .val (.ref x9), .unset, .unset, .unset, .unset, .unset] [])) (st11) ?_
    refine go (g' := (mkF m 58 #[.val (.int p1), .val (.int p2), .val (.int p3), .val (.int p4), .val (.int p5), .val (.int p6), .val (.int (1 : Int32)), .val (.int c2), .val (.int c3), .val (.int c4), .val (.ref x5), .val (.ref x9), .unset, .unset, .unset, .unset, .unset] [(.ref x9)])) (fun _ k => XS.aload W11.here hx rfl (hb hby at_56) rfl rfl k) ?_
    refine go (g' := (mkF m 59 #[.val (.int p1), .val (.int p2), .val (.int p3), .val (.int p4), .val (.int p5), .val (.int p6), .val (.int (1 : Int32)), .val (.int c2), .val (.int c3), .val (.int c4), .val (.ref x5), .val (.ref x9), .unset, .unset, .unset, .unset, .unset] [(.int (1 : Int32)), (.ref x9)])) (fun _ k => XS.iconst W11.here hx rfl (hb hby at_58) k) ?_
    refine go (g' := (mkF m 61 #[.val (.int p1), .val (.int p2), .val (.int p3), .val (.int p4), .val (.int p5), .val (.int p6), .val (.int (1 : Int32)), .val (.int c2), .val (.int c3), .val (.int c4), .val (.ref x5), .val (.ref x9), .unset, .unset, .unset, .unset, .unset] [(.int c3), (.int (1 : Int32)), (.ref x9)])) (fun _ k => XS.iload W11.here hx rfl (hb hby at_59) rfl k) ?_
    obtain ⟨T13, h13, W13, R13, V13, st13⟩ := own_stC W11 hx U11 (by omega) (j := (1 : Int32)) (i := 1) ⟨by decide, by decide⟩ rfl (Nat.le_of_ble_eq_true rfl) (own_up yc3) (g := (mkF m 61 #[.val (.int p1), .val (.int p2), .val (.int p3), .val (.int p4), .val (.int p5), .val (.int p6), .val (.int (1 : Int32)), .val (.int c2), .val (.int c3), .val (.int c4), .val (.ref x5), .val (.ref x9), .unset, .unset, .unset, .unset, .unset] [(.int c3), (.int (1 : Int32)), (.ref x9)])) rfl rfl (hb hby at_61)
    have z14 : h13.size = h11.size := R13.size
    have U13 : Arv Z h13 x9 k9 .char (2 : Int32) [(.int c2), (.int c3)] (.int (0 : Int32)) := V13
    refine go (g' := (mkF m 62 #[.val (.int p1), .val (.int p2), .val (.int p3), .val (.int p4), .val (.int p5), .val (.int p6), .val (.int (1 : Int32)), .val (.int c2), .val (.int c3), .val (.int c4), .val (.ref x5), .val (.ref x9), .unset, .unset, .unset, .unset, .unset] [])) (st13) ?_
    refine go (g' := (mkF m 63 #[.val (.int p1), .val (.int p2), .val (.int p3), .val (.int p4), .val (.int p5), .val (.int p6), .val (.int (1 : Int32)), .val (.int c2), .val (.int c3), .val (.int c4), .val (.ref x5), .val (.ref x9), .unset, .unset, .unset, .unset, .unset] [(.int (3 : Int32))])) (fun _ k => XS.iconst W13.here hx rfl (hb hby at_62) k) ?_
    obtain ⟨x15, T15, h15, k15, g15, W15, E15, A15, st15⟩ := own_newP W13 hx (aty := .char) (w1 C) (g := (mkF m 63 #[.val (.int p1), .val (.int p2), .val (.int p3), .val (.int p4), .val (.int p5), .val (.int p6), .val (.int (1 : Int32)), .val (.int c2), .val (.int c3), .val (.int c4), .val (.ref x5), .val (.ref x9), .unset, .unset, .unset, .unset, .unset] [(.int (3 : Int32))])) rfl (hb hby at_63) rfl (by decide) (cap := 3) (by decide) (nle rfl) (nle rfl) (nle rfl)
    have z16 : h13.size ≤ h15.size := E15.1
    have l15 : @LT.lt Nat _ x15 h15.size := A15.lt
    have V15 : Arv Z h15 x15 k15 .char (3 : Int32) [(.int (0 : Int32)), (.int (0 : Int32)), (.int (0 : Int32))] (.int (0 : Int32)) := A15.pad (pad_rep [] (.int (0 : Int32)) 3)
    refine go (g' := (mkF m 65 #[.val (.int p1), .val (.int p2), .val (.int p3), .val (.int p4), .val (.int p5), .val (.int p6), .val (.int (1 : Int32)), .val (.int c2), .val (.int c3), .val (.int c4), .val (.ref x5), .val (.ref x9), .unset, .unset, .unset, .unset, .unset] [(.ref x15)])) (st15) ?_
    refine go (g' := (mkF m 67 #[.val (.int p1), .val (.int p2), .val (.int p3), .val (.int p4), .val (.int p5), .val (.int p6), .val (.int (1 : Int32)), .val (.int c2), .val (.int c3), .val (.int c4), .val (.ref x5), .val (.ref x9), .val (.ref x15), .unset, .unset, .unset, .unset] [])) (fun _ k => XS.astore W15.here hx rfl (hb hby at_65) rfl rfl (l' := #[.val (.int p1), .val (.int p2), .val (.int p3), .val (.int p4), .val (.int p5), .val (.int p6), .val (.int (1 : Int32)), .val (.int c2), .val (.int c3), .val (.int c4), .val (.ref x5), .val (.ref x9), .val (.ref x15), .unset, .unset, .unset, .unset]) rfl k) ?_
    refine go (g' := (mkF m 69 #[.val (.int p1), .val (.int p2), .val (.int p3), .val (.int p4), .val (.int p5), .val (.int p6), .val (.int (1 : Int32)), .val (.int c2), .val (.int c3), .val (.int c4), .val (.ref x5), .val (.ref x9), .val (.ref x15), .unset, .unset, .unset, .unset] [(.ref x15)])) (fun _ k => XS.aload W15.here hx rfl (hb hby at_67) rfl rfl k) ?_
    refine go (g' := (mkF m 70 #[.val (.int p1), .val (.int p2), .val (.int p3), .val (.int p4), .val (.int p5), .val (.int p6), .val (.int (1 : Int32)), .val (.int c2), .val (.int c3), .val (.int c4), .val (.ref x5), .val (.ref x9), .val (.ref x15), .unset, .unset, .unset, .unset] [(.int (0 : Int32)), (.ref x15)])) (fun _ k => XS.iconst W15.here hx rfl (hb hby at_69) k) ?_
    refine go (g' := (mkF m 72 #[.val (.int p1), .val (.int p2), .val (.int p3), .val (.int p4), .val (.int p5), .val (.int p6), .val (.int (1 : Int32)), .val (.int c2), .val (.int c3), .val (.int c4), .val (.ref x5), .val (.ref x9), .val (.ref x15), .unset, .unset, .unset, .unset] [(.int c2), (.int (0 : Int32)), (.ref x15)])) (fun _ k => XS.iload W15.here hx rfl (hb hby at_70) rfl k) ?_
    obtain ⟨T17, h17, W17, R17, V17, st17⟩ := own_stC W15 hx V15 (by omega) (j := (0 : Int32)) (i := 0) ⟨by decide, by decide⟩ rfl (Nat.le_of_ble_eq_true rfl) (own_up yc2) (g := (mkF m 72 #[.val (.int p1), .val (.int p2), .val (.int p3), .val (.int p4), .val (.int p5), .val (.int p6), .val (.int (1 : Int32)), .val (.int c2), .val (.int c3), .val (.int c4), .val (.ref x5), .val (.ref x9), .val (.ref x15), .unset, .unset, .unset, .unset] [(.int c2), (.int (0 : Int32)), (.ref x15)])) rfl rfl (hb hby at_72)
    have z18 : h17.size = h15.size := R17.size
    have U17 : Arv Z h17 x15 k15 .char (3 : Int32) [(.int c2), (.int (0 : Int32)), (.int (0 : Int32))] (.int (0 : Int32)) := V17
    refine go (g' := (mkF m 73 #[.val (.int p1), .val (.int p2), .val (.int p3), .val (.int p4), .val (.int p5), .val (.int p6), .val (.int (1 : Int32)), .val (.int c2), .val (.int c3), .val (.int c4), .val (.ref x5), .val (.ref x9), .val (.ref x15), .unset, .unset, .unset, .unset] [])) (st17) ?_
    refine go (g' := (mkF m 75 #[.val (.int p1), .val (.int p2), .val (.int p3), .val (.int p4), .val (.int p5), .val (.int p6), .val (.int (1 : Int32)), .val (.int c2), .val (.int c3), .val (.int c4), .val (.ref x5), .val (.ref x9), .val (.ref x15), .unset, .unset, .unset, .unset] [(.ref x15)])) (fun _ k => XS.aload W17.here hx rfl (hb hby at_73) rfl rfl k) ?_
    refine go (g' := (mkF m 76 #[.val (.int p1), .val (.int p2), .val (.int p3), .val (.int p4), .val (.int p5), .val (.int p6), .val (.int (1 : Int32)), .val (.int c2), .val (.int c3), .val (.int c4), .val (.ref x5), .val (.ref x9), .val (.ref x15), .unset, .unset, .unset, .unset] [(.int (1 : Int32)), (.ref x15)])) (fun _ k => XS.iconst W17.here hx rfl (hb hby at_75) k) ?_
    refine go (g' := (mkF m 78 #[.val (.int p1), .val (.int p2), .val (.int p3), .val (.int p4), .val (.int p5), .val (.int p6), .val (.int (1 : Int32)), .val (.int c2), .val (.int c3), .val (.int c4), .val (.ref x5), .val (.ref x9), .val (.ref x15), .unset, .unset, .unset, .unset] [(.int c3), (.int (1 : Int32)), (.ref x15)])) (fun _ k => XS.iload W17.here hx rfl (hb hby at_76) rfl k) ?_
    obtain ⟨T19, h19, W19, R19, V19, st19⟩ := own_stC W17 hx U17 (by omega) (j := (1 : Int32)) (i := 1) ⟨by decide, by decide⟩ rfl (Nat.le_of_ble_eq_true rfl) (own_up yc3) (g := (mkF m 78 #[.val (.int p1), .val (.int p2), .val (.int p3), .val (.int p4), .val (.int p5), .val (.int p6), .val (.int (1 : Int32)), .val (.int c2), .val (.int c3), .val (.int c4), .val (.ref x5), .val (.ref x9), .val (.ref x15), .unset, .unset, .unset, .unset] [(.int c3), (.int (1 : Int32)), (.ref x15)])) rfl rfl (hb hby at_78)
    have z20 : h19.size = h17.size := R19.size
    have U19 : Arv Z h19 x15 k15 .char (3 : Int32) [(.int c2), (.int c3), (.int (0 : Int32))] (.int (0 : Int32)) := V19
    refine go (g' := (mkF m 79 #[.val (.int p1), .val (.int p2), .val (.int p3), .val (.int p4), .val (.int p5), .val (.int p6), .val (.int (1 : Int32)), .val (.int c2), .val (.int c3), .val (.int c4), .val (.ref x5), .val (.ref x9), .val (.ref x15), .unset, .unset, .unset, .unset] [])) (st19) ?_
    refine go (g' := (mkF m 81 #[.val (.int p1), .val (.int p2), .val (.int p3), .val (.int p4), .val (.int p5), .val (.int p6), .val (.int (1 : Int32)), .val (.int c2), .val (.int c3), .val (.int c4), .val (.ref x5), .val (.ref x9), .val (.ref x15), .unset, .unset, .unset, .unset] [(.ref x15)])) (fun _ k => XS.aload W19.here hx rfl (hb hby at_79) rfl rfl k) ?_
    refine go (g' := (mkF m 82 #[.val (.int p1), .val (.int p2), .val (.int p3), .val (.int p4), .val (.int p5), .val (.int p6), .val (.int (1 : Int32)), .val (.int c2), .val (.int c3), .val (.int c4), .val (.ref x5), .val (.ref x9), .val (.ref x15), .unset, .unset, .unset, .unset] [(.int (2 : Int32)), (.ref x15)])) (fun _ k => XS.iconst W19.here hx rfl (hb hby at_81) k) ?_
    refine go (g' := (mkF m 84 #[.val (.int p1), .val (.int p2), .val (.int p3), .val (.int p4), .val (.int p5), .val (.int p6), .val (.int (1 : Int32)), .val (.int c2), .val (.int c3), .val (.int c4), .val (.ref x5), .val (.ref x9), .val (.ref x15), .unset, .unset, .unset, .unset] [(.int c4), (.int (2 : Int32)), (.ref x15)])) (fun _ k => XS.iload W19.here hx rfl (hb hby at_82) rfl k) ?_
    obtain ⟨T21, h21, W21, R21, V21, st21⟩ := own_stC W19 hx U19 (by omega) (j := (2 : Int32)) (i := 2) ⟨by decide, by decide⟩ rfl (Nat.le_of_ble_eq_true rfl) (own_up yc4) (g := (mkF m 84 #[.val (.int p1), .val (.int p2), .val (.int p3), .val (.int p4), .val (.int p5), .val (.int p6), .val (.int (1 : Int32)), .val (.int c2), .val (.int c3), .val (.int c4), .val (.ref x5), .val (.ref x9), .val (.ref x15), .unset, .unset, .unset, .unset] [(.int c4), (.int (2 : Int32)), (.ref x15)])) rfl rfl (hb hby at_84)
    have z22 : h21.size = h19.size := R21.size
    have U21 : Arv Z h21 x15 k15 .char (3 : Int32) [(.int c2), (.int c3), (.int c4)] (.int (0 : Int32)) := V21
    refine go (g' := (mkF m 85 #[.val (.int p1), .val (.int p2), .val (.int p3), .val (.int p4), .val (.int p5), .val (.int p6), .val (.int (1 : Int32)), .val (.int c2), .val (.int c3), .val (.int c4), .val (.ref x5), .val (.ref x9), .val (.ref x15), .unset, .unset, .unset, .unset] [])) (st21) ?_
    refine go (g' := (mkF m 87 #[.val (.int p1), .val (.int p2), .val (.int p3), .val (.int p4), .val (.int p5), .val (.int p6), .val (.int (1 : Int32)), .val (.int c2), .val (.int c3), .val (.int c4), .val (.ref x5), .val (.ref x9), .val (.ref x15), .unset, .unset, .unset, .unset] [(.int (1 : Int32))])) (fun _ k => XS.iload W21.here hx rfl (hb hby at_85) rfl k) ?_
    refine go (g' := (mkF m 88 #[.val (.int p1), .val (.int p2), .val (.int p3), .val (.int p4), .val (.int p5), .val (.int p6), .val (.int (1 : Int32)), .val (.int c2), .val (.int c3), .val (.int c4), .val (.ref x5), .val (.ref x9), .val (.ref x15), .unset, .unset, .unset, .unset] [(.int (1 : Int32)), (.int (1 : Int32))])) (fun _ k => XS.iconst W21.here hx rfl (hb hby at_87) k) ?_
    refine go (g' := (mkF m 91 #[.val (.int p1), .val (.int p2), .val (.int p3), .val (.int p4), .val (.int p5), .val (.int p6), .val (.int (1 : Int32)), .val (.int c2), .val (.int c3), .val (.int c4), .val (.ref x5), .val (.ref x9), .val (.ref x15), .unset, .unset, .unset, .unset] [])) (fun _ k => XS.icmpNo W21.here hx rfl (hb hby at_88) rfl (teq ((by decide) : (1 : Int32) = (1 : Int32))).2 k) ?_
    obtain ⟨x23, T23, h23, g23, W23, E23, A23, D23, U23, st23⟩ := own_new W21 hx (w2 C) (w3 C) (w4 C) (g := (mkF m 91 #[.val (.int p1), .val (.int p2), .val (.int p3), .val (.int p4), .val (.int p5), .val (.int p6), .val (.int (1 : Int32)), .val (.int c2), .val (.int c3), .val (.int c4), .val (.ref x5), .val (.ref x9), .val (.ref x15), .unset, .unset, .unset, .unset] [])) rfl (hb hby at_91) (nle rfl) (nle rfl)
    have z24 : h21.size ≤ h23.size := E23.1
    have l23 : @LT.lt Nat _ x23 h23.size := A23.lt
    have F23_coder : Fld Z h23 x23 "java/lang/String" "coder" "B" (.int (0 : Int32)) := D23 (Or.inr (w28 C)) (ty := .byte) (by decide)
    have F23_value : Fld Z h23 x23 "java/lang/String" "value" "[B" .null := D23 (Or.inr (w30 C)) (ty := (.array .byte)) (by decide)
    refine go (g' := (mkF m 94 #[.val (.int p1), .val (.int p2), .val (.int p3), .val (.int p4), .val (.int p5), .val (.int p6), .val (.int (1 : Int32)), .val (.int c2), .val (.int c3), .val (.int c4), .val (.ref x5), .val (.ref x9), .val (.ref x15), .unset, .unset, .unset, .unset] [(.ref x23)])) (st23) ?_
    refine go (g' := (mkF m 95 #[.val (.int p1), .val (.int p2), .val (.int p3), .val (.int p4), .val (.int p5), .val (.int p6), .val (.int (1 : Int32)), .val (.int c2), .val (.int c3), .val (.int c4), .val (.ref x5), .val (.ref x9), .val (.ref x15), .unset, .unset, .unset, .unset] [(.ref x23), (.ref x23)])) (fun _ k => XS.dup W23.here hx rfl (hb hby at_94) rfl rfl k) ?_
    refine go (g' := (mkF m 97 #[.val (.int p1), .val (.int p2), .val (.int p3), .val (.int p4), .val (.int p5), .val (.int p6), .val (.int (1 : Int32)), .val (.int c2), .val (.int c3), .val (.int c4), .val (.ref x5), .val (.ref x9), .val (.ref x15), .unset, .unset, .unset, .unset] [(.ref x5), (.ref x23), (.ref x23)])) (fun _ k => XS.aload W23.here hx rfl (hb hby at_95) rfl rfl k) ?_
    have X26 : Ext h21 h23 := own_xt (own_xr h21) E23
    have X27 : Ext h7 h9 := own_xt (own_xr h7) E9
    have X28 : Ext h7 h11 := own_xw X27 R11 (by omega)
    have X29 : Ext h7 h13 := own_xw X28 R13 (by omega)
    have X30 : Ext h7 h15 := own_xt X29 E15
    have X31 : Ext h7 h17 := own_xw X30 R17 (by omega)
    have X32 : Ext h7 h19 := own_xw X31 R19 (by omega)
    have X33 : Ext h7 h21 := own_xw X32 R21 (by omega)
    have X34 : Ext h7 h23 := own_xt X33 E23
    have f35 : Arv Z h23 x5 k5 .char (1 : Int32) [(.int c2)] (.int (0 : Int32)) := U7.ext X34
    obtain ⟨T25, h25, W25, K25, S25, st25⟩ := own_strNew W23 hx (own_ws C) (w5 C) (w6 C) (w7 C) (w3 C) A23 F23_value F23_coder (cs := [c2]) f35 rfl C.cs (nle rfl) (nle rfl) (own_alS yc2 own_al0) (own_safeB W21 X26 (by omega)) (by omega) (Wd := 1) (nle rfl) (nle rfl) (nle rfl) (nle rfl) (g := (mkF m 97 #[.val (.int p1), .val (.int p2), .val (.int p3), .val (.int p4), .val (.int p5), .val (.int p6), .val (.int (1 : Int32)), .val (.int c2), .val (.int c3), .val (.int c4), .val (.ref x5), .val (.ref x9), .val (.ref x15), .unset, .unset, .unset, .unset] [(.ref x5), (.ref x23), (.ref x23)])) rfl (by rw [hml]; rfl) rfl (by show 2 * 0 + _ ≤ _; exact Nat.le_of_eq rfl) (hb hby at_97)
    have z36 : h23.size ≤ h25.size := K25.1
    refine go (g' := (mkF m 100 #[.val (.int p1), .val (.int p2), .val (.int p3), .val (.int p4), .val (.int p5), .val (.int p6), .val (.int (1 : Int32)), .val (.int c2), .val (.int c3), .val (.int c4), .val (.ref x5), .val (.ref x9), .val (.ref x15), .unset, .unset, .unset, .unset] [(.ref x23)])) (st25) ?_
    refine go (g' := (mkF m 130 #[.val (.int p1), .val (.int p2), .val (.int p3), .val (.int p4), .val (.int p5), .val (.int p6), .val (.int (1 : Int32)), .val (.int c2), .val (.int c3), .val (.int c4), .val (.ref x5), .val (.ref x9), .val (.ref x15), .unset, .unset, .unset, .unset] [(.ref x23)])) (fun _ k => XS.goto W25.here hx rfl (pc0 := 100) (pc' := 130) rfl (hb hby at_100) (by decide) (by decide) k) ?_
    refine go (g' := (mkF m 132 #[.val (.int p1), .val (.int p2), .val (.int p3), .val (.int p4), .val (.int p5), .val (.int p6), .val (.int (1 : Int32)), .val (.int c2), .val (.int c3), .val (.int c4), .val (.ref x5), .val (.ref x9), .val (.ref x15), .val (.ref x23), .unset, .unset, .unset] [])) (fun _ k => XS.astore W25.here hx rfl (hb hby at_130) rfl rfl (l' := #[.val (.int p1), .val (.int p2), .val (.int p3), .val (.int p4), .val (.int p5), .val (.int p6), .val (.int (1 : Int32)), .val (.int c2), .val (.int c3), .val (.int c4), .val (.ref x5), .val (.ref x9), .val (.ref x15), .val (.ref x23), .unset, .unset, .unset]) rfl k) ?_
    refine go (g' := (mkF m 134 #[.val (.int p1), .val (.int p2), .val (.int p3), .val (.int p4), .val (.int p5), .val (.int p6), .val (.int (1 : Int32)), .val (.int c2), .val (.int c3), .val (.int c4), .val (.ref x5), .val (.ref x9), .val (.ref x15), .val (.ref x23), .unset, .unset, .unset] [(.int p5)])) (fun _ k => XS.iload W25.here hx rfl (hb hby at_132) rfl k) ?_
    refine go (g' := (mkF m 137 #[.val (.int p1), .val (.int p2), .val (.int p3), .val (.int p4), .val (.int p5), .val (.int p6), .val (.int (1 : Int32)), .val (.int c2), .val (.int c3), .val (.int c4), .val (.ref x5), .val (.ref x9), .val (.ref x15), .val (.ref x23), .unset, .unset, .unset] [(.int (255 : Int32)), (.int p5)])) (fun _ k => XS.sipush W25.here hx rfl (hb hby at_134) k) ?_
    refine go (g' := (mkF m 138 #[.val (.int p1), .val (.int p2), .val (.int p3), .val (.int p4), .val (.int p5), .val (.int p6), .val (.int (1 : Int32)), .val (.int c2), .val (.int c3), .val (.int c4), .val (.ref x5), .val (.ref x9), .val (.ref x15), .val (.ref x23), .unset, .unset, .unset] [(.int (p5 &&& (255 : Int32)))])) (fun _ k => XS.iand W25.here hx rfl (hb hby at_137) rfl k) ?_
    refine go (g' := (mkF m 139 #[.val (.int p1), .val (.int p2), .val (.int p3), .val (.int p4), .val (.int p5), .val (.int p6), .val (.int (1 : Int32)), .val (.int c2), .val (.int c3), .val (.int c4), .val (.ref x5), .val (.ref x9), .val (.ref x15), .val (.ref x23), .unset, .unset, .unset] [(.int ((p5 &&& (255 : Int32)).toUInt32.toUInt16.toUInt32.toInt32))])) (fun _ k => XS.i2c W25.here hx rfl (hb hby at_138) rfl k) ?_
    obtain ⟨v37, so37, vm37, T37, h37, W37, C37, q37, hso37, st37⟩ := own_static W25 hx (y := (⟨"java/lang/String", "valueOf", "(C)Ljava/lang/String;"⟩ : MethodName)) (w31 C) (w32 C) (w4 C) (w33 C) (by decide) (rm_valof C h25 ((p5 &&& (255 : Int32)).toUInt32.toUInt16.toUInt32.toInt32) (own_c255 _)) (fun _ q => nomatch q) (Wd := 0) (nle rfl) (nle rfl) (nle rfl) (nle rfl) (g := (mkF m 139 #[.val (.int p1), .val (.int p2), .val (.int p3), .val (.int p4), .val (.int p5), .val (.int p6), .val (.int (1 : Int32)), .val (.int c2), .val (.int c3), .val (.int c4), .val (.ref x5), .val (.ref x9), .val (.ref x15), .val (.ref x23), .unset, .unset, .unset] [(.int ((p5 &&& (255 : Int32)).toUInt32.toUInt16.toUInt32.toInt32))])) rfl (by rw [hml]; rfl) (argsL := [(.int ((p5 &&& (255 : Int32)).toUInt32.toUInt16.toUInt32.toInt32))]) (rest := []) (lenOf pd_3 rfl) rfl rfl (by show 2 * 0 + _ ≤ _; exact Nat.le_of_eq rfl) (hb hby at_139)
    obtain ⟨x37, rfl, E37, g37, S37⟩ := q37
    have z38 : h25.size ≤ h37.size := E37.1
    refine go (g' := (mkF m 142 #[.val (.int p1), .val (.int p2), .val (.int p3), .val (.int p4), .val (.int p5), .val (.int p6), .val (.int (1 : Int32)), .val (.int c2), .val (.int c3), .val (.int c4), .val (.ref x5), .val (.ref x9), .val (.ref x15), .val (.ref x23), .unset, .unset, .unset] [(.ref x37)])) (st37) ?_
    refine go (g' := (mkF m 144 #[.val (.int p1), .val (.int p2), .val (.int p3), .val (.int p4), .val (.int p5), .val (.int p6), .val (.int (1 : Int32)), .val (.int c2), .val (.int c3), .val (.int c4), .val (.ref x5), .val (.ref x9), .val (.ref x15), .val (.ref x23), .val (.ref x37), .unset, .unset] [])) (fun _ k => XS.astore W37.here hx rfl (hb hby at_142) rfl rfl (l' := #[.val (.int p1), .val (.int p2), .val (.int p3), .val (.int p4), .val (.int p5), .val (.int p6), .val (.int (1 : Int32)), .val (.int c2), .val (.int c3), .val (.int c4), .val (.ref x5), .val (.ref x9), .val (.ref x15), .val (.ref x23), .val (.ref x37), .unset, .unset]) rfl k) ?_
    refine go (g' := (mkF m 146 #[.val (.int p1), .val (.int p2), .val (.int p3), .val (.int p4), .val (.int p5), .val (.int p6), .val (.int (1 : Int32)), .val (.int c2), .val (.int c3), .val (.int c4), .val (.ref x5), .val (.ref x9), .val (.ref x15), .val (.ref x23), .val (.ref x37), .unset, .unset] [(.int p6)])) (fun _ k => XS.iload W37.here hx rfl (hb hby at_144) rfl k) ?_
    refine go (g' := (mkF m 149 #[.val (.int p1), .val (.int p2), .val (.int p3), .val (.int p4), .val (.int p5), .val (.int p6), .val (.int (1 : Int32)), .val (.int c2), .val (.int c3), .val (.int c4), .val (.ref x5), .val (.ref x9), .val (.ref x15), .val (.ref x23), .val (.ref x37), .unset, .unset] [(.int (255 : Int32)), (.int p6)])) (fun _ k => XS.sipush W37.here hx rfl (hb hby at_146) k) ?_
    refine go (g' := (mkF m 150 #[.val (.int p1), .val (.int p2), .val (.int p3), .val (.int p4), .val (.int p5), .val (.int p6), .val (.int (1 : Int32)), .val (.int c2), .val (.int c3), .val (.int c4), .val (.ref x5), .val (.ref x9), .val (.ref x15), .val (.ref x23), .val (.ref x37), .unset, .unset] [(.int (p6 &&& (255 : Int32)))])) (fun _ k => XS.iand W37.here hx rfl (hb hby at_149) rfl k) ?_
    refine go (g' := (mkF m 151 #[.val (.int p1), .val (.int p2), .val (.int p3), .val (.int p4), .val (.int p5), .val (.int p6), .val (.int (1 : Int32)), .val (.int c2), .val (.int c3), .val (.int c4), .val (.ref x5), .val (.ref x9), .val (.ref x15), .val (.ref x23), .val (.ref x37), .unset, .unset] [(.int ((p6 &&& (255 : Int32)).toUInt32.toUInt16.toUInt32.toInt32))])) (fun _ k => XS.i2c W37.here hx rfl (hb hby at_150) rfl k) ?_
    obtain ⟨v39, so39, vm39, T39, h39, W39, C39, q39, hso39, st39⟩ := own_static W37 hx (y := (⟨"java/lang/String", "valueOf", "(C)Ljava/lang/String;"⟩ : MethodName)) (w31 C) (w32 C) (w4 C) (w33 C) (by decide) (rm_valof C h37 ((p6 &&& (255 : Int32)).toUInt32.toUInt16.toUInt32.toInt32) (own_c255 _)) (fun _ q => nomatch q) (Wd := 0) (nle rfl) (nle rfl) (nle rfl) (nle rfl) (g := (mkF m 151 #[.val (.int p1), .val (.int p2), .val (.int p3), .val (.int p4), .val (.int p5), .val (.int p6), .val (.int (1 : Int32)), .val (.int c2), .val (.int c3), .val (.int c4), .val (.ref x5), .val (.ref x9), .val (.ref x15), .val (.ref x23), .val (.ref x37), .unset, .unset] [(.int ((p6 &&& (255 : Int32)).toUInt32.toUInt16.toUInt32.toInt32))])) rfl (by rw [hml]; rfl) (argsL := [(.int ((p6 &&& (255 : Int32)).toUInt32.toUInt16.toUInt32.toInt32))]) (rest := []) (lenOf pd_3 rfl) rfl rfl (by show 2 * 0 + _ ≤ _; exact Nat.le_of_eq rfl) (hb hby at_151)
    obtain ⟨x39, rfl, E39, g39, S39⟩ := q39
    have z40 : h37.size ≤ h39.size := E39.1
    refine go (g' := (mkF m 154 #[.val (.int p1), .val (.int p2), .val (.int p3), .val (.int p4), .val (.int p5), .val (.int p6), .val (.int (1 : Int32)), .val (.int c2), .val (.int c3), .val (.int c4), .val (.ref x5), .val (.ref x9), .val (.ref x15), .val (.ref x23), .val (.ref x37), .unset, .unset] [(.ref x39)])) (st39) ?_
    refine go (g' := (mkF m 156 #[.val (.int p1), .val (.int p2), .val (.int p3), .val (.int p4), .val (.int p5), .val (.int p6), .val (.int (1 : Int32)), .val (.int c2), .val (.int c3), .val (.int c4), .val (.ref x5), .val (.ref x9), .val (.ref x15), .val (.ref x23), .val (.ref x37), .val (.ref x39), .unset] [])) (fun _ k => XS.astore W39.here hx rfl (hb hby at_154) rfl rfl (l' := #[.val (.int p1), .val (.int p2), .val (.int p3), .val (.int p4), .val (.int p5), .val (.int p6), .val (.int (1 : Int32)), .val (.int c2), .val (.int c3), .val (.int c4), .val (.ref x5), .val (.ref x9), .val (.ref x15), .val (.ref x23), .val (.ref x37), .val (.ref x39), .unset]) rfl k) ?_
    refine go (g' := (mkF m 158 #[.val (.int p1), .val (.int p2), .val (.int p3), .val (.int p4), .val (.int p5), .val (.int p6), .val (.int (1 : Int32)), .val (.int c2), .val (.int c3), .val (.int c4), .val (.ref x5), .val (.ref x9), .val (.ref x15), .val (.ref x23), .val (.ref x37), .val (.ref x39), .unset] [(.ref x37)])) (fun _ k => XS.aload W39.here hx rfl (hb hby at_156) rfl rfl k) ?_
    refine go (g' := (mkF m 160 #[.val (.int p1), .val (.int p2), .val (.int p3), .val (.int p4), .val (.int p5), .val (.int p6), .val (.int (1 : Int32)), .val (.int c2), .val (.int c3), .val (.int c4), .val (.ref x5), .val (.ref x9), .val (.ref x15), .val (.ref x23), .val (.ref x37), .val (.ref x39), .unset] [(.ref x23), (.ref x37)])) (fun _ k => XS.aload W39.here hx rfl (hb hby at_158) rfl rfl k) ?_
    refine go (g' := (mkF m 162 #[.val (.int p1), .val (.int p2), .val (.int p3), .val (.int p4), .val (.int p5), .val (.int p6), .val (.int (1 : Int32)), .val (.int c2), .val (.int c3), .val (.int c4), .val (.ref x5), .val (.ref x9), .val (.ref x15), .val (.ref x23), .val (.ref x37), .val (.ref x39), .unset] [(.ref x39), (.ref x23), (.ref x37)])) (fun _ k => XS.aload W39.here hx rfl (hb hby at_160) rfl rfl k) ?_
    have X42 : Ext h25 h37 := own_xt (own_xr h25) E37
    have X43 : Ext h25 h39 := own_xt X42 E39
    have f44 : Str Z h39 x23 [c2] := S25.ext X43
    obtain ⟨v41, so41, vm41, T41, h41, W41, C41, q41, hso41, st41⟩ := own_static W39 hx (y := (⟨"com/example/forseti/forseti/io/Csv", "required", "(Ljava/lang/String;Ljava/lang/String;Ljava/lang/String;)Ljava/lang/String;"⟩ : MethodName)) (w45 C) (w46 C) (w47 C) (w48 C) (by decide) (rm_required C h39 x37 x23 x39 [c2] f44 (nle rfl) (nle rfl)) (fun _ q => nomatch q) (Wd := 0) (nle rfl) (nle rfl) (nle rfl) (nle rfl) (g := (mkF m 162 #[.val (.int p1), .val (.int p2), .val (.int p3), .val (.int p4), .val (.int p5), .val (.int p6), .val (.int (1 : Int32)), .val (.int c2), .val (.int c3), .val (.int c4), .val (.ref x5), .val (.ref x9), .val (.ref x15), .val (.ref x23), .val (.ref x37), .val (.ref x39), .unset] [(.ref x39), (.ref x23), (.ref x37)])) rfl (by rw [hml]; rfl) (argsL := [(.ref x37), (.ref x23), (.ref x39)]) (rest := []) (lenOf pd_4 rfl) rfl rfl (by show 2 * 0 + _ ≤ _; exact Nat.le_of_eq rfl) (hb hby at_162)
    obtain ⟨rfl, rfl⟩ := q41
    refine go (g' := (mkF m 165 #[.val (.int p1), .val (.int p2), .val (.int p3), .val (.int p4), .val (.int p5), .val (.int p6), .val (.int (1 : Int32)), .val (.int c2), .val (.int c3), .val (.int c4), .val (.ref x5), .val (.ref x9), .val (.ref x15), .val (.ref x23), .val (.ref x37), .val (.ref x39), .unset] [(.ref x23)])) (st41) ?_
    refine go (g' := (mkF m 167 #[.val (.int p1), .val (.int p2), .val (.int p3), .val (.int p4), .val (.int p5), .val (.int p6), .val (.int (1 : Int32)), .val (.int c2), .val (.int c3), .val (.int c4), .val (.ref x5), .val (.ref x9), .val (.ref x15), .val (.ref x23), .val (.ref x37), .val (.ref x39), .val (.ref x23)] [])) (fun _ k => XS.astore W41.here hx rfl (hb hby at_165) rfl rfl (l' := #[.val (.int p1), .val (.int p2), .val (.int p3), .val (.int p4), .val (.int p5), .val (.int p6), .val (.int (1 : Int32)), .val (.int c2), .val (.int c3), .val (.int c4), .val (.ref x5), .val (.ref x9), .val (.ref x15), .val (.ref x23), .val (.ref x37), .val (.ref x39), .val (.ref x23)]) rfl k) ?_
    refine go (g' := (mkF m 169 #[.val (.int p1), .val (.int p2), .val (.int p3), .val (.int p4), .val (.int p5), .val (.int p6), .val (.int (1 : Int32)), .val (.int c2), .val (.int c3), .val (.int c4), .val (.ref x5), .val (.ref x9), .val (.ref x15), .val (.ref x23), .val (.ref x37), .val (.ref x39), .val (.ref x23)] [(.ref x23)])) (fun _ k => XS.aload W41.here hx rfl (hb hby at_167) rfl rfl k) ?_
    refine go (g' := (mkF m 174 #[.val (.int p1), .val (.int p2), .val (.int p3), .val (.int p4), .val (.int p5), .val (.int p6), .val (.int (1 : Int32)), .val (.int c2), .val (.int c3), .val (.int c4), .val (.ref x5), .val (.ref x9), .val (.ref x15), .val (.ref x23), .val (.ref x37), .val (.ref x39), .val (.ref x23)] [])) (fun _ k => XS.ifnonnullYes W41.here hx rfl (pc0 := 169) (pc' := 174) rfl (hb hby at_169) rfl (by decide) (by decide) k) ?_
    refine go (g' := (mkF m 176 #[.val (.int p1), .val (.int p2), .val (.int p3), .val (.int p4), .val (.int p5), .val (.int p6), .val (.int (1 : Int32)), .val (.int c2), .val (.int c3), .val (.int c4), .val (.ref x5), .val (.ref x9), .val (.ref x15), .val (.ref x23), .val (.ref x37), .val (.ref x39), .val (.ref x23)] [(.ref x23)])) (fun _ k => XS.aload W41.here hx rfl (hb hby at_174) rfl rfl k) ?_
    obtain ⟨T45, W45, st45⟩ := own_slen W41 hx (own_wln C) (w54 C) (w55 C) (w57 C) (w56 C) (w3 C) f44 C.cs (nle rfl) (Wd := 0) (nle rfl) (nle rfl) (nle rfl) (nle rfl) (g := (mkF m 176 #[.val (.int p1), .val (.int p2), .val (.int p3), .val (.int p4), .val (.int p5), .val (.int p6), .val (.int (1 : Int32)), .val (.int c2), .val (.int c3), .val (.int c4), .val (.ref x5), .val (.ref x9), .val (.ref x15), .val (.ref x23), .val (.ref x37), .val (.ref x39), .val (.ref x23)] [(.ref x23)])) rfl (by rw [hml]; rfl) rfl (by show 2 * 0 + _ ≤ _; exact Nat.le_of_eq rfl) (hb hby at_176)
    refine go (g' := (mkF m 179 #[.val (.int p1), .val (.int p2), .val (.int p3), .val (.int p4), .val (.int p5), .val (.int p6), .val (.int (1 : Int32)), .val (.int c2), .val (.int c3), .val (.int c4), .val (.ref x5), .val (.ref x9), .val (.ref x15), .val (.ref x23), .val (.ref x37), .val (.ref x39), .val (.ref x23)] [(.int (1 : Int32))])) (st45) ?_
    refine go (g' := (mkF m 181 #[.val (.int p1), .val (.int p2), .val (.int p3), .val (.int p4), .val (.int p5), .val (.int p6), .val (.int (1 : Int32)), .val (.int c2), .val (.int c3), .val (.int c4), .val (.ref x5), .val (.ref x9), .val (.ref x15), .val (.ref x23), .val (.ref x37), .val (.ref x39), .val (.ref x23)] [(.int (1 : Int32)), (.int (1 : Int32))])) (fun _ k => XS.iload W45.here hx rfl (hb hby at_179) rfl k) ?_
    refine go (g' := (mkF m 186 #[.val (.int p1), .val (.int p2), .val (.int p3), .val (.int p4), .val (.int p5), .val (.int p6), .val (.int (1 : Int32)), .val (.int c2), .val (.int c3), .val (.int c4), .val (.ref x5), .val (.ref x9), .val (.ref x15), .val (.ref x23), .val (.ref x37), .val (.ref x39), .val (.ref x23)] [])) (fun _ k => XS.icmpYes W45.here hx rfl (pc0 := 181) (pc' := 186) rfl (hb hby at_181) rfl (teq ((by decide) : (1 : Int32) = (1 : Int32))).1 (by decide) (by decide) k) ?_
    refine go (g' := (mkF m 188 #[.val (.int p1), .val (.int p2), .val (.int p3), .val (.int p4), .val (.int p5), .val (.int p6), .val (.int (1 : Int32)), .val (.int c2), .val (.int c3), .val (.int c4), .val (.ref x5), .val (.ref x9), .val (.ref x15), .val (.ref x23), .val (.ref x37), .val (.ref x39), .val (.ref x23)] [(.ref x23)])) (fun _ k => XS.aload W45.here hx rfl (hb hby at_186) rfl rfl k) ?_
    refine go (g' := (mkF m 189 #[.val (.int p1), .val (.int p2), .val (.int p3), .val (.int p4), .val (.int p5), .val (.int p6), .val (.int (1 : Int32)), .val (.int c2), .val (.int c3), .val (.int c4), .val (.ref x5), .val (.ref x9), .val (.ref x15), .val (.ref x23), .val (.ref x37), .val (.ref x39), .val (.ref x23)] [(.int (0 : Int32)), (.ref x23)])) (fun _ k => XS.iconst W45.here hx rfl (hb hby at_188) k) ?_
    obtain ⟨T46, W46, st46⟩ := own_sch W45 hx (own_wch C) (w64 C) (w65 C) (w67 C) (w66 C) (w3 C) f44 C.cs C.sf (nle rfl) (i := 0) (j := (0 : Int32)) (nle rfl) rfl (Wd := 0) (nle rfl) (nle rfl) (nle rfl) (nle rfl) (g := (mkF m 189 #[.val (.int p1), .val (.int p2), .val (.int p3), .val (.int p4), .val (.int p5), .val (.int p6), .val (.int (1 : Int32)), .val (.int c2), .val (.int c3), .val (.int c4), .val (.ref x5), .val (.ref x9), .val (.ref x15), .val (.ref x23), .val (.ref x37), .val (.ref x39), .val (.ref x23)] [(.int (0 : Int32)), (.ref x23)])) rfl (by rw [hml]; rfl) rfl (by show 2 * 0 + _ ≤ _; exact Nat.le_of_eq rfl) (hb hby at_189)
    refine go (g' := (mkF m 192 #[.val (.int p1), .val (.int p2), .val (.int p3), .val (.int p4), .val (.int p5), .val (.int p6), .val (.int (1 : Int32)), .val (.int c2), .val (.int c3), .val (.int c4), .val (.ref x5), .val (.ref x9), .val (.ref x15), .val (.ref x23), .val (.ref x37), .val (.ref x39), .val (.ref x23)] [(.int c2)])) (st46) ?_
    refine go (g' := (mkF m 194 #[.val (.int p1), .val (.int p2), .val (.int p3), .val (.int p4), .val (.int p5), .val (.int p6), .val (.int (1 : Int32)), .val (.int c2), .val (.int c3), .val (.int c4), .val (.ref x5), .val (.ref x9), .val (.ref x15), .val (.ref x23), .val (.ref x37), .val (.ref x39), .val (.ref x23)] [(.int c2), (.int c2)])) (fun _ k => XS.iload W46.here hx rfl (hb hby at_192) rfl k) ?_
    refine go (g' := (mkF m 199 #[.val (.int p1), .val (.int p2), .val (.int p3), .val (.int p4), .val (.int p5), .val (.int p6), .val (.int (1 : Int32)), .val (.int c2), .val (.int c3), .val (.int c4), .val (.ref x5), .val (.ref x9), .val (.ref x15), .val (.ref x23), .val (.ref x37), .val (.ref x39), .val (.ref x23)] [])) (fun _ k => XS.icmpYes W46.here hx rfl (pc0 := 194) (pc' := 199) rfl (hb hby at_194) rfl (teq (rfl : c2 = c2)).1 (by decide) (by decide) k) ?_
    refine go (g' := (mkF m 201 #[.val (.int p1), .val (.int p2), .val (.int p3), .val (.int p4), .val (.int p5), .val (.int p6), .val (.int (1 : Int32)), .val (.int c2), .val (.int c3), .val (.int c4), .val (.ref x5), .val (.ref x9), .val (.ref x15), .val (.ref x23), .val (.ref x37), .val (.ref x39), .val (.ref x23)] [(.int (1 : Int32))])) (fun _ k => XS.iload W46.here hx rfl (hb hby at_199) rfl k) ?_
    refine go (g' := (mkF m 202 #[.val (.int p1), .val (.int p2), .val (.int p3), .val (.int p4), .val (.int p5), .val (.int p6), .val (.int (1 : Int32)), .val (.int c2), .val (.int c3), .val (.int c4), .val (.ref x5), .val (.ref x9), .val (.ref x15), .val (.ref x23), .val (.ref x37), .val (.ref x39), .val (.ref x23)] [(.int (2 : Int32)), (.int (1 : Int32))])) (fun _ k => XS.iconst W46.here hx rfl (hb hby at_201) k) ?_
    refine go (g' := (mkF m 218 #[.val (.int p1), .val (.int p2), .val (.int p3), .val (.int p4), .val (.int p5), .val (.int p6), .val (.int (1 : Int32)), .val (.int c2), .val (.int c3), .val (.int c4), .val (.ref x5), .val (.ref x9), .val (.ref x15), .val (.ref x23), .val (.ref x37), .val (.ref x39), .val (.ref x23)] [])) (fun _ k => XS.icmpYes W46.here hx rfl (pc0 := 202) (pc' := 218) rfl (hb hby at_202) rfl (tlt ((by decide) : (1 : Int32) < (2 : Int32))).1 (by decide) (by decide) k) ?_
    refine go (g' := (mkF m 220 #[.val (.int p1), .val (.int p2), .val (.int p3), .val (.int p4), .val (.int p5), .val (.int p6), .val (.int (1 : Int32)), .val (.int c2), .val (.int c3), .val (.int c4), .val (.ref x5), .val (.ref x9), .val (.ref x15), .val (.ref x23), .val (.ref x37), .val (.ref x39), .val (.ref x23)] [(.int (1 : Int32))])) (fun _ k => XS.iload W46.here hx rfl (hb hby at_218) rfl k) ?_
    refine go (g' := (mkF m 221 #[.val (.int p1), .val (.int p2), .val (.int p3), .val (.int p4), .val (.int p5), .val (.int p6), .val (.int (1 : Int32)), .val (.int c2), .val (.int c3), .val (.int c4), .val (.ref x5), .val (.ref x9), .val (.ref x15), .val (.ref x23), .val (.ref x37), .val (.ref x39), .val (.ref x23)] [(.int (3 : Int32)), (.int (1 : Int32))])) (fun _ k => XS.iconst W46.here hx rfl (hb hby at_220) k) ?_
    refine go (g' := (mkF m 237 #[.val (.int p1), .val (.int p2), .val (.int p3), .val (.int p4), .val (.int p5), .val (.int p6), .val (.int (1 : Int32)), .val (.int c2), .val (.int c3), .val (.int c4), .val (.ref x5), .val (.ref x9), .val (.ref x15), .val (.ref x23), .val (.ref x37), .val (.ref x39), .val (.ref x23)] [])) (fun _ k => XS.icmpYes W46.here hx rfl (pc0 := 221) (pc' := 237) rfl (hb hby at_221) rfl (feq ((by decide) : ¬ ((1 : Int32) = (3 : Int32)))).2 (by decide) (by decide) k) ?_
    refine go (g' := (mkF m 239 #[.val (.int p1), .val (.int p2), .val (.int p3), .val (.int p4), .val (.int p5), .val (.int p6), .val (.int (1 : Int32)), .val (.int c2), .val (.int c3), .val (.int c4), .val (.ref x5), .val (.ref x9), .val (.ref x15), .val (.ref x23), .val (.ref x37), .val (.ref x39), .val (.ref x23)] [(.ref x23)])) (fun _ k => XS.aload W46.here hx rfl (hb hby at_237) rfl rfl k) ?_
    refine go (g' := (mkF m 241 #[.val (.int p1), .val (.int p2), .val (.int p3), .val (.int p4), .val (.int p5), .val (.int p6), .val (.int (1 : Int32)), .val (.int c2), .val (.int c3), .val (.int c4), .val (.ref x5), .val (.ref x9), .val (.ref x15), .val (.ref x23), .val (.ref x37), .val (.ref x39), .val (.ref x23)] [(.ref x23), (.ref x23)])) (fun _ k => XS.aload W46.here hx rfl (hb hby at_239) rfl rfl k) ?_
    have f48 : Exa Z h39 x23 "java/lang/String" := S25.1.ext X43
    obtain ⟨v47, so47, vm47, T47, h47, W47, C47, q47, hso47, st47⟩ := own_virtual W46 hx (y := (⟨"java/lang/String", "equals", "(Ljava/lang/Object;)Z"⟩ : MethodName)) (z := (⟨"java/lang/String", "equals", "(Ljava/lang/Object;)Z"⟩ : MethodName)) (w85 C) (w86 C) (w88 C) (w87 C) (w4 C) (w89 C) (by decide) (own_nf W46 (w88 C)) f48 (rm_eqsame C h39 x23) (fun _ q => nomatch q) (Wd := 0) (nle rfl) (nle rfl) (nle rfl) (nle rfl) (g := (mkF m 241 #[.val (.int p1), .val (.int p2), .val (.int p3), .val (.int p4), .val (.int p5), .val (.int p6), .val (.int (1 : Int32)), .val (.int c2), .val (.int c3), .val (.int c4), .val (.ref x5), .val (.ref x9), .val (.ref x15), .val (.ref x23), .val (.ref x37), .val (.ref x39), .val (.ref x23)] [(.ref x23), (.ref x23)])) rfl (by rw [hml]; rfl) (argsL := [(.ref x23)]) (rest := []) (lenOf pd_5 rfl) rfl rfl (by show 2 * 0 + _ ≤ _; exact Nat.le_of_eq rfl) (hb hby at_241)
    obtain ⟨rfl, rfl⟩ := q47
    refine go (g' := (mkF m 244 #[.val (.int p1), .val (.int p2), .val (.int p3), .val (.int p4), .val (.int p5), .val (.int p6), .val (.int (1 : Int32)), .val (.int c2), .val (.int c3), .val (.int c4), .val (.ref x5), .val (.ref x9), .val (.ref x15), .val (.ref x23), .val (.ref x37), .val (.ref x39), .val (.ref x23)] [(.int (1 : Int32))])) (st47) ?_
    exact fin (v := some (.int (1 : Int32))) (so := []) W47 (nle rfl) (nle rfl) (rfl) (fun _ q => nomatch q) (fun q => nomatch q) (own_retI W47 hx hret (by decide) rfl (hb hby at_244))
  · show G s₁ (mkF m 10 #[.val (.int p1), .val (.int p2), .val (.int p3), .val (.int p4), .val (.int p5), .val (.int p6), .val (.int (2 : Int32)), .unset, .unset, .unset, .unset, .unset, .unset, .unset, .unset, .unset, .unset] [])
    refine go (g' := (mkF m 11 #[.val (.int p1), .val (.int p2), .val (.int p3), .val (.int p4), .val (.int p5), .val (.int p6), .val (.int (2 : Int32)), .unset, .unset, .unset, .unset, .unset, .unset, .unset, .unset, .unset, .unset] [(.int p2)])) (fun _ k => XS.iloadN W0.here hx rfl (hb hby at_10) rfl k) ?_
    refine go (g' := (mkF m 14 #[.val (.int p1), .val (.int p2), .val (.int p3), .val (.int p4), .val (.int p5), .val (.int p6), .val (.int (2 : Int32)), .unset, .unset, .unset, .unset, .unset, .unset, .unset, .unset, .unset, .unset] [(.int (255 : Int32)), (.int p2)])) (fun _ k => XS.sipush W0.here hx rfl (hb hby at_11) k) ?_
    refine go (g' := (mkF m 15 #[.val (.int p1), .val (.int p2), .val (.int p3), .val (.int p4), .val (.int p5), .val (.int p6), .val (.int (2 : Int32)), .unset, .unset, .unset, .unset, .unset, .unset, .unset, .unset, .unset, .unset] [(.int (p2 &&& (255 : Int32)))])) (fun _ k => XS.iand W0.here hx rfl (hb hby at_14) rfl k) ?_
    refine go (g' := (mkF m 16 #[.val (.int p1), .val (.int p2), .val (.int p3), .val (.int p4), .val (.int p5), .val (.int p6), .val (.int (2 : Int32)), .unset, .unset, .unset, .unset, .unset, .unset, .unset, .unset, .unset, .unset] [(.int ((p2 &&& (255 : Int32)).toUInt32.toUInt16.toUInt32.toInt32))])) (fun _ k => XS.i2c W0.here hx rfl (hb hby at_15) rfl k) ?_
    generalize ec49 : ((p2 &&& (255 : Int32)).toUInt32.toUInt16.toUInt32.toInt32) = c49
    have yc49 : ¬ c49 < 0 ∧ ¬ (255 : Int32) < c49 := ec49 ▸ own_c255 _
    refine go (g' := (mkF m 18 #[.val (.int p1), .val (.int p2), .val (.int p3), .val (.int p4), .val (.int p5), .val (.int p6), .val (.int (2 : Int32)), .val (.int c49), .unset, .unset, .unset, .unset, .unset, .unset, .unset, .unset, .unset] [])) (fun _ k => XS.istore W0.here hx rfl (hb hby at_16) rfl (l' := #[.val (.int p1), .val (.int p2), .val (.int p3), .val (.int p4), .val (.int p5), .val (.int p6), .val (.int (2 : Int32)), .val (.int c49), .unset, .unset, .unset, .unset, .unset, .unset, .unset, .unset, .unset]) rfl k) ?_
    refine go (g' := (mkF m 19 #[.val (.int p1), .val (.int p2), .val (.int p3), .val (.int p4), .val (.int p5), .val (.int p6), .val (.int (2 : Int32)), .val (.int c49), .unset, .unset, .unset, .unset, .unset, .unset, .unset, .unset, .unset] [(.int p3)])) (fun _ k => XS.iloadN W0.here hx rfl (hb hby at_18) rfl k) ?_
    refine go (g' := (mkF m 22 #[.val (.int p1), .val (.int p2), .val (.int p3), .val (.int p4), .val (.int p5), .val (.int p6), .val (.int (2 : Int32)), .val (.int c49), .unset, .unset, .unset, .unset, .unset, .unset, .unset, .unset, .unset] [(.int (255 : Int32)), (.int p3)])) (fun _ k => XS.sipush W0.here hx rfl (hb hby at_19) k) ?_
    refine go (g' := (mkF m 23 #[.val (.int p1), .val (.int p2), .val (.int p3), .val (.int p4), .val (.int p5), .val (.int p6), .val (.int (2 : Int32)), .val (.int c49), .unset, .unset, .unset, .unset, .unset, .unset, .unset, .unset, .unset] [(.int (p3 &&& (255 : Int32)))])) (fun _ k => XS.iand W0.here hx rfl (hb hby at_22) rfl k) ?_
    refine go (g' := (mkF m 24 #[.val (.int p1), .val (.int p2), .val (.int p3), .val (.int p4), .val (.int p5), .val (.int p6), .val (.int (2 : Int32)), .val (.int c49), .unset, .unset, .unset, .unset, .unset, .unset, .unset, .unset, .unset] [(.int ((p3 &&& (255 : Int32)).toUInt32.toUInt16.toUInt32.toInt32))])) (fun _ k => XS.i2c W0.here hx rfl (hb hby at_23) rfl k) ?_
    generalize ec50 : ((p3 &&& (255 : Int32)).toUInt32.toUInt16.toUInt32.toInt32) = c50
    have yc50 : ¬ c50 < 0 ∧ ¬ (255 : Int32) < c50 := ec50 ▸ own_c255 _
    refine go (g' := (mkF m 26 #[.val (.int p1), .val (.int p2), .val (.int p3), .val (.int p4), .val (.int p5), .val (.int p6), .val (.int (2 : Int32)), .val (.int c49), .val (.int c50), .unset, .unset, .unset, .unset, .unset, .unset, .unset, .unset] [])) (fun _ k => XS.istore W0.here hx rfl (hb hby at_24) rfl (l' := #[.val (.int p1), .val (.int p2), .val (.int p3), .val (.int p4), .val (.int p5), .val (.int p6), .val (.int (2 : Int32)), .val (.int c49), .val (.int c50), .unset, .unset, .unset, .unset, .unset, .unset, .unset, .unset]) rfl k) ?_
    refine go (g' := (mkF m 27 #[.val (.int p1), .val (.int p2), .val (.int p3), .val (.int p4), .val (.int p5), .val (.int p6), .val (.int (2 : Int32)), .val (.int c49), .val (.int c50), .unset, .unset, .unset, .unset, .unset, .unset, .unset, .unset] [(.int p4)])) (fun _ k => XS.iloadN W0.here hx rfl (hb hby at_26) rfl k) ?_
    refine go (g' := (mkF m 30 #[.val (.int p1), .val (.int p2), .val (.int p3), .val (.int p4), .val (.int p5), .val (.int p6), .val (.int (2 : Int32)), .val (.int c49), .val (.int c50), .unset, .unset, .unset, .unset, .unset, .unset, .unset, .unset] [(.int (255 : Int32)), (.int p4)])) (fun _ k => XS.sipush W0.here hx rfl (hb hby at_27) k) ?_
    refine go (g' := (mkF m 31 #[.val (.int p1), .val (.int p2), .val (.int p3), .val (.int p4), .val (.int p5), .val (.int p6), .val (.int (2 : Int32)), .val (.int c49), .val (.int c50), .unset, .unset, .unset, .unset, .unset, .unset, .unset, .unset] [(.int (p4 &&& (255 : Int32)))])) (fun _ k => XS.iand W0.here hx rfl (hb hby at_30) rfl k) ?_
    refine go (g' := (mkF m 32 #[.val (.int p1), .val (.int p2), .val (.int p3), .val (.int p4), .val (.int p5), .val (.int p6), .val (.int (2 : Int32)), .val (.int c49), .val (.int c50), .unset, .unset, .unset, .unset, .unset, .unset, .unset, .unset] [(.int ((p4 &&& (255 : Int32)).toUInt32.toUInt16.toUInt32.toInt32))])) (fun _ k => XS.i2c W0.here hx rfl (hb hby at_31) rfl k) ?_
    generalize ec51 : ((p4 &&& (255 : Int32)).toUInt32.toUInt16.toUInt32.toInt32) = c51
    have yc51 : ¬ c51 < 0 ∧ ¬ (255 : Int32) < c51 := ec51 ▸ own_c255 _
    refine go (g' := (mkF m 34 #[.val (.int p1), .val (.int p2), .val (.int p3), .val (.int p4), .val (.int p5), .val (.int p6), .val (.int (2 : Int32)), .val (.int c49), .val (.int c50), .val (.int c51), .unset, .unset, .unset, .unset, .unset, .unset, .unset] [])) (fun _ k => XS.istore W0.here hx rfl (hb hby at_32) rfl (l' := #[.val (.int p1), .val (.int p2), .val (.int p3), .val (.int p4), .val (.int p5), .val (.int p6), .val (.int (2 : Int32)), .val (.int c49), .val (.int c50), .val (.int c51), .unset, .unset, .unset, .unset, .unset, .unset, .unset]) rfl k) ?_
    refine go (g' := (mkF m 35 #[.val (.int p1), .val (.int p2), .val (.int p3), .val (.int p4), .val (.int p5), .val (.int p6), .val (.int (2 : Int32)), .val (.int c49), .val (.int c50), .val (.int c51), .unset, .unset, .unset, .unset, .unset, .unset, .unset] [(.int (1 : Int32))])) (fun _ k => XS.iconst W0.here hx rfl (hb hby at_34) k) ?_
    obtain ⟨x52, T52, h52, k52, g52, W52, E52, A52, st52⟩ := own_newP W0 hx (aty := .char) (w1 C) (g := (mkF m 35 #[.val (.int p1), .val (.int p2), .val (.int p3), .val (.int p4), .val (.int p5), .val (.int p6), .val (.int (2 : Int32)), .val (.int c49), .val (.int c50), .val (.int c51), .unset, .unset, .unset, .unset, .unset, .unset, .unset] [(.int (1 : Int32))])) rfl (hb hby at_35) rfl (by decide) (cap := 1) (by decide) (nle rfl) (nle rfl) (nle rfl)
    have z53 : h0.size ≤ h52.size := E52.1
    have l52 : @LT.lt Nat _ x52 h52.size := A52.lt
    have V52 : Arv Z h52 x52 k52 .char (1 : Int32) [(.int (0 : Int32))] (.int (0 : Int32)) := A52.pad (pad_rep [] (.int (0 : Int32)) 1)
    refine go (g' := (mkF m 37 #[.val (.int p1), .val (.int p2), .val (.int p3), .val (.int p4), .val (.int p5), .val (.int p6), .val (.int (2 : Int32)), .val (.int c49), .val (.int c50), .val (.int c51), .unset, .unset, .unset, .unset, .unset, .unset, .unset] [(.ref x52)])) (st52) ?_
    refine go (g' := (mkF m 39 #[.val (.int p1), .val (.int p2), .val (.int p3), .val (.int p4), .val (.int p5), .val (.int p6), .val (.int (2 : Int32)), .val (.int c49), .val (.int c50), .val (.int c51), .val (.ref x52), .unset, .unset, .unset, .unset, .unset, .unset] [])) (fun _ k => XS.astore W52.here hx rfl (hb hby at_37) rfl rfl (l' := #[.val (.int p1), .val (.int p2), .val (.int p3), .val (.int p4), .val (.int p5), .val (.int p6), .val (.int (2 : Int32)), .val (.int c49), .val (.int c50), .val (.int c51), .val (.ref x52), .unset, .unset, .unset, .unset, .unset, .unset]) rfl k) ?_
    refine go (g' := (mkF m 41 #[.val (.int p1), .val (.int p2), .val (.int p3), .val (.int p4), .val (.int p5), .val (.int p6), .val (.int (2 : Int32)), .val (.int c49), .val (.int c50), .val (.int c51), .val (.ref x52), .unset, .unset, .unset, .unset, .unset, .unset] [(.ref x52)])) (fun _ k => XS.aload W52.here hx rfl (hb hby at_39) rfl rfl k) ?_
    refine go (g' := (mkF m 42 #[.val (.int p1), .val (.int p2), .val (.int p3), .val (.int p4), .val (.int p5), .val (.int p6), .val (.int (2 : Int32)), .val (.int c49), .val (.int c50), .val (.int c51), .val (.ref x52), .unset, .unset, .unset, .unset, .unset, .unset] [(.int (0 : Int32)), (.ref x52)])) (fun _ k => XS.iconst W52.here hx rfl (hb hby at_41) k) ?_
    refine go (g' := (mkF m 44 #[.val (.int p1), .val (.int p2), .val (.int p3), .val (.int p4), .val (.int p5), .val (.int p6), .val (.int (2 : Int32)), .val (.int c49), .val (.int c50), .val (.int c51), .val (.ref x52), .unset, .unset, .unset, .unset, .unset, .unset] [(.int c49), (.int (0 : Int32)), (.ref x52)])) (fun _ k => XS.iload W52.here hx rfl (hb hby at_42) rfl k) ?_
    obtain ⟨T54, h54, W54, R54, V54, st54⟩ := own_stC W52 hx V52 (by omega) (j := (0 : Int32)) (i := 0) ⟨by decide, by decide⟩ rfl (Nat.le_of_ble_eq_true rfl) (own_up yc49) (g := (mkF m 44 #[.val (.int p1), .val (.int p2), .val (.int p3), .val (.int p4), .val (.int p5), .val (.int p6), .val (.int (2 : Int32)), .val (.int c49), .val (.int c50), .val (.int c51), .val (.ref x52), .unset, .unset, .unset, .unset, .unset, .unset] [(.int c49), (.int (0 : Int32)), (.ref x52)])) rfl rfl (hb hby at_44)
    have z55 : h54.size = h52.size := R54.size
    have U54 : Arv Z h54 x52 k52 .char (1 : Int32) [(.int c49)] (.int (0 : Int32)) := V54
    refine go (g' := (mkF m 45 #[.val (.int p1), .val (.int p2), .val (.int p3), .val (.int p4), .val (.int p5), .val (.int p6), .val (.int (2 : Int32)), .val (.int c49), .val (.int c50), .val (.int c51), .val (.ref x52), .unset, .unset, .unset, .unset, .unset, .unset] [])) (st54) ?_
    refine go (g' := (mkF m 46 #[.val (.int p1), .val (.int p2), .val (.int p3), .val (.int p4), .val (.int p5), .val (.int p6), .val (.int (2 : Int32)), .val (.int c49), .val (.int c50), .val (.int c51), .val (.ref x52), .unset, .unset, .unset, .unset, .unset, .unset] [(.int (2 : Int32))])) (fun _ k => XS.iconst W54.here hx rfl (hb hby at_45) k) ?_
    obtain ⟨x56, T56, h56, k56, g56, W56, E56, A56, st56⟩ := own_newP W54 hx (aty := .char) (w1 C) (g := (mkF m 46 #[.val (.int p1), .val (.int p2), .val (.int p3), .val (.int p4), .val (.int p5), .val (.int p6), .val (.int (2 : Int32)), .val (.int c49), .val (.int c50), .val (.int c51), .val (.ref x52), .unset, .unset, .unset, .unset, .unset, .unset] [(.int (2 : Int32))])) rfl (hb hby at_46) rfl (by decide) (cap := 2) (by decide) (nle rfl) (nle rfl) (nle rfl)
    have z57 : h54.size ≤ h56.size := E56.1
    have l56 : @LT.lt Nat _ x56 h56.size := A56.lt
    have V56 : Arv Z h56 x56 k56 .char (2 : Int32) [(.int (0 : Int32)), (.int (0 : Int32))] (.int (0 : Int32)) := A56.pad (pad_rep [] (.int (0 : Int32)) 2)
    refine go (g' := (mkF m 48 #[.val (.int p1), .val (.int p2), .val (.int p3), .val (.int p4), .val (.int p5), .val (.int p6), .val (.int (2 : Int32)), .val (.int c49), .val (.int c50), .val (.int c51), .val (.ref x52), .unset, .unset, .unset, .unset, .unset, .unset] [(.ref x56)])) (st56) ?_
    refine go (g' := (mkF m 50 #[.val (.int p1), .val (.int p2), .val (.int p3), .val (.int p4), .val (.int p5), .val (.int p6), .val (.int (2 : Int32)), .val (.int c49), .val (.int c50), .val (.int c51), .val (.ref x52), .val (.ref x56), .unset, .unset, .unset, .unset, .unset] [])) (fun _ k => XS.astore W56.here hx rfl (hb hby at_48) rfl rfl (l' := #[.val (.int p1), .val (.int p2), .val (.int p3), .val (.int p4), .val (.int p5), .val (.int p6), .val (.int (2 : Int32)), .val (.int c49), .val (.int c50), .val (.int c51), .val (.ref x52), .val (.ref x56), .unset, .unset, .unset, .unset, .unset]) rfl k) ?_
    refine go (g' := (mkF m 52 #[.val (.int p1), .val (.int p2), .val (.int p3), .val (.int p4), .val (.int p5), .val (.int p6), .val (.int (2 : Int32)), .val (.int c49), .val (.int c50), .val (.int c51), .val (.ref x52), .val (.ref x56), .unset, .unset, .unset, .unset, .unset] [(.ref x56)])) (fun _ k => XS.aload W56.here hx rfl (hb hby at_50) rfl rfl k) ?_
    refine go (g' := (mkF m 53 #[.val (.int p1), .val (.int p2), .val (.int p3), .val (.int p4), .val (.int p5), .val (.int p6), .val (.int (2 : Int32)), .val (.int c49), .val (.int c50), .val (.int c51), .val (.ref x52), .val (.ref x56), .unset, .unset, .unset, .unset, .unset] [(.int (0 : Int32)), (.ref x56)])) (fun _ k => XS.iconst W56.here hx rfl (hb hby at_52) k) ?_
    refine go (g' := (mkF m 55 #[.val (.int p1), .val (.int p2), .val (.int p3), .val (.int p4), .val (.int p5), .val (.int p6), .val (.int (2 : Int32)), .val (.int c49), .val (.int c50), .val (.int c51), .val (.ref x52), .val (.ref x56), .unset, .unset, .unset, .unset, .unset] [(.int c49), (.int (0 : Int32)), (.ref x56)])) (fun _ k => XS.iload W56.here hx rfl (hb hby at_53) rfl k) ?_
    obtain ⟨T58, h58, W58, R58, V58, st58⟩ := own_stC W56 hx V56 (by omega) (j := (0 : Int32)) (i := 0) ⟨by decide, by decide⟩ rfl (Nat.le_of_ble_eq_true rfl) (own_up yc49) (g := (mkF m 55 #[.val (.int p1), .val (.int p2), .val (.int p3), .val (.int p4), .val (.int p5), .val (.int p6), .val (.int (2 : Int32)), .val (.int c49), .val (.int c50), .val (.int c51), .val (.ref x52), .val (.ref x56), .unset, .unset, .unset, .unset, .unset] [(.int c49), (.int (0 : Int32)), (.ref x56)])) rfl rfl (hb hby at_55)
    have z59 : h58.size = h56.size := R58.size
    have U58 : Arv Z h58 x56 k56 .char (2 : Int32) [(.int c49), (.int (0 : Int32))] (.int (0 : Int32)) := V58
    refine go (g' := (mkF m 56 #[.val (.int p1), .val (.int p2), .val (.int p3), .val (.int p4), .val (.int p5), .val (.int p6), .val (.int (2 : Int32)), .val (.int c49), .val (.int c50), .val (.int c51), .val (.ref x52), .val (.ref x56), .unset, .unset, .unset, .unset, .unset] [])) (st58) ?_
    refine go (g' := (mkF m 58 #[.val (.int p1), .val (.int p2), .val (.int p3), .val (.int p4), .val (.int p5), .val (.int p6), .val (.int (2 : Int32)), .val (.int c49), .val (.int c50), .val (.int c51), .val (.ref x52), .val (.ref x56), .unset, .unset, .unset, .unset, .unset] [(.ref x56)])) (fun _ k => XS.aload W58.here hx rfl (hb hby at_56) rfl rfl k) ?_
    refine go (g' := (mkF m 59 #[.val (.int p1), .val (.int p2), .val (.int p3), .val (.int p4), .val (.int p5), .val (.int p6), .val (.int (2 : Int32)), .val (.int c49), .val (.int c50), .val (.int c51), .val (.ref x52), .val (.ref x56), .unset, .unset, .unset, .unset, .unset] [(.int (1 : Int32)), (.ref x56)])) (fun _ k => XS.iconst W58.here hx rfl (hb hby at_58) k) ?_
    refine go (g' := (mkF m 61 #[.val (.int p1), .val (.int p2), .val (.int p3), .val (.int p4), .val (.int p5), .val (.int p6), .val (.int (2 : Int32)), .val (.int c49), .val (.int c50), .val (.int c51), .val (.ref x52), .val (.ref x56), .unset, .unset, .unset, .unset, .unset] [(.int c50), (.int (1 : Int32)), (.ref x56)])) (fun _ k => XS.iload W58.here hx rfl (hb hby at_59) rfl k) ?_
    obtain ⟨T60, h60, W60, R60, V60, st60⟩ := own_stC W58 hx U58 (by omega) (j := (1 : Int32)) (i := 1) ⟨by decide, by decide⟩ rfl (Nat.le_of_ble_eq_true rfl) (own_up yc50) (g := (mkF m 61 #[.val (.int p1), .val (.int p2), .val (.int p3), .val (.int p4), .val (.int p5), .val (.int p6), .val (.int (2 : Int32)), .val (.int c49), .val (.int c50), .val (.int c51), .val (.ref x52), .val (.ref x56), .unset, .unset, .unset, .unset, .unset] [(.int c50), (.int (1 : Int32)), (.ref x56)])) rfl rfl (hb hby at_61)
    have z61 : h60.size = h58.size := R60.size
    have U60 : Arv Z h60 x56 k56 .char (2 : Int32) [(.int c49), (.int c50)] (.int (0 : Int32)) := V60
    refine go (g' := (mkF m 62 #[.val (.int p1), .val (.int p2), .val (.int p3), .val (.int p4), .val (.int p5), .val (.int p6), .val (.int (2 : Int32)), .val (.int c49), .val (.int c50), .val (.int c51), .val (.ref x52), .val (.ref x56), .unset, .unset, .unset, .unset, .unset] [])) (st60) ?_
    refine go (g' := (mkF m 63 #[.val (.int p1), .val (.int p2), .val (.int p3), .val (.int p4), .val (.int p5), .val (.int p6), .val (.int (2 : Int32)), .val (.int c49), .val (.int c50), .val (.int c51), .val (.ref x52), .val (.ref x56), .unset, .unset, .unset, .unset, .unset] [(.int (3 : Int32))])) (fun _ k => XS.iconst W60.here hx rfl (hb hby at_62) k) ?_
    obtain ⟨x62, T62, h62, k62, g62, W62, E62, A62, st62⟩ := own_newP W60 hx (aty := .char) (w1 C) (g := (mkF m 63 #[.val (.int p1), .val (.int p2), .val (.int p3), .val (.int p4), .val (.int p5), .val (.int p6), .val (.int (2 : Int32)), .val (.int c49), .val (.int c50), .val (.int c51), .val (.ref x52), .val (.ref x56), .unset, .unset, .unset, .unset, .unset] [(.int (3 : Int32))])) rfl (hb hby at_63) rfl (by decide) (cap := 3) (by decide) (nle rfl) (nle rfl) (nle rfl)
    have z63 : h60.size ≤ h62.size := E62.1
    have l62 : @LT.lt Nat _ x62 h62.size := A62.lt
    have V62 : Arv Z h62 x62 k62 .char (3 : Int32) [(.int (0 : Int32)), (.int (0 : Int32)), (.int (0 : Int32))] (.int (0 : Int32)) := A62.pad (pad_rep [] (.int (0 : Int32)) 3)
    refine go (g' := (mkF m 65 #[.val (.int p1), .val (.int p2), .val (.int p3), .val (.int p4), .val (.int p5), .val (.int p6), .val (.int (2 : Int32)), .val (.int c49), .val (.int c50), .val (.int c51), .val (.ref x52), .val (.ref x56), .unset, .unset, .unset, .unset, .unset] [(.ref x62)])) (st62) ?_
    refine go (g' := (mkF m 67 #[.val (.int p1), .val (.int p2), .val (.int p3), .val (.int p4), .val (.int p5), .val (.int p6), .val (.int (2 : Int32)), .val (.int c49), .val (.int c50), .val (.int c51), .val (.ref x52), .val (.ref x56), .val (.ref x62), .unset, .unset, .unset, .unset] [])) (fun _ k => XS.astore W62.here hx rfl (hb hby at_65) rfl rfl (l' := #[.val (.int p1), .val (.int p2), .val (.int p3), .val (.int p4), .val (.int p5), .val (.int p6), .val (.int (2 : Int32)), .val (.int c49), .val (.int c50), .val (.int c51), .val (.ref x52), .val (.ref x56), .val (.ref x62), .unset, .unset, .unset, .unset]) rfl k) ?_
    refine go (g' := (mkF m 69 #[.val (.int p1), .val (.int p2), .val (.int p3), .val (.int p4), .val (.int p5), .val (.int p6), .val (.int (2 : Int32)), .val (.int c49), .val (.int c50), .val (.int c51), .val (.ref x52), .val (.ref x56), .val (.ref x62), .unset, .unset, .unset, .unset] [(.ref x62)])) (fun _ k => XS.aload W62.here hx rfl (hb hby at_67) rfl rfl k) ?_
    refine go (g' := (mkF m 70 #[.val (.int p1), .val (.int p2), .val (.int p3), .val (.int p4), .val (.int p5), .val (.int p6), .val (.int (2 : Int32)), .val (.int c49), .val (.int c50), .val (.int c51), .val (.ref x52), .val (.ref x56), .val (.ref x62), .unset, .unset, .unset, .unset] [(.int (0 : Int32)), (.ref x62)])) (fun _ k => XS.iconst W62.here hx rfl (hb hby at_69) k) ?_
    refine go (g' := (mkF m 72 #[.val (.int p1), .val (.int p2), .val (.int p3), .val (.int p4), .val (.int p5), .val (.int p6), .val (.int (2 : Int32)), .val (.int c49), .val (.int c50), .val (.int c51), .val (.ref x52), .val (.ref x56), .val (.ref x62), .unset, .unset, .unset, .unset] [(.int c49), (.int (0 : Int32)), (.ref x62)])) (fun _ k => XS.iload W62.here hx rfl (hb hby at_70) rfl k) ?_
    obtain ⟨T64, h64, W64, R64, V64, st64⟩ := own_stC W62 hx V62 (by omega) (j := (0 : Int32)) (i := 0) ⟨by decide, by decide⟩ rfl (Nat.le_of_ble_eq_true rfl) (own_up yc49) (g := (mkF m 72 #[.val (.int p1), .val (.int p2), .val (.int p3), .val (.int p4), .val (.int p5), .val (.int p6), .val (.int (2 : Int32)), .val (.int c49), .val (.int c50), .val (.int c51), .val (.ref x52), .val (.ref x56), .val (.ref x62), .unset, .unset, .unset, .unset] [(.int c49), (.int (0 : Int32)), (.ref x62)])) rfl rfl (hb hby at_72)
    have z65 : h64.size = h62.size := R64.size
    have U64 : Arv Z h64 x62 k62 .char (3 : Int32) [(.int c49), (.int (0 : Int32)), (.int (0 : Int32))] (.int (0 : Int32)) := V64
    refine go (g' := (mkF m 73 #[.val (.int p1), .val (.int p2), .val (.int p3), .val (.int p4), .val (.int p5), .val (.int p6), .val (.int (2 : Int32)), .val (.int c49), .val (.int c50), .val (.int c51), .val (.ref x52), .val (.ref x56), .val (.ref x62), .unset, .unset, .unset, .unset] [])) (st64) ?_
    refine go (g' := (mkF m 75 #[.val (.int p1), .val (.int p2), .val (.int p3), .val (.int p4), .val (.int p5), .val (.int p6), .val (.int (2 : Int32)), .val (.int c49), .val (.int c50), .val (.int c51), .val (.ref x52), .val (.ref x56), .val (.ref x62), .unset, .unset, .unset, .unset] [(.ref x62)])) (fun _ k => XS.aload W64.here hx rfl (hb hby at_73) rfl rfl k) ?_
    refine go (g' := (mkF m 76 #[.val (.int p1), .val (.int p2), .val (.int p3), .val (.int p4), .val (.int p5), .val (.int p6), .val (.int (2 : Int32)), .val (.int c49), .val (.int c50), .val (.int c51), .val (.ref x52), .val (.ref x56), .val (.ref x62), .unset, .unset, .unset, .unset] [(.int (1 : Int32)), (.ref x62)])) (fun _ k => XS.iconst W64.here hx rfl (hb hby at_75) k) ?_
    refine go (g' := (mkF m 78 #[.val (.int p1), .val (.int p2), .val (.int p3), .val (.int p4), .val (.int p5), .val (.int p6), .val (.int (2 : Int32)), .val (.int c49), .val (.int c50), .val (.int c51), .val (.ref x52), .val (.ref x56), .val (.ref x62), .unset, .unset, .unset, .unset] [(.int c50), (.int (1 : Int32)), (.ref x62)])) (fun _ k => XS.iload W64.here hx rfl (hb hby at_76) rfl k) ?_
    obtain ⟨T66, h66, W66, R66, V66, st66⟩ := own_stC W64 hx U64 (by omega) (j := (1 : Int32)) (i := 1) ⟨by decide, by decide⟩ rfl (Nat.le_of_ble_eq_true rfl) (own_up yc50) (g := (mkF m 78 #[.val (.int p1), .val (.int p2), .val (.int p3), .val (.int p4), .val (.int p5), .val (.int p6), .val (.int (2 : Int32)), .val (.int c49), .val (.int c50), .val (.int c51), .val (.ref x52), .val (.ref x56), .val (.ref x62), .unset, .unset, .unset, .unset] [(.int c50), (.int (1 : Int32)), (.ref x62)])) rfl rfl (hb hby at_78)
    have z67 : h66.size = h64.size := R66.size
    have U66 : Arv Z h66 x62 k62 .char (3 : Int32) [(.int c49), (.int c50), (.int (0 : Int32))] (.int (0 : Int32)) := V66
    refine go (g' := (mkF m 79 #[.val (.int p1), .val (.int p2), .val (.int p3), .val (.int p4), .val (.int p5), .val (.int p6), .val (.int (2 : Int32)), .val (.int c49), .val (.int c50), .val (.int c51), .val (.ref x52), .val (.ref x56), .val (.ref x62), .unset, .unset, .unset, .unset] [])) (st66) ?_
    refine go (g' := (mkF m 81 #[.val (.int p1), .val (.int p2), .val (.int p3), .val (.int p4), .val (.int p5), .val (.int p6), .val (.int (2 : Int32)), .val (.int c49), .val (.int c50), .val (.int c51), .val (.ref x52), .val (.ref x56), .val (.ref x62), .unset, .unset, .unset, .unset] [(.ref x62)])) (fun _ k => XS.aload W66.here hx rfl (hb hby at_79) rfl rfl k) ?_
    refine go (g' := (mkF m 82 #[.val (.int p1), .val (.int p2), .val (.int p3), .val (.int p4), .val (.int p5), .val (.int p6), .val (.int (2 : Int32)), .val (.int c49), .val (.int c50), .val (.int c51), .val (.ref x52), .val (.ref x56), .val (.ref x62), .unset, .unset, .unset, .unset] [(.int (2 : Int32)), (.ref x62)])) (fun _ k => XS.iconst W66.here hx rfl (hb hby at_81) k) ?_
    refine go (g' := (mkF m 84 #[.val (.int p1), .val (.int p2), .val (.int p3), .val (.int p4), .val (.int p5), .val (.int p6), .val (.int (2 : Int32)), .val (.int c49), .val (.int c50), .val (.int c51), .val (.ref x52), .val (.ref x56), .val (.ref x62), .unset, .unset, .unset, .unset] [(.int c51), (.int (2 : Int32)), (.ref x62)])) (fun _ k => XS.iload W66.here hx rfl (hb hby at_82) rfl k) ?_
    obtain ⟨T68, h68, W68, R68, V68, st68⟩ := own_stC W66 hx U66 (by omega) (j := (2 : Int32)) (i := 2) ⟨by decide, by decide⟩ rfl (Nat.le_of_ble_eq_true rfl) (own_up yc51) (g := (mkF m 84 #[.val (.int p1), .val (.int p2), .val (.int p3), .val (.int p4), .val (.int p5), .val (.int p6), .val (.int (2 : Int32)), .val (.int c49), .val (.int c50), .val (.int c51), .val (.ref x52), .val (.ref x56), .val (.ref x62), .unset, .unset, .unset, .unset] [(.int c51), (.int (2 : Int32)), (.ref x62)])) rfl rfl (hb hby at_84)
    have z69 : h68.size = h66.size := R68.size
    have U68 : Arv Z h68 x62 k62 .char (3 : Int32) [(.int c49), (.int c50), (.int c51)] (.int (0 : Int32)) := V68
    refine go (g' := (mkF m 85 #[.val (.int p1), .val (.int p2), .val (.int p3), .val (.int p4), .val (.int p5), .val (.int p6), .val (.int (2 : Int32)), .val (.int c49), .val (.int c50), .val (.int c51), .val (.ref x52), .val (.ref x56), .val (.ref x62), .unset, .unset, .unset, .unset] [])) (st68) ?_
    refine go (g' := (mkF m 87 #[.val (.int p1), .val (.int p2), .val (.int p3), .val (.int p4), .val (.int p5), .val (.int p6), .val (.int (2 : Int32)), .val (.int c49), .val (.int c50), .val (.int c51), .val (.ref x52), .val (.ref x56), .val (.ref x62), .unset, .unset, .unset, .unset] [(.int (2 : Int32))])) (fun _ k => XS.iload W68.here hx rfl (hb hby at_85) rfl k) ?_
    refine go (g' := (mkF m 88 #[.val (.int p1), .val (.int p2), .val (.int p3), .val (.int p4), .val (.int p5), .val (.int p6), .val (.int (2 : Int32)), .val (.int c49), .val (.int c50), .val (.int c51), .val (.ref x52), .val (.ref x56), .val (.ref x62), .unset, .unset, .unset, .unset] [(.int (1 : Int32)), (.int (2 : Int32))])) (fun _ k => XS.iconst W68.here hx rfl (hb hby at_87) k) ?_
    refine go (g' := (mkF m 103 #[.val (.int p1), .val (.int p2), .val (.int p3), .val (.int p4), .val (.int p5), .val (.int p6), .val (.int (2 : Int32)), .val (.int c49), .val (.int c50), .val (.int c51), .val (.ref x52), .val (.ref x56), .val (.ref x62), .unset, .unset, .unset, .unset] [])) (fun _ k => XS.icmpYes W68.here hx rfl (pc0 := 88) (pc' := 103) rfl (hb hby at_88) rfl (feq ((by decide) : ¬ ((2 : Int32) = (1 : Int32)))).2 (by decide) (by decide) k) ?_
    refine go (g' := (mkF m 105 #[.val (.int p1), .val (.int p2), .val (.int p3), .val (.int p4), .val (.int p5), .val (.int p6), .val (.int (2 : Int32)), .val (.int c49), .val (.int c50), .val (.int c51), .val (.ref x52), .val (.ref x56), .val (.ref x62), .unset, .unset, .unset, .unset] [(.int (2 : Int32))])) (fun _ k => XS.iload W68.here hx rfl (hb hby at_103) rfl k) ?_
    refine go (g' := (mkF m 106 #[.val (.int p1), .val (.int p2), .val (.int p3), .val (.int p4), .val (.int p5), .val (.int p6), .val (.int (2 : Int32)), .val (.int c49), .val (.int c50), .val (.int c51), .val (.ref x52), .val (.ref x56), .val (.ref x62), .unset, .unset, .unset, .unset] [(.int (2 : Int32)), (.int (2 : Int32))])) (fun _ k => XS.iconst W68.here hx rfl (hb hby at_105) k) ?_
    refine go (g' := (mkF m 109 #[.val (.int p1), .val (.int p2), .val (.int p3), .val (.int p4), .val (.int p5), .val (.int p6), .val (.int (2 : Int32)), .val (.int c49), .val (.int c50), .val (.int c51), .val (.ref x52), .val (.ref x56), .val (.ref x62), .unset, .unset, .unset, .unset] [])) (fun _ k => XS.icmpNo W68.here hx rfl (hb hby at_106) rfl (teq ((by decide) : (2 : Int32) = (2 : Int32))).2 k) ?_
    obtain ⟨x70, T70, h70, g70, W70, E70, A70, D70, U70, st70⟩ := own_new W68 hx (w2 C) (w3 C) (w4 C) (g := (mkF m 109 #[.val (.int p1), .val (.int p2), .val (.int p3), .val (.int p4), .val (.int p5), .val (.int p6), .val (.int (2 : Int32)), .val (.int c49), .val (.int c50), .val (.int c51), .val (.ref x52), .val (.ref x56), .val (.ref x62), .unset, .unset, .unset, .unset] [])) rfl (hb hby at_109) (nle rfl) (nle rfl)
    have z71 : h68.size ≤ h70.size := E70.1
    have l70 : @LT.lt Nat _ x70 h70.size := A70.lt
    have F70_coder : Fld Z h70 x70 "java/lang/String" "coder" "B" (.int (0 : Int32)) := D70 (Or.inr (w28 C)) (ty := .byte) (by decide)
    have F70_value : Fld Z h70 x70 "java/lang/String" "value" "[B" .null := D70 (Or.inr (w30 C)) (ty := (.array .byte)) (by decide)
    refine go (g' := (mkF m 112 #[.val (.int p1), .val (.int p2), .val (.int p3), .val (.int p4), .val (.int p5), .val (.int p6), .val (.int (2 : Int32)), .val (.int c49), .val (.int c50), .val (.int c51), .val (.ref x52), .val (.ref x56), .val (.ref x62), .unset, .unset, .unset, .unset] [(.ref x70)])) (st70) ?_
    refine go (g' := (mkF m 113 #[.val (.int p1), .val (.int p2), .val (.int p3), .val (.int p4), .val (.int p5), .val (.int p6), .val (.int (2 : Int32)), .val (.int c49), .val (.int c50), .val (.int c51), .val (.ref x52), .val (.ref x56), .val (.ref x62), .unset, .unset, .unset, .unset] [(.ref x70), (.ref x70)])) (fun _ k => XS.dup W70.here hx rfl (hb hby at_112) rfl rfl k) ?_
    refine go (g' := (mkF m 115 #[.val (.int p1), .val (.int p2), .val (.int p3), .val (.int p4), .val (.int p5), .val (.int p6), .val (.int (2 : Int32)), .val (.int c49), .val (.int c50), .val (.int c51), .val (.ref x52), .val (.ref x56), .val (.ref x62), .unset, .unset, .unset, .unset] [(.ref x56), (.ref x70), (.ref x70)])) (fun _ k => XS.aload W70.here hx rfl (hb hby at_113) rfl rfl k) ?_
    have X73 : Ext h68 h70 := own_xt (own_xr h68) E70
    have X74 : Ext h60 h62 := own_xt (own_xr h60) E62
    have X75 : Ext h60 h64 := own_xw X74 R64 (by omega)
    have X76 : Ext h60 h66 := own_xw X75 R66 (by omega)
    have X77 : Ext h60 h68 := own_xw X76 R68 (by omega)
    have X78 : Ext h60 h70 := own_xt X77 E70
    have f79 : Arv Z h70 x56 k56 .char (2 : Int32) [(.int c49), (.int c50)] (.int (0 : Int32)) := U60.ext X78
    obtain ⟨T72, h72, W72, K72, S72, st72⟩ := own_strNew W70 hx (own_ws C) (w5 C) (w6 C) (w7 C) (w3 C) A70 F70_value F70_coder (cs := [c49, c50]) f79 rfl C.cs (nle rfl) (nle rfl) (own_alS yc49 (own_alS yc50 own_al0)) (own_safeB W68 X73 (by omega)) (by omega) (Wd := 1) (nle rfl) (nle rfl) (nle rfl) (nle rfl) (g := (mkF m 115 #[.val (.int p1), .val (.int p2), .val (.int p3), .val (.int p4), .val (.int p5), .val (.int p6), .val (.int (2 : Int32)), .val (.int c49), .val (.int c50), .val (.int c51), .val (.ref x52), .val (.ref x56), .val (.ref x62), .unset, .unset, .unset, .unset] [(.ref x56), (.ref x70), (.ref x70)])) rfl (by rw [hml]; rfl) rfl (by show 2 * 0 + _ ≤ _; exact Nat.le_of_eq rfl) (hb hby at_115)
    have z80 : h70.size ≤ h72.size := K72.1
    refine go (g' := (mkF m 118 #[.val (.int p1), .val (.int p2), .val (.int p3), .val (.int p4), .val (.int p5), .val (.int p6), .val (.int (2 : Int32)), .val (.int c49), .val (.int c50), .val (.int c51), .val (.ref x52), .val (.ref x56), .val (.ref x62), .unset, .unset, .unset, .unset] [(.ref x70)])) (st72) ?_
    refine go (g' := (mkF m 130 #[.val (.int p1), .val (.int p2), .val (.int p3), .val (.int p4), .val (.int p5), .val (.int p6), .val (.int (2 : Int32)), .val (.int c49), .val (.int c50), .val (.int c51), .val (.ref x52), .val (.ref x56), .val (.ref x62), .unset, .unset, .unset, .unset] [(.ref x70)])) (fun _ k => XS.goto W72.here hx rfl (pc0 := 118) (pc' := 130) rfl (hb hby at_118) (by decide) (by decide) k) ?_
    refine go (g' := (mkF m 132 #[.val (.int p1), .val (.int p2), .val (.int p3), .val (.int p4), .val (.int p5), .val (.int p6), .val (.int (2 : Int32)), .val (.int c49), .val (.int c50), .val (.int c51), .val (.ref x52), .val (.ref x56), .val (.ref x62), .val (.ref x70), .unset, .unset, .unset] [])) (fun _ k => XS.astore W72.here hx rfl (hb hby at_130) rfl rfl (l' := #[.val (.int p1), .val (.int p2), .val (.int p3), .val (.int p4), .val (.int p5), .val (.int p6), .val (.int (2 : Int32)), .val (.int c49), .val (.int c50), .val (.int c51), .val (.ref x52), .val (.ref x56), .val (.ref x62), .val (.ref x70), .unset, .unset, .unset]) rfl k) ?_
    refine go (g' := (mkF m 134 #[.val (.int p1), .val (.int p2), .val (.int p3), .val (.int p4), .val (.int p5), .val (.int p6), .val (.int (2 : Int32)), .val (.int c49), .val (.int c50), .val (.int c51), .val (.ref x52), .val (.ref x56), .val (.ref x62), .val (.ref x70), .unset, .unset, .unset] [(.int p5)])) (fun _ k => XS.iload W72.here hx rfl (hb hby at_132) rfl k) ?_
    refine go (g' := (mkF m 137 #[.val (.int p1), .val (.int p2), .val (.int p3), .val (.int p4), .val (.int p5), .val (.int p6), .val (.int (2 : Int32)), .val (.int c49), .val (.int c50), .val (.int c51), .val (.ref x52), .val (.ref x56), .val (.ref x62), .val (.ref x70), .unset, .unset, .unset] [(.int (255 : Int32)), (.int p5)])) (fun _ k => XS.sipush W72.here hx rfl (hb hby at_134) k) ?_
    refine go (g' := (mkF m 138 #[.val (.int p1), .val (.int p2), .val (.int p3), .val (.int p4), .val (.int p5), .val (.int p6), .val (.int (2 : Int32)), .val (.int c49), .val (.int c50), .val (.int c51), .val (.ref x52), .val (.ref x56), .val (.ref x62), .val (.ref x70), .unset, .unset, .unset] [(.int (p5 &&& (255 : Int32)))])) (fun _ k => XS.iand W72.here hx rfl (hb hby at_137) rfl k) ?_
    refine go (g' := (mkF m 139 #[.val (.int p1), .val (.int p2), .val (.int p3), .val (.int p4), .val (.int p5), .val (.int p6), .val (.int (2 : Int32)), .val (.int c49), .val (.int c50), .val (.int c51), .val (.ref x52), .val (.ref x56), .val (.ref x62), .val (.ref x70), .unset, .unset, .unset] [(.int ((p5 &&& (255 : Int32)).toUInt32.toUInt16.toUInt32.toInt32))])) (fun _ k => XS.i2c W72.here hx rfl (hb hby at_138) rfl k) ?_
    obtain ⟨v81, so81, vm81, T81, h81, W81, C81, q81, hso81, st81⟩ := own_static W72 hx (y := (⟨"java/lang/String", "valueOf", "(C)Ljava/lang/String;"⟩ : MethodName)) (w31 C) (w32 C) (w4 C) (w33 C) (by decide) (rm_valof C h72 ((p5 &&& (255 : Int32)).toUInt32.toUInt16.toUInt32.toInt32) (own_c255 _)) (fun _ q => nomatch q) (Wd := 0) (nle rfl) (nle rfl) (nle rfl) (nle rfl) (g := (mkF m 139 #[.val (.int p1), .val (.int p2), .val (.int p3), .val (.int p4), .val (.int p5), .val (.int p6), .val (.int (2 : Int32)), .val (.int c49), .val (.int c50), .val (.int c51), .val (.ref x52), .val (.ref x56), .val (.ref x62), .val (.ref x70), .unset, .unset, .unset] [(.int ((p5 &&& (255 : Int32)).toUInt32.toUInt16.toUInt32.toInt32))])) rfl (by rw [hml]; rfl) (argsL := [(.int ((p5 &&& (255 : Int32)).toUInt32.toUInt16.toUInt32.toInt32))]) (rest := []) (lenOf pd_3 rfl) rfl rfl (by show 2 * 0 + _ ≤ _; exact Nat.le_of_eq rfl) (hb hby at_139)
    obtain ⟨x81, rfl, E81, g81, S81⟩ := q81
    have z82 : h72.size ≤ h81.size := E81.1
    refine go (g' := (mkF m 142 #[.val (.int p1), .val (.int p2), .val (.int p3), .val (.int p4), .val (.int p5), .val (.int p6), .val (.int (2 : Int32)), .val (.int c49), .val (.int c50), .val (.int c51), .val (.ref x52), .val (.ref x56), .val (.ref x62), .val (.ref x70), .unset, .unset, .unset] [(.ref x81)])) (st81) ?_
    refine go (g' := (mkF m 144 #[.val (.int p1), .val (.int p2), .val (.int p3), .val (.int p4), .val (.int p5), .val (.int p6), .val (.int (2 : Int32)), .val (.int c49), .val (.int c50), .val (.int c51), .val (.ref x52), .val (.ref x56), .val (.ref x62), .val (.ref x70), .val (.ref x81), .unset, .unset] [])) (fun _ k => XS.astore W81.here hx rfl (hb hby at_142) rfl rfl (l' := #[.val (.int p1), .val (.int p2), .val (.int p3), .val (.int p4), .val (.int p5), .val (.int p6), .val (.int (2 : Int32)), .val (.int c49), .val (.int c50), .val (.int c51), .val (.ref x52), .val (.ref x56), .val (.ref x62), .val (.ref x70), .val (.ref x81), .unset, .unset]) rfl k) ?_
    refine go (g' := (mkF m 146 #[.val (.int p1), .val (.int p2), .val (.int p3), .val (.int p4), .val (.int p5), .val (.int p6), .val (.int (2 : Int32)), .val (.int c49), .val (.int c50), .val (.int c51), .val (.ref x52), .val (.ref x56), .val (.ref x62), .val (.ref x70), .val (.ref x81), .unset, .unset] [(.int p6)])) (fun _ k => XS.iload W81.here hx rfl (hb hby at_144) rfl k) ?_
    refine go (g' := (mkF m 149 #[.val (.int p1), .val (.int p2), .val (.int p3), .val (.int p4), .val (.int p5), .val (.int p6), .val (.int (2 : Int32)), .val (.int c49), .val (.int c50), .val (.int c51), .val (.ref x52), .val (.ref x56), .val (.ref x62), .val (.ref x70), .val (.ref x81), .unset, .unset] [(.int (255 : Int32)), (.int p6)])) (fun _ k => XS.sipush W81.here hx rfl (hb hby at_146) k) ?_
    refine go (g' := (mkF m 150 #[.val (.int p1), .val (.int p2), .val (.int p3), .val (.int p4), .val (.int p5), .val (.int p6), .val (.int (2 : Int32)), .val (.int c49), .val (.int c50), .val (.int c51), .val (.ref x52), .val (.ref x56), .val (.ref x62), .val (.ref x70), .val (.ref x81), .unset, .unset] [(.int (p6 &&& (255 : Int32)))])) (fun _ k => XS.iand W81.here hx rfl (hb hby at_149) rfl k) ?_
    refine go (g' := (mkF m 151 #[.val (.int p1), .val (.int p2), .val (.int p3), .val (.int p4), .val (.int p5), .val (.int p6), .val (.int (2 : Int32)), .val (.int c49), .val (.int c50), .val (.int c51), .val (.ref x52), .val (.ref x56), .val (.ref x62), .val (.ref x70), .val (.ref x81), .unset, .unset] [(.int ((p6 &&& (255 : Int32)).toUInt32.toUInt16.toUInt32.toInt32))])) (fun _ k => XS.i2c W81.here hx rfl (hb hby at_150) rfl k) ?_
    obtain ⟨v83, so83, vm83, T83, h83, W83, C83, q83, hso83, st83⟩ := own_static W81 hx (y := (⟨"java/lang/String", "valueOf", "(C)Ljava/lang/String;"⟩ : MethodName)) (w31 C) (w32 C) (w4 C) (w33 C) (by decide) (rm_valof C h81 ((p6 &&& (255 : Int32)).toUInt32.toUInt16.toUInt32.toInt32) (own_c255 _)) (fun _ q => nomatch q) (Wd := 0) (nle rfl) (nle rfl) (nle rfl) (nle rfl) (g := (mkF m 151 #[.val (.int p1), .val (.int p2), .val (.int p3), .val (.int p4), .val (.int p5), .val (.int p6), .val (.int (2 : Int32)), .val (.int c49), .val (.int c50), .val (.int c51), .val (.ref x52), .val (.ref x56), .val (.ref x62), .val (.ref x70), .val (.ref x81), .unset, .unset] [(.int ((p6 &&& (255 : Int32)).toUInt32.toUInt16.toUInt32.toInt32))])) rfl (by rw [hml]; rfl) (argsL := [(.int ((p6 &&& (255 : Int32)).toUInt32.toUInt16.toUInt32.toInt32))]) (rest := []) (lenOf pd_3 rfl) rfl rfl (by show 2 * 0 + _ ≤ _; exact Nat.le_of_eq rfl) (hb hby at_151)
    obtain ⟨x83, rfl, E83, g83, S83⟩ := q83
    have z84 : h81.size ≤ h83.size := E83.1
    refine go (g' := (mkF m 154 #[.val (.int p1), .val (.int p2), .val (.int p3), .val (.int p4), .val (.int p5), .val (.int p6), .val (.int (2 : Int32)), .val (.int c49), .val (.int c50), .val (.int c51), .val (.ref x52), .val (.ref x56), .val (.ref x62), .val (.ref x70), .val (.ref x81), .unset, .unset] [(.ref x83)])) (st83) ?_
    refine go (g' := (mkF m 156 #[.val (.int p1), .val (.int p2), .val (.int p3), .val (.int p4), .val (.int p5), .val (.int p6), .val (.int (2 : Int32)), .val (.int c49), .val (.int c50), .val (.int c51), .val (.ref x52), .val (.ref x56), .val (.ref x62), .val (.ref x70), .val (.ref x81), .val (.ref x83), .unset] [])) (fun _ k => XS.astore W83.here hx rfl (hb hby at_154) rfl rfl (l' := #[.val (.int p1), .val (.int p2), .val (.int p3), .val (.int p4), .val (.int p5), .val (.int p6), .val (.int (2 : Int32)), .val (.int c49), .val (.int c50), .val (.int c51), .val (.ref x52), .val (.ref x56), .val (.ref x62), .val (.ref x70), .val (.ref x81), .val (.ref x83), .unset]) rfl k) ?_
    refine go (g' := (mkF m 158 #[.val (.int p1), .val (.int p2), .val (.int p3), .val (.int p4), .val (.int p5), .val (.int p6), .val (.int (2 : Int32)), .val (.int c49), .val (.int c50), .val (.int c51), .val (.ref x52), .val (.ref x56), .val (.ref x62), .val (.ref x70), .val (.ref x81), .val (.ref x83), .unset] [(.ref x81)])) (fun _ k => XS.aload W83.here hx rfl (hb hby at_156) rfl rfl k) ?_
    refine go (g' := (mkF m 160 #[.val (.int p1), .val (.int p2), .val (.int p3), .val (.int p4), .val (.int p5), .val (.int p6), .val (.int (2 : Int32)), .val (.int c49), .val (.int c50), .val (.int c51), .val (.ref x52), .val (.ref x56), .val (.ref x62), .val (.ref x70), .val (.ref x81), .val (.ref x83), .unset] [(.ref x70), (.ref x81)])) (fun _ k => XS.aload W83.here hx rfl (hb hby at_158) rfl rfl k) ?_
    refine go (g' := (mkF m 162 #[.val (.int p1), .val (.int p2), .val (.int p3), .val (.int p4), .val (.int p5), .val (.int p6), .val (.int (2 : Int32)), .val (.int c49), .val (.int c50), .val (.int c51), .val (.ref x52), .val (.ref x56), .val (.ref x62), .val (.ref x70), .val (.ref x81), .val (.ref x83), .unset] [(.ref x83), (.ref x70), (.ref x81)])) (fun _ k => XS.aload W83.here hx rfl (hb hby at_160) rfl rfl k) ?_
    have X86 : Ext h72 h81 := own_xt (own_xr h72) E81
    have X87 : Ext h72 h83 := own_xt X86 E83
    have f88 : Str Z h83 x70 [c49, c50] := S72.ext X87
    obtain ⟨v85, so85, vm85, T85, h85, W85, C85, q85, hso85, st85⟩ := own_static W83 hx (y := (⟨"com/example/forseti/forseti/io/Csv", "required", "(Ljava/lang/String;Ljava/lang/String;Ljava/lang/String;)Ljava/lang/String;"⟩ : MethodName)) (w45 C) (w46 C) (w47 C) (w48 C) (by decide) (rm_required C h83 x81 x70 x83 [c49, c50] f88 (nle rfl) (nle rfl)) (fun _ q => nomatch q) (Wd := 0) (nle rfl) (nle rfl) (nle rfl) (nle rfl) (g := (mkF m 162 #[.val (.int p1), .val (.int p2), .val (.int p3), .val (.int p4), .val (.int p5), .val (.int p6), .val (.int (2 : Int32)), .val (.int c49), .val (.int c50), .val (.int c51), .val (.ref x52), .val (.ref x56), .val (.ref x62), .val (.ref x70), .val (.ref x81), .val (.ref x83), .unset] [(.ref x83), (.ref x70), (.ref x81)])) rfl (by rw [hml]; rfl) (argsL := [(.ref x81), (.ref x70), (.ref x83)]) (rest := []) (lenOf pd_4 rfl) rfl rfl (by show 2 * 0 + _ ≤ _; exact Nat.le_of_eq rfl) (hb hby at_162)
    obtain ⟨rfl, rfl⟩ := q85
    refine go (g' := (mkF m 165 #[.val (.int p1), .val (.int p2), .val (.int p3), .val (.int p4), .val (.int p5), .val (.int p6), .val (.int (2 : Int32)), .val (.int c49), .val (.int c50), .val (.int c51), .val (.ref x52), .val (.ref x56), .val (.ref x62), .val (.ref x70), .val (.ref x81), .val (.ref x83), .unset] [(.ref x70)])) (st85) ?_
    refine go (g' := (mkF m 167 #[.val (.int p1), .val (.int p2), .val (.int p3), .val (.int p4), .val (.int p5), .val (.int p6), .val (.int (2 : Int32)), .val (.int c49), .val (.int c50), .val (.int c51), .val (.ref x52), .val (.ref x56), .val (.ref x62), .val (.ref x70), .val (.ref x81), .val (.ref x83), .val (.ref x70)] [])) (fun _ k => XS.astore W85.here hx rfl (hb hby at_165) rfl rfl (l' := #[.val (.int p1), .val (.int p2), .val (.int p3), .val (.int p4), .val (.int p5), .val (.int p6), .val (.int (2 : Int32)), .val (.int c49), .val (.int c50), .val (.int c51), .val (.ref x52), .val (.ref x56), .val (.ref x62), .val (.ref x70), .val (.ref x81), .val (.ref x83), .val (.ref x70)]) rfl k) ?_
    refine go (g' := (mkF m 169 #[.val (.int p1), .val (.int p2), .val (.int p3), .val (.int p4), .val (.int p5), .val (.int p6), .val (.int (2 : Int32)), .val (.int c49), .val (.int c50), .val (.int c51), .val (.ref x52), .val (.ref x56), .val (.ref x62), .val (.ref x70), .val (.ref x81), .val (.ref x83), .val (.ref x70)] [(.ref x70)])) (fun _ k => XS.aload W85.here hx rfl (hb hby at_167) rfl rfl k) ?_
    refine go (g' := (mkF m 174 #[.val (.int p1), .val (.int p2), .val (.int p3), .val (.int p4), .val (.int p5), .val (.int p6), .val (.int (2 : Int32)), .val (.int c49), .val (.int c50), .val (.int c51), .val (.ref x52), .val (.ref x56), .val (.ref x62), .val (.ref x70), .val (.ref x81), .val (.ref x83), .val (.ref x70)] [])) (fun _ k => XS.ifnonnullYes W85.here hx rfl (pc0 := 169) (pc' := 174) rfl (hb hby at_169) rfl (by decide) (by decide) k) ?_
    refine go (g' := (mkF m 176 #[.val (.int p1), .val (.int p2), .val (.int p3), .val (.int p4), .val (.int p5), .val (.int p6), .val (.int (2 : Int32)), .val (.int c49), .val (.int c50), .val (.int c51), .val (.ref x52), .val (.ref x56), .val (.ref x62), .val (.ref x70), .val (.ref x81), .val (.ref x83), .val (.ref x70)] [(.ref x70)])) (fun _ k => XS.aload W85.here hx rfl (hb hby at_174) rfl rfl k) ?_
    obtain ⟨T89, W89, st89⟩ := own_slen W85 hx (own_wln C) (w54 C) (w55 C) (w57 C) (w56 C) (w3 C) f88 C.cs (nle rfl) (Wd := 0) (nle rfl) (nle rfl) (nle rfl) (nle rfl) (g := (mkF m 176 #[.val (.int p1), .val (.int p2), .val (.int p3), .val (.int p4), .val (.int p5), .val (.int p6), .val (.int (2 : Int32)), .val (.int c49), .val (.int c50), .val (.int c51), .val (.ref x52), .val (.ref x56), .val (.ref x62), .val (.ref x70), .val (.ref x81), .val (.ref x83), .val (.ref x70)] [(.ref x70)])) rfl (by rw [hml]; rfl) rfl (by show 2 * 0 + _ ≤ _; exact Nat.le_of_eq rfl) (hb hby at_176)
    refine go (g' := (mkF m 179 #[.val (.int p1), .val (.int p2), .val (.int p3), .val (.int p4), .val (.int p5), .val (.int p6), .val (.int (2 : Int32)), .val (.int c49), .val (.int c50), .val (.int c51), .val (.ref x52), .val (.ref x56), .val (.ref x62), .val (.ref x70), .val (.ref x81), .val (.ref x83), .val (.ref x70)] [(.int (2 : Int32))])) (st89) ?_
    refine go (g' := (mkF m 181 #[.val (.int p1), .val (.int p2), .val (.int p3), .val (.int p4), .val (.int p5), .val (.int p6), .val (.int (2 : Int32)), .val (.int c49), .val (.int c50), .val (.int c51), .val (.ref x52), .val (.ref x56), .val (.ref x62), .val (.ref x70), .val (.ref x81), .val (.ref x83), .val (.ref x70)] [(.int (2 : Int32)), (.int (2 : Int32))])) (fun _ k => XS.iload W89.here hx rfl (hb hby at_179) rfl k) ?_
    refine go (g' := (mkF m 186 #[.val (.int p1), .val (.int p2), .val (.int p3), .val (.int p4), .val (.int p5), .val (.int p6), .val (.int (2 : Int32)), .val (.int c49), .val (.int c50), .val (.int c51), .val (.ref x52), .val (.ref x56), .val (.ref x62), .val (.ref x70), .val (.ref x81), .val (.ref x83), .val (.ref x70)] [])) (fun _ k => XS.icmpYes W89.here hx rfl (pc0 := 181) (pc' := 186) rfl (hb hby at_181) rfl (teq ((by decide) : (2 : Int32) = (2 : Int32))).1 (by decide) (by decide) k) ?_
    refine go (g' := (mkF m 188 #[.val (.int p1), .val (.int p2), .val (.int p3), .val (.int p4), .val (.int p5), .val (.int p6), .val (.int (2 : Int32)), .val (.int c49), .val (.int c50), .val (.int c51), .val (.ref x52), .val (.ref x56), .val (.ref x62), .val (.ref x70), .val (.ref x81), .val (.ref x83), .val (.ref x70)] [(.ref x70)])) (fun _ k => XS.aload W89.here hx rfl (hb hby at_186) rfl rfl k) ?_
    refine go (g' := (mkF m 189 #[.val (.int p1), .val (.int p2), .val (.int p3), .val (.int p4), .val (.int p5), .val (.int p6), .val (.int (2 : Int32)), .val (.int c49), .val (.int c50), .val (.int c51), .val (.ref x52), .val (.ref x56), .val (.ref x62), .val (.ref x70), .val (.ref x81), .val (.ref x83), .val (.ref x70)] [(.int (0 : Int32)), (.ref x70)])) (fun _ k => XS.iconst W89.here hx rfl (hb hby at_188) k) ?_
    obtain ⟨T90, W90, st90⟩ := own_sch W89 hx (own_wch C) (w64 C) (w65 C) (w67 C) (w66 C) (w3 C) f88 C.cs C.sf (nle rfl) (i := 0) (j := (0 : Int32)) (nle rfl) rfl (Wd := 0) (nle rfl) (nle rfl) (nle rfl) (nle rfl) (g := (mkF m 189 #[.val (.int p1), .val (.int p2), .val (.int p3), .val (.int p4), .val (.int p5), .val (.int p6), .val (.int (2 : Int32)), .val (.int c49), .val (.int c50), .val (.int c51), .val (.ref x52), .val (.ref x56), .val (.ref x62), .val (.ref x70), .val (.ref x81), .val (.ref x83), .val (.ref x70)] [(.int (0 : Int32)), (.ref x70)])) rfl (by rw [hml]; rfl) rfl (by show 2 * 0 + _ ≤ _; exact Nat.le_of_eq rfl) (hb hby at_189)
    refine go (g' := (mkF m 192 #[.val (.int p1), .val (.int p2), .val (.int p3), .val (.int p4), .val (.int p5), .val (.int p6), .val (.int (2 : Int32)), .val (.int c49), .val (.int c50), .val (.int c51), .val (.ref x52), .val (.ref x56), .val (.ref x62), .val (.ref x70), .val (.ref x81), .val (.ref x83), .val (.ref x70)] [(.int c49)])) (st90) ?_
    refine go (g' := (mkF m 194 #[.val (.int p1), .val (.int p2), .val (.int p3), .val (.int p4), .val (.int p5), .val (.int p6), .val (.int (2 : Int32)), .val (.int c49), .val (.int c50), .val (.int c51), .val (.ref x52), .val (.ref x56), .val (.ref x62), .val (.ref x70), .val (.ref x81), .val (.ref x83), .val (.ref x70)] [(.int c49), (.int c49)])) (fun _ k => XS.iload W90.here hx rfl (hb hby at_192) rfl k) ?_
    refine go (g' := (mkF m 199 #[.val (.int p1), .val (.int p2), .val (.int p3), .val (.int p4), .val (.int p5), .val (.int p6), .val (.int (2 : Int32)), .val (.int c49), .val (.int c50), .val (.int c51), .val (.ref x52), .val (.ref x56), .val (.ref x62), .val (.ref x70), .val (.ref x81), .val (.ref x83), .val (.ref x70)] [])) (fun _ k => XS.icmpYes W90.here hx rfl (pc0 := 194) (pc' := 199) rfl (hb hby at_194) rfl (teq (rfl : c49 = c49)).1 (by decide) (by decide) k) ?_
    refine go (g' := (mkF m 201 #[.val (.int p1), .val (.int p2), .val (.int p3), .val (.int p4), .val (.int p5), .val (.int p6), .val (.int (2 : Int32)), .val (.int c49), .val (.int c50), .val (.int c51), .val (.ref x52), .val (.ref x56), .val (.ref x62), .val (.ref x70), .val (.ref x81), .val (.ref x83), .val (.ref x70)] [(.int (2 : Int32))])) (fun _ k => XS.iload W90.here hx rfl (hb hby at_199) rfl k) ?_
    refine go (g' := (mkF m 202 #[.val (.int p1), .val (.int p2), .val (.int p3), .val (.int p4), .val (.int p5), .val (.int p6), .val (.int (2 : Int32)), .val (.int c49), .val (.int c50), .val (.int c51), .val (.ref x52), .val (.ref x56), .val (.ref x62), .val (.ref x70), .val (.ref x81), .val (.ref x83), .val (.ref x70)] [(.int (2 : Int32)), (.int (2 : Int32))])) (fun _ k => XS.iconst W90.here hx rfl (hb hby at_201) k) ?_
    refine go (g' := (mkF m 205 #[.val (.int p1), .val (.int p2), .val (.int p3), .val (.int p4), .val (.int p5), .val (.int p6), .val (.int (2 : Int32)), .val (.int c49), .val (.int c50), .val (.int c51), .val (.ref x52), .val (.ref x56), .val (.ref x62), .val (.ref x70), .val (.ref x81), .val (.ref x83), .val (.ref x70)] [])) (fun _ k => XS.icmpNo W90.here hx rfl (hb hby at_202) rfl (flt ((by decide) : ¬ ((2 : Int32) < (2 : Int32)))).1 k) ?_
    refine go (g' := (mkF m 207 #[.val (.int p1), .val (.int p2), .val (.int p3), .val (.int p4), .val (.int p5), .val (.int p6), .val (.int (2 : Int32)), .val (.int c49), .val (.int c50), .val (.int c51), .val (.ref x52), .val (.ref x56), .val (.ref x62), .val (.ref x70), .val (.ref x81), .val (.ref x83), .val (.ref x70)] [(.ref x70)])) (fun _ k => XS.aload W90.here hx rfl (hb hby at_205) rfl rfl k) ?_
    refine go (g' := (mkF m 208 #[.val (.int p1), .val (.int p2), .val (.int p3), .val (.int p4), .val (.int p5), .val (.int p6), .val (.int (2 : Int32)), .val (.int c49), .val (.int c50), .val (.int c51), .val (.ref x52), .val (.ref x56), .val (.ref x62), .val (.ref x70), .val (.ref x81), .val (.ref x83), .val (.ref x70)] [(.int (1 : Int32)), (.ref x70)])) (fun _ k => XS.iconst W90.here hx rfl (hb hby at_207) k) ?_
    obtain ⟨T91, W91, st91⟩ := own_sch W90 hx (own_wch C) (w64 C) (w65 C) (w67 C) (w66 C) (w3 C) f88 C.cs C.sf (nle rfl) (i := 1) (j := (1 : Int32)) (nle rfl) rfl (Wd := 0) (nle rfl) (nle rfl) (nle rfl) (nle rfl) (g := (mkF m 208 #[.val (.int p1), .val (.int p2), .val (.int p3), .val (.int p4), .val (.int p5), .val (.int p6), .val (.int (2 : Int32)), .val (.int c49), .val (.int c50), .val (.int c51), .val (.ref x52), .val (.ref x56), .val (.ref x62), .val (.ref x70), .val (.ref x81), .val (.ref x83), .val (.ref x70)] [(.int (1 : Int32)), (.ref x70)])) rfl (by rw [hml]; rfl) rfl (by show 2 * 0 + _ ≤ _; exact Nat.le_of_eq rfl) (hb hby at_208)
    refine go (g' := (mkF m 211 #[.val (.int p1), .val (.int p2), .val (.int p3), .val (.int p4), .val (.int p5), .val (.int p6), .val (.int (2 : Int32)), .val (.int c49), .val (.int c50), .val (.int c51), .val (.ref x52), .val (.ref x56), .val (.ref x62), .val (.ref x70), .val (.ref x81), .val (.ref x83), .val (.ref x70)] [(.int c50)])) (st91) ?_
    refine go (g' := (mkF m 213 #[.val (.int p1), .val (.int p2), .val (.int p3), .val (.int p4), .val (.int p5), .val (.int p6), .val (.int (2 : Int32)), .val (.int c49), .val (.int c50), .val (.int c51), .val (.ref x52), .val (.ref x56), .val (.ref x62), .val (.ref x70), .val (.ref x81), .val (.ref x83), .val (.ref x70)] [(.int c50), (.int c50)])) (fun _ k => XS.iload W91.here hx rfl (hb hby at_211) rfl k) ?_
    refine go (g' := (mkF m 218 #[.val (.int p1), .val (.int p2), .val (.int p3), .val (.int p4), .val (.int p5), .val (.int p6), .val (.int (2 : Int32)), .val (.int c49), .val (.int c50), .val (.int c51), .val (.ref x52), .val (.ref x56), .val (.ref x62), .val (.ref x70), .val (.ref x81), .val (.ref x83), .val (.ref x70)] [])) (fun _ k => XS.icmpYes W91.here hx rfl (pc0 := 213) (pc' := 218) rfl (hb hby at_213) rfl (teq (rfl : c50 = c50)).1 (by decide) (by decide) k) ?_
    refine go (g' := (mkF m 220 #[.val (.int p1), .val (.int p2), .val (.int p3), .val (.int p4), .val (.int p5), .val (.int p6), .val (.int (2 : Int32)), .val (.int c49), .val (.int c50), .val (.int c51), .val (.ref x52), .val (.ref x56), .val (.ref x62), .val (.ref x70), .val (.ref x81), .val (.ref x83), .val (.ref x70)] [(.int (2 : Int32))])) (fun _ k => XS.iload W91.here hx rfl (hb hby at_218) rfl k) ?_
    refine go (g' := (mkF m 221 #[.val (.int p1), .val (.int p2), .val (.int p3), .val (.int p4), .val (.int p5), .val (.int p6), .val (.int (2 : Int32)), .val (.int c49), .val (.int c50), .val (.int c51), .val (.ref x52), .val (.ref x56), .val (.ref x62), .val (.ref x70), .val (.ref x81), .val (.ref x83), .val (.ref x70)] [(.int (3 : Int32)), (.int (2 : Int32))])) (fun _ k => XS.iconst W91.here hx rfl (hb hby at_220) k) ?_
    refine go (g' := (mkF m 237 #[.val (.int p1), .val (.int p2), .val (.int p3), .val (.int p4), .val (.int p5), .val (.int p6), .val (.int (2 : Int32)), .val (.int c49), .val (.int c50), .val (.int c51), .val (.ref x52), .val (.ref x56), .val (.ref x62), .val (.ref x70), .val (.ref x81), .val (.ref x83), .val (.ref x70)] [])) (fun _ k => XS.icmpYes W91.here hx rfl (pc0 := 221) (pc' := 237) rfl (hb hby at_221) rfl (feq ((by decide) : ¬ ((2 : Int32) = (3 : Int32)))).2 (by decide) (by decide) k) ?_
    refine go (g' := (mkF m 239 #[.val (.int p1), .val (.int p2), .val (.int p3), .val (.int p4), .val (.int p5), .val (.int p6), .val (.int (2 : Int32)), .val (.int c49), .val (.int c50), .val (.int c51), .val (.ref x52), .val (.ref x56), .val (.ref x62), .val (.ref x70), .val (.ref x81), .val (.ref x83), .val (.ref x70)] [(.ref x70)])) (fun _ k => XS.aload W91.here hx rfl (hb hby at_237) rfl rfl k) ?_
    refine go (g' := (mkF m 241 #[.val (.int p1), .val (.int p2), .val (.int p3), .val (.int p4), .val (.int p5), .val (.int p6), .val (.int (2 : Int32)), .val (.int c49), .val (.int c50), .val (.int c51), .val (.ref x52), .val (.ref x56), .val (.ref x62), .val (.ref x70), .val (.ref x81), .val (.ref x83), .val (.ref x70)] [(.ref x70), (.ref x70)])) (fun _ k => XS.aload W91.here hx rfl (hb hby at_239) rfl rfl k) ?_
    have f93 : Exa Z h83 x70 "java/lang/String" := S72.1.ext X87
    obtain ⟨v92, so92, vm92, T92, h92, W92, C92, q92, hso92, st92⟩ := own_virtual W91 hx (y := (⟨"java/lang/String", "equals", "(Ljava/lang/Object;)Z"⟩ : MethodName)) (z := (⟨"java/lang/String", "equals", "(Ljava/lang/Object;)Z"⟩ : MethodName)) (w85 C) (w86 C) (w88 C) (w87 C) (w4 C) (w89 C) (by decide) (own_nf W91 (w88 C)) f93 (rm_eqsame C h83 x70) (fun _ q => nomatch q) (Wd := 0) (nle rfl) (nle rfl) (nle rfl) (nle rfl) (g := (mkF m 241 #[.val (.int p1), .val (.int p2), .val (.int p3), .val (.int p4), .val (.int p5), .val (.int p6), .val (.int (2 : Int32)), .val (.int c49), .val (.int c50), .val (.int c51), .val (.ref x52), .val (.ref x56), .val (.ref x62), .val (.ref x70), .val (.ref x81), .val (.ref x83), .val (.ref x70)] [(.ref x70), (.ref x70)])) rfl (by rw [hml]; rfl) (argsL := [(.ref x70)]) (rest := []) (lenOf pd_5 rfl) rfl rfl (by show 2 * 0 + _ ≤ _; exact Nat.le_of_eq rfl) (hb hby at_241)
    obtain ⟨rfl, rfl⟩ := q92
    refine go (g' := (mkF m 244 #[.val (.int p1), .val (.int p2), .val (.int p3), .val (.int p4), .val (.int p5), .val (.int p6), .val (.int (2 : Int32)), .val (.int c49), .val (.int c50), .val (.int c51), .val (.ref x52), .val (.ref x56), .val (.ref x62), .val (.ref x70), .val (.ref x81), .val (.ref x83), .val (.ref x70)] [(.int (1 : Int32))])) (st92) ?_
    exact fin (v := some (.int (1 : Int32))) (so := []) W92 (nle rfl) (nle rfl) (rfl) (fun _ q => nomatch q) (fun q => nomatch q) (own_retI W92 hx hret (by decide) rfl (hb hby at_244))
  · show G s₁ (mkF m 10 #[.val (.int p1), .val (.int p2), .val (.int p3), .val (.int p4), .val (.int p5), .val (.int p6), .val (.int (3 : Int32)), .unset, .unset, .unset, .unset, .unset, .unset, .unset, .unset, .unset, .unset] [])
    refine go (g' := (mkF m 11 #[.val (.int p1), .val (.int p2), .val (.int p3), .val (.int p4), .val (.int p5), .val (.int p6), .val (.int (3 : Int32)), .unset, .unset, .unset, .unset, .unset, .unset, .unset, .unset, .unset, .unset] [(.int p2)])) (fun _ k => XS.iloadN W0.here hx rfl (hb hby at_10) rfl k) ?_
    refine go (g' := (mkF m 14 #[.val (.int p1), .val (.int p2), .val (.int p3), .val (.int p4), .val (.int p5), .val (.int p6), .val (.int (3 : Int32)), .unset, .unset, .unset, .unset, .unset, .unset, .unset, .unset, .unset, .unset] [(.int (255 : Int32)), (.int p2)])) (fun _ k => XS.sipush W0.here hx rfl (hb hby at_11) k) ?_
    refine go (g' := (mkF m 15 #[.val (.int p1), .val (.int p2), .val (.int p3), .val (.int p4), .val (.int p5), .val (.int p6), .val (.int (3 : Int32)), .unset, .unset, .unset, .unset, .unset, .unset, .unset, .unset, .unset, .unset] [(.int (p2 &&& (255 : Int32)))])) (fun _ k => XS.iand W0.here hx rfl (hb hby at_14) rfl k) ?_
    refine go (g' := (mkF m 16 #[.val (.int p1), .val (.int p2), .val (.int p3), .val (.int p4), .val (.int p5), .val (.int p6), .val (.int (3 : Int32)), .unset, .unset, .unset, .unset, .unset, .unset, .unset, .unset, .unset, .unset] [(.int ((p2 &&& (255 : Int32)).toUInt32.toUInt16.toUInt32.toInt32))])) (fun _ k => XS.i2c W0.here hx rfl (hb hby at_15) rfl k) ?_
    generalize ec94 : ((p2 &&& (255 : Int32)).toUInt32.toUInt16.toUInt32.toInt32) = c94
    have yc94 : ¬ c94 < 0 ∧ ¬ (255 : Int32) < c94 := ec94 ▸ own_c255 _
    refine go (g' := (mkF m 18 #[.val (.int p1), .val (.int p2), .val (.int p3), .val (.int p4), .val (.int p5), .val (.int p6), .val (.int (3 : Int32)), .val (.int c94), .unset, .unset, .unset, .unset, .unset, .unset, .unset, .unset, .unset] [])) (fun _ k => XS.istore W0.here hx rfl (hb hby at_16) rfl (l' := #[.val (.int p1), .val (.int p2), .val (.int p3), .val (.int p4), .val (.int p5), .val (.int p6), .val (.int (3 : Int32)), .val (.int c94), .unset, .unset, .unset, .unset, .unset, .unset, .unset, .unset, .unset]) rfl k) ?_
    refine go (g' := (mkF m 19 #[.val (.int p1), .val (.int p2), .val (.int p3), .val (.int p4), .val (.int p5), .val (.int p6), .val (.int (3 : Int32)), .val (.int c94), .unset, .unset, .unset, .unset, .unset, .unset, .unset, .unset, .unset] [(.int p3)])) (fun _ k => XS.iloadN W0.here hx rfl (hb hby at_18) rfl k) ?_
    refine go (g' := (mkF m 22 #[.val (.int p1), .val (.int p2), .val (.int p3), .val (.int p4), .val (.int p5), .val (.int p6), .val (.int (3 : Int32)), .val (.int c94), .unset, .unset, .unset, .unset, .unset, .unset, .unset, .unset, .unset] [(.int (255 : Int32)), (.int p3)])) (fun _ k => XS.sipush W0.here hx rfl (hb hby at_19) k) ?_
    refine go (g' := (mkF m 23 #[.val (.int p1), .val (.int p2), .val (.int p3), .val (.int p4), .val (.int p5), .val (.int p6), .val (.int (3 : Int32)), .val (.int c94), .unset, .unset, .unset, .unset, .unset, .unset, .unset, .unset, .unset] [(.int (p3 &&& (255 : Int32)))])) (fun _ k => XS.iand W0.here hx rfl (hb hby at_22) rfl k) ?_
    refine go (g' := (mkF m 24 #[.val (.int p1), .val (.int p2), .val (.int p3), .val (.int p4), .val (.int p5), .val (.int p6), .val (.int (3 : Int32)), .val (.int c94), .unset, .unset, .unset, .unset, .unset, .unset, .unset, .unset, .unset] [(.int ((p3 &&& (255 : Int32)).toUInt32.toUInt16.toUInt32.toInt32))])) (fun _ k => XS.i2c W0.here hx rfl (hb hby at_23) rfl k) ?_
    generalize ec95 : ((p3 &&& (255 : Int32)).toUInt32.toUInt16.toUInt32.toInt32) = c95
    have yc95 : ¬ c95 < 0 ∧ ¬ (255 : Int32) < c95 := ec95 ▸ own_c255 _
    refine go (g' := (mkF m 26 #[.val (.int p1), .val (.int p2), .val (.int p3), .val (.int p4), .val (.int p5), .val (.int p6), .val (.int (3 : Int32)), .val (.int c94), .val (.int c95), .unset, .unset, .unset, .unset, .unset, .unset, .unset, .unset] [])) (fun _ k => XS.istore W0.here hx rfl (hb hby at_24) rfl (l' := #[.val (.int p1), .val (.int p2), .val (.int p3), .val (.int p4), .val (.int p5), .val (.int p6), .val (.int (3 : Int32)), .val (.int c94), .val (.int c95), .unset, .unset, .unset, .unset, .unset, .unset, .unset, .unset]) rfl k) ?_
    refine go (g' := (mkF m 27 #[.val (.int p1), .val (.int p2), .val (.int p3), .val (.int p4), .val (.int p5), .val (.int p6), .val (.int (3 : Int32)), .val (.int c94), .val (.int c95), .unset, .unset, .unset, .unset, .unset, .unset, .unset, .unset] [(.int p4)])) (fun _ k => XS.iloadN W0.here hx rfl (hb hby at_26) rfl k) ?_
    refine go (g' := (mkF m 30 #[.val (.int p1), .val (.int p2), .val (.int p3), .val (.int p4), .val (.int p5), .val (.int p6), .val (.int (3 : Int32)), .val (.int c94), .val (.int c95), .unset, .unset, .unset, .unset, .unset, .unset, .unset, .unset] [(.int (255 : Int32)), (.int p4)])) (fun _ k => XS.sipush W0.here hx rfl (hb hby at_27) k) ?_
    refine go (g' := (mkF m 31 #[.val (.int p1), .val (.int p2), .val (.int p3), .val (.int p4), .val (.int p5), .val (.int p6), .val (.int (3 : Int32)), .val (.int c94), .val (.int c95), .unset, .unset, .unset, .unset, .unset, .unset, .unset, .unset] [(.int (p4 &&& (255 : Int32)))])) (fun _ k => XS.iand W0.here hx rfl (hb hby at_30) rfl k) ?_
    refine go (g' := (mkF m 32 #[.val (.int p1), .val (.int p2), .val (.int p3), .val (.int p4), .val (.int p5), .val (.int p6), .val (.int (3 : Int32)), .val (.int c94), .val (.int c95), .unset, .unset, .unset, .unset, .unset, .unset, .unset, .unset] [(.int ((p4 &&& (255 : Int32)).toUInt32.toUInt16.toUInt32.toInt32))])) (fun _ k => XS.i2c W0.here hx rfl (hb hby at_31) rfl k) ?_
    generalize ec96 : ((p4 &&& (255 : Int32)).toUInt32.toUInt16.toUInt32.toInt32) = c96
    have yc96 : ¬ c96 < 0 ∧ ¬ (255 : Int32) < c96 := ec96 ▸ own_c255 _
    refine go (g' := (mkF m 34 #[.val (.int p1), .val (.int p2), .val (.int p3), .val (.int p4), .val (.int p5), .val (.int p6), .val (.int (3 : Int32)), .val (.int c94), .val (.int c95), .val (.int c96), .unset, .unset, .unset, .unset, .unset, .unset, .unset] [])) (fun _ k => XS.istore W0.here hx rfl (hb hby at_32) rfl (l' := #[.val (.int p1), .val (.int p2), .val (.int p3), .val (.int p4), .val (.int p5), .val (.int p6), .val (.int (3 : Int32)), .val (.int c94), .val (.int c95), .val (.int c96), .unset, .unset, .unset, .unset, .unset, .unset, .unset]) rfl k) ?_
    refine go (g' := (mkF m 35 #[.val (.int p1), .val (.int p2), .val (.int p3), .val (.int p4), .val (.int p5), .val (.int p6), .val (.int (3 : Int32)), .val (.int c94), .val (.int c95), .val (.int c96), .unset, .unset, .unset, .unset, .unset, .unset, .unset] [(.int (1 : Int32))])) (fun _ k => XS.iconst W0.here hx rfl (hb hby at_34) k) ?_
    obtain ⟨x97, T97, h97, k97, g97, W97, E97, A97, st97⟩ := own_newP W0 hx (aty := .char) (w1 C) (g := (mkF m 35 #[.val (.int p1), .val (.int p2), .val (.int p3), .val (.int p4), .val (.int p5), .val (.int p6), .val (.int (3 : Int32)), .val (.int c94), .val (.int c95), .val (.int c96), .unset, .unset, .unset, .unset, .unset, .unset, .unset] [(.int (1 : Int32))])) rfl (hb hby at_35) rfl (by decide) (cap := 1) (by decide) (nle rfl) (nle rfl) (nle rfl)
    have z98 : h0.size ≤ h97.size := E97.1
    have l97 : @LT.lt Nat _ x97 h97.size := A97.lt
    have V97 : Arv Z h97 x97 k97 .char (1 : Int32) [(.int (0 : Int32))] (.int (0 : Int32)) := A97.pad (pad_rep [] (.int (0 : Int32)) 1)
    refine go (g' := (mkF m 37 #[.val (.int p1), .val (.int p2), .val (.int p3), .val (.int p4), .val (.int p5), .val (.int p6), .val (.int (3 : Int32)), .val (.int c94), .val (.int c95), .val (.int c96), .unset, .unset, .unset, .unset, .unset, .unset, .unset] [(.ref x97)])) (st97) ?_
    refine go (g' := (mkF m 39 #[.val (.int p1), .val (.int p2), .val (.int p3), .val (.int p4), .val (.int p5), .val (.int p6), .val (.int (3 : Int32)), .val (.int c94), .val (.int c95), .val (.int c96), .val (.ref x97), .unset, .unset, .unset, .unset, .unset, .unset] [])) (fun _ k => XS.astore W97.here hx rfl (hb hby at_37) rfl rfl (l' := #[.val (.int p1), .val (.int p2), .val (.int p3), .val (.int p4), .val (.int p5), .val (.int p6), .val (.int (3 : Int32)), .val (.int c94), .val (.int c95), .val (.int c96), .val (.ref x97), .unset, .unset, .unset, .unset, .unset, .unset]) rfl k) ?_
    refine go (g' := (mkF m 41 #[.val (.int p1), .val (.int p2), .val (.int p3), .val (.int p4), .val (.int p5), .val (.int p6), .val (.int (3 : Int32)), .val (.int c94), .val (.int c95), .val (.int c96), .val (.ref x97), .unset, .unset, .unset, .unset, .unset, .unset] [(.ref x97)])) (fun _ k => XS.aload W97.here hx rfl (hb hby at_39) rfl rfl k) ?_
    refine go (g' := (mkF m 42 #[.val (.int p1), .val (.int p2), .val (.int p3), .val (.int p4), .val (.int p5), .val (.int p6), .val (.int (3 : Int32)), .val (.int c94), .val (.int c95), .val (.int c96), .val (.ref x97), .unset, .unset, .unset, .unset, .unset, .unset] [(.int (0 : Int32)), (.ref x97)])) (fun _ k => XS.iconst W97.here hx rfl (hb hby at_41) k) ?_
    refine go (g' := (mkF m 44 #[.val (.int p1), .val (.int p2), .val (.int p3), .val (.int p4), .val (.int p5), .val (.int p6), .val (.int (3 : Int32)), .val (.int c94), .val (.int c95), .val (.int c96), .val (.ref x97), .unset, .unset, .unset, .unset, .unset, .unset] [(.int c94), (.int (0 : Int32)), (.ref x97)])) (fun _ k => XS.iload W97.here hx rfl (hb hby at_42) rfl k) ?_
    obtain ⟨T99, h99, W99, R99, V99, st99⟩ := own_stC W97 hx V97 (by omega) (j := (0 : Int32)) (i := 0) ⟨by decide, by decide⟩ rfl (Nat.le_of_ble_eq_true rfl) (own_up yc94) (g := (mkF m 44 #[.val (.int p1), .val (.int p2), .val (.int p3), .val (.int p4), .val (.int p5), .val (.int p6), .val (.int (3 : Int32)), .val (.int c94), .val (.int c95), .val (.int c96), .val (.ref x97), .unset, .unset, .unset, .unset, .unset, .unset] [(.int c94), (.int (0 : Int32)), (.ref x97)])) rfl rfl (hb hby at_44)
    have z100 : h99.size = h97.size := R99.size
    have U99 : Arv Z h99 x97 k97 .char (1 : Int32) [(.int c94)] (.int (0 : Int32)) := V99
    refine go (g' := (mkF m 45 #[.val (.int p1), .val (.int p2), .val (.int p3), .val (.int p4), .val (.int p5), .val (.int p6), .val (.int (3 : Int32)), .val (.int c94), .val (.int c95), .val (.int c96), .val (.ref x97), .unset, .unset, .unset, .unset, .unset, .unset] [])) (st99) ?_
    refine go (g' := (mkF m 46 #[.val (.int p1), .val (.int p2), .val (.int p3), .val (.int p4), .val (.int p5), .val (.int p6), .val (.int (3 : Int32)), .val (.int c94), .val (.int c95), .val (.int c96), .val (.ref x97), .unset, .unset, .unset, .unset, .unset, .unset] [(.int (2 : Int32))])) (fun _ k => XS.iconst W99.here hx rfl (hb hby at_45) k) ?_
    obtain ⟨x101, T101, h101, k101, g101, W101, E101, A101, st101⟩ := own_newP W99 hx (aty := .char) (w1 C) (g := (mkF m 46 #[.val (.int p1), .val (.int p2), .val (.int p3), .val (.int p4), .val (.int p5), .val (.int p6), .val (.int (3 : Int32)), .val (.int c94), .val (.int c95), .val (.int c96), .val (.ref x97), .unset, .unset, .unset, .unset, .unset, .unset] [(.int (2 : Int32))])) rfl (hb hby at_46) rfl (by decide) (cap := 2) (by decide) (nle rfl) (nle rfl) (nle rfl)
    have z102 : h99.size ≤ h101.size := E101.1
    have l101 : @LT.lt Nat _ x101 h101.size := A101.lt
    have V101 : Arv Z h101 x101 k101 .char (2 : Int32) [(.int (0 : Int32)), (.int (0 : Int32))] (.int (0 : Int32)) := A101.pad (pad_rep [] (.int (0 : Int32)) 2)
    refine go (g' := (mkF m 48 #[.val (.int p1), .val (.int p2), .val (.int p3), .val (.int p4), .val (.int p5), .val (.int p6), .val (.int (3 : Int32)), .val (.int c94), .val (.int c95), .val (.int c96), .val (.ref x97), .unset, .unset, .unset, .unset, .unset, .unset] [(.ref x101)])) (st101) ?_
    refine go (g' := (mkF m 50 #[.val (.int p1), .val (.int p2), .val (.int p3), .val (.int p4), .val (.int p5), .val (.int p6), .val (.int (3 : Int32)), .val (.int c94), .val (.int c95), .val (.int c96), .val (.ref x97), .val (.ref x101), .unset, .unset, .unset, .unset, .unset] [])) (fun _ k => XS.astore W101.here hx rfl (hb hby at_48) rfl rfl (l' := #[.val (.int p1), .val (.int p2), .val (.int p3), .val (.int p4), .val (.int p5), .val (.int p6), .val (.int (3 : Int32)), .val (.int c94), .val (.int c95), .val (.int c96), .val (.ref x97), .val (.ref x101), .unset, .unset, .unset, .unset, .unset]) rfl k) ?_
    refine go (g' := (mkF m 52 #[.val (.int p1), .val (.int p2), .val (.int p3), .val (.int p4), .val (.int p5), .val (.int p6), .val (.int (3 : Int32)), .val (.int c94), .val (.int c95), .val (.int c96), .val (.ref x97), .val (.ref x101), .unset, .unset, .unset, .unset, .unset] [(.ref x101)])) (fun _ k => XS.aload W101.here hx rfl (hb hby at_50) rfl rfl k) ?_
    refine go (g' := (mkF m 53 #[.val (.int p1), .val (.int p2), .val (.int p3), .val (.int p4), .val (.int p5), .val (.int p6), .val (.int (3 : Int32)), .val (.int c94), .val (.int c95), .val (.int c96), .val (.ref x97), .val (.ref x101), .unset, .unset, .unset, .unset, .unset] [(.int (0 : Int32)), (.ref x101)])) (fun _ k => XS.iconst W101.here hx rfl (hb hby at_52) k) ?_
    refine go (g' := (mkF m 55 #[.val (.int p1), .val (.int p2), .val (.int p3), .val (.int p4), .val (.int p5), .val (.int p6), .val (.int (3 : Int32)), .val (.int c94), .val (.int c95), .val (.int c96), .val (.ref x97), .val (.ref x101), .unset, .unset, .unset, .unset, .unset] [(.int c94), (.int (0 : Int32)), (.ref x101)])) (fun _ k => XS.iload W101.here hx rfl (hb hby at_53) rfl k) ?_
    obtain ⟨T103, h103, W103, R103, V103, st103⟩ := own_stC W101 hx V101 (by omega) (j := (0 : Int32)) (i := 0) ⟨by decide, by decide⟩ rfl (Nat.le_of_ble_eq_true rfl) (own_up yc94) (g := (mkF m 55 #[.val (.int p1), .val (.int p2), .val (.int p3), .val (.int p4), .val (.int p5), .val (.int p6), .val (.int (3 : Int32)), .val (.int c94), .val (.int c95), .val (.int c96), .val (.ref x97), .val (.ref x101), .unset, .unset, .unset, .unset, .unset] [(.int c94), (.int (0 : Int32)), (.ref x101)])) rfl rfl (hb hby at_55)
    have z104 : h103.size = h101.size := R103.size
    have U103 : Arv Z h103 x101 k101 .char (2 : Int32) [(.int c94), (.int (0 : Int32))] (.int (0 : Int32)) := V103
    refine go (g' := (mkF m 56 #[.val (.int p1), .val (.int p2), .val (.int p3), .val (.int p4), .val (.int p5), .val (.int p6), .val (.int (3 : Int32)), .val (.int c94), .val (.int c95), .val (.int c96), .val (.ref x97), .val (.ref x101), .unset, .unset, .unset, .unset, .unset] [])) (st103) ?_
    refine go (g' := (mkF m 58 #[.val (.int p1), .val (.int p2), .val (.int p3), .val (.int p4), .val (.int p5), .val (.int p6), .val (.int (3 : Int32)), .val (.int c94), .val (.int c95), .val (.int c96), .val (.ref x97), .val (.ref x101), .unset, .unset, .unset, .unset, .unset] [(.ref x101)])) (fun _ k => XS.aload W103.here hx rfl (hb hby at_56) rfl rfl k) ?_
    refine go (g' := (mkF m 59 #[.val (.int p1), .val (.int p2), .val (.int p3), .val (.int p4), .val (.int p5), .val (.int p6), .val (.int (3 : Int32)), .val (.int c94), .val (.int c95), .val (.int c96), .val (.ref x97), .val (.ref x101), .unset, .unset, .unset, .unset, .unset] [(.int (1 : Int32)), (.ref x101)])) (fun _ k => XS.iconst W103.here hx rfl (hb hby at_58) k) ?_
    refine go (g' := (mkF m 61 #[.val (.int p1), .val (.int p2), .val (.int p3), .val (.int p4), .val (.int p5), .val (.int p6), .val (.int (3 : Int32)), .val (.int c94), .val (.int c95), .val (.int c96), .val (.ref x97), .val (.ref x101), .unset, .unset, .unset, .unset, .unset] [(.int c95), (.int (1 : Int32)), (.ref x101)])) (fun _ k => XS.iload W103.here hx rfl (hb hby at_59) rfl k) ?_
    obtain ⟨T105, h105, W105, R105, V105, st105⟩ := own_stC W103 hx U103 (by omega) (j := (1 : Int32)) (i := 1) ⟨by decide, by decide⟩ rfl (Nat.le_of_ble_eq_true rfl) (own_up yc95) (g := (mkF m 61 #[.val (.int p1), .val (.int p2), .val (.int p3), .val (.int p4), .val (.int p5), .val (.int p6), .val (.int (3 : Int32)), .val (.int c94), .val (.int c95), .val (.int c96), .val (.ref x97), .val (.ref x101), .unset, .unset, .unset, .unset, .unset] [(.int c95), (.int (1 : Int32)), (.ref x101)])) rfl rfl (hb hby at_61)
    have z106 : h105.size = h103.size := R105.size
    have U105 : Arv Z h105 x101 k101 .char (2 : Int32) [(.int c94), (.int c95)] (.int (0 : Int32)) := V105
    refine go (g' := (mkF m 62 #[.val (.int p1), .val (.int p2), .val (.int p3), .val (.int p4), .val (.int p5), .val (.int p6), .val (.int (3 : Int32)), .val (.int c94), .val (.int c95), .val (.int c96), .val (.ref x97), .val (.ref x101), .unset, .unset, .unset, .unset, .unset] [])) (st105) ?_
    refine go (g' := (mkF m 63 #[.val (.int p1), .val (.int p2), .val (.int p3), .val (.int p4), .val (.int p5), .val (.int p6), .val (.int (3 : Int32)), .val (.int c94), .val (.int c95), .val (.int c96), .val (.ref x97), .val (.ref x101), .unset, .unset, .unset, .unset, .unset] [(.int (3 : Int32))])) (fun _ k => XS.iconst W105.here hx rfl (hb hby at_62) k) ?_
    obtain ⟨x107, T107, h107, k107, g107, W107, E107, A107, st107⟩ := own_newP W105 hx (aty := .char) (w1 C) (g := (mkF m 63 #[.val (.int p1), .val (.int p2), .val (.int p3), .val (.int p4), .val (.int p5), .val (.int p6), .val (.int (3 : Int32)), .val (.int c94), .val (.int c95), .val (.int c96), .val (.ref x97), .val (.ref x101), .unset, .unset, .unset, .unset, .unset] [(.int (3 : Int32))])) rfl (hb hby at_63) rfl (by decide) (cap := 3) (by decide) (nle rfl) (nle rfl) (nle rfl)
    have z108 : h105.size ≤ h107.size := E107.1
    have l107 : @LT.lt Nat _ x107 h107.size := A107.lt
    have V107 : Arv Z h107 x107 k107 .char (3 : Int32) [(.int (0 : Int32)), (.int (0 : Int32)), (.int (0 : Int32))] (.int (0 : Int32)) := A107.pad (pad_rep [] (.int (0 : Int32)) 3)
    refine go (g' := (mkF m 65 #[.val (.int p1), .val (.int p2), .val (.int p3), .val (.int p4), .val (.int p5), .val (.int p6), .val (.int (3 : Int32)), .val (.int c94), .val (.int c95), .val (.int c96), .val (.ref x97), .val (.ref x101), .unset, .unset, .unset, .unset, .unset] [(.ref x107)])) (st107) ?_
    refine go (g' := (mkF m 67 #[.val (.int p1), .val (.int p2), .val (.int p3), .val (.int p4), .val (.int p5), .val (.int p6), .val (.int (3 : Int32)), .val (.int c94), .val (.int c95), .val (.int c96), .val (.ref x97), .val (.ref x101), .val (.ref x107), .unset, .unset, .unset, .unset] [])) (fun _ k => XS.astore W107.here hx rfl (hb hby at_65) rfl rfl (l' := #[.val (.int p1), .val (.int p2), .val (.int p3), .val (.int p4), .val (.int p5), .val (.int p6), .val (.int (3 : Int32)), .val (.int c94), .val (.int c95), .val (.int c96), .val (.ref x97), .val (.ref x101), .val (.ref x107), .unset, .unset, .unset, .unset]) rfl k) ?_
    refine go (g' := (mkF m 69 #[.val (.int p1), .val (.int p2), .val (.int p3), .val (.int p4), .val (.int p5), .val (.int p6), .val (.int (3 : Int32)), .val (.int c94), .val (.int c95), .val (.int c96), .val (.ref x97), .val (.ref x101), .val (.ref x107), .unset, .unset, .unset, .unset] [(.ref x107)])) (fun _ k => XS.aload W107.here hx rfl (hb hby at_67) rfl rfl k) ?_
    refine go (g' := (mkF m 70 #[.val (.int p1), .val (.int p2), .val (.int p3), .val (.int p4), .val (.int p5), .val (.int p6), .val (.int (3 : Int32)), .val (.int c94), .val (.int c95), .val (.int c96), .val (.ref x97), .val (.ref x101), .val (.ref x107), .unset, .unset, .unset, .unset] [(.int (0 : Int32)), (.ref x107)])) (fun _ k => XS.iconst W107.here hx rfl (hb hby at_69) k) ?_
    refine go (g' := (mkF m 72 #[.val (.int p1), .val (.int p2), .val (.int p3), .val (.int p4), .val (.int p5), .val (.int p6), .val (.int (3 : Int32)), .val (.int c94), .val (.int c95), .val (.int c96), .val (.ref x97), .val (.ref x101), .val (.ref x107), .unset, .unset, .unset, .unset] [(.int c94), (.int (0 : Int32)), (.ref x107)])) (fun _ k => XS.iload W107.here hx rfl (hb hby at_70) rfl k) ?_
    obtain ⟨T109, h109, W109, R109, V109, st109⟩ := own_stC W107 hx V107 (by omega) (j := (0 : Int32)) (i := 0) ⟨by decide, by decide⟩ rfl (Nat.le_of_ble_eq_true rfl) (own_up yc94) (g := (mkF m 72 #[.val (.int p1), .val (.int p2), .val (.int p3), .val (.int p4), .val (.int p5), .val (.int p6), .val (.int (3 : Int32)), .val (.int c94), .val (.int c95), .val (.int c96), .val (.ref x97), .val (.ref x101), .val (.ref x107), .unset, .unset, .unset, .unset] [(.int c94), (.int (0 : Int32)), (.ref x107)])) rfl rfl (hb hby at_72)
    have z110 : h109.size = h107.size := R109.size
    have U109 : Arv Z h109 x107 k107 .char (3 : Int32) [(.int c94), (.int (0 : Int32)), (.int (0 : Int32))] (.int (0 : Int32)) := V109
    refine go (g' := (mkF m 73 #[.val (.int p1), .val (.int p2), .val (.int p3), .val (.int p4), .val (.int p5), .val (.int p6), .val (.int (3 : Int32)), .val (.int c94), .val (.int c95), .val (.int c96), .val (.ref x97), .val (.ref x101), .val (.ref x107), .unset, .unset, .unset, .unset] [])) (st109) ?_
    refine go (g' := (mkF m 75 #[.val (.int p1), .val (.int p2), .val (.int p3), .val (.int p4), .val (.int p5), .val (.int p6), .val (.int (3 : Int32)), .val (.int c94), .val (.int c95), .val (.int c96), .val (.ref x97), .val (.ref x101), .val (.ref x107), .unset, .unset, .unset, .unset] [(.ref x107)])) (fun _ k => XS.aload W109.here hx rfl (hb hby at_73) rfl rfl k) ?_
    refine go (g' := (mkF m 76 #[.val (.int p1), .val (.int p2), .val (.int p3), .val (.int p4), .val (.int p5), .val (.int p6), .val (.int (3 : Int32)), .val (.int c94), .val (.int c95), .val (.int c96), .val (.ref x97), .val (.ref x101), .val (.ref x107), .unset, .unset, .unset, .unset] [(.int (1 : Int32)), (.ref x107)])) (fun _ k => XS.iconst W109.here hx rfl (hb hby at_75) k) ?_
    refine go (g' := (mkF m 78 #[.val (.int p1), .val (.int p2), .val (.int p3), .val (.int p4), .val (.int p5), .val (.int p6), .val (.int (3 : Int32)), .val (.int c94), .val (.int c95), .val (.int c96), .val (.ref x97), .val (.ref x101), .val (.ref x107), .unset, .unset, .unset, .unset] [(.int c95), (.int (1 : Int32)), (.ref x107)])) (fun _ k => XS.iload W109.here hx rfl (hb hby at_76) rfl k) ?_
    obtain ⟨T111, h111, W111, R111, V111, st111⟩ := own_stC W109 hx U109 (by omega) (j := (1 : Int32)) (i := 1) ⟨by decide, by decide⟩ rfl (Nat.le_of_ble_eq_true rfl) (own_up yc95) (g := (mkF m 78 #[.val (.int p1), .val (.int p2), .val (.int p3), .val (.int p4), .val (.int p5), .val (.int p6), .val (.int (3 : Int32)), .val (.int c94), .val (.int c95), .val (.int c96), .val (.ref x97), .val (.ref x101), .val (.ref x107), .unset, .unset, .unset, .unset] [(.int c95), (.int (1 : Int32)), (.ref x107)])) rfl rfl (hb hby at_78)
    have z112 : h111.size = h109.size := R111.size
    have U111 : Arv Z h111 x107 k107 .char (3 : Int32) [(.int c94), (.int c95), (.int (0 : Int32))] (.int (0 : Int32)) := V111
    refine go (g' := (mkF m 79 #[.val (.int p1), .val (.int p2), .val (.int p3), .val (.int p4), .val (.int p5), .val (.int p6), .val (.int (3 : Int32)), .val (.int c94), .val (.int c95), .val (.int c96), .val (.ref x97), .val (.ref x101), .val (.ref x107), .unset, .unset, .unset, .unset] [])) (st111) ?_
    refine go (g' := (mkF m 81 #[.val (.int p1), .val (.int p2), .val (.int p3), .val (.int p4), .val (.int p5), .val (.int p6), .val (.int (3 : Int32)), .val (.int c94), .val (.int c95), .val (.int c96), .val (.ref x97), .val (.ref x101), .val (.ref x107), .unset, .unset, .unset, .unset] [(.ref x107)])) (fun _ k => XS.aload W111.here hx rfl (hb hby at_79) rfl rfl k) ?_
    refine go (g' := (mkF m 82 #[.val (.int p1), .val (.int p2), .val (.int p3), .val (.int p4), .val (.int p5), .val (.int p6), .val (.int (3 : Int32)), .val (.int c94), .val (.int c95), .val (.int c96), .val (.ref x97), .val (.ref x101), .val (.ref x107), .unset, .unset, .unset, .unset] [(.int (2 : Int32)), (.ref x107)])) (fun _ k => XS.iconst W111.here hx rfl (hb hby at_81) k) ?_
    refine go (g' := (mkF m 84 #[.val (.int p1), .val (.int p2), .val (.int p3), .val (.int p4), .val (.int p5), .val (.int p6), .val (.int (3 : Int32)), .val (.int c94), .val (.int c95), .val (.int c96), .val (.ref x97), .val (.ref x101), .val (.ref x107), .unset, .unset, .unset, .unset] [(.int c96), (.int (2 : Int32)), (.ref x107)])) (fun _ k => XS.iload W111.here hx rfl (hb hby at_82) rfl k) ?_
    obtain ⟨T113, h113, W113, R113, V113, st113⟩ := own_stC W111 hx U111 (by omega) (j := (2 : Int32)) (i := 2) ⟨by decide, by decide⟩ rfl (Nat.le_of_ble_eq_true rfl) (own_up yc96) (g := (mkF m 84 #[.val (.int p1), .val (.int p2), .val (.int p3), .val (.int p4), .val (.int p5), .val (.int p6), .val (.int (3 : Int32)), .val (.int c94), .val (.int c95), .val (.int c96), .val (.ref x97), .val (.ref x101), .val (.ref x107), .unset, .unset, .unset, .unset] [(.int c96), (.int (2 : Int32)), (.ref x107)])) rfl rfl (hb hby at_84)
    have z114 : h113.size = h111.size := R113.size
    have U113 : Arv Z h113 x107 k107 .char (3 : Int32) [(.int c94), (.int c95), (.int c96)] (.int (0 : Int32)) := V113
    refine go (g' := (mkF m 85 #[.val (.int p1), .val (.int p2), .val (.int p3), .val (.int p4), .val (.int p5), .val (.int p6), .val (.int (3 : Int32)), .val (.int c94), .val (.int c95), .val (.int c96), .val (.ref x97), .val (.ref x101), .val (.ref x107), .unset, .unset, .unset, .unset] [])) (st113) ?_
    refine go (g' := (mkF m 87 #[.val (.int p1), .val (.int p2), .val (.int p3), .val (.int p4), .val (.int p5), .val (.int p6), .val (.int (3 : Int32)), .val (.int c94), .val (.int c95), .val (.int c96), .val (.ref x97), .val (.ref x101), .val (.ref x107), .unset, .unset, .unset, .unset] [(.int (3 : Int32))])) (fun _ k => XS.iload W113.here hx rfl (hb hby at_85) rfl k) ?_
    refine go (g' := (mkF m 88 #[.val (.int p1), .val (.int p2), .val (.int p3), .val (.int p4), .val (.int p5), .val (.int p6), .val (.int (3 : Int32)), .val (.int c94), .val (.int c95), .val (.int c96), .val (.ref x97), .val (.ref x101), .val (.ref x107), .unset, .unset, .unset, .unset] [(.int (1 : Int32)), (.int (3 : Int32))])) (fun _ k => XS.iconst W113.here hx rfl (hb hby at_87) k) ?_
    refine go (g' := (mkF m 103 #[.val (.int p1), .val (.int p2), .val (.int p3), .val (.int p4), .val (.int p5), .val (.int p6), .val (.int (3 : Int32)), .val (.int c94), .val (.int c95), .val (.int c96), .val (.ref x97), .val (.ref x101), .val (.ref x107), .unset, .unset, .unset, .unset] [])) (fun _ k => XS.icmpYes W113.here hx rfl (pc0 := 88) (pc' := 103) rfl (hb hby at_88) rfl (feq ((by decide) : ¬ ((3 : Int32) = (1 : Int32)))).2 (by decide) (by decide) k) ?_
    refine go (g' := (mkF m 105 #[.val (.int p1), .val (.int p2), .val (.int p3), .val (.int p4), .val (.int p5), .val (.int p6), .val (.int (3 : Int32)), .val (.int c94), .val (.int c95), .val (.int c96), .val (.ref x97), .val (.ref x101), .val (.ref x107), .unset, .unset, .unset, .unset] [(.int (3 : Int32))])) (fun _ k => XS.iload W113.here hx rfl (hb hby at_103) rfl k) ?_
    refine go (g' := (mkF m 106 #[.val (.int p1), .val (.int p2), .val (.int p3), .val (.int p4), .val (.int p5), .val (.int p6), .val (.int (3 : Int32)), .val (.int c94), .val (.int c95), .val (.int c96), .val (.ref x97), .val (.ref x101), .val (.ref x107), .unset, .unset, .unset, .unset] [(.int (2 : Int32)), (.int (3 : Int32))])) (fun _ k => XS.iconst W113.here hx rfl (hb hby at_105) k) ?_
    refine go (g' := (mkF m 121 #[.val (.int p1), .val (.int p2), .val (.int p3), .val (.int p4), .val (.int p5), .val (.int p6), .val (.int (3 : Int32)), .val (.int c94), .val (.int c95), .val (.int c96), .val (.ref x97), .val (.ref x101), .val (.ref x107), .unset, .unset, .unset, .unset] [])) (fun _ k => XS.icmpYes W113.here hx rfl (pc0 := 106) (pc' := 121) rfl (hb hby at_106) rfl (feq ((by decide) : ¬ ((3 : Int32) = (2 : Int32)))).2 (by decide) (by decide) k) ?_
    obtain ⟨x115, T115, h115, g115, W115, E115, A115, D115, U115, st115⟩ := own_new W113 hx (w2 C) (w3 C) (w4 C) (g := (mkF m 121 #[.val (.int p1), .val (.int p2), .val (.int p3), .val (.int p4), .val (.int p5), .val (.int p6), .val (.int (3 : Int32)), .val (.int c94), .val (.int c95), .val (.int c96), .val (.ref x97), .val (.ref x101), .val (.ref x107), .unset, .unset, .unset, .unset] [])) rfl (hb hby at_121) (nle rfl) (nle rfl)
    have z116 : h113.size ≤ h115.size := E115.1
    have l115 : @LT.lt Nat _ x115 h115.size := A115.lt
    have F115_coder : Fld Z h115 x115 "java/lang/String" "coder" "B" (.int (0 : Int32)) := D115 (Or.inr (w28 C)) (ty := .byte) (by decide)
    have F115_value : Fld Z h115 x115 "java/lang/String" "value" "[B" .null := D115 (Or.inr (w30 C)) (ty := (.array .byte)) (by decide)
    refine go (g' := (mkF m 124 #[.val (.int p1), .val (.int p2), .val (.int p3), .val (.int p4), .val (.int p5), .val (.int p6), .val (.int (3 : Int32)), .val (.int c94), .val (.int c95), .val (.int c96), .val (.ref x97), .val (.ref x101), .val (.ref x107), .unset, .unset, .unset, .unset] [(.ref x115)])) (st115) ?_
    refine go (g' := (mkF m 125 #[.val (.int p1), .val (.int p2), .val (.int p3), .val (.int p4), .val (.int p5), .val (.int p6), .val (.int (3 : Int32)), .val (.int c94), .val (.int c95), .val (.int c96), .val (.ref x97), .val (.ref x101), .val (.ref x107), .unset, .unset, .unset, .unset] [(.ref x115), (.ref x115)])) (fun _ k => XS.dup W115.here hx rfl (hb hby at_124) rfl rfl k) ?_
    refine go (g' := (mkF m 127 #[.val (.int p1), .val (.int p2), .val (.int p3), .val (.int p4), .val (.int p5), .val (.int p6), .val (.int (3 : Int32)), .val (.int c94), .val (.int c95), .val (.int c96), .val (.ref x97), .val (.ref x101), .val (.ref x107), .unset, .unset, .unset, .unset] [(.ref x107), (.ref x115), (.ref x115)])) (fun _ k => XS.aload W115.here hx rfl (hb hby at_125) rfl rfl k) ?_
    have X118 : Ext h113 h115 := own_xt (own_xr h113) E115
    have f119 : Arv Z h115 x107 k107 .char (3 : Int32) [(.int c94), (.int c95), (.int c96)] (.int (0 : Int32)) := U113.ext X118
    obtain ⟨T117, h117, W117, K117, S117, st117⟩ := own_strNew W115 hx (own_ws C) (w5 C) (w6 C) (w7 C) (w3 C) A115 F115_value F115_coder (cs := [c94, c95, c96]) f119 rfl C.cs (nle rfl) (nle rfl) (own_alS yc94 (own_alS yc95 (own_alS yc96 own_al0))) (own_safeB W113 X118 (by omega)) (by omega) (Wd := 1) (nle rfl) (nle rfl) (nle rfl) (nle rfl) (g := (mkF m 127 #[.val (.int p1), .val (.int p2), .val (.int p3), .val (.int p4), .val (.int p5), .val (.int p6), .val (.int (3 : Int32)), .val (.int c94), .val (.int c95), .val (.int c96), .val (.ref x97), .val (.ref x101), .val (.ref x107), .unset, .unset, .unset, .unset] [(.ref x107), (.ref x115), (.ref x115)])) rfl (by rw [hml]; rfl) rfl (by show 2 * 0 + _ ≤ _; exact Nat.le_of_eq rfl) (hb hby at_127)
    have z120 : h115.size ≤ h117.size := K117.1
    refine go (g' := (mkF m 130 #[.val (.int p1), .val (.int p2), .val (.int p3), .val (.int p4), .val (.int p5), .val (.int p6), .val (.int (3 : Int32)), .val (.int c94), .val (.int c95), .val (.int c96), .val (.ref x97), .val (.ref x101), .val (.ref x107), .unset, .unset, .unset, .unset] [(.ref x115)])) (st117) ?_
    refine go (g' := (mkF m 132 #[.val (.int p1), .val (.int p2), .val (.int p3), .val (.int p4), .val (.int p5), .val (.int p6), .val (.int (3 : Int32)), .val (.int c94), .val (.int c95), .val (.int c96), .val (.ref x97), .val (.ref x101), .val (.ref x107), .val (.ref x115), .unset, .unset, .unset] [])) (fun _ k => XS.astore W117.here hx rfl (hb hby at_130) rfl rfl (l' := #[.val (.int p1), .val (.int p2), .val (.int p3), .val (.int p4), .val (.int p5), .val (.int p6), .val (.int (3 : Int32)), .val (.int c94), .val (.int c95), .val (.int c96), .val (.ref x97), .val (.ref x101), .val (.ref x107), .val (.ref x115), .unset, .unset, .unset]) rfl k) ?_
    refine go (g' := (mkF m 134 #[.val (.int p1), .val (.int p2), .val (.int p3), .val (.int p4), .val (.int p5), .val (.int p6), .val (.int (3 : Int32)), .val (.int c94), .val (.int c95), .val (.int c96), .val (.ref x97), .val (.ref x101), .val (.ref x107), .val (.ref x115), .unset, .unset, .unset] [(.int p5)])) (fun _ k => XS.iload W117.here hx rfl (hb hby at_132) rfl k) ?_
    refine go (g' := (mkF m 137 #[.val (.int p1), .val (.int p2), .val (.int p3), .val (.int p4), .val (.int p5), .val (.int p6), .val (.int (3 : Int32)), .val (.int c94), .val (.int c95), .val (.int c96), .val (.ref x97), .val (.ref x101), .val (.ref x107), .val (.ref x115), .unset, .unset, .unset] [(.int (255 : Int32)), (.int p5)])) (fun _ k => XS.sipush W117.here hx rfl (hb hby at_134) k) ?_
    refine go (g' := (mkF m 138 #[.val (.int p1), .val (.int p2), .val (.int p3), .val (.int p4), .val (.int p5), .val (.int p6), .val (.int (3 : Int32)), .val (.int c94), .val (.int c95), .val (.int c96), .val (.ref x97), .val (.ref x101), .val (.ref x107), .val (.ref x115), .unset, .unset, .unset] [(.int (p5 &&& (255 : Int32)))])) (fun _ k => XS.iand W117.here hx rfl (hb hby at_137) rfl k) ?_
    refine go (g' := (mkF m 139 #[.val (.int p1), .val (.int p2), .val (.int p3), .val (.int p4), .val (.int p5), .val (.int p6), .val (.int (3 : Int32)), .val (.int c94), .val (.int c95), .val (.int c96), .val (.ref x97), .val (.ref x101), .val (.ref x107), .val (.ref x115), .unset, .unset, .unset] [(.int ((p5 &&& (255 : Int32)).toUInt32.toUInt16.toUInt32.toInt32))])) (fun _ k => XS.i2c W117.here hx rfl (hb hby at_138) rfl k) ?_
    obtain ⟨v121, so121, vm121, T121, h121, W121, C121, q121, hso121, st121⟩ := own_static W117 hx (y := (⟨"java/lang/String", "valueOf", "(C)Ljava/lang/String;"⟩ : MethodName)) (w31 C) (w32 C) (w4 C) (w33 C) (by decide) (rm_valof C h117 ((p5 &&& (255 : Int32)).toUInt32.toUInt16.toUInt32.toInt32) (own_c255 _)) (fun _ q => nomatch q) (Wd := 0) (nle rfl) (nle rfl) (nle rfl) (nle rfl) (g := (mkF m 139 #[.val (.int p1), .val (.int p2), .val (.int p3), .val (.int p4), .val (.int p5), .val (.int p6), .val (.int (3 : Int32)), .val (.int c94), .val (.int c95), .val (.int c96), .val (.ref x97), .val (.ref x101), .val (.ref x107), .val (.ref x115), .unset, .unset, .unset] [(.int ((p5 &&& (255 : Int32)).toUInt32.toUInt16.toUInt32.toInt32))])) rfl (by rw [hml]; rfl) (argsL := [(.int ((p5 &&& (255 : Int32)).toUInt32.toUInt16.toUInt32.toInt32))]) (rest := []) (lenOf pd_3 rfl) rfl rfl (by show 2 * 0 + _ ≤ _; exact Nat.le_of_eq rfl) (hb hby at_139)
    obtain ⟨x121, rfl, E121, g121, S121⟩ := q121
    have z122 : h117.size ≤ h121.size := E121.1
    refine go (g' := (mkF m 142 #[.val (.int p1), .val (.int p2), .val (.int p3), .val (.int p4), .val (.int p5), .val (.int p6), .val (.int (3 : Int32)), .val (.int c94), .val (.int c95), .val (.int c96), .val (.ref x97), .val (.ref x101), .val (.ref x107), .val (.ref x115), .unset, .unset, .unset] [(.ref x121)])) (st121) ?_
    refine go (g' := (mkF m 144 #[.val (.int p1), .val (.int p2), .val (.int p3), .val (.int p4), .val (.int p5), .val (.int p6), .val (.int (3 : Int32)), .val (.int c94), .val (.int c95), .val (.int c96), .val (.ref x97), .val (.ref x101), .val (.ref x107), .val (.ref x115), .val (.ref x121), .unset, .unset] [])) (fun _ k => XS.astore W121.here hx rfl (hb hby at_142) rfl rfl (l' := #[.val (.int p1), .val (.int p2), .val (.int p3), .val (.int p4), .val (.int p5), .val (.int p6), .val (.int (3 : Int32)), .val (.int c94), .val (.int c95), .val (.int c96), .val (.ref x97), .val (.ref x101), .val (.ref x107), .val (.ref x115), .val (.ref x121), .unset, .unset]) rfl k) ?_
    refine go (g' := (mkF m 146 #[.val (.int p1), .val (.int p2), .val (.int p3), .val (.int p4), .val (.int p5), .val (.int p6), .val (.int (3 : Int32)), .val (.int c94), .val (.int c95), .val (.int c96), .val (.ref x97), .val (.ref x101), .val (.ref x107), .val (.ref x115), .val (.ref x121), .unset, .unset] [(.int p6)])) (fun _ k => XS.iload W121.here hx rfl (hb hby at_144) rfl k) ?_
    refine go (g' := (mkF m 149 #[.val (.int p1), .val (.int p2), .val (.int p3), .val (.int p4), .val (.int p5), .val (.int p6), .val (.int (3 : Int32)), .val (.int c94), .val (.int c95), .val (.int c96), .val (.ref x97), .val (.ref x101), .val (.ref x107), .val (.ref x115), .val (.ref x121), .unset, .unset] [(.int (255 : Int32)), (.int p6)])) (fun _ k => XS.sipush W121.here hx rfl (hb hby at_146) k) ?_
    refine go (g' := (mkF m 150 #[.val (.int p1), .val (.int p2), .val (.int p3), .val (.int p4), .val (.int p5), .val (.int p6), .val (.int (3 : Int32)), .val (.int c94), .val (.int c95), .val (.int c96), .val (.ref x97), .val (.ref x101), .val (.ref x107), .val (.ref x115), .val (.ref x121), .unset, .unset] [(.int (p6 &&& (255 : Int32)))])) (fun _ k => XS.iand W121.here hx rfl (hb hby at_149) rfl k) ?_
    refine go (g' := (mkF m 151 #[.val (.int p1), .val (.int p2), .val (.int p3), .val (.int p4), .val (.int p5), .val (.int p6), .val (.int (3 : Int32)), .val (.int c94), .val (.int c95), .val (.int c96), .val (.ref x97), .val (.ref x101), .val (.ref x107), .val (.ref x115), .val (.ref x121), .unset, .unset] [(.int ((p6 &&& (255 : Int32)).toUInt32.toUInt16.toUInt32.toInt32))])) (fun _ k => XS.i2c W121.here hx rfl (hb hby at_150) rfl k) ?_
    obtain ⟨v123, so123, vm123, T123, h123, W123, C123, q123, hso123, st123⟩ := own_static W121 hx (y := (⟨"java/lang/String", "valueOf", "(C)Ljava/lang/String;"⟩ : MethodName)) (w31 C) (w32 C) (w4 C) (w33 C) (by decide) (rm_valof C h121 ((p6 &&& (255 : Int32)).toUInt32.toUInt16.toUInt32.toInt32) (own_c255 _)) (fun _ q => nomatch q) (Wd := 0) (nle rfl) (nle rfl) (nle rfl) (nle rfl) (g := (mkF m 151 #[.val (.int p1), .val (.int p2), .val (.int p3), .val (.int p4), .val (.int p5), .val (.int p6), .val (.int (3 : Int32)), .val (.int c94), .val (.int c95), .val (.int c96), .val (.ref x97), .val (.ref x101), .val (.ref x107), .val (.ref x115), .val (.ref x121), .unset, .unset] [(.int ((p6 &&& (255 : Int32)).toUInt32.toUInt16.toUInt32.toInt32))])) rfl (by rw [hml]; rfl) (argsL := [(.int ((p6 &&& (255 : Int32)).toUInt32.toUInt16.toUInt32.toInt32))]) (rest := []) (lenOf pd_3 rfl) rfl rfl (by show 2 * 0 + _ ≤ _; exact Nat.le_of_eq rfl) (hb hby at_151)
    obtain ⟨x123, rfl, E123, g123, S123⟩ := q123
    have z124 : h121.size ≤ h123.size := E123.1
    refine go (g' := (mkF m 154 #[.val (.int p1), .val (.int p2), .val (.int p3), .val (.int p4), .val (.int p5), .val (.int p6), .val (.int (3 : Int32)), .val (.int c94), .val (.int c95), .val (.int c96), .val (.ref x97), .val (.ref x101), .val (.ref x107), .val (.ref x115), .val (.ref x121), .unset, .unset] [(.ref x123)])) (st123) ?_
    refine go (g' := (mkF m 156 #[.val (.int p1), .val (.int p2), .val (.int p3), .val (.int p4), .val (.int p5), .val (.int p6), .val (.int (3 : Int32)), .val (.int c94), .val (.int c95), .val (.int c96), .val (.ref x97), .val (.ref x101), .val (.ref x107), .val (.ref x115), .val (.ref x121), .val (.ref x123), .unset] [])) (fun _ k => XS.astore W123.here hx rfl (hb hby at_154) rfl rfl (l' := #[.val (.int p1), .val (.int p2), .val (.int p3), .val (.int p4), .val (.int p5), .val (.int p6), .val (.int (3 : Int32)), .val (.int c94), .val (.int c95), .val (.int c96), .val (.ref x97), .val (.ref x101), .val (.ref x107), .val (.ref x115), .val (.ref x121), .val (.ref x123), .unset]) rfl k) ?_
    refine go (g' := (mkF m 158 #[.val (.int p1), .val (.int p2), .val (.int p3), .val (.int p4), .val (.int p5), .val (.int p6), .val (.int (3 : Int32)), .val (.int c94), .val (.int c95), .val (.int c96), .val (.ref x97), .val (.ref x101), .val (.ref x107), .val (.ref x115), .val (.ref x121), .val (.ref x123), .unset] [(.ref x121)])) (fun _ k => XS.aload W123.here hx rfl (hb hby at_156) rfl rfl k) ?_
    refine go (g' := (mkF m 160 #[.val (.int p1), .val (.int p2), .val (.int p3), .val (.int p4), .val (.int p5), .val (.int p6), .val (.int (3 : Int32)), .val (.int c94), .val (.int c95), .val (.int c96), .val (.ref x97), .val (.ref x101), .val (.ref x107), .val (.ref x115), .val (.ref x121), .val (.ref x123), .unset] [(.ref x115), (.ref x121)])) (fun _ k => XS.aload W123.here hx rfl (hb hby at_158) rfl rfl k) ?_
    refine go (g' := (mkF m 162 #[.val (.int p1), .val (.int p2), .val (.int p3), .val (.int p4), .val (.int p5), .val (.int p6), .val (.int (3 : Int32)), .val (.int c94), .val (.int c95), .val (.int c96), .val (.ref x97), .val (.ref x101), .val (.ref x107), .val (.ref x115), .val (.ref x121), .val (.ref x123), .unset] [(.ref x123), (.ref x115), (.ref x121)])) (fun _ k => XS.aload W123.here hx rfl (hb hby at_160) rfl rfl k) ?_
    have X126 : Ext h117 h121 := own_xt (own_xr h117) E121
    have X127 : Ext h117 h123 := own_xt X126 E123
    have f128 : Str Z h123 x115 [c94, c95, c96] := S117.ext X127
    obtain ⟨v125, so125, vm125, T125, h125, W125, C125, q125, hso125, st125⟩ := own_static W123 hx (y := (⟨"com/example/forseti/forseti/io/Csv", "required", "(Ljava/lang/String;Ljava/lang/String;Ljava/lang/String;)Ljava/lang/String;"⟩ : MethodName)) (w45 C) (w46 C) (w47 C) (w48 C) (by decide) (rm_required C h123 x121 x115 x123 [c94, c95, c96] f128 (nle rfl) (nle rfl)) (fun _ q => nomatch q) (Wd := 0) (nle rfl) (nle rfl) (nle rfl) (nle rfl) (g := (mkF m 162 #[.val (.int p1), .val (.int p2), .val (.int p3), .val (.int p4), .val (.int p5), .val (.int p6), .val (.int (3 : Int32)), .val (.int c94), .val (.int c95), .val (.int c96), .val (.ref x97), .val (.ref x101), .val (.ref x107), .val (.ref x115), .val (.ref x121), .val (.ref x123), .unset] [(.ref x123), (.ref x115), (.ref x121)])) rfl (by rw [hml]; rfl) (argsL := [(.ref x121), (.ref x115), (.ref x123)]) (rest := []) (lenOf pd_4 rfl) rfl rfl (by show 2 * 0 + _ ≤ _; exact Nat.le_of_eq rfl) (hb hby at_162)
    obtain ⟨rfl, rfl⟩ := q125
    refine go (g' := (mkF m 165 #[.val (.int p1), .val (.int p2), .val (.int p3), .val (.int p4), .val (.int p5), .val (.int p6), .val (.int (3 : Int32)), .val (.int c94), .val (.int c95), .val (.int c96), .val (.ref x97), .val (.ref x101), .val (.ref x107), .val (.ref x115), .val (.ref x121), .val (.ref x123), .unset] [(.ref x115)])) (st125) ?_
    refine go (g' := (mkF m 167 #[.val (.int p1), .val (.int p2), .val (.int p3), .val (.int p4), .val (.int p5), .val (.int p6), .val (.int (3 : Int32)), .val (.int c94), .val (.int c95), .val (.int c96), .val (.ref x97), .val (.ref x101), .val (.ref x107), .val (.ref x115), .val (.ref x121), .val (.ref x123), .val (.ref x115)] [])) (fun _ k => XS.astore W125.here hx rfl (hb hby at_165) rfl rfl (l' := #[.val (.int p1), .val (.int p2), .val (.int p3), .val (.int p4), .val (.int p5), .val (.int p6), .val (.int (3 : Int32)), .val (.int c94), .val (.int c95), .val (.int c96), .val (.ref x97), .val (.ref x101), .val (.ref x107), .val (.ref x115), .val (.ref x121), .val (.ref x123), .val (.ref x115)]) rfl k) ?_
    refine go (g' := (mkF m 169 #[.val (.int p1), .val (.int p2), .val (.int p3), .val (.int p4), .val (.int p5), .val (.int p6), .val (.int (3 : Int32)), .val (.int c94), .val (.int c95), .val (.int c96), .val (.ref x97), .val (.ref x101), .val (.ref x107), .val (.ref x115), .val (.ref x121), .val (.ref x123), .val (.ref x115)] [(.ref x115)])) (fun _ k => XS.aload W125.here hx rfl (hb hby at_167) rfl rfl k) ?_
    refine go (g' := (mkF m 174 #[.val (.int p1), .val (.int p2), .val (.int p3), .val (.int p4), .val (.int p5), .val (.int p6), .val (.int (3 : Int32)), .val (.int c94), .val (.int c95), .val (.int c96), .val (.ref x97), .val (.ref x101), .val (.ref x107), .val (.ref x115), .val (.ref x121), .val (.ref x123), .val (.ref x115)] [])) (fun _ k => XS.ifnonnullYes W125.here hx rfl (pc0 := 169) (pc' := 174) rfl (hb hby at_169) rfl (by decide) (by decide) k) ?_
    refine go (g' := (mkF m 176 #[.val (.int p1), .val (.int p2), .val (.int p3), .val (.int p4), .val (.int p5), .val (.int p6), .val (.int (3 : Int32)), .val (.int c94), .val (.int c95), .val (.int c96), .val (.ref x97), .val (.ref x101), .val (.ref x107), .val (.ref x115), .val (.ref x121), .val (.ref x123), .val (.ref x115)] [(.ref x115)])) (fun _ k => XS.aload W125.here hx rfl (hb hby at_174) rfl rfl k) ?_
    obtain ⟨T129, W129, st129⟩ := own_slen W125 hx (own_wln C) (w54 C) (w55 C) (w57 C) (w56 C) (w3 C) f128 C.cs (nle rfl) (Wd := 0) (nle rfl) (nle rfl) (nle rfl) (nle rfl) (g := (mkF m 176 #[.val (.int p1), .val (.int p2), .val (.int p3), .val (.int p4), .val (.int p5), .val (.int p6), .val (.int (3 : Int32)), .val (.int c94), .val (.int c95), .val (.int c96), .val (.ref x97), .val (.ref x101), .val (.ref x107), .val (.ref x115), .val (.ref x121), .val (.ref x123), .val (.ref x115)] [(.ref x115)])) rfl (by rw [hml]; rfl) rfl (by show 2 * 0 + _ ≤ _; exact Nat.le_of_eq rfl) (hb hby at_176)
    refine go (g' := (mkF m 179 #[.val (.int p1), .val (.int p2), .val (.int p3), .val (.int p4), .val (.int p5), .val (.int p6), .val (.int (3 : Int32)), .val (.int c94), .val (.int c95), .val (.int c96), .val (.ref x97), .val (.ref x101), .val (.ref x107), .val (.ref x115), .val (.ref x121), .val (.ref x123), .val (.ref x115)] [(.int (3 : Int32))])) (st129) ?_
    refine go (g' := (mkF m 181 #[.val (.int p1), .val (.int p2), .val (.int p3), .val (.int p4), .val (.int p5), .val (.int p6), .val (.int (3 : Int32)), .val (.int c94), .val (.int c95), .val (.int c96), .val (.ref x97), .val (.ref x101), .val (.ref x107), .val (.ref x115), .val (.ref x121), .val (.ref x123), .val (.ref x115)] [(.int (3 : Int32)), (.int (3 : Int32))])) (fun _ k => XS.iload W129.here hx rfl (hb hby at_179) rfl k) ?_
    refine go (g' := (mkF m 186 #[.val (.int p1), .val (.int p2), .val (.int p3), .val (.int p4), .val (.int p5), .val (.int p6), .val (.int (3 : Int32)), .val (.int c94), .val (.int c95), .val (.int c96), .val (.ref x97), .val (.ref x101), .val (.ref x107), .val (.ref x115), .val (.ref x121), .val (.ref x123), .val (.ref x115)] [])) (fun _ k => XS.icmpYes W129.here hx rfl (pc0 := 181) (pc' := 186) rfl (hb hby at_181) rfl (teq ((by decide) : (3 : Int32) = (3 : Int32))).1 (by decide) (by decide) k) ?_
    refine go (g' := (mkF m 188 #[.val (.int p1), .val (.int p2), .val (.int p3), .val (.int p4), .val (.int p5), .val (.int p6), .val (.int (3 : Int32)), .val (.int c94), .val (.int c95), .val (.int c96), .val (.ref x97), .val (.ref x101), .val (.ref x107), .val (.ref x115), .val (.ref x121), .val (.ref x123), .val (.ref x115)] [(.ref x115)])) (fun _ k => XS.aload W129.here hx rfl (hb hby at_186) rfl rfl k) ?_
    refine go (g' := (mkF m 189 #[.val (.int p1), .val (.int p2), .val (.int p3), .val (.int p4), .val (.int p5), .val (.int p6), .val (.int (3 : Int32)), .val (.int c94), .val (.int c95), .val (.int c96), .val (.ref x97), .val (.ref x101), .val (.ref x107), .val (.ref x115), .val (.ref x121), .val (.ref x123), .val (.ref x115)] [(.int (0 : Int32)), (.ref x115)])) (fun _ k => XS.iconst W129.here hx rfl (hb hby at_188) k) ?_
    obtain ⟨T130, W130, st130⟩ := own_sch W129 hx (own_wch C) (w64 C) (w65 C) (w67 C) (w66 C) (w3 C) f128 C.cs C.sf (nle rfl) (i := 0) (j := (0 : Int32)) (nle rfl) rfl (Wd := 0) (nle rfl) (nle rfl) (nle rfl) (nle rfl) (g := (mkF m 189 #[.val (.int p1), .val (.int p2), .val (.int p3), .val (.int p4), .val (.int p5), .val (.int p6), .val (.int (3 : Int32)), .val (.int c94), .val (.int c95), .val (.int c96), .val (.ref x97), .val (.ref x101), .val (.ref x107), .val (.ref x115), .val (.ref x121), .val (.ref x123), .val (.ref x115)] [(.int (0 : Int32)), (.ref x115)])) rfl (by rw [hml]; rfl) rfl (by show 2 * 0 + _ ≤ _; exact Nat.le_of_eq rfl) (hb hby at_189)
    refine go (g' := (mkF m 192 #[.val (.int p1), .val (.int p2), .val (.int p3), .val (.int p4), .val (.int p5), .val (.int p6), .val (.int (3 : Int32)), .val (.int c94), .val (.int c95), .val (.int c96), .val (.ref x97), .val (.ref x101), .val (.ref x107), .val (.ref x115), .val (.ref x121), .val (.ref x123), .val (.ref x115)] [(.int c94)])) (st130) ?_
    refine go (g' := (mkF m 194 #[.val (.int p1), .val (.int p2), .val (.int p3), .val (.int p4), .val (.int p5), .val (.int p6), .val (.int (3 : Int32)), .val (.int c94), .val (.int c95), .val (.int c96), .val (.ref x97), .val (.ref x101), .val (.ref x107), .val (.ref x115), .val (.ref x121), .val (.ref x123), .val (.ref x115)] [(.int c94), (.int c94)])) (fun _ k => XS.iload W130.here hx rfl (hb hby at_192) rfl k) ?_
    refine go (g' := (mkF m 199 #[.val (.int p1), .val (.int p2), .val (.int p3), .val (.int p4), .val (.int p5), .val (.int p6), .val (.int (3 : Int32)), .val (.int c94), .val (.int c95), .val (.int c96), .val (.ref x97), .val (.ref x101), .val (.ref x107), .val (.ref x115), .val (.ref x121), .val (.ref x123), .val (.ref x115)] [])) (fun _ k => XS.icmpYes W130.here hx rfl (pc0 := 194) (pc' := 199) rfl (hb hby at_194) rfl (teq (rfl : c94 = c94)).1 (by decide) (by decide) k) ?_
    refine go (g' := (mkF m 201 #[.val (.int p1), .val (.int p2), .val (.int p3), .val (.int p4), .val (.int p5), .val (.int p6), .val (.int (3 : Int32)), .val (.int c94), .val (.int c95), .val (.int c96), .val (.ref x97), .val (.ref x101), .val (.ref x107), .val (.ref x115), .val (.ref x121), .val (.ref x123), .val (.ref x115)] [(.int (3 : Int32))])) (fun _ k => XS.iload W130.here hx rfl (hb hby at_199) rfl k) ?_
    refine go (g' := (mkF m 202 #[.val (.int p1), .val (.int p2), .val (.int p3), .val (.int p4), .val (.int p5), .val (.int p6), .val (.int (3 : Int32)), .val (.int c94), .val (.int c95), .val (.int c96), .val (.ref x97), .val (.ref x101), .val (.ref x107), .val (.ref x115), .val (.ref x121), .val (.ref x123), .val (.ref x115)] [(.int (2 : Int32)), (.int (3 : Int32))])) (fun _ k => XS.iconst W130.here hx rfl (hb hby at_201) k) ?_
    refine go (g' := (mkF m 205 #[.val (.int p1), .val (.int p2), .val (.int p3), .val (.int p4), .val (.int p5), .val (.int p6), .val (.int (3 : Int32)), .val (.int c94), .val (.int c95), .val (.int c96), .val (.ref x97), .val (.ref x101), .val (.ref x107), .val (.ref x115), .val (.ref x121), .val (.ref x123), .val (.ref x115)] [])) (fun _ k => XS.icmpNo W130.here hx rfl (hb hby at_202) rfl (flt ((by decide) : ¬ ((3 : Int32) < (2 : Int32)))).1 k) ?_
    refine go (g' := (mkF m 207 #[.val (.int p1), .val (.int p2), .val (.int p3), .val (.int p4), .val (.int p5), .val (.int p6), .val (.int (3 : Int32)), .val (.int c94), .val (.int c95), .val (.int c96), .val (.ref x97), .val (.ref x101), .val (.ref x107), .val (.ref x115), .val (.ref x121), .val (.ref x123), .val (.ref x115)] [(.ref x115)])) (fun _ k => XS.aload W130.here hx rfl (hb hby at_205) rfl rfl k) ?_
    refine go (g' := (mkF m 208 #[.val (.int p1), .val (.int p2), .val (.int p3), .val (.int p4), .val (.int p5), .val (.int p6), .val (.int (3 : Int32)), .val (.int c94), .val (.int c95), .val (.int c96), .val (.ref x97), .val (.ref x101), .val (.ref x107), .val (.ref x115), .val (.ref x121), .val (.ref x123), .val (.ref x115)] [(.int (1 : Int32)), (.ref x115)])) (fun _ k => XS.iconst W130.here hx rfl (hb hby at_207) k) ?_
    obtain ⟨T131, W131, st131⟩ := own_sch W130 hx (own_wch C) (w64 C) (w65 C) (w67 C) (w66 C) (w3 C) f128 C.cs C.sf (nle rfl) (i := 1) (j := (1 : Int32)) (nle rfl) rfl (Wd := 0) (nle rfl) (nle rfl) (nle rfl) (nle rfl) (g := (mkF m 208 #[.val (.int p1), .val (.int p2), .val (.int p3), .val (.int p4), .val (.int p5), .val (.int p6), .val (.int (3 : Int32)), .val (.int c94), .val (.int c95), .val (.int c96), .val (.ref x97), .val (.ref x101), .val (.ref x107), .val (.ref x115), .val (.ref x121), .val (.ref x123), .val (.ref x115)] [(.int (1 : Int32)), (.ref x115)])) rfl (by rw [hml]; rfl) rfl (by show 2 * 0 + _ ≤ _; exact Nat.le_of_eq rfl) (hb hby at_208)
    refine go (g' := (mkF m 211 #[.val (.int p1), .val (.int p2), .val (.int p3), .val (.int p4), .val (.int p5), .val (.int p6), .val (.int (3 : Int32)), .val (.int c94), .val (.int c95), .val (.int c96), .val (.ref x97), .val (.ref x101), .val (.ref x107), .val (.ref x115), .val (.ref x121), .val (.ref x123), .val (.ref x115)] [(.int c95)])) (st131) ?_
    refine go (g' := (mkF m 213 #[.val (.int p1), .val (.int p2), .val (.int p3), .val (.int p4), .val (.int p5), .val (.int p6), .val (.int (3 : Int32)), .val (.int c94), .val (.int c95), .val (.int c96), .val (.ref x97), .val (.ref x101), .val (.ref x107), .val (.ref x115), .val (.ref x121), .val (.ref x123), .val (.ref x115)] [(.int c95), (.int c95)])) (fun _ k => XS.iload W131.here hx rfl (hb hby at_211) rfl k) ?_
    refine go (g' := (mkF m 218 #[.val (.int p1), .val (.int p2), .val (.int p3), .val (.int p4), .val (.int p5), .val (.int p6), .val (.int (3 : Int32)), .val (.int c94), .val (.int c95), .val (.int c96), .val (.ref x97), .val (.ref x101), .val (.ref x107), .val (.ref x115), .val (.ref x121), .val (.ref x123), .val (.ref x115)] [])) (fun _ k => XS.icmpYes W131.here hx rfl (pc0 := 213) (pc' := 218) rfl (hb hby at_213) rfl (teq (rfl : c95 = c95)).1 (by decide) (by decide) k) ?_
    refine go (g' := (mkF m 220 #[.val (.int p1), .val (.int p2), .val (.int p3), .val (.int p4), .val (.int p5), .val (.int p6), .val (.int (3 : Int32)), .val (.int c94), .val (.int c95), .val (.int c96), .val (.ref x97), .val (.ref x101), .val (.ref x107), .val (.ref x115), .val (.ref x121), .val (.ref x123), .val (.ref x115)] [(.int (3 : Int32))])) (fun _ k => XS.iload W131.here hx rfl (hb hby at_218) rfl k) ?_
    refine go (g' := (mkF m 221 #[.val (.int p1), .val (.int p2), .val (.int p3), .val (.int p4), .val (.int p5), .val (.int p6), .val (.int (3 : Int32)), .val (.int c94), .val (.int c95), .val (.int c96), .val (.ref x97), .val (.ref x101), .val (.ref x107), .val (.ref x115), .val (.ref x121), .val (.ref x123), .val (.ref x115)] [(.int (3 : Int32)), (.int (3 : Int32))])) (fun _ k => XS.iconst W131.here hx rfl (hb hby at_220) k) ?_
    refine go (g' := (mkF m 224 #[.val (.int p1), .val (.int p2), .val (.int p3), .val (.int p4), .val (.int p5), .val (.int p6), .val (.int (3 : Int32)), .val (.int c94), .val (.int c95), .val (.int c96), .val (.ref x97), .val (.ref x101), .val (.ref x107), .val (.ref x115), .val (.ref x121), .val (.ref x123), .val (.ref x115)] [])) (fun _ k => XS.icmpNo W131.here hx rfl (hb hby at_221) rfl (teq ((by decide) : (3 : Int32) = (3 : Int32))).2 k) ?_
    refine go (g' := (mkF m 226 #[.val (.int p1), .val (.int p2), .val (.int p3), .val (.int p4), .val (.int p5), .val (.int p6), .val (.int (3 : Int32)), .val (.int c94), .val (.int c95), .val (.int c96), .val (.ref x97), .val (.ref x101), .val (.ref x107), .val (.ref x115), .val (.ref x121), .val (.ref x123), .val (.ref x115)] [(.ref x115)])) (fun _ k => XS.aload W131.here hx rfl (hb hby at_224) rfl rfl k) ?_
    refine go (g' := (mkF m 227 #[.val (.int p1), .val (.int p2), .val (.int p3), .val (.int p4), .val (.int p5), .val (.int p6), .val (.int (3 : Int32)), .val (.int c94), .val (.int c95), .val (.int c96), .val (.ref x97), .val (.ref x101), .val (.ref x107), .val (.ref x115), .val (.ref x121), .val (.ref x123), .val (.ref x115)] [(.int (2 : Int32)), (.ref x115)])) (fun _ k => XS.iconst W131.here hx rfl (hb hby at_226) k) ?_
    obtain ⟨T132, W132, st132⟩ := own_sch W131 hx (own_wch C) (w64 C) (w65 C) (w67 C) (w66 C) (w3 C) f128 C.cs C.sf (nle rfl) (i := 2) (j := (2 : Int32)) (nle rfl) rfl (Wd := 0) (nle rfl) (nle rfl) (nle rfl) (nle rfl) (g := (mkF m 227 #[.val (.int p1), .val (.int p2), .val (.int p3), .val (.int p4), .val (.int p5), .val (.int p6), .val (.int (3 : Int32)), .val (.int c94), .val (.int c95), .val (.int c96), .val (.ref x97), .val (.ref x101), .val (.ref x107), .val (.ref x115), .val (.ref x121), .val (.ref x123), .val (.ref x115)] [(.int (2 : Int32)), (.ref x115)])) rfl (by rw [hml]; rfl) rfl (by show 2 * 0 + _ ≤ _; exact Nat.le_of_eq rfl) (hb hby at_227)
    refine go (g' := (mkF m 230 #[.val (.int p1), .val (.int p2), .val (.int p3), .val (.int p4), .val (.int p5), .val (.int p6), .val (.int (3 : Int32)), .val (.int c94), .val (.int c95), .val (.int c96), .val (.ref x97), .val (.ref x101), .val (.ref x107), .val (.ref x115), .val (.ref x121), .val (.ref x123), .val (.ref x115)] [(.int c96)])) (st132) ?_
    refine go (g' := (mkF m 232 #[.val (.int p1), .val (.int p2), .val (.int p3), .val (.int p4), .val (.int p5), .val (.int p6), .val (.int (3 : Int32)), .val (.int c94), .val (.int c95), .val (.int c96), .val (.ref x97), .val (.ref x101), .val (.ref x107), .val (.ref x115), .val (.ref x121), .val (.ref x123), .val (.ref x115)] [(.int c96), (.int c96)])) (fun _ k => XS.iload W132.here hx rfl (hb hby at_230) rfl k) ?_
    refine go (g' := (mkF m 237 #[.val (.int p1), .val (.int p2), .val (.int p3), .val (.int p4), .val (.int p5), .val (.int p6), .val (.int (3 : Int32)), .val (.int c94), .val (.int c95), .val (.int c96), .val (.ref x97), .val (.ref x101), .val (.ref x107), .val (.ref x115), .val (.ref x121), .val (.ref x123), .val (.ref x115)] [])) (fun _ k => XS.icmpYes W132.here hx rfl (pc0 := 232) (pc' := 237) rfl (hb hby at_232) rfl (teq (rfl : c96 = c96)).1 (by decide) (by decide) k) ?_
    refine go (g' := (mkF m 239 #[.val (.int p1), .val (.int p2), .val (.int p3), .val (.int p4), .val (.int p5), .val (.int p6), .val (.int (3 : Int32)), .val (.int c94), .val (.int c95), .val (.int c96), .val (.ref x97), .val (.ref x101), .val (.ref x107), .val (.ref x115), .val (.ref x121), .val (.ref x123), .val (.ref x115)] [(.ref x115)])) (fun _ k => XS.aload W132.here hx rfl (hb hby at_237) rfl rfl k) ?_
    refine go (g' := (mkF m 241 #[.val (.int p1), .val (.int p2), .val (.int p3), .val (.int p4), .val (.int p5), .val (.int p6), .val (.int (3 : Int32)), .val (.int c94), .val (.int c95), .val (.int c96), .val (.ref x97), .val (.ref x101), .val (.ref x107), .val (.ref x115), .val (.ref x121), .val (.ref x123), .val (.ref x115)] [(.ref x115), (.ref x115)])) (fun _ k => XS.aload W132.here hx rfl (hb hby at_239) rfl rfl k) ?_
    have f134 : Exa Z h123 x115 "java/lang/String" := S117.1.ext X127
    obtain ⟨v133, so133, vm133, T133, h133, W133, C133, q133, hso133, st133⟩ := own_virtual W132 hx (y := (⟨"java/lang/String", "equals", "(Ljava/lang/Object;)Z"⟩ : MethodName)) (z := (⟨"java/lang/String", "equals", "(Ljava/lang/Object;)Z"⟩ : MethodName)) (w85 C) (w86 C) (w88 C) (w87 C) (w4 C) (w89 C) (by decide) (own_nf W132 (w88 C)) f134 (rm_eqsame C h123 x115) (fun _ q => nomatch q) (Wd := 0) (nle rfl) (nle rfl) (nle rfl) (nle rfl) (g := (mkF m 241 #[.val (.int p1), .val (.int p2), .val (.int p3), .val (.int p4), .val (.int p5), .val (.int p6), .val (.int (3 : Int32)), .val (.int c94), .val (.int c95), .val (.int c96), .val (.ref x97), .val (.ref x101), .val (.ref x107), .val (.ref x115), .val (.ref x121), .val (.ref x123), .val (.ref x115)] [(.ref x115), (.ref x115)])) rfl (by rw [hml]; rfl) (argsL := [(.ref x115)]) (rest := []) (lenOf pd_5 rfl) rfl rfl (by show 2 * 0 + _ ≤ _; exact Nat.le_of_eq rfl) (hb hby at_241)
    obtain ⟨rfl, rfl⟩ := q133
    refine go (g' := (mkF m 244 #[.val (.int p1), .val (.int p2), .val (.int p3), .val (.int p4), .val (.int p5), .val (.int p6), .val (.int (3 : Int32)), .val (.int c94), .val (.int c95), .val (.int c96), .val (.ref x97), .val (.ref x101), .val (.ref x107), .val (.ref x115), .val (.ref x121), .val (.ref x123), .val (.ref x115)] [(.int (1 : Int32))])) (st133) ?_
    exact fin (v := some (.int (1 : Int32))) (so := []) W133 (nle rfl) (nle rfl) (rfl) (fun _ q => nomatch q) (fun q => nomatch q) (own_retI W133 hx hret (by decide) rfl (hb hby at_244))
set_option maxRecDepth 65536 in
set_option maxHeartbeats 40000000 in
theorem comes_1 {Post : Tables → Env → Array Value → State → Outcome → State → Prop} (hpost : ∀ tb e args s v u, (limb_1_1.after args s (.returned v) u = true ∧ limb_1_2.after args s (.returned v) u = true ∧ True) → FrameEnd s (.returned v) u (Jvm.fieldLocs frame_1_writes args s ++ Jvm.arrayLocs frame_1_arrays args s ++ Jvm.staticLocs frame_1_statics s) 32 128 → Post tb e args s (.returned v) u) :
    ArmFor flags0 classFile x code maxLocals ret World_1 tables_1 room_1 Calls_1 rest_1 Pre_1 Post := by
  intro l hfl _ _ p e ha hc hk s m args below hf hA hF happ hP
  obtain ⟨hcalls, hrest, hpre⟩ := hP
  obtain ⟨-, -, -, hnamed, -, -, -, hat⟩ := (Spec.applies_iff hf).mp happ
  obtain ⟨hg, hn⟩ := and_e (Cond.before_iff.mp (show (Jvm.Cond.and given_1 narrow_1).before args s = true from hpre))
  obtain ⟨gg1, gg2⟩ := and_e hg
  obtain ⟨gg3, gg4⟩ := and_e gg2
  obtain ⟨gg5, gg6⟩ := and_e gg4
  obtain ⟨gg7, gg8⟩ := and_e gg6
  obtain ⟨gg9, gg10⟩ := and_e gg8
  obtain ⟨gg11, gg12⟩ := and_e gg10
  obtain ⟨w0, w1, w2, w3, w4, w5, rfl⟩ : ∃ w0 w1 w2 w3 w4 w5 : Value, args = #[w0, w1, w2, w3, w4, w5] := by
    have hs : args.size = 6 := by simpa [Cond.value, given_1] using gg1
    obtain ⟨L⟩ := args
    match L, hs with
    | [w0, w1, w2, w3, w4, w5], _ => exact ⟨w0, w1, w2, w3, w4, w5, rfl⟩
  have hw := fun d (hd : d ∈ tables_1) => atoms_spec (ws := Jvm.Cond.code x code maxLocals ret :: tables_1) hat d (List.mem_cons_of_mem _ hd)
  obtain ⟨hsets, hown0⟩ := atoms_of _ (rest_1_c_eq ▸ (show rest_1_c.before _ s = true from hrest))
  have n3 := not_v (Cond.before_iff.mp (hsets _ (List.mem_of_getElem? (i := 2) rfl)))
  obtain ⟨i0, ei0⟩ := is_v gg3
  obtain rfl : w0 = (.int i0) := Option.some.inj ei0
  obtain ⟨i1, ei1⟩ := is_v gg5
  obtain rfl : w1 = (.int i1) := Option.some.inj ei1
  obtain ⟨i2, ei2⟩ := is_v gg7
  obtain rfl : w2 = (.int i2) := Option.some.inj ei2
  obtain ⟨i3, ei3⟩ := is_v gg9
  obtain rfl : w3 = (.int i3) := Option.some.inj ei3
  obtain ⟨i4, ei4⟩ := is_v gg11
  obtain rfl : w4 = (.int i4) := Option.some.inj ei4
  obtain ⟨i5, ei5⟩ := is_v gg12
  obtain rfl : w5 = (.int i5) := Option.some.inj ei5
  obtain ⟨gz, egz⟩ := is_v (Cond.before_iff.mp (hsets _ (List.mem_of_getElem? (i := 1) rfl)))
  have S8 : Sta s s.heap "java/lang/String" "COMPACT_STRINGS" "Z" (.int gz) := Sta.start egz (Or.inl (hsets _ (List.mem_of_getElem? (i := 0) rfl)))
  obtain ⟨gf, egf, rgf⟩ := isR_v (Cond.before_iff.mp (hsets _ (List.mem_of_getElem? (i := 8) rfl)))
  have S12 : Sta s s.heap "jdk/internal/util/Preconditions" "SIOOBE_FORMATTER" "Ljava/util/function/BiFunction;" gf := Sta.start egf (Or.inl (hsets _ (List.mem_of_getElem? (i := 7) rfl)))
  have c13 : ¬ (gz = (0 : Int32)) := gotF (Cond.eq_ints egz (Term.int_eval (0))) n3
  have hEW : EW s #[(.int i0), (.int i1), (.int i2), (.int i3), (.int i4), (.int i5)] own_EL := EW.nil
  have CX : Cx s _ := ⟨hw, hEW, ⟨gz, S8, c13⟩, ⟨gf, S12, rgf⟩⟩
  have hCH : CHv s own_EL s.vm s.heap := fun _ q => nomatch q
  obtain ⟨n, o, h1, h2, h3, v, L, rfl, ⟨⟨so, hQ⟩, N, -⟩, hq⟩ := rm0 (l := l) CX s.heap i0 i1 i2 i3 i4 i5 (own_xr _) p e ha hc hk s m _ below hf ((Spec.applies_iff_loose hf).mp happ).1 ⟨rfl, State.Warmed39.refl s, rfl⟩ trivial
  subst hQ
  refine ⟨n, _, h1, h2, h3, hpost _ _ _ _ _ _ ⟨Cond.after_iff.mpr rfl, Cond.after_iff.mpr (eq_i res_at (Term.int_eval (1)) rfl), trivial⟩ ⟨hq.1, hq.2.1, (hq.2.2.sift fun y hy => Or.inr (N y hy)).mono (by decide) (by decide)⟩⟩
theorem main_1_1 : Claimed_1_1 := comes_1 fun _ _ _ _ _ _ h hF => ⟨h.1, hF⟩
theorem main_1_2 : Claimed_1_2 := comes_1 fun _ _ _ _ _ _ h hF => ⟨h.2.1, hF⟩
end Jvm.Pilot.@@N@@
namespace Jvm.Pilot.@@N@@
open Jvm Jvm.ClassFile Sem Op Lib Jvm.Free Jvm.Stand Jvm.Pilot.@@N@@.Jvm.D
/-! MADE BY PROGRAM (witnessworld.py) out of the Statement's table words and the real class files: 20 classes; the members and pool entries that the words name. The judged class is class 1, her method 1. -/
namespace start1
open Jvm.ClassFile
def u (s : String) : CpInfo := .utf8 (stringToUtf16 s)
/-- a pool by its gaps: so many unusable entries, then the entry; so many at the end -/
def gap : Nat → List CpInfo → List CpInfo
  | 0, r => r
  | n + 1, r => .unusable :: gap n r
def poolList (es : List (Nat × CpInfo)) (last : Nat) : List CpInfo := es.foldr (fun e r => gap e.1 (e.2 :: r)) (gap last [])
def pool (es : List (Nat × CpInfo)) (last : Nat) : Array CpInfo := ⟨poolList es last⟩
def fileOf (pool : Array CpInfo) (this : Nat) (attrs : Array Attribute := #[]) (ms : Array MethodInfo := #[]) (fl : Nat := 33) (sup : Nat := 0) (ifs : Array Nat := #[]) (fds : Array FieldInfo := #[]) : ClassFile where
  minorVersion := 0
  majorVersion := 65
  constantPool := pool
  accessFlags := fl
  thisClass := this
  superClass := sup
  interfaces := ifs
  fields := fds
  methods := ms
  attributes := attrs
def plain (name : String) (sup : Option ClassId) : Class where
  name := name
  kind := .ordinary
  loader := none
  accessFlags := 33
  super := sup
  interfaces := #[]
  cf := none
  fields := #[]
  methods := #[]
  instanceTypes := #[]
  staticTypes := #[]
  resolved := #[]
  callSites := []
  init := .initialized
  statics := none
  mirror := none

def pool0 : Array CpInfo := pool [(5, u "<init>"), (0, u "()V"), (1, .class_ 10), (1, u "java/lang/Object")] 113

def k0c0 : Code := { maxStack := 0, maxLocals := 1, code := object_method_1_code, exceptionTable := #[], attributes := #[] }
def k0m0 : Method := { name := "<init>", desc := "()V", sig := { parameters := [], returnType := none }, accessFlags := 1, code := some k0c0 }
/-- java/lang/Object -/
def k0 : Class := { plain "java/lang/Object" none with
  accessFlags := 33
  interfaces := #[]
  cf := some (fileOf pool0 8 #[] #[{ accessFlags := 1, nameIndex := 5, descriptorIndex := 6, attributes := #[] }] 33 0 #[] #[])
  fields := #[]
  methods := #[k0m0]
  instanceTypes := #[]
  staticTypes := #[]
  resolved := Array.replicate 124 none
  statics := none }

def pool1 : Array CpInfo := pool [(2, .class_ 4), (1, u "java/lang/Object"), (0, u "<init>"), (0, u "()V"), (0, .integer 2147483647), (0, .class_ 9), (0, u "java/lang/String"), (0, .methodref 8 11), (0, .nameAndType 5 12), (0, u "([C)V"), (0, .methodref 8 14), (0, .nameAndType 15 16), (0, u "valueOf"), (0, u "(C)Ljava/lang/String;"), (0, .methodref 18 19), (0, .class_ 20), (0, .nameAndType 21 22), (0, u "com/example/forseti/forseti/io/Csv"), (0, u "required"), (0, u "(Ljava/lang/String;Ljava/lang/String;Ljava/lang/String;)Ljava/lang/String;"), (0, .methodref 8 24), (0, .nameAndType 25 26), (0, u "length"), (0, u "()I"), (0, .methodref 8 28), (0, .nameAndType 29 30), (0, u "charAt"), (0, u "(I)C"), (0, .methodref 8 32), (0, .nameAndType 33 34), (0, u "equals"), (0, u "(Ljava/lang/Object;)Z"), (0, .class_ 36), (0, u "com/example/forseti/forseti/io/CsvRequiredPinLaw"), (2, u "law"), (0, u "(IIIIII)Z")] 5

def k1m0 : Method := { name := "<init>", desc := "()V", sig := { parameters := [], returnType := none }, accessFlags := 2, code := none }
def k1c1 : Code := { maxStack := 3, maxLocals := 17, code := code, exceptionTable := #[], attributes := #[] }
def k1m1 : Method := { name := "law", desc := "(IIIIII)Z", sig := { parameters := [.int, .int, .int, .int, .int, .int], returnType := some .boolean }, accessFlags := 9, code := some k1c1 }
/-- com/example/forseti/forseti/io/CsvRequiredPinLaw -/
def k1 : Class := { plain "com/example/forseti/forseti/io/CsvRequiredPinLaw" (some 0) with
  accessFlags := 49
  interfaces := #[]
  cf := some (fileOf pool1 35 #[] #[{ accessFlags := 2, nameIndex := 5, descriptorIndex := 6, attributes := #[] }, { accessFlags := 9, nameIndex := 39, descriptorIndex := 40, attributes := #[] }] 49 2 #[] #[])
  fields := #[]
  methods := #[k1m0, k1m1]
  instanceTypes := #[]
  staticTypes := #[]
  resolved := Array.replicate 46 none
  statics := none }

def pool2 : Array CpInfo := pool [(1, .class_ 2), (0, u "java/io/Serializable"), (0, .class_ 4), (0, u "java/lang/Object")] 2

/-- java/io/Serializable -/
def k2 : Class := { plain "java/io/Serializable" (some 0) with
  accessFlags := 1537
  interfaces := #[]
  cf := some (fileOf pool2 1 #[] #[] 1537 3 #[] #[])
  fields := #[]
  methods := #[]
  instanceTypes := #[]
  staticTypes := #[]
  resolved := Array.replicate 7 none
  statics := none }

def pool3 : Array CpInfo := pool [(1, .class_ 2), (0, u "java/lang/Comparable"), (0, .class_ 4), (0, u "java/lang/Object")] 7

/-- java/lang/Comparable -/
def k3 : Class := { plain "java/lang/Comparable" (some 0) with
  accessFlags := 1537
  interfaces := #[]
  cf := some (fileOf pool3 1 #[] #[] 1537 3 #[] #[])
  fields := #[]
  methods := #[]
  instanceTypes := #[]
  staticTypes := #[]
  resolved := Array.replicate 12 none
  statics := none }

def pool4 : Array CpInfo := pool [(2, .class_ 4), (1, u "java/lang/CharSequence"), (42, .class_ 48), (0, u "java/lang/CharSequence$1CodePointIterator"), (10, .class_ 60), (0, u "java/lang/CharSequence$1CharIterator"), (5, .class_ 67), (0, u "java/lang/Object")] 63

/-- java/lang/CharSequence -/
def k4 : Class := { plain "java/lang/CharSequence" (some 0) with
  accessFlags := 1537
  interfaces := #[]
  cf := some (fileOf pool4 2 #[.nestMembers #[47, 59]] #[] 1537 66 #[] #[])
  fields := #[]
  methods := #[]
  instanceTypes := #[]
  staticTypes := #[]
  resolved := Array.replicate 131 none
  statics := none }

def pool5 : Array CpInfo := pool [(1, .class_ 2), (0, u "java/lang/constant/Constable"), (0, .class_ 4), (0, u "java/lang/Object")] 6

/-- java/lang/constant/Constable -/
def k5 : Class := { plain "java/lang/constant/Constable" (some 0) with
  accessFlags := 1537
  interfaces := #[]
  cf := some (fileOf pool5 1 #[] #[] 1537 3 #[] #[])
  fields := #[]
  methods := #[]
  instanceTypes := #[]
  staticTypes := #[]
  resolved := Array.replicate 11 none
  statics := none }

def pool6 : Array CpInfo := pool [(1, .class_ 2), (0, u "java/lang/constant/ConstantDesc"), (0, .class_ 4), (0, u "java/lang/Object")] 32

/-- java/lang/constant/ConstantDesc -/
def k6 : Class := { plain "java/lang/constant/ConstantDesc" (some 0) with
  accessFlags := 1537
  interfaces := #[]
  cf := some (fileOf pool6 1 #[] #[] 1537 3 #[] #[])
  fields := #[]
  methods := #[]
  instanceTypes := #[]
  staticTypes := #[]
  resolved := Array.replicate 37 none
  statics := none }

def pool7 : Array CpInfo := pool [(1, .methodref 2 3), (0, .class_ 4), (0, .nameAndType 5 6), (0, u "java/lang/Object"), (0, u "<init>"), (0, u "()V"), (2, .fieldref 10 11), (0, .class_ 12), (0, .nameAndType 13 14), (0, u "java/lang/String"), (0, u "value"), (0, u "[B"), (0, .fieldref 10 16), (0, .nameAndType 17 18), (0, u "coder"), (0, u "B"), (2, u "hash"), (0, u "I"), (2, u "hashIsZero"), (0, u "Z"), (0, .methodref 10 28), (0, .nameAndType 5 29), (0, u "([CIILjava/lang/Void;)V"), (8, .fieldref 10 39), (0, .nameAndType 40 26), (0, u "COMPACT_STRINGS"), (1, .class_ 44), (1, u "java/lang/StringUTF16"), (0, u "compress"), (1, .methodref 42 48), (0, .nameAndType 49 50), (0, u "coderFromArrayLen"), (0, u "([BI)B"), (2, u "toBytes"), (53, .class_ 109), (1, u "java/lang/StringLatin1"), (32, u "()Z"), (34, .methodref 42 178), (0, .nameAndType 45 179), (0, u "([CII)[B"), (29, .methodref 10 210), (0, .nameAndType 5 211), (0, u "([BB)V"), (122, u "()I"), (0, .methodref 10 336), (0, .nameAndType 17 337), (0, u "()B"), (25, u "([BI)C"), (5, u "(C)Z"), (21, u "(II)V"), (35, u "(I)C"), (64, .methodref 10 493), (0, .nameAndType 494 142), (0, u "isLatin1"), (0, .methodref 107 496), (0, .nameAndType 497 363), (0, u "charAt"), (3, u "checkIndex"), (5, u "length"), (35, u "equals"), (29, u "(Ljava/lang/Object;)Z"), (1, .class_ 576), (0, u "java/lang/CharSequence"), (22, u "CASE_INSENSITIVE_ORDER"), (0, u "Ljava/util/Comparator;"), (91, u "isEmpty"), (89, u "valueOf"), (0, u "(C)Ljava/lang/String;"), (226, u "([C)V"), (4, .methodref 107 1016), (0, .nameAndType 1017 369), (0, u "canEncode"), (0, .methodref 107 1019), (0, .nameAndType 53 1020), (0, u "(C)[B"), (32, .fieldref 1054 1055), (0, .class_ 1056), (0, .nameAndType 1057 1058), (0, u "jdk/internal/util/Preconditions"), (0, u "SIOOBE_FORMATTER"), (0, u "Ljava/util/function/BiFunction;"), (0, .methodref 1054 1060), (0, .nameAndType 501 1061), (0, u "(IILjava/util/function/BiFunction;)I"), (39, u "serialPersistentFields"), (0, u "[Ljava/io/ObjectStreamField;"), (0, .class_ 1104), (0, u "java/lang/String$CaseInsensitiveComparator"), (1, .class_ 1107), (0, u "java/io/Serializable"), (0, .class_ 1109), (0, u "java/lang/Comparable"), (0, .class_ 1111), (0, u "java/lang/constant/Constable"), (0, .class_ 1113), (0, u "java/lang/constant/ConstantDesc"), (2, u "serialVersionUID"), (0, u "J"), (3, u "REPL"), (0, u "C"), (2, u "LATIN1"), (1, u "UTF16")] 323

def k7m0 : Method := { name := "<init>", desc := "()V", sig := { parameters := [], returnType := none }, accessFlags := 1, code := none }
def k7c1 : Code := { maxStack := 5, maxLocals := 2, code := jdk_42_method_3_code, exceptionTable := #[], attributes := #[] }
def k7m1 : Method := { name := "<init>", desc := "([C)V", sig := { parameters := [(.array .char)], returnType := none }, accessFlags := 1, code := some k7c1 }
def k7c2 : Code := { maxStack := 2, maxLocals := 1, code := jdk_42_method_54_code, exceptionTable := #[], attributes := #[] }
def k7m2 : Method := { name := "length", desc := "()I", sig := { parameters := [], returnType := some .int }, accessFlags := 1, code := some k7c2 }
def k7c3 : Code := { maxStack := 1, maxLocals := 1, code := jdk_42_method_55_code, exceptionTable := #[], attributes := #[] }
def k7m3 : Method := { name := "isEmpty", desc := "()Z", sig := { parameters := [], returnType := some .boolean }, accessFlags := 1, code := some k7c3 }
def k7c4 : Code := { maxStack := 2, maxLocals := 2, code := jdk_42_method_56_code, exceptionTable := #[], attributes := #[] }
def k7m4 : Method := { name := "charAt", desc := "(I)C", sig := { parameters := [.int], returnType := some .char }, accessFlags := 1, code := some k7c4 }
def k7c5 : Code := { maxStack := 2, maxLocals := 3, code := jdk_42_method_66_code, exceptionTable := #[], attributes := #[] }
def k7m5 : Method := { name := "equals", desc := "(Ljava/lang/Object;)Z", sig := { parameters := [(.object "java/lang/Object")], returnType := some .boolean }, accessFlags := 1, code := some k7c5 }
def k7c6 : Code := { maxStack := 4, maxLocals := 1, code := jdk_42_method_139_code, exceptionTable := #[], attributes := #[] }
def k7m6 : Method := { name := "valueOf", desc := "(C)Ljava/lang/String;", sig := { parameters := [.char], returnType := some (.object "java/lang/String") }, accessFlags := 9, code := some k7c6 }
def k7c7 : Code := { maxStack := 4, maxLocals := 6, code := jdk_42_method_149_code, exceptionTable := #[], attributes := #[] }
def k7m7 : Method := { name := "<init>", desc := "([CIILjava/lang/Void;)V", sig := { parameters := [(.array .char), .int, .int, (.object "java/lang/Void")], returnType := none }, accessFlags := 2, code := some k7c7 }
def k7c8 : Code := { maxStack := 2, maxLocals := 3, code := jdk_42_method_151_code, exceptionTable := #[], attributes := #[] }
def k7m8 : Method := { name := "<init>", desc := "([BB)V", sig := { parameters := [(.array .byte), .byte], returnType := none }, accessFlags := 0, code := some k7c8 }
def k7c9 : Code := { maxStack := 1, maxLocals := 1, code := jdk_42_method_152_code, exceptionTable := #[], attributes := #[] }
def k7m9 : Method := { name := "coder", desc := "()B", sig := { parameters := [], returnType := some .byte }, accessFlags := 0, code := some k7c9 }
def k7c10 : Code := { maxStack := 1, maxLocals := 1, code := jdk_42_method_154_code, exceptionTable := #[], attributes := #[] }
def k7m10 : Method := { name := "isLatin1", desc := "()Z", sig := { parameters := [], returnType := some .boolean }, accessFlags := 0, code := some k7c10 }
def k7c11 : Code := { maxStack := 3, maxLocals := 2, code := jdk_42_method_155_code, exceptionTable := #[], attributes := #[] }
def k7m11 : Method := { name := "checkIndex", desc := "(II)V", sig := { parameters := [.int, .int], returnType := none }, accessFlags := 8, code := some k7c11 }
/-- java/lang/String -/
def k7 : Class := { plain "java/lang/String" (some 0) with
  accessFlags := 49
  interfaces := #[2, 3, 4, 5, 6]
  cf := some (fileOf pool7 10 #[.nestMembers #[1103]] #[{ accessFlags := 1, nameIndex := 5, descriptorIndex := 6, attributes := #[] }, { accessFlags := 1, nameIndex := 5, descriptorIndex := 1010, attributes := #[] }, { accessFlags := 1, nameIndex := 507, descriptorIndex := 334, attributes := #[] }, { accessFlags := 1, nameIndex := 692, descriptorIndex := 142, attributes := #[] }, { accessFlags := 1, nameIndex := 497, descriptorIndex := 427, attributes := #[] }, { accessFlags := 1, nameIndex := 543, descriptorIndex := 573, attributes := #[] }, { accessFlags := 9, nameIndex := 782, descriptorIndex := 783, attributes := #[] }, { accessFlags := 2, nameIndex := 5, descriptorIndex := 29, attributes := #[] }, { accessFlags := 0, nameIndex := 5, descriptorIndex := 211, attributes := #[] }, { accessFlags := 0, nameIndex := 17, descriptorIndex := 337, attributes := #[] }, { accessFlags := 0, nameIndex := 494, descriptorIndex := 142, attributes := #[] }, { accessFlags := 8, nameIndex := 501, descriptorIndex := 391, attributes := #[] }] 49 2 #[1106, 1108, 575, 1110, 1112] #[{ accessFlags := 18, nameIndex := 13, descriptorIndex := 14, attributes := #[] }, { accessFlags := 18, nameIndex := 17, descriptorIndex := 18, attributes := #[] }, { accessFlags := 2, nameIndex := 21, descriptorIndex := 22, attributes := #[] }, { accessFlags := 2, nameIndex := 25, descriptorIndex := 26, attributes := #[] }, { accessFlags := 26, nameIndex := 1116, descriptorIndex := 1117, attributes := #[] }, { accessFlags := 24, nameIndex := 40, descriptorIndex := 26, attributes := #[] }, { accessFlags := 26, nameIndex := 1101, descriptorIndex := 1102, attributes := #[] }, { accessFlags := 26, nameIndex := 1121, descriptorIndex := 1122, attributes := #[] }, { accessFlags := 25, nameIndex := 599, descriptorIndex := 600, attributes := #[] }, { accessFlags := 24, nameIndex := 1125, descriptorIndex := 18, attributes := #[] }, { accessFlags := 24, nameIndex := 1127, descriptorIndex := 18, attributes := #[] }])
  fields := #[{ name := "value", type := (.array .byte), accessFlags := 18, slot := 0, constantValue := 0 }, { name := "coder", type := .byte, accessFlags := 18, slot := 1, constantValue := 0 }, { name := "hash", type := .int, accessFlags := 2, slot := 2, constantValue := 0 }, { name := "hashIsZero", type := .boolean, accessFlags := 2, slot := 3, constantValue := 0 }, { name := "serialVersionUID", type := .long, accessFlags := 26, slot := 0, constantValue := 0 }, { name := "COMPACT_STRINGS", type := .boolean, accessFlags := 24, slot := 1, constantValue := 0 }, { name := "serialPersistentFields", type := (.array (.object "java/io/ObjectStreamField")), accessFlags := 26, slot := 2, constantValue := 0 }, { name := "REPL", type := .char, accessFlags := 26, slot := 3, constantValue := 0 }, { name := "CASE_INSENSITIVE_ORDER", type := (.object "java/util/Comparator"), accessFlags := 25, slot := 4, constantValue := 0 }, { name := "LATIN1", type := .byte, accessFlags := 24, slot := 5, constantValue := 0 }, { name := "UTF16", type := .byte, accessFlags := 24, slot := 6, constantValue := 0 }]
  methods := #[k7m0, k7m1, k7m2, k7m3, k7m4, k7m5, k7m6, k7m7, k7m8, k7m9, k7m10, k7m11]
  instanceTypes := #[(.array .byte), .byte, .int, .boolean]
  staticTypes := #[.long, .boolean, (.array (.object "java/io/ObjectStreamField")), .char, (.object "java/util/Comparator"), .byte, .byte]
  resolved := Array.replicate 1451 none
  statics := some 0 }

def pool8 : Array CpInfo := pool [(6, .class_ 8), (1, u "java/lang/Object"), (0, u "<init>"), (0, u "()V"), (1, .class_ 14), (1, u "java/lang/StringUTF16"), (31, u "$assertionsDisabled"), (0, u "Z"), (13, u "HI_BYTE_SHIFT"), (0, u "I"), (2, u "LO_BYTE_SHIFT"), (49, .methodref 12 116), (0, .nameAndType 117 118), (0, u "compress"), (0, u "([CI[BII)I"), (3, u "([CII)[B"), (138, u "coderFromArrayLen"), (0, u "([BI)B"), (106, .class_ 371), (1, u "java/lang/StringUTF16$LinesSpliterator"), (58, u "MAX_LENGTH"), (196, .class_ 628), (0, u "java/lang/StringUTF16$CodePointsSpliterator"), (0, .class_ 630), (0, u "java/lang/StringUTF16$CharsSpliterator")] 4

def k8m0 : Method := { name := "<init>", desc := "()V", sig := { parameters := [], returnType := none }, accessFlags := 0, code := none }
def k8c1 : Code := { maxStack := 2, maxLocals := 2, code := jdk_52_method_15_code, exceptionTable := #[], attributes := #[] }
def k8m1 : Method := { name := "coderFromArrayLen", desc := "([BI)B", sig := { parameters := [(.array .byte), .int], returnType := some .byte }, accessFlags := 8, code := some k8c1 }
def k8c2 : Code := { maxStack := 5, maxLocals := 6, code := jdk_52_method_16_code, exceptionTable := #[], attributes := #[] }
def k8m2 : Method := { name := "compress", desc := "([CII)[B", sig := { parameters := [(.array .char), .int, .int], returnType := some (.array .byte) }, accessFlags := 9, code := some k8c2 }
def k8c3 : Code := { maxStack := 3, maxLocals := 7, code := jdk_52_method_21_code, exceptionTable := #[], attributes := #[] }
def k8m3 : Method := { name := "compress", desc := "([CI[BII)I", sig := { parameters := [(.array .char), .int, (.array .byte), .int, .int], returnType := some .int }, accessFlags := 9, code := some k8c3 }
/-- java/lang/StringUTF16 -/
def k8 : Class := { plain "java/lang/StringUTF16" (some 0) with
  accessFlags := 48
  interfaces := #[]
  cf := some (fileOf pool8 12 #[.nestMembers #[627, 629, 369]] #[{ accessFlags := 0, nameIndex := 9, descriptorIndex := 10, attributes := #[] }, { accessFlags := 8, nameIndex := 261, descriptorIndex := 262, attributes := #[] }, { accessFlags := 9, nameIndex := 117, descriptorIndex := 122, attributes := #[] }, { accessFlags := 9, nameIndex := 117, descriptorIndex := 118, attributes := #[] }] 48 6 #[] #[{ accessFlags := 26, nameIndex := 61, descriptorIndex := 62, attributes := #[] }, { accessFlags := 26, nameIndex := 65, descriptorIndex := 62, attributes := #[] }, { accessFlags := 24, nameIndex := 430, descriptorIndex := 62, attributes := #[] }, { accessFlags := 4120, nameIndex := 46, descriptorIndex := 47, attributes := #[] }])
  fields := #[{ name := "HI_BYTE_SHIFT", type := .int, accessFlags := 26, slot := 0, constantValue := 0 }, { name := "LO_BYTE_SHIFT", type := .int, accessFlags := 26, slot := 1, constantValue := 0 }, { name := "MAX_LENGTH", type := .int, accessFlags := 24, slot := 2, constantValue := 0 }, { name := "$assertionsDisabled", type := .boolean, accessFlags := 4120, slot := 3, constantValue := 0 }]
  methods := #[k8m0, k8m1, k8m2, k8m3]
  instanceTypes := #[]
  staticTypes := #[.int, .int, .int, .boolean]
  resolved := Array.replicate 635 none
  statics := none }

def pool9 : Array CpInfo := pool [(1, .class_ 2), (0, u "java/lang/String"), (1, .class_ 6), (1, u "java/lang/Object"), (0, u "<init>"), (0, u "()V"), (0, .methodref 1 10), (0, .nameAndType 11 12), (0, u "checkIndex"), (0, u "(II)V"), (1, .class_ 16), (1, u "java/lang/StringLatin1"), (36, u "([BI)C"), (36, u "canEncode"), (14, u "(C)Z"), (15, u "$assertionsDisabled"), (0, u "Z"), (98, .class_ 223), (1, u "java/lang/StringLatin1$LinesSpliterator"), (28, u "charAt"), (127, u "toBytes"), (1, u "(C)[B"), (7, .class_ 391), (0, u "java/lang/StringLatin1$CharsSpliterator")] 3

def k9m0 : Method := { name := "<init>", desc := "()V", sig := { parameters := [], returnType := none }, accessFlags := 0, code := none }
def k9c1 : Code := { maxStack := 2, maxLocals := 2, code := jdk_43_method_2_code, exceptionTable := #[], attributes := #[] }
def k9m1 : Method := { name := "charAt", desc := "([BI)C", sig := { parameters := [(.array .byte), .int], returnType := some .char }, accessFlags := 9, code := some k9c1 }
def k9c2 : Code := { maxStack := 2, maxLocals := 1, code := jdk_43_method_3_code, exceptionTable := #[], attributes := #[] }
def k9m2 : Method := { name := "canEncode", desc := "(C)Z", sig := { parameters := [.char], returnType := some .boolean }, accessFlags := 9, code := some k9c2 }
def k9c3 : Code := { maxStack := 4, maxLocals := 1, code := jdk_43_method_46_code, exceptionTable := #[], attributes := #[] }
def k9m3 : Method := { name := "toBytes", desc := "(C)[B", sig := { parameters := [.char], returnType := some (.array .byte) }, accessFlags := 9, code := some k9c3 }
/-- java/lang/StringLatin1 -/
def k9 : Class := { plain "java/lang/StringLatin1" (some 0) with
  accessFlags := 48
  interfaces := #[]
  cf := some (fileOf pool9 14 #[.nestMembers #[390, 221]] #[{ accessFlags := 0, nameIndex := 7, descriptorIndex := 8, attributes := #[] }, { accessFlags := 9, nameIndex := 252, descriptorIndex := 53, attributes := #[] }, { accessFlags := 9, nameIndex := 90, descriptorIndex := 105, attributes := #[] }, { accessFlags := 9, nameIndex := 380, descriptorIndex := 382, attributes := #[] }] 48 4 #[] #[{ accessFlags := 4120, nameIndex := 121, descriptorIndex := 122, attributes := #[] }])
  fields := #[{ name := "$assertionsDisabled", type := .boolean, accessFlags := 4120, slot := 0, constantValue := 0 }]
  methods := #[k9m0, k9m1, k9m2, k9m3]
  instanceTypes := #[]
  staticTypes := #[.boolean]
  resolved := Array.replicate 395 none
  statics := none }

def pool10 : Array CpInfo := pool [(2, .class_ 4), (1, u "java/lang/Object"), (0, u "<init>"), (0, u "()V"), (6, .class_ 14), (0, u "com/example/forseti/forseti/io/Csv"), (27, .class_ 44), (1, u "com/example/forseti/forseti/io/Csv$TableReader"), (60, .class_ 106), (0, u "com/example/forseti/forseti/io/Csv$Row"), (19, .class_ 128), (1, u "com/example/forseti/forseti/io/Csv$RowReader"), (20, u "()Z"), (23, .class_ 174), (0, u "java/lang/String"), (2, u "(Ljava/lang/String;Ljava/lang/String;Ljava/lang/String;)Ljava/lang/String;"), (17, .methodref 173 196), (0, .nameAndType 197 149), (0, u "isEmpty"), (15, u "required"), (127, u "WHOLE_DIGITS"), (0, u "I")] 149

def k10m0 : Method := { name := "<init>", desc := "()V", sig := { parameters := [], returnType := none }, accessFlags := 2, code := none }
def k10c1 : Code := { maxStack := 4, maxLocals := 3, code := prog_1_method_14_code, exceptionTable := #[], attributes := #[] }
def k10m1 : Method := { name := "required", desc := "(Ljava/lang/String;Ljava/lang/String;Ljava/lang/String;)Ljava/lang/String;", sig := { parameters := [(.object "java/lang/String"), (.object "java/lang/String"), (.object "java/lang/String")], returnType := some (.object "java/lang/String") }, accessFlags := 8, code := some k10c1 }
/-- com/example/forseti/forseti/io/Csv -/
def k10 : Class := { plain "com/example/forseti/forseti/io/Csv" (some 0) with
  accessFlags := 48
  interfaces := #[]
  cf := some (fileOf pool10 13 #[.nestMembers #[105, 42, 126]] #[{ accessFlags := 2, nameIndex := 5, descriptorIndex := 6, attributes := #[] }, { accessFlags := 8, nameIndex := 213, descriptorIndex := 177, attributes := #[] }] 48 2 #[] #[{ accessFlags := 26, nameIndex := 341, descriptorIndex := 342, attributes := #[] }])
  fields := #[{ name := "WHOLE_DIGITS", type := .int, accessFlags := 26, slot := 0, constantValue := 0 }]
  methods := #[k10m0, k10m1]
  instanceTypes := #[]
  staticTypes := #[.int]
  resolved := Array.replicate 492 none
  statics := none }

def pool11 : Array CpInfo := pool [(2, .class_ 4), (1, u "java/lang/Object"), (0, u "<init>"), (0, u "()V"), (17, .class_ 26), (1, u "jdk/internal/util/Preconditions"), (6, u "checkIndex"), (21, .class_ 56), (0, u "jdk/internal/util/Preconditions$4"), (57, .class_ 115), (0, u "jdk/internal/util/Preconditions$1"), (7, u "SIOOBE_FORMATTER"), (0, u "Ljava/util/function/BiFunction;"), (0, .class_ 126), (0, u "jdk/internal/util/Preconditions$2"), (3, u "AIOOBE_FORMATTER"), (0, .class_ 132), (0, u "jdk/internal/util/Preconditions$3"), (3, u "IOOBE_FORMATTER"), (41, u "(IILjava/util/function/BiFunction;)I")] 15

def k11m0 : Method := { name := "<init>", desc := "()V", sig := { parameters := [], returnType := none }, accessFlags := 1, code := none }
def k11c1 : Code := { maxStack := 3, maxLocals := 3, code := jdk_41_method_11_code, exceptionTable := #[], attributes := #[] }
def k11m1 : Method := { name := "checkIndex", desc := "(IILjava/util/function/BiFunction;)I", sig := { parameters := [.int, .int, (.object "java/util/function/BiFunction")], returnType := some .int }, accessFlags := 9, code := some k11c1 }
/-- jdk/internal/util/Preconditions -/
def k11 : Class := { plain "jdk/internal/util/Preconditions" (some 0) with
  accessFlags := 33
  interfaces := #[]
  cf := some (fileOf pool11 24 #[.nestMembers #[55, 131, 125, 114]] #[{ accessFlags := 1, nameIndex := 5, descriptorIndex := 6, attributes := #[] }, { accessFlags := 9, nameIndex := 33, descriptorIndex := 178, attributes := #[] }] 33 2 #[] #[{ accessFlags := 25, nameIndex := 123, descriptorIndex := 124, attributes := #[] }, { accessFlags := 25, nameIndex := 130, descriptorIndex := 124, attributes := #[] }, { accessFlags := 25, nameIndex := 136, descriptorIndex := 124, attributes := #[] }])
  fields := #[{ name := "SIOOBE_FORMATTER", type := (.object "java/util/function/BiFunction"), accessFlags := 25, slot := 0, constantValue := 0 }, { name := "AIOOBE_FORMATTER", type := (.object "java/util/function/BiFunction"), accessFlags := 25, slot := 1, constantValue := 0 }, { name := "IOOBE_FORMATTER", type := (.object "java/util/function/BiFunction"), accessFlags := 25, slot := 2, constantValue := 0 }]
  methods := #[k11m0, k11m1]
  instanceTypes := #[]
  staticTypes := #[(.object "java/util/function/BiFunction"), (.object "java/util/function/BiFunction"), (.object "java/util/function/BiFunction")]
  resolved := Array.replicate 194 none
  statics := some 1 }

def pool12 : Array CpInfo := pool [(9, u "<init>"), (6, .class_ 18), (1, u "java/lang/Object"), (0, u "()V"), (1, .class_ 23), (1, u "jdk/internal/util/ArraysSupport"), (0, u "LOG2_ARRAY_LONG_INDEX_SCALE"), (0, u "I"), (2, u "U"), (0, u "Ljdk/internal/misc/Unsafe;"), (8, u "BIG_ENDIAN"), (0, u "Z"), (8, u "LOG2_BYTE_BIT_SIZE"), (4, u "LOG2_ARRAY_INT_INDEX_SCALE"), (54, u "JLA"), (0, u "Ljdk/internal/access/JavaLangAccess;"), (11, u "LOG2_ARRAY_BOOLEAN_INDEX_SCALE"), (9, u "LOG2_ARRAY_BYTE_INDEX_SCALE"), (5, u "LOG2_ARRAY_CHAR_INDEX_SCALE"), (5, u "LOG2_ARRAY_SHORT_INDEX_SCALE"), (18, u "LOG2_ARRAY_FLOAT_INDEX_SCALE"), (24, u "LOG2_ARRAY_DOUBLE_INDEX_SCALE"), (89, u "T_BOOLEAN"), (2, u "T_CHAR"), (1, u "T_FLOAT"), (1, u "T_DOUBLE"), (1, u "T_BYTE"), (1, u "T_SHORT"), (1, u "T_INT"), (1, u "T_LONG"), (1, u "SOFT_MAX_ARRAY_LENGTH")] 83

def k12m0 : Method := { name := "<init>", desc := "()V", sig := { parameters := [], returnType := none }, accessFlags := 2, code := none }
/-- jdk/internal/util/ArraysSupport -/
def k12 : Class := { plain "jdk/internal/util/ArraysSupport" (some 0) with
  accessFlags := 33
  interfaces := #[]
  cf := some (fileOf pool12 21 #[] #[{ accessFlags := 2, nameIndex := 9, descriptorIndex := 19, attributes := #[] }] 33 16 #[] #[{ accessFlags := 24, nameIndex := 28, descriptorIndex := 29, attributes := #[] }, { accessFlags := 26, nameIndex := 38, descriptorIndex := 39, attributes := #[] }, { accessFlags := 25, nameIndex := 121, descriptorIndex := 25, attributes := #[] }, { accessFlags := 25, nameIndex := 131, descriptorIndex := 25, attributes := #[] }, { accessFlags := 25, nameIndex := 137, descriptorIndex := 25, attributes := #[] }, { accessFlags := 25, nameIndex := 143, descriptorIndex := 25, attributes := #[] }, { accessFlags := 25, nameIndex := 53, descriptorIndex := 25, attributes := #[] }, { accessFlags := 25, nameIndex := 24, descriptorIndex := 25, attributes := #[] }, { accessFlags := 25, nameIndex := 162, descriptorIndex := 25, attributes := #[] }, { accessFlags := 25, nameIndex := 187, descriptorIndex := 25, attributes := #[] }, { accessFlags := 26, nameIndex := 48, descriptorIndex := 25, attributes := #[] }, { accessFlags := 25, nameIndex := 277, descriptorIndex := 25, attributes := #[] }, { accessFlags := 25, nameIndex := 280, descriptorIndex := 25, attributes := #[] }, { accessFlags := 25, nameIndex := 282, descriptorIndex := 25, attributes := #[] }, { accessFlags := 25, nameIndex := 284, descriptorIndex := 25, attributes := #[] }, { accessFlags := 25, nameIndex := 286, descriptorIndex := 25, attributes := #[] }, { accessFlags := 25, nameIndex := 288, descriptorIndex := 25, attributes := #[] }, { accessFlags := 25, nameIndex := 290, descriptorIndex := 25, attributes := #[] }, { accessFlags := 25, nameIndex := 292, descriptorIndex := 25, attributes := #[] }, { accessFlags := 26, nameIndex := 108, descriptorIndex := 109, attributes := #[] }, { accessFlags := 25, nameIndex := 294, descriptorIndex := 25, attributes := #[] }])
  fields := #[{ name := "U", type := (.object "jdk/internal/misc/Unsafe"), accessFlags := 24, slot := 0, constantValue := 0 }, { name := "BIG_ENDIAN", type := .boolean, accessFlags := 26, slot := 1, constantValue := 0 }, { name := "LOG2_ARRAY_BOOLEAN_INDEX_SCALE", type := .int, accessFlags := 25, slot := 2, constantValue := 0 }, { name := "LOG2_ARRAY_BYTE_INDEX_SCALE", type := .int, accessFlags := 25, slot := 3, constantValue := 0 }, { name := "LOG2_ARRAY_CHAR_INDEX_SCALE", type := .int, accessFlags := 25, slot := 4, constantValue := 0 }, { name := "LOG2_ARRAY_SHORT_INDEX_SCALE", type := .int, accessFlags := 25, slot := 5, constantValue := 0 }, { name := "LOG2_ARRAY_INT_INDEX_SCALE", type := .int, accessFlags := 25, slot := 6, constantValue := 0 }, { name := "LOG2_ARRAY_LONG_INDEX_SCALE", type := .int, accessFlags := 25, slot := 7, constantValue := 0 }, { name := "LOG2_ARRAY_FLOAT_INDEX_SCALE", type := .int, accessFlags := 25, slot := 8, constantValue := 0 }, { name := "LOG2_ARRAY_DOUBLE_INDEX_SCALE", type := .int, accessFlags := 25, slot := 9, constantValue := 0 }, { name := "LOG2_BYTE_BIT_SIZE", type := .int, accessFlags := 26, slot := 10, constantValue := 0 }, { name := "T_BOOLEAN", type := .int, accessFlags := 25, slot := 11, constantValue := 0 }, { name := "T_CHAR", type := .int, accessFlags := 25, slot := 12, constantValue := 0 }, { name := "T_FLOAT", type := .int, accessFlags := 25, slot := 13, constantValue := 0 }, { name := "T_DOUBLE", type := .int, accessFlags := 25, slot := 14, constantValue := 0 }, { name := "T_BYTE", type := .int, accessFlags := 25, slot := 15, constantValue := 0 }, { name := "T_SHORT", type := .int, accessFlags := 25, slot := 16, constantValue := 0 }, { name := "T_INT", type := .int, accessFlags := 25, slot := 17, constantValue := 0 }, { name := "T_LONG", type := .int, accessFlags := 25, slot := 18, constantValue := 0 }, { name := "JLA", type := (.object "jdk/internal/access/JavaLangAccess"), accessFlags := 26, slot := 19, constantValue := 0 }, { name := "SOFT_MAX_ARRAY_LENGTH", type := .int, accessFlags := 25, slot := 20, constantValue := 0 }]
  methods := #[k12m0]
  instanceTypes := #[]
  staticTypes := #[(.object "jdk/internal/misc/Unsafe"), .boolean, .int, .int, .int, .int, .int, .int, .int, .int, .int, .int, .int, .int, .int, .int, .int, .int, .int, (.object "jdk/internal/access/JavaLangAccess"), .int]
  resolved := Array.replicate 378 none
  statics := none }

def pool13 : Array CpInfo := pool [(1, u "java/lang/Cloneable"), (0, .class_ 1), (0, u "java/lang/Object"), (0, .class_ 3)] 3

/-- java/lang/Cloneable -/
def k13 : Class := { plain "java/lang/Cloneable" (some 0) with
  accessFlags := 1537
  interfaces := #[]
  cf := some (fileOf pool13 2 #[] #[] 1537 4 #[] #[])
  fields := #[]
  methods := #[]
  instanceTypes := #[]
  staticTypes := #[]
  resolved := Array.replicate 8 none
  statics := none }

/-- the primitive byte -/
def k14 : Class := { plain "byte" none with kind := .primitive 'B', accessFlags := 0x411 }
/-- [B -/
def k15 : Class := { plain "[B" (some 0) with kind := .array 14 .byte, interfaces := #[13, 2], accessFlags := 1041 }

/-- the primitive char -/
def k16 : Class := { plain "char" none with kind := .primitive 'C', accessFlags := 0x411 }
/-- [C -/
def k17 : Class := { plain "[C" (some 0) with kind := .array 16 .char, interfaces := #[13, 2], accessFlags := 1041 }

/-- the primitive int -/
def k18 : Class := { plain "int" none with kind := .primitive 'I', accessFlags := 0x411 }
/-- [I -/
def k19 : Class := { plain "[I" (some 0) with kind := .array 18 .int, interfaces := #[13, 2], accessFlags := 1041 }

def heap : Heap := #[{ cls := 7, slots := #[.long 0, .int 1, .null, .int 0, .null, .int 0, .int 0], vm := .statics 7 },
  { cls := 11, slots := #[.null, .null, .null], vm := .statics 11 }]
def classes : Array Class := #[k0, k1, k2, k3, k4, k5, k6, k7, k8, k9, k10, k11, k12, k13, k14, k15, k16, k17, k18, k19]
def interned : List (Array UInt16 × Addr) := []
def slotsUsed : Nat := 10
def theMethod : MethodId := ⟨1, 1⟩
def args0 : Array Value := #[.int 5, .int 5, .int 5, .int 5, .int 5, .int 5]
def aboutOver (below : List Frame) : State where
  vm := { classes := classes, interned := interned.toArray }
  heap := heap
  slotsUsed := slotsUsed
  threads := #[{ frames := .invoking theMethod args0 :: below }]
def below0 : List Frame := [.native { method := ⟨0, 0⟩, args := #[] }]
def about1 : State := aboutOver below0
def p0 : Program := .bare "" "" ""
def e0 : Env := launch0.env 0 0 0
theorem w_frames : about1.frames = Frame.invoking theMethod args0 :: below0 := rfl
set_option maxRecDepth 65536 in
theorem w_args : argsFit about1.vm theMethod args0 = true := by decide +kernel
set_option maxRecDepth 65536 in
theorem w_heap : heapFits about1 = true := by decide +kernel
set_option maxRecDepth 65536 in
theorem w_runnable : about1.curStatus? = some .runnable := by decide +kernel
set_option maxRecDepth 65536 in
theorem w_alone : about1.alone = true := by decide +kernel
set_option maxRecDepth 65536 in
theorem w_named : about1.methodNamed? x = some theMethod := by decide +kernel
set_option maxRecDepth 65536 in
theorem w_hears : about1.hears theMethod below0 = true := by decide +kernel
set_option maxRecDepth 65536 in
theorem w_ripe : about1.ripe theMethod args0 below0 = true := by decide +kernel
theorem w_running : about1.status = .running := rfl
set_option maxRecDepth 65536 in
theorem w_room : about1.hasRoom e0.platform room_1 = true :=
  launch0.hasRoom_least _ room_1 (by decide +kernel) (by decide +kernel) (by decide +kernel) (by decide +kernel) (by decide +kernel) (by decide +kernel)
theorem allAtoms_all (ts : List Jvm.Cond) (a : Array Jvm.Value) (st : Jvm.State) : (allAtoms ts).before a st = ts.all (fun c => c.before a st) := by
  induction ts with
  | nil => rfl
  | cons c t ih =>
    show (Jvm.Cond.and c (allAtoms t)).before a st = _
    rw [Jvm.Cond.before_and, ih, List.all_cons]
def words1 : List Jvm.Cond := Jvm.Cond.code x code maxLocals ret :: tables_1
/-- a 'code' word, met by the world's own term for the bytes: nothing is compared byte by byte -/
theorem code_word {y : MethodName} {bytes : ByteArray} {mx : Nat} {rt : Option FieldType} {a : Array Value} {s : State} {m : MethodId} {meth : Method} {c : Code} (h1 : s.methodNamed? y = some m) (h2 : s.vm.method? m = some meth) (h3 : meth.code = some c) (h4 : c.code = bytes)
    (h5 : (c.maxLocals == mx && c.exceptionTable.isEmpty && decide (c.maxStack ≤ mostOperands) && decide (meth.sig.returnType = rt) && !meth.locks && decide (parseMethodDescriptor y.desc = some meth.sig)) = true) : (Jvm.Cond.code y bytes mx rt).before a s = true := by
  simp only [Bool.and_eq_true, beq_iff_eq, Bool.not_eq_true', decide_eq_true_eq] at h5
  obtain ⟨⟨⟨⟨⟨g1, g2⟩, g3⟩, g4⟩, g5⟩, g6⟩ := h5
  simp [Cond.before, Cond.holds, Cond.value, h1, h2, h3, h4, g1, g2, g3, g4, g5, g6]
def isCode : Jvm.Cond → Bool
  | .code _ _ _ _ => true
  | _ => false
theorem all_split {L : List Jvm.Cond} {P : Jvm.Cond → Bool} (h1 : L.all (fun c => isCode c || P c) = true) (h2 : ∀ c ∈ L.filter isCode, P c = true) : L.all P = true := by
  refine List.all_eq_true.mpr fun c hc => ?_
  have h := List.all_eq_true.mp h1 c hc
  rcases Bool.eq_false_or_eq_true (isCode c) with hi | hi
  · exact h2 c (List.mem_filter.mpr ⟨hc, hi⟩)
  · simpa [hi] using h
set_option maxRecDepth 65536 in
theorem w_c0 : (Jvm.Cond.code x code maxLocals ret).before args0 about1 = true := code_word (m := ⟨1, 1⟩) (meth := k1m1) (c := k1c1) (by decide +kernel) rfl rfl rfl (by decide +kernel)
set_option maxRecDepth 65536 in
theorem w_c1 : (Jvm.Cond.code ({ cls := "java/lang/String", name := "<init>", desc := "([C)V" } : Jvm.MethodName) jdk_42_method_3_code (2 : Nat) (Option.none : Option Jvm.ClassFile.FieldType)).before args0 about1 = true := code_word (m := ⟨7, 1⟩) (meth := k7m1) (c := k7c1) (by decide +kernel) rfl rfl rfl (by decide +kernel)
set_option maxRecDepth 65536 in
theorem w_c2 : (Jvm.Cond.code ({ cls := "java/lang/String", name := "<init>", desc := "([CIILjava/lang/Void;)V" } : Jvm.MethodName) jdk_42_method_149_code (6 : Nat) (Option.none : Option Jvm.ClassFile.FieldType)).before args0 about1 = true := code_word (m := ⟨7, 7⟩) (meth := k7m7) (c := k7c7) (by decide +kernel) rfl rfl rfl (by decide +kernel)
set_option maxRecDepth 65536 in
theorem w_c3 : (Jvm.Cond.code ({ cls := "java/lang/Object", name := "<init>", desc := "()V" } : Jvm.MethodName) object_method_1_code (1 : Nat) (Option.none : Option Jvm.ClassFile.FieldType)).before args0 about1 = true := code_word (m := ⟨0, 0⟩) (meth := k0m0) (c := k0c0) (by decide +kernel) rfl rfl rfl (by decide +kernel)
set_option maxRecDepth 65536 in
theorem w_c4 : (Jvm.Cond.code ({ cls := "java/lang/StringUTF16", name := "compress", desc := "([CII)[B" } : Jvm.MethodName) jdk_52_method_16_code (6 : Nat) (Option.some (Jvm.ClassFile.FieldType.array Jvm.ClassFile.FieldType.byte))).before args0 about1 = true := code_word (m := ⟨8, 2⟩) (meth := k8m2) (c := k8c2) (by decide +kernel) rfl rfl rfl (by decide +kernel)
set_option maxRecDepth 65536 in
theorem w_c5 : (Jvm.Cond.code ({ cls := "java/lang/StringUTF16", name := "compress", desc := "([CI[BII)I" } : Jvm.MethodName) jdk_52_method_21_code (7 : Nat) (Option.some Jvm.ClassFile.FieldType.int)).before args0 about1 = true := code_word (m := ⟨8, 3⟩) (meth := k8m3) (c := k8c3) (by decide +kernel) rfl rfl rfl (by decide +kernel)
set_option maxRecDepth 65536 in
theorem w_c6 : (Jvm.Cond.code ({ cls := "java/lang/StringUTF16", name := "coderFromArrayLen", desc := "([BI)B" } : Jvm.MethodName) jdk_52_method_15_code (2 : Nat) (Option.some Jvm.ClassFile.FieldType.byte)).before args0 about1 = true := code_word (m := ⟨8, 1⟩) (meth := k8m1) (c := k8c1) (by decide +kernel) rfl rfl rfl (by decide +kernel)
set_option maxRecDepth 65536 in
theorem w_c7 : (Jvm.Cond.code ({ cls := "java/lang/String", name := "valueOf", desc := "(C)Ljava/lang/String;" } : Jvm.MethodName) jdk_42_method_139_code (1 : Nat) (Option.some (Jvm.ClassFile.FieldType.object "java/lang/String"))).before args0 about1 = true := code_word (m := ⟨7, 6⟩) (meth := k7m6) (c := k7c6) (by decide +kernel) rfl rfl rfl (by decide +kernel)
set_option maxRecDepth 65536 in
theorem w_c8 : (Jvm.Cond.code ({ cls := "java/lang/StringLatin1", name := "canEncode", desc := "(C)Z" } : Jvm.MethodName) jdk_43_method_3_code (1 : Nat) (Option.some Jvm.ClassFile.FieldType.boolean)).before args0 about1 = true := code_word (m := ⟨9, 2⟩) (meth := k9m2) (c := k9c2) (by decide +kernel) rfl rfl rfl (by decide +kernel)
set_option maxRecDepth 65536 in
theorem w_c9 : (Jvm.Cond.code ({ cls := "java/lang/StringLatin1", name := "toBytes", desc := "(C)[B" } : Jvm.MethodName) jdk_43_method_46_code (1 : Nat) (Option.some (Jvm.ClassFile.FieldType.array Jvm.ClassFile.FieldType.byte))).before args0 about1 = true := code_word (m := ⟨9, 3⟩) (meth := k9m3) (c := k9c3) (by decide +kernel) rfl rfl rfl (by decide +kernel)
set_option maxRecDepth 65536 in
theorem w_c10 : (Jvm.Cond.code ({ cls := "java/lang/String", name := "<init>", desc := "([BB)V" } : Jvm.MethodName) jdk_42_method_151_code (3 : Nat) (Option.none : Option Jvm.ClassFile.FieldType)).before args0 about1 = true := code_word (m := ⟨7, 8⟩) (meth := k7m8) (c := k7c8) (by decide +kernel) rfl rfl rfl (by decide +kernel)
set_option maxRecDepth 65536 in
theorem w_c11 : (Jvm.Cond.code ({ cls := "com/example/forseti/forseti/io/Csv", name := "required", desc := "(Ljava/lang/String;Ljava/lang/String;Ljava/lang/String;)Ljava/lang/String;" } : Jvm.MethodName) prog_1_method_14_code (3 : Nat) (Option.some (Jvm.ClassFile.FieldType.object "java/lang/String"))).before args0 about1 = true := code_word (m := ⟨10, 1⟩) (meth := k10m1) (c := k10c1) (by decide +kernel) rfl rfl rfl (by decide +kernel)
set_option maxRecDepth 65536 in
theorem w_c12 : (Jvm.Cond.code ({ cls := "java/lang/String", name := "isEmpty", desc := "()Z" } : Jvm.MethodName) jdk_42_method_55_code (1 : Nat) (Option.some Jvm.ClassFile.FieldType.boolean)).before args0 about1 = true := code_word (m := ⟨7, 3⟩) (meth := k7m3) (c := k7c3) (by decide +kernel) rfl rfl rfl (by decide +kernel)
set_option maxRecDepth 65536 in
theorem w_c13 : (Jvm.Cond.code ({ cls := "java/lang/String", name := "length", desc := "()I" } : Jvm.MethodName) jdk_42_method_54_code (1 : Nat) (Option.some Jvm.ClassFile.FieldType.int)).before args0 about1 = true := code_word (m := ⟨7, 2⟩) (meth := k7m2) (c := k7c2) (by decide +kernel) rfl rfl rfl (by decide +kernel)
set_option maxRecDepth 65536 in
theorem w_c14 : (Jvm.Cond.code ({ cls := "java/lang/String", name := "coder", desc := "()B" } : Jvm.MethodName) jdk_42_method_152_code (1 : Nat) (Option.some Jvm.ClassFile.FieldType.byte)).before args0 about1 = true := code_word (m := ⟨7, 9⟩) (meth := k7m9) (c := k7c9) (by decide +kernel) rfl rfl rfl (by decide +kernel)
set_option maxRecDepth 65536 in
theorem w_c15 : (Jvm.Cond.code ({ cls := "java/lang/String", name := "charAt", desc := "(I)C" } : Jvm.MethodName) jdk_42_method_56_code (2 : Nat) (Option.some Jvm.ClassFile.FieldType.char)).before args0 about1 = true := code_word (m := ⟨7, 4⟩) (meth := k7m4) (c := k7c4) (by decide +kernel) rfl rfl rfl (by decide +kernel)
set_option maxRecDepth 65536 in
theorem w_c16 : (Jvm.Cond.code ({ cls := "java/lang/String", name := "isLatin1", desc := "()Z" } : Jvm.MethodName) jdk_42_method_154_code (1 : Nat) (Option.some Jvm.ClassFile.FieldType.boolean)).before args0 about1 = true := code_word (m := ⟨7, 10⟩) (meth := k7m10) (c := k7c10) (by decide +kernel) rfl rfl rfl (by decide +kernel)
set_option maxRecDepth 65536 in
theorem w_c17 : (Jvm.Cond.code ({ cls := "java/lang/StringLatin1", name := "charAt", desc := "([BI)C" } : Jvm.MethodName) jdk_43_method_2_code (2 : Nat) (Option.some Jvm.ClassFile.FieldType.char)).before args0 about1 = true := code_word (m := ⟨9, 1⟩) (meth := k9m1) (c := k9c1) (by decide +kernel) rfl rfl rfl (by decide +kernel)
set_option maxRecDepth 65536 in
theorem w_c18 : (Jvm.Cond.code ({ cls := "java/lang/String", name := "checkIndex", desc := "(II)V" } : Jvm.MethodName) jdk_42_method_155_code (2 : Nat) (Option.none : Option Jvm.ClassFile.FieldType)).before args0 about1 = true := code_word (m := ⟨7, 11⟩) (meth := k7m11) (c := k7c11) (by decide +kernel) rfl rfl rfl (by decide +kernel)
set_option maxRecDepth 65536 in
theorem w_c19 : (Jvm.Cond.code ({ cls := "jdk/internal/util/Preconditions", name := "checkIndex", desc := "(IILjava/util/function/BiFunction;)I" } : Jvm.MethodName) jdk_41_method_11_code (3 : Nat) (Option.some Jvm.ClassFile.FieldType.int)).before args0 about1 = true := code_word (m := ⟨11, 1⟩) (meth := k11m1) (c := k11c1) (by decide +kernel) rfl rfl rfl (by decide +kernel)
set_option maxRecDepth 65536 in
theorem w_c20 : (Jvm.Cond.code ({ cls := "java/lang/String", name := "equals", desc := "(Ljava/lang/Object;)Z" } : Jvm.MethodName) jdk_42_method_66_code (3 : Nat) (Option.some Jvm.ClassFile.FieldType.boolean)).before args0 about1 = true := code_word (m := ⟨7, 5⟩) (meth := k7m5) (c := k7c5) (by decide +kernel) rfl rfl rfl (by decide +kernel)
def codes1 : List Jvm.Cond := [Jvm.Cond.code x code maxLocals ret, Jvm.Cond.code ({ cls := "java/lang/String", name := "<init>", desc := "([C)V" } : Jvm.MethodName) jdk_42_method_3_code (2 : Nat) (Option.none : Option Jvm.ClassFile.FieldType), Jvm.Cond.code ({ cls := "java/lang/String", name := "<init>", desc := "([CIILjava/lang/Void;)V" } : Jvm.MethodName) jdk_42_method_149_code (6 : Nat) (Option.none : Option Jvm.ClassFile.FieldType), Jvm.Cond.code ({ cls := "java/lang/Object", name := "<init>", desc := "()V" } : Jvm.MethodName) object_method_1_code (1 : Nat) (Option.none : Option Jvm.ClassFile.FieldType), Jvm.Cond.code ({ cls := "java/lang/StringUTF16", name := "compress", desc := "([CII)[B" } : Jvm.MethodName) jdk_52_method_16_code (6 : Nat) (Option.some (Jvm.ClassFile.FieldType.array Jvm.ClassFile.FieldType.byte)), Jvm.Cond.code ({ cls := "java/lang/StringUTF16", name := "compress", desc := "([CI[BII)I" } : Jvm.MethodName) jdk_52_method_21_code (7 : Nat) (Option.some Jvm.ClassFile.FieldType.int), Jvm.Cond.code ({ cls := "java/lang/StringUTF16", name := "coderFromArrayLen", desc := "([BI)B" } : Jvm.MethodName) jdk_52_method_15_code (2 : Nat) (Option.some Jvm.ClassFile.FieldType.byte), Jvm.Cond.code ({ cls := "java/lang/String", name := "valueOf", desc := "(C)Ljava/lang/String;" } : Jvm.MethodName) jdk_42_method_139_code (1 : Nat) (Option.some (Jvm.ClassFile.FieldType.object "java/lang/String")), Jvm.Cond.code ({ cls := "java/lang/StringLatin1", name := "canEncode", desc := "(C)Z" } : Jvm.MethodName) jdk_43_method_3_code (1 : Nat) (Option.some Jvm.ClassFile.FieldType.boolean), Jvm.Cond.code ({ cls := "java/lang/StringLatin1", name := "toBytes", desc := "(C)[B" } : Jvm.MethodName) jdk_43_method_46_code (1 : Nat) (Option.some (Jvm.ClassFile.FieldType.array Jvm.ClassFile.FieldType.byte)), Jvm.Cond.code ({ cls := "java/lang/String", name := "<init>", desc := "([BB)V" } : Jvm.MethodName) jdk_42_method_151_code (3 : Nat) (Option.none : Option Jvm.ClassFile.FieldType), Jvm.Cond.code ({ cls := "com/example/forseti/forseti/io/Csv", name := "required", desc := "(Ljava/lang/String;Ljava/lang/String;Ljava/lang/String;)Ljava/lang/String;" } : Jvm.MethodName) prog_1_method_14_code (3 : Nat) (Option.some (Jvm.ClassFile.FieldType.object "java/lang/String")), Jvm.Cond.code ({ cls := "java/lang/String", name := "isEmpty", desc := "()Z" } : Jvm.MethodName) jdk_42_method_55_code (1 : Nat) (Option.some Jvm.ClassFile.FieldType.boolean), Jvm.Cond.code ({ cls := "java/lang/String", name := "length", desc := "()I" } : Jvm.MethodName) jdk_42_method_54_code (1 : Nat) (Option.some Jvm.ClassFile.FieldType.int), Jvm.Cond.code ({ cls := "java/lang/String", name := "coder", desc := "()B" } : Jvm.MethodName) jdk_42_method_152_code (1 : Nat) (Option.some Jvm.ClassFile.FieldType.byte), Jvm.Cond.code ({ cls := "java/lang/String", name := "charAt", desc := "(I)C" } : Jvm.MethodName) jdk_42_method_56_code (2 : Nat) (Option.some Jvm.ClassFile.FieldType.char), Jvm.Cond.code ({ cls := "java/lang/String", name := "isLatin1", desc := "()Z" } : Jvm.MethodName) jdk_42_method_154_code (1 : Nat) (Option.some Jvm.ClassFile.FieldType.boolean), Jvm.Cond.code ({ cls := "java/lang/StringLatin1", name := "charAt", desc := "([BI)C" } : Jvm.MethodName) jdk_43_method_2_code (2 : Nat) (Option.some Jvm.ClassFile.FieldType.char), Jvm.Cond.code ({ cls := "java/lang/String", name := "checkIndex", desc := "(II)V" } : Jvm.MethodName) jdk_42_method_155_code (2 : Nat) (Option.none : Option Jvm.ClassFile.FieldType), Jvm.Cond.code ({ cls := "jdk/internal/util/Preconditions", name := "checkIndex", desc := "(IILjava/util/function/BiFunction;)I" } : Jvm.MethodName) jdk_41_method_11_code (3 : Nat) (Option.some Jvm.ClassFile.FieldType.int), Jvm.Cond.code ({ cls := "java/lang/String", name := "equals", desc := "(Ljava/lang/Object;)Z" } : Jvm.MethodName) jdk_42_method_66_code (3 : Nat) (Option.some Jvm.ClassFile.FieldType.boolean)]
set_option maxRecDepth 65536 in
theorem codes_eq : words1.filter isCode = codes1 := rfl
theorem w_codes : ∀ c ∈ words1.filter isCode, c.before args0 about1 = true := by
  rw [codes_eq]
  intro c hc
  simp only [codes1, List.mem_cons, List.not_mem_nil, or_false] at hc
  rcases hc with rfl | rfl | rfl | rfl | rfl | rfl | rfl | rfl | rfl | rfl | rfl | rfl | rfl | rfl | rfl | rfl | rfl | rfl | rfl | rfl | rfl
  · exact w_c0
  · exact w_c1
  · exact w_c2
  · exact w_c3
  · exact w_c4
  · exact w_c5
  · exact w_c6
  · exact w_c7
  · exact w_c8
  · exact w_c9
  · exact w_c10
  · exact w_c11
  · exact w_c12
  · exact w_c13
  · exact w_c14
  · exact w_c15
  · exact w_c16
  · exact w_c17
  · exact w_c18
  · exact w_c19
  · exact w_c20
set_option maxRecDepth 65536 in
theorem w_t1 : (words1.take 24).all (fun c => isCode c || c.before args0 about1) = true := by decide +kernel
set_option maxRecDepth 65536 in
theorem w_t2 : ((words1.drop 24).take 24).all (fun c => isCode c || c.before args0 about1) = true := by decide +kernel
set_option maxRecDepth 65536 in
theorem w_t3 : (((words1.drop 24).drop 24).take 24).all (fun c => isCode c || c.before args0 about1) = true := by decide +kernel
set_option maxRecDepth 65536 in
theorem w_t4 : (((words1.drop 24).drop 24).drop 24).all (fun c => isCode c || c.before args0 about1) = true := by decide +kernel
theorem w_tables : (allAtoms (Jvm.Cond.code x code maxLocals ret :: tables_1)).before args0 about1 = true := by
  rw [allAtoms_all]
  show words1.all (fun c => c.before args0 about1) = true
  refine all_split ?_ w_codes
  rw [← List.take_append_drop 24 words1, List.all_append, w_t1, ← List.take_append_drop 24 (words1.drop 24), List.all_append, w_t2, ← List.take_append_drop 24 ((words1.drop 24).drop 24), List.all_append, w_t3, w_t4]
  rfl
set_option maxRecDepth 65536 in
theorem w_rest : rest_1_c.before args0 about1 = true := by decide +kernel
set_option maxRecDepth 65536 in
theorem w_case : (Jvm.Cond.and given_1 narrow_1).before args0 about1 = true := by decide +kernel
theorem w_applies : (headSpec (Jvm.Cond.code x code maxLocals ret :: tables_1) room_1).applies x e0.platform about1 = true :=
  (Spec.applies_iff w_frames).mpr ⟨w_running, w_runnable, w_alone, w_named, w_hears, w_ripe, w_room, w_tables⟩
theorem atStart : AtStart classFile x code maxLocals ret World_1 tables_1 room_1 Calls_1 rest_1 Pre_1 launch0 p0 e0 about1 theMethod args0 below0 :=
  ⟨lists_1, trivial, launch0.admits_env _ _ _, launch0.least_env, fairChoices_fair.cas, fairChoices_fair.clock, w_frames, w_args, w_heap, w_applies, trivial, w_rest, w_case⟩
end start1
theorem witness_1 : WitnessClaimed_1 := ⟨start1.p0, start1.e0, start1.about1, start1.theMethod, start1.args0, start1.below0, start1.atStart⟩
end Jvm.Pilot.@@N@@
