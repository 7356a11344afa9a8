import JvmDerived
import JvmDerived.Pilot.@@N@@Statement
import JvmDerived.Pilot.@@N@@Code
set_option linter.unusedVariables false
set_option linter.unusedSimpArgs false
/- laws to paste: Road.backV, Road.lenW, Road.chN, Road.empW, Road.eqW, Road.codOf (cut by pick.py; bodies as the Statement names them) -/
namespace Jvm.Pilot.@@N@@
namespace StrChars
open Jvm Sem ClassFile Op Lib Jvm.Stand Jvm.Free.XT Jvm.Free.ALB Jvm.Free.JM Jvm.Free
open Jvm.Lib.Cold (StaticIs)
/-- a char array whose places are chars -/
def Ch (a : Addr) (A : Cell) (U : State) : Prop := Arr .char a A U ∧ Typed .char A
theorem Ch.mv {a : Addr} {A : Cell} {U U' : State} (h : Ch a A U) (hal : U.vm.Alike U'.vm) (hh : U'.heap = U.heap) : Ch a A U' := ⟨h.1.mv hal hh, h.2⟩
theorem Ch.keep {a : Addr} {A : Cell} {U U' : State} (h : Ch a A U) (hal : U.vm.Alike U'.vm) (hk : U'.heap[a]? = some A) : Ch a A U' := ⟨h.1.keep hal hk, h.2⟩
/-- what place i of a char[]'s cell holds -/
def cv (A : Cell) (i : Nat) : Int32 := match A.slots[i]? with | some (.int x) => x | _ => 0
theorem Ch.get {a : Addr} {A : Cell} {U : State} (h : Ch a A U) {i : Nat} (hi : i < A.slots.size) : A.slots[i]? = some (.int (cv A i)) := by
  have e := Array.getElem?_eq_getElem hi
  have f := h.2 i _ e
  unfold cv; rw [e]
  generalize A.slots[i] = v at f
  cases v <;> simp [fits] at f ⊢
/-- the byte that i2b leaves of a char -/
def lo8 (x : Int32) : Int32 := x.toInt8.toInt32
theorem fits_lo8 (y : Int32) : fits .byte (.int (lo8 y)) = true := by
  have h1 := y.toInt8.le_toInt
  have h2 := y.toInt8.toInt_lt
  simp only [lo8, fits, Bool.and_eq_true, decide_eq_true_eq, Int32.le_iff_toInt_le, Int8.toInt_toInt32, show (-128 : Int32).toInt = -128 from by decide, show (127 : Int32).toInt = 127 from by decide]
  omega
/-- A' is A but that each place j of lo .. hi - 1 holds f j -/
def Laid (A A' : Cell) (lo hi : Nat) (f : Nat → Value) : Prop := A'.cls = A.cls ∧ A'.vm = A.vm ∧ A'.slots.size = A.slots.size ∧ ∀ i, A'.slots[i]? = if lo ≤ i ∧ i < hi then some (f i) else A.slots[i]?
theorem Laid.zero (A : Cell) (lo : Nat) (f : Nat → Value) : Laid A A lo (lo + 0) f := ⟨rfl, rfl, rfl, fun i => by rw [if_neg (by omega)]⟩
theorem Laid.step {A Ak : Cell} {lo k : Nat} {f : Nat → Value} {v : Value} (h : Laid A Ak lo k f) (hlo : lo ≤ k) (hk : k < Ak.slots.size) (hv : v = f k) : Laid A (Ak.setSlot k v) lo (k + 1) f := by
  refine ⟨h.1, h.2.1, by simpa [Cell.setSlot] using h.2.2.1, fun i => ?_⟩
  by_cases e : k = i
  · subst e; rw [Cell.slots_setSlot_self v hk, if_pos (by omega), hv]
  · rw [Cell.slots_setSlot_ne v e, h.2.2.2 i]
    by_cases q : lo ≤ i ∧ i < k
    · rw [if_pos q, if_pos (by omega)]
    · rw [if_neg q, if_neg (by omega)]
def U16 : String := "java/lang/StringUTF16"
namespace Cmp5
def yN : MethodName := ⟨"java/lang/StringUTF16", "compress", "([CI[BII)I"⟩
abbrev yB : ByteArray := jdk_52_method_21_code
theorem d0 : decode yB 0 = .ok (.iconst 0, 1) := by decide +kernel
theorem d1 : decode yB 1 = .ok (.istore 5, 2) := by decide +kernel
theorem d3 : decode yB 3 = .ok (.iload 5, 2) := by decide +kernel
theorem d5 : decode yB 5 = .ok (.iload 4, 2) := by decide +kernel
theorem d7 : decode yB 7 = .ok (.if_icmp (.ge) 37, 3) := by decide +kernel
theorem d10 : decode yB 10 = .ok (.aload_n 0, 1) := by decide +kernel
theorem d11 : decode yB 11 = .ok (.iload_n 1, 1) := by decide +kernel
theorem d12 : decode yB 12 = .ok (.caload, 1) := by decide +kernel
theorem d13 : decode yB 13 = .ok (.istore 6, 2) := by decide +kernel
theorem d15 : decode yB 15 = .ok (.iload 6, 2) := by decide +kernel
theorem d17 : decode yB 17 = .ok (.sipush 255, 3) := by decide +kernel
theorem d20 : decode yB 20 = .ok (.if_icmp (.le) 6, 3) := by decide +kernel
theorem d26 : decode yB 26 = .ok (.aload_n 2, 1) := by decide +kernel
theorem d27 : decode yB 27 = .ok (.iload_n 3, 1) := by decide +kernel
theorem d28 : decode yB 28 = .ok (.iload 6, 2) := by decide +kernel
theorem d30 : decode yB 30 = .ok (.i2b, 1) := by decide +kernel
theorem d31 : decode yB 31 = .ok (.bastore, 1) := by decide +kernel
theorem d32 : decode yB 32 = .ok (.iinc 1 1, 3) := by decide +kernel
theorem d35 : decode yB 35 = .ok (.iinc 3 1, 3) := by decide +kernel
theorem d38 : decode yB 38 = .ok (.iinc 5 1, 3) := by decide +kernel
theorem d41 : decode yB 41 = .ok (.goto (-38), 3) := by decide +kernel
theorem d44 : decode yB 44 = .ok (.iload 4, 2) := by decide +kernel
theorem d46 : decode yB 46 = .ok (.ireturn, 1) := by decide +kernel
def site : List Cond := []
def tab : Cond := tabOf yN yB 7 (some .int) site
def P (b : Addr) (A : Cell) (d : Addr) (B : Cell) (o q len : Nat) (args : Array Value) (s : State) : Prop := args = #[.ref b, .int (Int32.ofNat o), .ref d, .int (Int32.ofNat q), .int (Int32.ofNat len)] ∧ Ch b A s ∧ Arr .byte d B s ∧ b ≠ d ∧ o + len ≤ A.slots.size ∧ q + len ≤ B.slots.size ∧ ∀ i, i < len → ¬ 255 < cv A (o + i)
def E (b : Addr) (A : Cell) (d : Addr) (B : Cell) (o q len : Nat) (r : Option Value) (s u : State) : Prop := r = some (.int (Int32.ofNat len)) ∧ ∃ B', Put d B' s u ∧ Laid B B' q (q + len) (fun j => Value.int (lo8 (cv A (o + (j - q)))))
/-- no char of the range above 255: len; the places written hold each char's low byte -/
theorem law (l : Launch) (b : Addr) (A : Cell) (d : Addr) (B : Cell) (o q len : Nat) : Law l yN 5 5 0 0 yB 7 (some .int) site (P b A d B o q len) (E b A d B o q len) (copyLocs d q len) 0 0 := by
  refine Law.of_walk (plainFor_of_name (by decide +kernel)) (by decide +kernel) (by decide +kernel) (by decide) (fun _ _ h => by rw [h.1]; rfl) (fun _ U U' hal hh h => ⟨h.1, h.2.1.mv hal hh, h.2.2.1.mv hal hh, h.2.2.2⟩) (fun r U U' V V' h1 hal h2 h => ⟨h.1, h.2.elim fun B' q => ⟨B', q.1.mv h1 h2, q.2⟩⟩) ?_
  intro p e s m args below meth c s₁ X0 hexec hbytes hml hret hlk hnm hown hh0 W hP
  obtain ⟨rfl, hA, hB, hne, l1, l2, hp⟩ := hP
  have c1 : Steps p.tables e below (s₁.setTop (entryFrame m #[.ref b, .int (Int32.ofNat o), .ref d, .int (Int32.ofNat q), .int (Int32.ofNat len)] 7)) (s₁.setTop (mkF m 0 #[.val (.ref b), .val (.int (Int32.ofNat o)), .val (.ref d), .val (.int (Int32.ofNat q)), .val (.int (Int32.ofNat len)), .unset, .unset] [])) := entry rfl
  have hA0 := hA.1.mv X0.warmed.alike hh0
  have hB0 := hB.mv X0.warmed.alike hh0
  have a31 := hA.1.2.2.2
  have c2 : Steps p.tables e below (s₁.setTop (entryFrame m #[.ref b, .int (Int32.ofNat o), .ref d, .int (Int32.ofNat q), .int (Int32.ofNat len)] 7)) (s₁.setTop (mkF m 3 #[.val (.ref b), .val (.int (Int32.ofNat o)), .val (.ref d), .val (.int (Int32.ofNat q)), .val (.int (Int32.ofNat len)), .val (.int 0), .unset] [])) := c1.trans (by
    refine iconstV X0.here hexec rfl 0 (hb hbytes d0) (by decide) ?_
    refine XS.istore X0.here hexec rfl (hb hbytes d1) rfl rfl ?_
    exact Steps.refl _)
  have loop : ∀ (r i : Nat), i + r = len → ∀ (z : Slot), (z = .unset ∨ ∃ w, z = .val w ∧ w.category = 1) → ∀ (Tl : State) (Bk : Cell), Stand p l e { frames := 0, locals := 0, cells := 0, slots := 0 } s m #[.ref b, .int (Int32.ofNat o), .ref d, .int (Int32.ofNat q), .int (Int32.ofNat len)] below meth c Tl ([] ++ copyLocs d q i) 0 0 → Put d Bk s₁ Tl → Laid B Bk q (q + i) (fun j => Value.int (lo8 (cv A (o + (j - q))))) →
      Steps p.tables e below (s₁.setTop (entryFrame m #[.ref b, .int (Int32.ofNat o), .ref d, .int (Int32.ofNat q), .int (Int32.ofNat len)] 7)) (Tl.setTop (mkF m 3 #[.val (.ref b), .val (.int (Int32.ofNat (o + i))), .val (.ref d), .val (.int (Int32.ofNat (q + i))), .val (.int (Int32.ofNat len)), .val (.int (Int32.ofNat i)), z] [])) → ∃ (T' : State) (B' : Cell) (z' : Slot), Stand p l e { frames := 0, locals := 0, cells := 0, slots := 0 } s m #[.ref b, .int (Int32.ofNat o), .ref d, .int (Int32.ofNat q), .int (Int32.ofNat len)] below meth c T' ([] ++ copyLocs d q len) 0 0 ∧ Put d B' s₁ T' ∧ Laid B B' q (q + len) (fun j => Value.int (lo8 (cv A (o + (j - q))))) ∧
      Steps p.tables e below (s₁.setTop (entryFrame m #[.ref b, .int (Int32.ofNat o), .ref d, .int (Int32.ofNat q), .int (Int32.ofNat len)] 7)) (T'.setTop (mkF m 3 #[.val (.ref b), .val (.int (Int32.ofNat (o + len))), .val (.ref d), .val (.int (Int32.ofNat (q + len))), .val (.int (Int32.ofNat len)), .val (.int (Int32.ofNat len)), z'] [])) := by
    intro r
    induction r with
    | zero =>
      intro i hi z hz Tl Bk Xl pl fl cl
      have hil : i = len := by omega
      rw [hil] at Xl fl cl
      exact ⟨Tl, Bk, z, Xl, pl, fl, cl⟩
    | succ r ih =>
      intro i hi z hz Tl Bk Xl pl fl cl
      have all := X0.warmed.alike.symm.trans Xl.warmed.alike
      have hAl := hA0.keep all (pl.other hne hA0.1)
      have hBk := hB0.like all pl.1 fl.1 fl.2.1 fl.2.2.1
      have hlt : q + i < Bk.slots.size := by rw [fl.2.2.1]; omega
      have c3 : Steps p.tables e below (s₁.setTop (entryFrame m #[.ref b, .int (Int32.ofNat o), .ref d, .int (Int32.ofNat q), .int (Int32.ofNat len)] 7)) (Tl.setTop (mkF m 12 #[.val (.ref b), .val (.int (Int32.ofNat (o + i))), .val (.ref d), .val (.int (Int32.ofNat (q + i))), .val (.int (Int32.ofNat len)), .val (.int (Int32.ofNat i)), z] [.int (Int32.ofNat (o + i)), .ref b])) := cl.trans (by
        refine XS.iload Xl.here hexec rfl (hb hbytes d3) rfl ?_
        refine XS.iload Xl.here hexec rfl (hb hbytes d5) rfl ?_
        refine XS.icmpNo Xl.here hexec rfl (hb hbytes d7) rfl (ii_ge_f (lt32 (by omega) (by omega))) ?_
        refine XS.aloadN Xl.here hexec rfl (hb hbytes d10) rfl rfl ?_
        refine XS.iloadN Xl.here hexec rfl (hb hbytes d11) rfl ?_
        exact Steps.refl _)
      have c4 : Steps p.tables e below (s₁.setTop (entryFrame m #[.ref b, .int (Int32.ofNat o), .ref d, .int (Int32.ofNat q), .int (Int32.ofNat len)] 7)) (Tl.setTop (mkF m 13 #[.val (.ref b), .val (.int (Int32.ofNat (o + i))), .val (.ref d), .val (.int (Int32.ofNat (q + i))), .val (.int (Int32.ofNat len)), .val (.int (Int32.ofNat i)), z] [.int (cv A (o + i))])) := c3.trans (by
        refine Xl.aget hexec hAl rfl (hA.get (i := o + i) (by omega)) rfl rfl (hb hbytes d12) ?_
        exact Steps.refl _)
      have c5 : Steps p.tables e below (s₁.setTop (entryFrame m #[.ref b, .int (Int32.ofNat o), .ref d, .int (Int32.ofNat q), .int (Int32.ofNat len)] 7)) (Tl.setTop (mkF m 15 #[.val (.ref b), .val (.int (Int32.ofNat (o + i))), .val (.ref d), .val (.int (Int32.ofNat (q + i))), .val (.int (Int32.ofNat len)), .val (.int (Int32.ofNat i)), .val (.int (cv A (o + i)))] [])) := c4.trans (by
        refine XS.istoreS Xl.here hexec rfl (hb hbytes d13) rfl rfl hz ?_
        exact Steps.refl _)
      have c6 : Steps p.tables e below (s₁.setTop (entryFrame m #[.ref b, .int (Int32.ofNat o), .ref d, .int (Int32.ofNat q), .int (Int32.ofNat len)] 7)) (Tl.setTop (mkF m 31 #[.val (.ref b), .val (.int (Int32.ofNat (o + i))), .val (.ref d), .val (.int (Int32.ofNat (q + i))), .val (.int (Int32.ofNat len)), .val (.int (Int32.ofNat i)), .val (.int (cv A (o + i)))] [.int (lo8 (cv A (o + i))), .int (Int32.ofNat (q + i)), .ref d])) := c5.trans (by
        refine XS.iload Xl.here hexec rfl (hb hbytes d15) rfl ?_
        refine sipushV Xl.here hexec rfl 255 (hb hbytes d17) (by decide) ?_
        refine XS.icmpYes Xl.here hexec rfl (pc0 := 20) rfl (hb hbytes d20) rfl (ii_le_t (hp i (by omega))) (by decide) rfl ?_
        refine XS.aloadN Xl.here hexec rfl (hb hbytes d26) rfl rfl ?_
        refine XS.iloadN Xl.here hexec rfl (hb hbytes d27) rfl ?_
        refine XS.iload Xl.here hexec rfl (hb hbytes d28) rfl ?_
        refine i2b Xl.here hexec rfl (hb hbytes d30) rfl ?_
        exact Steps.refl _)
      obtain ⟨T7, X7, p7, st7⟩ := Xl.aput hexec hBk rfl hlt rfl (fits_lo8 (cv A (o + i))) (g := (mkF m 31 #[.val (.ref b), .val (.int (Int32.ofNat (o + i))), .val (.ref d), .val (.int (Int32.ofNat (q + i))), .val (.int (Int32.ofNat len)), .val (.int (Int32.ofNat i)), .val (.int (cv A (o + i)))] [.int (lo8 (cv A (o + i))), .int (Int32.ofNat (q + i)), .ref d])) rfl (rest := []) rfl (hb hbytes d31)
      have c8 : Steps p.tables e below (s₁.setTop (entryFrame m #[.ref b, .int (Int32.ofNat o), .ref d, .int (Int32.ofNat q), .int (Int32.ofNat len)] 7)) (T7.setTop (mkF m 32 #[.val (.ref b), .val (.int (Int32.ofNat (o + i))), .val (.ref d), .val (.int (Int32.ofNat (q + i))), .val (.int (Int32.ofNat len)), .val (.int (Int32.ofNat i)), .val (.int (cv A (o + i)))] [])) := c6.trans (st7 _ (Steps.refl _))
      have c9 : Steps p.tables e below (s₁.setTop (entryFrame m #[.ref b, .int (Int32.ofNat o), .ref d, .int (Int32.ofNat q), .int (Int32.ofNat len)] 7)) (T7.setTop (mkF m 3 #[.val (.ref b), .val (.int (Int32.ofNat (o + i) + 1)), .val (.ref d), .val (.int (Int32.ofNat (q + i) + 1)), .val (.int (Int32.ofNat len)), .val (.int (Int32.ofNat i + 1)), .val (.int (cv A (o + i)))] [])) := c8.trans (by
        refine iincV X7.here hexec rfl 1 (hb hbytes d32) (by decide) rfl rfl ?_
        refine iincV X7.here hexec rfl 1 (hb hbytes d35) (by decide) rfl rfl ?_
        refine iincV X7.here hexec rfl 1 (hb hbytes d38) (by decide) rfl rfl ?_
        refine XS.goto X7.here hexec rfl (pc0 := 41) rfl (hb hbytes d41) (by decide) rfl ?_
        exact Steps.refl _)
      have c10 : Steps p.tables e below (s₁.setTop (entryFrame m #[.ref b, .int (Int32.ofNat o), .ref d, .int (Int32.ofNat q), .int (Int32.ofNat len)] 7)) (T7.setTop (mkF m 3 #[.val (.ref b), .val (.int (Int32.ofNat (o + (i + 1)))), .val (.ref d), .val (.int (Int32.ofNat (q + (i + 1)))), .val (.int (Int32.ofNat len)), .val (.int (Int32.ofNat (i + 1))), .val (.int (cv A (o + i)))] [])) := by
        have := c9
        rw [succ32, succ32, succ32] at this
        exact this
      exact ih (i + 1) (by omega) _ (Or.inr ⟨_, rfl, rfl⟩) T7 _ (by rw [copyLocs_step, ← List.append_assoc]; exact X7) (pl.trans p7) (fl.step (by omega) hlt (by simp)) c10
  obtain ⟨T9, B9, z9, X9, p9, f9, g9⟩ := loop len 0 (by omega) .unset (Or.inl rfl) s₁ B (by simpa [copyLocs] using X0) ⟨hB0.1, fun _ _ => rfl, rfl⟩ (Laid.zero _ _ _) c2
  have c11 : Steps p.tables e below (s₁.setTop (entryFrame m #[.ref b, .int (Int32.ofNat o), .ref d, .int (Int32.ofNat q), .int (Int32.ofNat len)] 7)) (T9.setTop (mkF m 46 #[.val (.ref b), .val (.int (Int32.ofNat (o + len))), .val (.ref d), .val (.int (Int32.ofNat (q + len))), .val (.int (Int32.ofNat len)), .val (.int (Int32.ofNat len)), z9] [.int (Int32.ofNat len)])) := g9.trans (by
    refine XS.iload X9.here hexec rfl (hb hbytes d3) rfl ?_
    refine XS.iload X9.here hexec rfl (hb hbytes d5) rfl ?_
    refine XS.icmpYes X9.here hexec rfl (pc0 := 7) rfl (hb hbytes d7) rfl (ii_ge_t (nlt32 (by omega) (Nat.le_refl _))) (by decide) rfl ?_
    refine XS.iload X9.here hexec rfl (hb hbytes d44) rfl ?_
    exact Steps.refl _)
  exact ⟨T9, some (.int (Int32.ofNat len)), _, _, _, X9, by simp, rfl, rfl, (fun h => by cases h), ⟨rfl, B9, p9.from hh0, f9⟩, fun fs hl => c11.trans (X9.ireturnOut hexec hret rfl (Or.inl rfl) (hb hbytes d46) hl)⟩
end Cmp5
namespace Cmp3
def yN : MethodName := ⟨"java/lang/StringUTF16", "compress", "([CII)[B"⟩
abbrev yB : ByteArray := jdk_52_method_16_code
theorem d0 : decode yB 0 = .ok (.iload_n 2, 1) := by decide +kernel
theorem d1 : decode yB 1 = .ok (.newarray .byte, 2) := by decide +kernel
theorem d3 : decode yB 3 = .ok (.astore_n 3, 1) := by decide +kernel
theorem d4 : decode yB 4 = .ok (.aload_n 0, 1) := by decide +kernel
theorem d5 : decode yB 5 = .ok (.iload_n 1, 1) := by decide +kernel
theorem d6 : decode yB 6 = .ok (.aload_n 3, 1) := by decide +kernel
theorem d7 : decode yB 7 = .ok (.iconst 0, 1) := by decide +kernel
theorem d8 : decode yB 8 = .ok (.iload_n 2, 1) := by decide +kernel
theorem d9 : decode yB 9 = .ok (.invokestatic 115, 3) := by decide +kernel
theorem d12 : decode yB 12 = .ok (.istore 4, 2) := by decide +kernel
theorem d14 : decode yB 14 = .ok (.iload 4, 2) := by decide +kernel
theorem d16 : decode yB 16 = .ok (.iload_n 2, 1) := by decide +kernel
theorem d17 : decode yB 17 = .ok (.if_icmp (.eq) 40, 3) := by decide +kernel
theorem d57 : decode yB 57 = .ok (.aload_n 3, 1) := by decide +kernel
theorem d58 : decode yB 58 = .ok (.areturn, 1) := by decide +kernel
def site : List Cond := [.arrayClass .byte, Cmp5.tab] ++ staticW U16 115 Cmp5.yN
def tab : Cond := tabOf yN yB 6 (some (.array .byte)) site
def P (b : Addr) (A : Cell) (o len : Nat) (args : Array Value) (s : State) : Prop := args = #[.ref b, .int (Int32.ofNat o), .int (Int32.ofNat len)] ∧ Ch b A s ∧ o + len ≤ A.slots.size ∧ len ≤ 536870912 ∧ ∀ i, i < len → ¬ 255 < cv A (o + i)
def E (b : Addr) (A : Cell) (o len : Nat) (r : Option Value) (s u : State) : Prop := NewArr .byte "[B" len (fun j => .int (lo8 (cv A (o + j)))) r s u ∧ u.heap.size = s.heap.size + 1
/-- no char of the range above 255: a new byte[] of their low bytes -/
theorem law (l : Launch) (b : Addr) (A : Cell) (o len : Nat) : Law l yN 3 3 1 18 yB 6 (some (.array .byte)) site (P b A o len) (E b A o len) [] 1 len := by
  refine Law.of_walk (plainFor_of_name (by decide +kernel)) (by decide +kernel) (by decide +kernel) (by decide) (fun _ _ h => by rw [h.1]; rfl) (fun _ U U' hal hh h => ⟨h.1, h.2.1.mv hal hh, h.2.2⟩) (fun r U U' V V' h1 hal h2 h => ⟨NewArr.mv r U U' V V' h1 hal h2 h.1, by rw [h1, h2]; exact h.2⟩) ?_
  intro p e s m args below meth c s₁ X0 hexec hbytes hml hret hlk hnm hown hh0 W hP
  obtain ⟨rfl, hA, l1, l2, hp⟩ := hP
  have a31 := hA.1.2.2.2
  have c1 : Steps p.tables e below (s₁.setTop (entryFrame m #[.ref b, .int (Int32.ofNat o), .int (Int32.ofNat len)] 6)) (s₁.setTop (mkF m 0 #[.val (.ref b), .val (.int (Int32.ofNat o)), .val (.int (Int32.ofNat len)), .unset, .unset, .unset] [])) := entry rfl
  have c2 : Steps p.tables e below (s₁.setTop (entryFrame m #[.ref b, .int (Int32.ofNat o), .int (Int32.ofNat len)] 6)) (s₁.setTop (mkF m 1 #[.val (.ref b), .val (.int (Int32.ofNat o)), .val (.int (Int32.ofNat len)), .unset, .unset, .unset] [.int (Int32.ofNat len)])) := c1.trans (by
    refine XS.iloadN X0.here hexec rfl (hb hbytes d0) rfl ?_
    exact Steps.refl _)
  obtain ⟨T3, B3, X3, ba3, bs3, bv3, bh3, bf3, st3⟩ := X0.anew hexec (atype := .byte) (wk W (.arrayClass .byte)) rfl (by show len * 1 ≤ _; omega) (by omega) (g := (mkF m 1 #[.val (.ref b), .val (.int (Int32.ofNat o)), .val (.int (Int32.ofNat len)), .unset, .unset, .unset] [.int (Int32.ofNat len)])) rfl (hb hbytes d1) (rest := []) rfl (Nat.le_refl _) (by show 0 + len ≤ len; omega)
  rw [hh0] at ba3 st3
  have kp3 : XT.Kept s T3 := (XT.Kept.of_eq hh0).push bh3
  have hA3 := hA.keep X3.warmed.alike (kp3 _ _ hA.1.1)
  have hne : b ≠ s.heap.size := hA.1.ne
  have c4 : Steps p.tables e below (s₁.setTop (entryFrame m #[.ref b, .int (Int32.ofNat o), .int (Int32.ofNat len)] 6)) (T3.setTop (mkF m 3 #[.val (.ref b), .val (.int (Int32.ofNat o)), .val (.int (Int32.ofNat len)), .unset, .unset, .unset] [.ref s.heap.size])) := c2.trans (st3 _ (Steps.refl _))
  have c5 : Steps p.tables e below (s₁.setTop (entryFrame m #[.ref b, .int (Int32.ofNat o), .int (Int32.ofNat len)] 6)) (T3.setTop (mkF m 9 #[.val (.ref b), .val (.int (Int32.ofNat o)), .val (.int (Int32.ofNat len)), .val (.ref s.heap.size), .unset, .unset] [.int (Int32.ofNat len), .int 0, .ref s.heap.size, .int (Int32.ofNat o), .ref b])) := c4.trans (by
    refine XS.astoreN X3.here hexec rfl (hb hbytes d3) rfl rfl rfl ?_
    refine XS.aloadN X3.here hexec rfl (hb hbytes d4) rfl rfl ?_
    refine XS.iloadN X3.here hexec rfl (hb hbytes d5) rfl ?_
    refine XS.aloadN X3.here hexec rfl (hb hbytes d6) rfl rfl ?_
    refine iconstV X3.here hexec rfl 0 (hb hbytes d7) (by decide) ?_
    refine XS.iloadN X3.here hexec rfl (hb hbytes d8) rfl ?_
    exact Steps.refl _)
  obtain ⟨v6, T6, X6, E6, g6⟩ := X3.callS hexec (Cmp5.law l b A s.heap.size B3 o 0 len) hown (wks W (staticW U16 115 Cmp5.yN)) (wk W Cmp5.tab) (W := 0) (Nat.le_of_ble_eq_true rfl) (Nat.le_of_ble_eq_true rfl) (Nat.le_refl _) (by show 0 + len + 0 ≤ len; omega) (g := (mkF m 9 #[.val (.ref b), .val (.int (Int32.ofNat o)), .val (.int (Int32.ofNat len)), .val (.ref s.heap.size), .unset, .unset] [.int (Int32.ofNat len), .int (Int32.ofNat 0), .ref s.heap.size, .int (Int32.ofNat o), .ref b])) rfl (by rw [hml]; rfl) c5 (argsL := [.ref b, .int (Int32.ofNat o), .ref s.heap.size, .int (Int32.ofNat 0), .int (Int32.ofNat len)]) (rest := []) rfl rfl (by show 2 * 0 + 0 ≤ _; decide) (hb hbytes d9) (⟨rfl, hA3, ba3, hne, l1, by rw [bs3]; simp, hp⟩)
  obtain ⟨rfl, B6, p6, f6⟩ := E6
  have c7 : Steps p.tables e below (s₁.setTop (entryFrame m #[.ref b, .int (Int32.ofNat o), .int (Int32.ofNat len)] 6)) (T6.setTop (mkF m 12 #[.val (.ref b), .val (.int (Int32.ofNat o)), .val (.int (Int32.ofNat len)), .val (.ref s.heap.size), .unset, .unset] [.int (Int32.ofNat len)])) := g6
  have c8 : Steps p.tables e below (s₁.setTop (entryFrame m #[.ref b, .int (Int32.ofNat o), .int (Int32.ofNat len)] 6)) (T6.setTop (mkF m 58 #[.val (.ref b), .val (.int (Int32.ofNat o)), .val (.int (Int32.ofNat len)), .val (.ref s.heap.size), .val (.int (Int32.ofNat len)), .unset] [.ref s.heap.size])) := c7.trans (by
    refine XS.istore X6.here hexec rfl (hb hbytes d12) rfl rfl ?_
    refine XS.iload X6.here hexec rfl (hb hbytes d14) rfl ?_
    refine XS.iloadN X6.here hexec rfl (hb hbytes d16) rfl ?_
    refine XS.icmpYes X6.here hexec rfl (pc0 := 17) rfl (hb hbytes d17) rfl (ii_eq_t rfl) (by decide) rfl ?_
    refine XS.aloadN X6.here hexec rfl (hb hbytes d57) rfl rfl ?_
    exact Steps.refl _)
  have X8 := X6.wide (L' := []) (cells' := 1) (slots' := len) (fun x hx hlt => by
    simp only [List.nil_append, copyLocs, List.mem_map, List.mem_range] at hx
    obtain ⟨i, -, rfl⟩ := hx
    exact absurd hlt (Nat.lt_irrefl _)) (Nat.le_refl _) (by omega)
  exact ⟨T6, some (.ref s.heap.size), _, _, _, X8, rfl, rfl, rfl, (fun h => by cases h), ⟨⟨rfl, B6, ba3.like (X3.warmed.alike.symm.trans X6.warmed.alike) p6.1 f6.1 f6.2.1 f6.2.2.1, f6.2.1.trans bv3, by rw [X6.warmed.alike.findClass, f6.1]; exact bf3, by rw [f6.2.2.1, bs3]; simp, fun j hj => by rw [f6.2.2.2 j, if_pos (by omega)]; rfl, kp3.put p6 (Nat.le_refl _)⟩, by rw [p6.2.2, bh3, hh0]; simp⟩, fun fs hl => c8.trans (X8.areturnOut hexec rfl hret rfl (hb hbytes d58) hl)⟩
end Cmp3
namespace CodL
def yN : MethodName := ⟨"java/lang/StringUTF16", "coderFromArrayLen", "([BI)B"⟩
abbrev yB : ByteArray := jdk_52_method_15_code
theorem d0 : decode yB 0 = .ok (.iload_n 1, 1) := by decide +kernel
theorem d1 : decode yB 1 = .ok (.aload_n 0, 1) := by decide +kernel
theorem d2 : decode yB 2 = .ok (.arraylength, 1) := by decide +kernel
theorem d3 : decode yB 3 = .ok (.isub, 1) := by decide +kernel
theorem d4 : decode yB 4 = .ok (.bipush 31, 2) := by decide +kernel
theorem d6 : decode yB 6 = .ok (.iushr, 1) := by decide +kernel
theorem d7 : decode yB 7 = .ok (.i2b, 1) := by decide +kernel
theorem d8 : decode yB 8 = .ok (.ireturn, 1) := by decide +kernel
def site : List Cond := []
def tab : Cond := tabOf yN yB 2 (some .byte) site
def P (d : Addr) (B : Cell) (args : Array Value) (s : State) : Prop := args = #[.ref d, .int (Int32.ofNat B.slots.size)] ∧ Arr .byte d B s
def E (r : Option Value) (s u : State) : Prop := XT.PureE (some (.int 0)) r s u
/-- an array as long as the number of chars: LATIN1 -/
theorem law (l : Launch) (d : Addr) (B : Cell) : Law l yN 2 2 0 0 yB 2 (some .byte) site (P d B) E [] 0 0 := by
  refine Law.of_walk (plainFor_of_name (by decide +kernel)) (by decide +kernel) (by decide +kernel) (by decide) (fun _ _ h => by rw [h.1]; rfl) (fun _ U U' hal hh h => ⟨h.1, h.2.mv hal hh⟩) (fun r U U' V V' h1 hal h2 h => XT.PureE.mv r U U' V V' h1 hal h2 h) ?_
  intro p e s m args below meth c s₁ X0 hexec hbytes hml hret hlk hnm hown hh0 W hP
  obtain ⟨rfl, hB⟩ := hP
  have hB0 := hB.mv X0.warmed.alike hh0
  have c1 : Steps p.tables e below (s₁.setTop (entryFrame m #[.ref d, .int (Int32.ofNat B.slots.size)] 2)) (s₁.setTop (mkF m 0 #[.val (.ref d), .val (.int (Int32.ofNat B.slots.size))] [])) := entry rfl
  have c2 : Steps p.tables e below (s₁.setTop (entryFrame m #[.ref d, .int (Int32.ofNat B.slots.size)] 2)) (s₁.setTop (mkF m 2 #[.val (.ref d), .val (.int (Int32.ofNat B.slots.size))] [.ref d, .int (Int32.ofNat B.slots.size)])) := c1.trans (by
    refine XS.iloadN X0.here hexec rfl (hb hbytes d0) rfl ?_
    refine XS.aloadN X0.here hexec rfl (hb hbytes d1) rfl rfl ?_
    exact Steps.refl _)
  have c3 : Steps p.tables e below (s₁.setTop (entryFrame m #[.ref d, .int (Int32.ofNat B.slots.size)] 2)) (s₁.setTop (mkF m 8 #[.val (.ref d), .val (.int (Int32.ofNat B.slots.size))] [.int (lo8 (ushr (Int32.ofNat B.slots.size - Int32.ofNat B.slots.size) 31))])) := c2.trans (by
    refine X0.alen hexec hB0 rfl rfl (hb hbytes d2) ?_
    refine XS.isub X0.here hexec rfl (hb hbytes d3) rfl ?_
    refine bipushV X0.here hexec rfl 31 (hb hbytes d4) (by decide) ?_
    refine iushr X0.here hexec rfl (hb hbytes d6) rfl ?_
    refine i2b X0.here hexec rfl (hb hbytes d7) rfl ?_
    exact Steps.refl _)
  have e0 : lo8 (ushr (Int32.ofNat B.slots.size - Int32.ofNat B.slots.size) 31) = 0 := by rw [Int32.sub_self]; decide
  rw [e0] at c3
  exact ⟨s₁, some (.int 0), _, _, _, X0, rfl, rfl, rfl, (fun h => by cases h), ⟨rfl, hh0⟩, fun fs hl => c3.trans (X0.ireturnOut hexec hret rfl (Or.inr (Or.inr (Or.inl rfl))) (hb hbytes d8) hl)⟩
end CodL
/-- the String at a is Latin-1 over a new byte[] (the heap's one new cell): the low bytes of the len chars of A from o on; every cell but a is kept -/
def Got (a : Addr) (D : Cell) (fV fC : Field) (A : Cell) (o len : Nat) (r : Option Value) (s u : State) : Prop := r = none ∧ ∃ D' V : Cell, Blank "java/lang/String" a D' u ∧ Same D D' [fV.slot, fC.slot] ∧ D'.slots[fV.slot]? = some (.ref s.heap.size) ∧ D'.slots[fC.slot]? = some (.int 0) ∧ Arr .byte s.heap.size V u ∧ V.vm = .none ∧ u.vm.findClass "[B" = some V.cls ∧ V.slots.size = len ∧ (∀ j, j < len → V.slots[j]? = some (.int (lo8 (cv A (o + j))))) ∧ (∀ (y : Addr) (c : Cell), y ≠ a → s.heap[y]? = some c → u.heap[y]? = some c) ∧ u.heap.size = s.heap.size + 1
theorem Got.mv {a : Addr} {D A : Cell} {fV fC : Field} {o len : Nat} : ∀ r (U U' V V' : State), U'.heap = U.heap → V.vm.Alike V'.vm → V'.heap = V.heap → Got a D fV fC A o len r U V → Got a D fV fC A o len r U' V' :=
  fun r U U' V V' h1 hal h2 ⟨e0, D', X, a1, a2, a3, a4, a5, a6, a7, a8, a9, a10, a11⟩ => ⟨e0, D', X, a1.mv hal h2, a2, by rw [h1]; exact a3, a4, by rw [h1]; exact a5.mv hal h2, a6, by rw [hal.findClass]; exact a7, a8, a9, by rw [h1, h2]; exact a10, by rw [h1, h2]; exact a11⟩
namespace New4
def yN : MethodName := ⟨"java/lang/String", "<init>", "([CIILjava/lang/Void;)V"⟩
abbrev yB : ByteArray := jdk_42_method_149_code
theorem d0 : decode yB 0 = .ok (.aload_n 0, 1) := by decide +kernel
theorem d1 : decode yB 1 = .ok (.invokespecial 1, 3) := by decide +kernel
theorem d4 : decode yB 4 = .ok (.iload_n 3, 1) := by decide +kernel
theorem d5 : decode yB 5 = .ok (.ifCond (.ne) 22, 3) := by decide +kernel
theorem d27 : decode yB 27 = .ok (.getstatic 38, 3) := by decide +kernel
theorem d30 : decode yB 30 = .ok (.ifCond (.eq) 28, 3) := by decide +kernel
theorem d33 : decode yB 33 = .ok (.aload_n 1, 1) := by decide +kernel
theorem d34 : decode yB 34 = .ok (.iload_n 2, 1) := by decide +kernel
theorem d35 : decode yB 35 = .ok (.iload_n 3, 1) := by decide +kernel
theorem d36 : decode yB 36 = .ok (.invokestatic 177, 3) := by decide +kernel
theorem d39 : decode yB 39 = .ok (.astore 5, 2) := by decide +kernel
theorem d41 : decode yB 41 = .ok (.aload_n 0, 1) := by decide +kernel
theorem d42 : decode yB 42 = .ok (.aload 5, 2) := by decide +kernel
theorem d44 : decode yB 44 = .ok (.iload_n 3, 1) := by decide +kernel
theorem d45 : decode yB 45 = .ok (.invokestatic 47, 3) := by decide +kernel
theorem d48 : decode yB 48 = .ok (.putfield 15, 3) := by decide +kernel
theorem d51 : decode yB 51 = .ok (.aload_n 0, 1) := by decide +kernel
theorem d52 : decode yB 52 = .ok (.aload 5, 2) := by decide +kernel
theorem d54 : decode yB 54 = .ok (.putfield 9, 3) := by decide +kernel
theorem d57 : decode yB 57 = .ok (.return_, 1) := by decide +kernel
def site : List Cond := [.fieldLink "java/lang/String" 38 "java/lang/String" "COMPACT_STRINGS" "Z", Cmp3.tab, CodL.tab, .laysFinal "java/lang/String" "java/lang/String" "value" "[B", .fieldLink "java/lang/String" 9 "java/lang/String" "value" "[B", .laysFinal "java/lang/String" "java/lang/String" "coder" "B", .fieldLink "java/lang/String" 15 "java/lang/String" "coder" "B"] ++ objW "java/lang/String" 1 ++ staticW "java/lang/String" 177 Cmp3.yN ++ staticW "java/lang/String" 47 CodL.yN
def tab : Cond := tabOf yN yB 6 none site
def P (a : Addr) (D : Cell) (fV fC : Field) (b : Addr) (A : Cell) (z : Int32) (o len : Nat) (args : Array Value) (s : State) : Prop := args = #[.ref a, .ref b, .int (Int32.ofNat o), .int (Int32.ofNat len), .null] ∧ Blank "java/lang/String" a D s ∧ Found "java/lang/String" "value" "[B" fV s ∧ Found "java/lang/String" "coder" "B" fC s ∧ Ch b A s ∧ StaticIs s "java/lang/String" "COMPACT_STRINGS" "Z" (.int z) ∧ ¬ z = 0 ∧ 0 < len ∧ o + len ≤ A.slots.size ∧ len ≤ 536870912 ∧ ∀ i, i < len → ¬ 255 < cv A (o + i)
def E (a : Addr) (D : Cell) (fV fC : Field) (A : Cell) (o len : Nat) (r : Option Value) (s u : State) : Prop := Got a D fV fC A o len r s u
/-- len > 0, no char of the range above 255: a Latin-1 String of their low bytes -/
theorem law (l : Launch) (a : Addr) (D : Cell) (fV fC : Field) (b : Addr) (A : Cell) (z : Int32) (o len : Nat) : Law l yN 5 4 2 35 yB 6 none site (P a D fV fC b A z o len) (E a D fV fC A o len) [⟨a, fC.slot⟩, ⟨a, fV.slot⟩] 1 len := by
  refine Law.of_walk (plainFor_of_name (by decide +kernel)) (by decide +kernel) (by decide +kernel) (by decide) (fun _ _ h => by rw [h.1]; rfl) (fun _ U U' hal hh h => ⟨h.1, h.2.1.mv hal hh, h.2.2.1.al hal, h.2.2.2.1.al hal, h.2.2.2.2.1.mv hal hh, h.2.2.2.2.2.1.there hal hh, h.2.2.2.2.2.2⟩) (fun r U U' V V' h1 hal h2 h => Got.mv r U U' V V' h1 hal h2 h) ?_
  intro p e s m args below meth c s₁ X0 hexec hbytes hml hret hlk hnm hown hh0 W hP
  obtain ⟨rfl, hB, f1, f2, hA, s1, hz, l0, l1, l2, hp⟩ := hP
  have a31 := hA.1.2.2.2
  have c1 : Steps p.tables e below (s₁.setTop (entryFrame m #[.ref a, .ref b, .int (Int32.ofNat o), .int (Int32.ofNat len), .null] 6)) (s₁.setTop (mkF m 0 #[.val (.ref a), .val (.ref b), .val (.int (Int32.ofNat o)), .val (.int (Int32.ofNat len)), .val .null, .unset] [])) := entry rfl
  have c2 : Steps p.tables e below (s₁.setTop (entryFrame m #[.ref a, .ref b, .int (Int32.ofNat o), .int (Int32.ofNat len), .null] 6)) (s₁.setTop (mkF m 1 #[.val (.ref a), .val (.ref b), .val (.int (Int32.ofNat o)), .val (.int (Int32.ofNat len)), .val .null, .unset] [.ref a])) := c1.trans (by
    refine XS.aloadN X0.here hexec rfl (hb hbytes d0) rfl rfl ?_
    exact Steps.refl _)
  obtain ⟨T3, X3, q3, st3⟩ := X0.oinit hexec hown (wks W (objW "java/lang/String" 1)) (g := (mkF m 1 #[.val (.ref a), .val (.ref b), .val (.int (Int32.ofNat o)), .val (.int (Int32.ofNat len)), .val .null, .unset] [.ref a])) rfl (by rw [hml]; rfl) (rest := []) rfl (hb hbytes d1) (W := 0) (by show 2 * 0 + 0 ≤ _; decide) (Nat.le_of_ble_eq_true rfl) (Nat.le_of_ble_eq_true rfl)
  have hh3 := q3.trans hh0
  have c4 : Steps p.tables e below (s₁.setTop (entryFrame m #[.ref a, .ref b, .int (Int32.ofNat o), .int (Int32.ofNat len), .null] 6)) (T3.setTop (mkF m 27 #[.val (.ref a), .val (.ref b), .val (.int (Int32.ofNat o)), .val (.int (Int32.ofNat len)), .val .null, .unset] [])) := (c2.trans (st3 _ (Steps.refl _))).trans (by
    refine XS.iloadN X3.here hexec rfl (hb hbytes d4) rfl ?_
    refine XS.ifYes X3.here hexec rfl (pc0 := 5) rfl (hb hbytes d5) rfl (i0_ne_t (nz32 (by omega) l0)) (by decide) rfl ?_
    exact Steps.refl _)
  obtain ⟨T5, X5, q5, st5⟩ := X3.sget hexec hown (wk W (.fieldLink "java/lang/String" 38 "java/lang/String" "COMPACT_STRINGS" "Z")) s1 (fun _ _ h => by rw [hh3]; exact h) (g := (mkF m 27 #[.val (.ref a), .val (.ref b), .val (.int (Int32.ofNat o)), .val (.int (Int32.ofNat len)), .val .null, .unset] [])) rfl (hb hbytes d27)
  have hh5 := q5.trans hh3
  have c6 : Steps p.tables e below (s₁.setTop (entryFrame m #[.ref a, .ref b, .int (Int32.ofNat o), .int (Int32.ofNat len), .null] 6)) (T5.setTop (mkF m 30 #[.val (.ref a), .val (.ref b), .val (.int (Int32.ofNat o)), .val (.int (Int32.ofNat len)), .val .null, .unset] [.int z])) := c4.trans (st5 _ (Steps.refl _))
  have c7 : Steps p.tables e below (s₁.setTop (entryFrame m #[.ref a, .ref b, .int (Int32.ofNat o), .int (Int32.ofNat len), .null] 6)) (T5.setTop (mkF m 36 #[.val (.ref a), .val (.ref b), .val (.int (Int32.ofNat o)), .val (.int (Int32.ofNat len)), .val .null, .unset] [.int (Int32.ofNat len), .int (Int32.ofNat o), .ref b])) := c6.trans (by
    refine XS.ifNo X5.here hexec rfl (hb hbytes d30) rfl (i0_eq_f hz) ?_
    refine XS.aloadN X5.here hexec rfl (hb hbytes d33) rfl rfl ?_
    refine XS.iloadN X5.here hexec rfl (hb hbytes d34) rfl ?_
    refine XS.iloadN X5.here hexec rfl (hb hbytes d35) rfl ?_
    exact Steps.refl _)
  obtain ⟨v8, T8, X8, E8, g8⟩ := X5.callS hexec (Cmp3.law l b A o len) hown (wks W (staticW "java/lang/String" 177 Cmp3.yN)) (wk W Cmp3.tab) (W := 0) (Nat.le_of_ble_eq_true rfl) (Nat.le_of_ble_eq_true rfl) (Nat.le_refl _) (by show 0 + len ≤ len; omega) (g := (mkF m 36 #[.val (.ref a), .val (.ref b), .val (.int (Int32.ofNat o)), .val (.int (Int32.ofNat len)), .val .null, .unset] [.int (Int32.ofNat len), .int (Int32.ofNat o), .ref b])) rfl (by rw [hml]; rfl) c7 (argsL := [.ref b, .int (Int32.ofNat o), .int (Int32.ofNat len)]) (rest := []) rfl rfl (by show 2 * 0 + 0 ≤ _; decide) (hb hbytes d36) (⟨rfl, hA.mv X5.warmed.alike hh5, l1, l2, hp⟩)
  obtain ⟨e8, z8⟩ := E8
  obtain ⟨rfl, N, n1, n2, n3, n4, n5, n6⟩ := NewArr.mv _ T5 s _ _ hh5.symm (Vm.Alike.refl _) rfl e8
  rw [hh5] at z8
  have hB1 := hB.keep X8.warmed.alike (n6 _ _ hB.1)
  have hne : s.heap.size ≠ a := (Nat.ne_of_lt (Array.getElem?_eq_some_iff.mp hB.1).1).symm
  have c9 : Steps p.tables e below (s₁.setTop (entryFrame m #[.ref a, .ref b, .int (Int32.ofNat o), .int (Int32.ofNat len), .null] 6)) (T8.setTop (mkF m 39 #[.val (.ref a), .val (.ref b), .val (.int (Int32.ofNat o)), .val (.int (Int32.ofNat len)), .val .null, .unset] [.ref s.heap.size])) := g8
  have c10 : Steps p.tables e below (s₁.setTop (entryFrame m #[.ref a, .ref b, .int (Int32.ofNat o), .int (Int32.ofNat len), .null] 6)) (T8.setTop (mkF m 45 #[.val (.ref a), .val (.ref b), .val (.int (Int32.ofNat o)), .val (.int (Int32.ofNat len)), .val .null, .val (.ref s.heap.size)] [.int (Int32.ofNat N.slots.size), .ref s.heap.size, .ref a])) := by
    have hc : Steps p.tables e below (s₁.setTop (entryFrame m #[.ref a, .ref b, .int (Int32.ofNat o), .int (Int32.ofNat len), .null] 6)) (T8.setTop (mkF m 45 #[.val (.ref a), .val (.ref b), .val (.int (Int32.ofNat o)), .val (.int (Int32.ofNat len)), .val .null, .val (.ref s.heap.size)] [.int (Int32.ofNat len), .ref s.heap.size, .ref a])) := c9.trans (by
      refine XS.astore X8.here hexec rfl (hb hbytes d39) rfl rfl rfl ?_
      refine XS.aloadN X8.here hexec rfl (hb hbytes d41) rfl rfl ?_
      refine XS.aload X8.here hexec rfl (hb hbytes d42) rfl rfl ?_
      refine XS.iloadN X8.here hexec rfl (hb hbytes d44) rfl ?_
      exact Steps.refl _)
    rw [n4]; exact hc
  obtain ⟨v11, T11, X11, E11, g11⟩ := X8.callS hexec (CodL.law l s.heap.size N) hown (wks W (staticW "java/lang/String" 47 CodL.yN)) (wk W CodL.tab) (W := 1) (Nat.le_of_ble_eq_true rfl) (Nat.le_of_ble_eq_true rfl) (Nat.le_refl _) (by show 0 + len + 0 ≤ len; omega) (g := (mkF m 45 #[.val (.ref a), .val (.ref b), .val (.int (Int32.ofNat o)), .val (.int (Int32.ofNat len)), .val .null, .val (.ref s.heap.size)] [.int (Int32.ofNat N.slots.size), .ref s.heap.size, .ref a])) rfl (by rw [hml]; rfl) c10 (argsL := [.ref s.heap.size, .int (Int32.ofNat N.slots.size)]) (rest := [.ref a]) rfl rfl (by show 2 * 0 + (1 + 0) ≤ _; decide) (hb hbytes d45) (⟨rfl, n1⟩)
  obtain ⟨rfl, q11⟩ := E11
  have hB11 := hB1.mv (X8.warmed.alike.symm.trans X11.warmed.alike) q11
  have c12 : Steps p.tables e below (s₁.setTop (entryFrame m #[.ref a, .ref b, .int (Int32.ofNat o), .int (Int32.ofNat len), .null] 6)) (T11.setTop (mkF m 48 #[.val (.ref a), .val (.ref b), .val (.int (Int32.ofNat o)), .val (.int (Int32.ofNat len)), .val .null, .val (.ref s.heap.size)] [.int 0, .ref a])) := g11
  obtain ⟨T13, X13, p13, bl13, sl13, st13⟩ := X11.finit hexec hown (wk W (.fieldLink "java/lang/String" 15 "java/lang/String" "coder" "B")) (Or.inr ⟨_, (wk W (.laysFinal "java/lang/String" "java/lang/String" "coder" "B"))⟩) (Or.inl ⟨rfl, hnm⟩) f2 (Or.inl rfl) hB11 (t := .byte) (by decide +kernel) rfl (g := (mkF m 48 #[.val (.ref a), .val (.ref b), .val (.int (Int32.ofNat o)), .val (.int (Int32.ofNat len)), .val .null, .val (.ref s.heap.size)] [.int 0, .ref a])) rfl (rest := []) rfl (hb hbytes d48)
  have c14 : Steps p.tables e below (s₁.setTop (entryFrame m #[.ref a, .ref b, .int (Int32.ofNat o), .int (Int32.ofNat len), .null] 6)) (T13.setTop (mkF m 54 #[.val (.ref a), .val (.ref b), .val (.int (Int32.ofNat o)), .val (.int (Int32.ofNat len)), .val .null, .val (.ref s.heap.size)] [.ref s.heap.size, .ref a])) := (c12.trans (st13 _ (Steps.refl _))).trans (by
    refine XS.aloadN X13.here hexec rfl (hb hbytes d51) rfl rfl ?_
    refine XS.aload X13.here hexec rfl (hb hbytes d52) rfl rfl ?_
    exact Steps.refl _)
  obtain ⟨T15, X15, p15, bl15, sl15, st15⟩ := X13.finit hexec hown (wk W (.fieldLink "java/lang/String" 9 "java/lang/String" "value" "[B")) (Or.inr ⟨_, (wk W (.laysFinal "java/lang/String" "java/lang/String" "value" "[B"))⟩) (Or.inl ⟨rfl, hnm⟩) f1 (Or.inl rfl) bl13 (t := (.array .byte)) (by decide +kernel) rfl (g := (mkF m 54 #[.val (.ref a), .val (.ref b), .val (.int (Int32.ofNat o)), .val (.int (Int32.ofNat len)), .val .null, .val (.ref s.heap.size)] [.ref s.heap.size, .ref a])) rfl (rest := []) rfl (hb hbytes d54)
  have c16 : Steps p.tables e below (s₁.setTop (entryFrame m #[.ref a, .ref b, .int (Int32.ofNat o), .int (Int32.ofNat len), .null] 6)) (T15.setTop (mkF m 57 #[.val (.ref a), .val (.ref b), .val (.int (Int32.ofNat o)), .val (.int (Int32.ofNat len)), .val .null, .val (.ref s.heap.size)] [])) := c14.trans (st15 _ (Steps.refl _))
  have ap := apart (Or.inr ⟨_, (wk W (.laysFinal "java/lang/String" "java/lang/String" "value" "[B"))⟩) (Or.inr ⟨_, (wk W (.laysFinal "java/lang/String" "java/lang/String" "coder" "B"))⟩) f1 f2 (t₁ := .array .byte) (t₂ := .byte) (by decide +kernel) (by decide +kernel) (by decide)
  have al := X8.warmed.alike.symm.trans X15.warmed.alike
  have n7 : T11.heap[s.heap.size]? = some N := by rw [q11]; exact n1.1
  exact ⟨T15, none, _, _, _, X15, by simp, rfl, by omega, (fun _ => rfl), ⟨rfl, _, N, bl15, ((Same.refl D _).set _ (by simp)).set _ (by simp), sl15, (Cell.slots_setSlot_ne _ ap).trans sl13, n1.keep al (p15.other hne (p13.other hne n7)), n2, by rw [al.findClass]; exact n3, n4, n5, fun y c h1 h2 => p15.other h1 (p13.other h1 (by rw [q11]; exact n6 y c h2)), by rw [p15.2.2, p13.2.2, q11]; exact z8⟩, fun fs hl => c16.trans (X15.returnOut hexec hret (hb hbytes d57) hl)⟩
end New4
namespace New1
def yN : MethodName := ⟨"java/lang/String", "<init>", "([C)V"⟩
abbrev yB : ByteArray := jdk_42_method_3_code
theorem d0 : decode yB 0 = .ok (.aload_n 0, 1) := by decide +kernel
theorem d1 : decode yB 1 = .ok (.aload_n 1, 1) := by decide +kernel
theorem d2 : decode yB 2 = .ok (.iconst 0, 1) := by decide +kernel
theorem d3 : decode yB 3 = .ok (.aload_n 1, 1) := by decide +kernel
theorem d4 : decode yB 4 = .ok (.arraylength, 1) := by decide +kernel
theorem d5 : decode yB 5 = .ok (.aconst_null, 1) := by decide +kernel
theorem d6 : decode yB 6 = .ok (.invokespecial 27, 3) := by decide +kernel
theorem d9 : decode yB 9 = .ok (.return_, 1) := by decide +kernel
def site : List Cond := [New4.tab] ++ initW "java/lang/String" 27 New4.yN
def tab : Cond := tabOf yN yB 2 none site
def P (a : Addr) (D : Cell) (fV fC : Field) (b : Addr) (A : Cell) (z : Int32) (args : Array Value) (s : State) : Prop := args = #[.ref a, .ref b] ∧ Blank "java/lang/String" a D s ∧ Found "java/lang/String" "value" "[B" fV s ∧ Found "java/lang/String" "coder" "B" fC s ∧ Ch b A s ∧ StaticIs s "java/lang/String" "COMPACT_STRINGS" "Z" (.int z) ∧ ¬ z = 0 ∧ 0 < A.slots.size ∧ A.slots.size ≤ 536870912 ∧ ∀ i, i < A.slots.size → ¬ 255 < cv A i
def E (a : Addr) (D : Cell) (fV fC : Field) (A : Cell) (r : Option Value) (s u : State) : Prop := Got a D fV fC A 0 A.slots.size r s u
/-- new String(chars), not empty, no char above 255: a Latin-1 String of their low bytes -/
theorem law (l : Launch) (a : Addr) (D : Cell) (fV fC : Field) (b : Addr) (A : Cell) (z : Int32) : Law l yN 2 1 3 52 yB 2 none site (P a D fV fC b A z) (E a D fV fC A) [⟨a, fC.slot⟩, ⟨a, fV.slot⟩] 1 A.slots.size := by
  refine Law.of_walk (plainFor_of_name (by decide +kernel)) (by decide +kernel) (by decide +kernel) (by decide) (fun _ _ h => by rw [h.1]; rfl) (fun _ U U' hal hh h => ⟨h.1, h.2.1.mv hal hh, h.2.2.1.al hal, h.2.2.2.1.al hal, h.2.2.2.2.1.mv hal hh, h.2.2.2.2.2.1.there hal hh, h.2.2.2.2.2.2⟩) (fun r U U' V V' h1 hal h2 h => Got.mv r U U' V V' h1 hal h2 h) ?_
  intro p e s m args below meth c s₁ X0 hexec hbytes hml hret hlk hnm hown hh0 W hP
  obtain ⟨rfl, hB, f1, f2, hA, s1, hz, l0, l2, hp⟩ := hP
  have c1 : Steps p.tables e below (s₁.setTop (entryFrame m #[.ref a, .ref b] 2)) (s₁.setTop (mkF m 0 #[.val (.ref a), .val (.ref b)] [])) := entry rfl
  have c2 : Steps p.tables e below (s₁.setTop (entryFrame m #[.ref a, .ref b] 2)) (s₁.setTop (mkF m 6 #[.val (.ref a), .val (.ref b)] [.null, .int (Int32.ofNat A.slots.size), .int 0, .ref b, .ref a])) := c1.trans (by
    refine XS.aloadN X0.here hexec rfl (hb hbytes d0) rfl rfl ?_
    refine XS.aloadN X0.here hexec rfl (hb hbytes d1) rfl rfl ?_
    refine iconstV X0.here hexec rfl 0 (hb hbytes d2) (by decide) ?_
    refine XS.aloadN X0.here hexec rfl (hb hbytes d3) rfl rfl ?_
    refine X0.alen hexec (hA.1.mv X0.warmed.alike hh0) rfl rfl (hb hbytes d4) ?_
    refine XS.aconstNull X0.here hexec rfl (hb hbytes d5) ?_
    exact Steps.refl _)
  obtain ⟨v3, T3, X3, E3, g3⟩ := X0.callN hexec (New4.law l a D fV fC b A z 0 A.slots.size) rfl hown (wks W (initW "java/lang/String" 27 New4.yN)) (W New4.tab (by simp only [site, List.mem_cons, List.mem_append, true_or, or_true])) (W := 0) (Nat.le_of_ble_eq_true rfl) (Nat.le_of_ble_eq_true rfl) (Nat.le_refl _) (by show 0 + A.slots.size ≤ A.slots.size; omega) (g := (mkF m 6 #[.val (.ref a), .val (.ref b)] [.null, .int (Int32.ofNat A.slots.size), .int (Int32.ofNat 0), .ref b, .ref a])) rfl (by rw [hml]; rfl) c2 (argsL := [.ref b, .int (Int32.ofNat 0), .int (Int32.ofNat A.slots.size), .null]) (rest := []) rfl rfl (by show 2 * 0 + 0 ≤ _; decide) (hb hbytes d6) (⟨rfl, hB.mv X0.warmed.alike hh0, f1.al X0.warmed.alike, f2.al X0.warmed.alike, hA.mv X0.warmed.alike hh0, s1.there X0.warmed.alike hh0, hz, l0, by omega, l2, fun i hi => by rw [Nat.zero_add]; exact hp i hi⟩)
  have e0 := Got.mv _ s₁ s _ _ hh0.symm (Vm.Alike.refl _) rfl E3
  obtain rfl := e0.1
  have c4 : Steps p.tables e below (s₁.setTop (entryFrame m #[.ref a, .ref b] 2)) (T3.setTop (mkF m 9 #[.val (.ref a), .val (.ref b)] [])) := g3
  exact ⟨T3, none, _, _, _, X3, by simp, rfl, by omega, (fun _ => rfl), e0, fun fs hl => c4.trans (X3.returnOut hexec hret (hb hbytes d9) hl)⟩
theorem pays {l : Launch} {R : Room} {p : Program} {e : Env} {below : List Frame} {s : State} {sargs : Array Value} {len W : Nat} (a : Addr) (D : Cell) (fV fC : Field) (b : Addr) (A : Cell) (z : Int32) (htab : tab.before sargs s = true) (hfr : 4 ≤ R.frames) (hlo : W + 65 ≤ R.locals) :
    Back l R p e below s sargs yN len W (fun A₁ a₁ => A₁.cells + 1 ≤ R.cells ∧ A₁.slots + A.slots.size ≤ R.slots ∧ P a D fV fC b A z a₁ A₁.U) (fun A₁ _ v₁ B₁ => E a D fV fC A v₁ A₁.U B₁.U ∧ B₁.locs = A₁.locs ++ [⟨a, fC.slot⟩, ⟨a, fV.slot⟩] ∧ B₁.cells = A₁.cells + 1 ∧ B₁.slots = A₁.slots + A.slots.size) :=
  (law l a D fV fC b A z).pays htab hfr (by omega)
end New1
/-- the byte, read back as charAt reads it, is the char -/
theorem lo8_mask {x : Int32} (h0 : ¬ x < 0) (h1 : ¬ 255 < x) : lo8 x &&& 255 = x := by
  have t : ∀ k : Fin 256, lo8 (Int32.ofNat k.val) &&& 255 = Int32.ofNat k.val := by decide +kernel
  rw [Int32.lt_iff_toInt_lt] at h0 h1
  have e0 : (0 : Int32).toInt = 0 := rfl
  have e1 : (255 : Int32).toInt = 255 := rfl
  obtain ⟨k, hk⟩ : ∃ k : Nat, x.toInt = k := ⟨x.toInt.toNat, by omega⟩
  have hx : x = Int32.ofNat k := Int32.toInt_inj.mp (by rw [hk, Int32.toInt_ofNat_small (by omega)])
  rw [hx]
  exact t ⟨k, by omega⟩
end StrChars
namespace StrChars.Road
open Jvm Sem ClassFile Op Lib Jvm.Stand Jvm.Free Jvm.Free.XT
open Jvm.Lib.Cold (StaticIs)
abbrev ST : String := "java/lang/String"
/-- every table word that New1's law asks, flat -/
abbrev words : List Jvm.Cond := [.code New1.yN New1.yB 2 none, .initialized ST, .methodLink ST 27 New4.yN, .instanceMethod New4.yN,
  .code New4.yN New4.yB 6 none, .fieldLink ST 38 ST "COMPACT_STRINGS" "Z", .laysFinal ST ST "value" "[B", .fieldLink ST 9 ST "value" "[B", .laysFinal ST ST "coder" "B", .fieldLink ST 15 ST "coder" "B",
  .methodLink ST 1 Lib.objectInit, .instanceMethod Lib.objectInit, .code Lib.objectInit ⟨#[0xb1]⟩ 1 none, .methodLink ST 177 Cmp3.yN, .static Cmp3.yN, .methodLink ST 47 CodL.yN, .static CodL.yN,
  .code Cmp3.yN Cmp3.yB 6 (some (.array .byte)), .initialized U16, .arrayClass .byte, .methodLink U16 115 Cmp5.yN, .static Cmp5.yN, .code Cmp5.yN Cmp5.yB 7 (some .int), .code CodL.yN CodL.yB 2 (some .byte)]
theorem tab_of {a : Array Value} {s : State} (h : ∀ w ∈ words, w.before a s = true) : New1.tab.before a s = true := by
  have h5 : Cmp5.tab.before a s = true := unparts (wk h (.code Cmp5.yN Cmp5.yB 7 (some .int))) (wks h (.initialized Cmp5.yN.cls :: Cmp5.site))
  have hc : CodL.tab.before a s = true := unparts (wk h (.code CodL.yN CodL.yB 2 (some .byte))) (wks h (.initialized CodL.yN.cls :: CodL.site))
  have q5 : ∀ w ∈ Cmp5.tab :: words, w.before a s = true := fun w hw => (List.mem_cons.mp hw).elim (fun e => e ▸ h5) (h w)
  have h3 : Cmp3.tab.before a s = true := unparts (wk q5 (.code Cmp3.yN Cmp3.yB 6 (some (.array .byte)))) (wks q5 (.initialized Cmp3.yN.cls :: Cmp3.site))
  have q3 : ∀ w ∈ Cmp3.tab :: CodL.tab :: words, w.before a s = true := fun w hw => (List.mem_cons.mp hw).elim (fun e => e ▸ h3) fun hw => (List.mem_cons.mp hw).elim (fun e => e ▸ hc) (h w)
  have h4 : New4.tab.before a s = true := unparts (wk q3 (.code New4.yN New4.yB 6 none)) (wks q3 (.initialized New4.yN.cls :: New4.site))
  have q4 : ∀ w ∈ New4.tab :: words, w.before a s = true := fun w hw => (List.mem_cons.mp hw).elim (fun e => e ▸ h4) (h w)
  exact unparts (wk q4 (.code New1.yN New1.yB 2 none)) (wks q4 (.initialized New1.yN.cls :: New1.site))
/-- the words ride from the start Z to the walk's own state -/
theorem moved {Z s : State} {a0 args : Array Value} (hZ : Z.Warmed39 s.vm) (hw : ∀ d ∈ words, d.before a0 Z = true) : ∀ d ∈ words, d.before args s = true := fun d hd => by
  have q := hw d hd
  have t : ∀ d ∈ words, d = .arrayClass .byte ∨ (d.onTables && d.keepsFace) = true := by decide +kernel
  rcases t d hd with rfl | t
  · exact RoadKit.mvA hZ q
  · exact RoadKit.mv hZ q t
/-- WHAT COMES BACK, over the tables of the start Z: h the heap at the call, h' behind it -/
def Q (Z : State) (x : Addr) (A : Cell) (h : Heap) (v : Option Value) (h' : Heap) (L : List Loc) : Prop := v = none ∧ (∀ y ∈ L, y.base = x) ∧ RoadKit.Keep h h' [x] ∧ h'.size = h.size + 1 ∧ RoadKit.Exa Z h' x ST ∧ RoadKit.Fld Z h' x ST "value" "[B" (.ref h.size) ∧ RoadKit.Fld Z h' x ST "coder" "B" (.int 0) ∧
  (∃ V : Cell, RoadKit.Arr Z h' h.size V .byte ∧ V.vm = .none ∧ Z.vm.findClass "[B" = some V.cls ∧ V.slots.size = A.slots.size ∧ ∀ j, j < A.slots.size → V.slots[j]? = some (.int (lo8 (cv A j)))) ∧
  ∀ (O n d : String) (w : Value), RoadKit.Fld Z h x O n d w → RoadKit.slotOf Z O n d ≠ RoadKit.slotOf Z ST "value" "[B" → RoadKit.slotOf Z O n d ≠ RoadKit.slotOf Z ST "coder" "B" → RoadKit.Fld Z h' x O n d w
/-- **new String(chars) AT A CALL, IN THE ROAD'S FORM**: for specialBack behind newO: x the fresh String, b the char[] with the cell A -/
theorem back {p : Program} {l : Launch} {e : Env} {R : Room} {s : State} {args : Array Value} {below : List Frame} {len W : Nat} {Z : State} {a0 : Array Value} {h : Heap} (hZ : Z.Warmed39 s.vm) (hw : ∀ d ∈ words, d.before a0 Z = true) {kI : Nat} (wi : (Jvm.Cond.instantiable ST kI).before a0 Z = true)
    {x b : Addr} {A : Cell} {z : Int32} {v0 c0 : Value} (E : RoadKit.Exa Z h x ST) (V : RoadKit.Fld Z h x ST "value" "[B" v0) (C : RoadKit.Fld Z h x ST "coder" "B" c0) (K : RoadKit.Arr Z h b A .char) (hty : Typed .char A) (S : RoadKit.Sta Z h ST "COMPACT_STRINGS" "Z" (.int z)) (hz : ¬ z = 0)
    (l0 : 0 < A.slots.size) (l2 : A.slots.size ≤ 536870912) (hp : ∀ i, i < A.slots.size → ¬ 255 < cv A i) (hfr : 4 ≤ R.frames) (hlo : W + 65 ≤ R.locals) :
    Back l R p e below s args New1.yN len W (fun P a => a = #[.ref x, .ref b] ∧ P.U.heap = h ∧ P.cells + 1 ≤ R.cells ∧ P.slots + A.slots.size ≤ R.slots)
      (fun P _ v B => ∃ L, Q Z x A h v B.U.heap L ∧ B.locs = P.locs ++ L ∧ B.cells = P.cells + 1 ∧ B.slots = P.slots + A.slots.size) := by
  intro m meth c P g ig mk a X hg hsize hdg hW hn hp'
  obtain ⟨rfl, rfl, r1, r2⟩ := hp'
  have al : Z.vm.Alike P.U.vm := hZ.alike.trans X.warmed.alike
  obtain ⟨D, cfV, kV, iV, fV, hD, gV, stV, knV, obV, asV, slV⟩ := id V
  obtain ⟨D', cfC, kC, iC, fC, hD', gC, stC, -, -, asC, slC⟩ := id C
  cases hD.symm.trans hD'
  obtain ⟨D2, kD, e1, e2, e3, e4, e5⟩ := id E
  cases hD.symm.trans e1
  obtain ⟨c2, k2, i1, i2, i3, -⟩ := Cond.instantiable_spec wi
  cases e2.symm.trans i1
  cases e3.symm.trans i2
  obtain ⟨kU, u1, u2⟩ := al.2.2 _ _ e3
  have hB : Blank ST x D P.U := ⟨hD, ⟨knV, fun q hq => by rw [hq] at obV; cases obV⟩, by rw [al.findClass]; exact e2, kU, u1, by rw [u2]; exact i3, by rw [u2]; exact e5 i3⟩
  have F1 : Found ST "value" "[B" fV P.U := ⟨SBG.found_only al ⟨cfV, kV, iV, gV⟩, stV⟩
  have F2 : Found ST "coder" "B" fC P.U := ⟨SBG.found_only al ⟨cfC, kC, iC, gC⟩, stC⟩
  have hA : Ch b A P.U := ⟨⟨K.1, State.isArrayOf_alike al K.2.1, K.2.2, by omega⟩, hty⟩
  have hS : StaticIs P.U ST "COMPACT_STRINGS" "Z" (.int z) := by
    obtain ⟨cfS, iS, kS, fS, st, cS, t1, t2, t3, t4, t5, t6, t7⟩ := S
    exact StaticIs.there (s := { Z with heap := P.U.heap }) ⟨cfS, iS, kS, fS, st, cS, t1, t2, t3, t4, t5, (fun q => by rw [q] at t6; cases t6), t7⟩ al rfl
  obtain ⟨v, B, X', ⟨⟨hv, E', V', q1, q2, q3, q4, q5, q6, q7, q8, q9, q10, q11⟩, hl, hc, hs⟩, st⟩ := New1.pays x D fV fC b A z (tab_of (moved hZ hw)) hfr hlo m meth c P g ig mk _ X hg hsize hdg hW hn ⟨r1, r2, rfl, hB, F1, F2, hA, hS, hz, l0, l2, hp⟩
  have al' : Z.vm.Alike B.U.vm := hZ.alike.trans X'.warmed.alike
  have hsz : E'.slots.size = D.slots.size := by
    obtain ⟨-, -, -, kB, w1, w2, w3⟩ := q1
    obtain ⟨kB', y1, y2⟩ := al'.2.2 _ _ e3
    rw [q2.2.1] at w1
    cases w1.symm.trans y1
    rw [w3, e5 i3, y2]
  refine ⟨v, B, X', ⟨_, ⟨hv, ?_, ⟨by omega, fun y cy hy hn' => q10 y cy (by simpa using hn') hy, fun y cy hy => ?_⟩, q11, ⟨E', _, q1.1, by rw [q2.2.1]; exact e2, by rw [q2.2.1]; exact e3, by rw [q2.1]; exact obV, fun _ => by rw [hsz]; exact e5 i3⟩,
    ⟨E', cfV, kV, iV, fV, q1.1, gV, stV, by rw [q2.1]; exact knV, by rw [q2.1]; exact obV, by rw [q2.2.1]; exact asV, q3⟩, ⟨E', cfC, kC, iC, fC, q1.1, gC, stC, by rw [q2.1]; exact knV, by rw [q2.1]; exact obV, by rw [q2.2.1]; exact asC, q4⟩,
    ⟨V', ⟨q5.1, State.isArrayOf_alike al'.symm q5.2.1, q5.2.2.1⟩, q6, by rw [← al'.findClass]; exact q7, q8, fun j hj => by have := q9 j hj; rwa [Nat.zero_add] at this⟩, fun O n d w F n1 n2 => ?_⟩, hl, hc, hs⟩, st⟩
  · intro y hy
    simp only [List.mem_cons, List.not_mem_nil, or_false] at hy
    rcases hy with rfl | rfl <;> rfl
  · by_cases q : y = x
    · subst q
      cases hD.symm.trans hy
      exact ⟨E', q1.1, q2.2.1, q2.1, hsz⟩
    · exact ⟨cy, q10 y cy q hy, rfl, rfl, rfl⟩
  · obtain ⟨D3, cf, k, i, f, g1, g2, g3, g4, g5, g6, g7⟩ := F
    cases hD.symm.trans g1
    simp only [RoadKit.slotOf, g2, gV, gC, Option.map_some, Option.getD_some] at n1 n2
    exact ⟨E', cf, k, i, f, q1.1, g2, g3, by rw [q2.1]; exact g4, by rw [q2.1]; exact g5, by rw [q2.2.1]; exact g6, by rw [q2.2.2 f.slot (by simp [n1, n2])]; exact g7⟩
end StrChars.Road
namespace StrChars.Road
open Jvm Sem ClassFile Op Lib Jvm.Stand Jvm.Free Jvm.Free.XT
/-- WHAT COMES BACK, the byte[] as a list of values -/
def QA (Z : State) (x : Addr) (zn : Int32) (cs : List Int32) (h : Heap) (v : Option Value) (h' : Heap) (L : List Loc) : Prop := v = none ∧ (∀ y ∈ L, y.base = x) ∧ RoadKit.Keep h h' [x] ∧ h'.size = h.size + 1 ∧ RoadKit.Exa Z h' x ST ∧ RoadKit.Fld Z h' x ST "value" "[B" (.ref h.size) ∧ RoadKit.Fld Z h' x ST "coder" "B" (.int 0) ∧
  (∃ kb, Z.vm.findClass "[B" = some kb ∧ RoadKit.Arv Z h' h.size kb .byte zn (cs.map fun c => .int (lo8 c)) (.int 0)) ∧
  ∀ (O n d : String) (w : Value), RoadKit.Fld Z h x O n d w → RoadKit.slotOf Z O n d ≠ RoadKit.slotOf Z ST "value" "[B" → RoadKit.slotOf Z O n d ≠ RoadKit.slotOf Z ST "coder" "B" → RoadKit.Fld Z h' x O n d w
/-- **new String(chars) AT A CALL, THE ARRAYS AS LISTS**: the char[] at b holds cs, not empty, no char above 255 -/
theorem backArv {p : Program} {l : Launch} {e : Env} {R : Room} {s : State} {args : Array Value} {below : List Frame} {len W : Nat} {Z : State} {a0 : Array Value} {h : Heap} (hZ : Z.Warmed39 s.vm) (hw : ∀ d ∈ words, d.before a0 Z = true) {kI : Nat} (wi : (Jvm.Cond.instantiable ST kI).before a0 Z = true)
    {x b : Addr} {k : ClassId} {zn z : Int32} {cs : List Int32} {dv v0 c0 : Value} (E : RoadKit.Exa Z h x ST) (V : RoadKit.Fld Z h x ST "value" "[B" v0) (C : RoadKit.Fld Z h x ST "coder" "B" c0) (K : RoadKit.Arv Z h b k .char zn (cs.map Value.int) dv) (S : RoadKit.Sta Z h ST "COMPACT_STRINGS" "Z" (.int z)) (hz : ¬ z = 0)
    (hlen : zn.toNatClampNeg = cs.length) (h0 : 0 < cs.length) (hbig : cs.length ≤ 536870912) (hall : ∀ c ∈ cs, ¬ 255 < c) (hfr : 4 ≤ R.frames) (hlo : W + 65 ≤ R.locals) :
    Back l R p e below s args New1.yN len W (fun P a => a = #[.ref x, .ref b] ∧ P.U.heap = h ∧ P.cells + 1 ≤ R.cells ∧ P.slots + cs.length ≤ R.slots)
      (fun P _ v B => ∃ L, QA Z x zn cs h v B.U.heap L ∧ B.locs = P.locs ++ L ∧ B.cells = P.cells + 1 ∧ B.slots = P.slots + cs.length) := by
  obtain ⟨A, K1, K2, K3, K4, K5, K6⟩ := K
  have e : A.slots.size = cs.length := K3.trans hlen
  have hat : ∀ (i : Nat) (hi : i < cs.length), A.slots[i]? = some (.int cs[i]) := fun i hi => by rw [K5 i (by omega)]; simp [List.getD_eq_getElem?_getD, hi]
  have hcv : ∀ (i : Nat) (hi : i < cs.length), cv A i = cs[i] := fun i hi => by unfold cv; rw [hat i hi]
  have hty : Typed .char A := fun i v hv => by
    have hi : i < A.slots.size := (Array.getElem?_eq_some_iff.mp hv).1
    have q := K5 i hi
    rw [hv] at q
    rw [Option.some.inj q]
    exact K6 i hi
  refine Back.mono (back hZ hw wi E V C K1 hty S hz (by omega) (by omega) (fun i hi => by rw [hcv i (by omega)]; exact hall _ (List.getElem_mem _)) hfr hlo) (fun P a hp => ⟨hp.1, hp.2.1, hp.2.2.1, by rw [e]; exact hp.2.2.2⟩) (fun P a v B hp hq => ?_)
  obtain ⟨L, ⟨q1, q2, q3, q4, q5, q6, q7, ⟨V', v1, v2, v3, v4, v5⟩, q9⟩, hl, hc, hs⟩ := hq
  refine ⟨L, ⟨q1, q2, q3, q4, q5, q6, q7, ⟨V'.cls, v3, V', v1, rfl, by rw [v4, e, hlen], K4, fun i hi => ?_, fun i hi => ?_⟩, q9⟩, hl, hc, by rw [hs, e]⟩
  · have hi' : i < cs.length := by omega
    rw [v5 i (by omega), hcv i hi']; simp [List.getD_eq_getElem?_getD, hi']
  · have hi' : i < cs.length := by omega
    simp only [List.getD_eq_getElem?_getD, List.getElem?_map, List.getElem?_eq_getElem hi', Option.map_some, Option.getD_some]
    exact fits_lo8 _
end StrChars.Road
namespace StrChars.Road
open Jvm Sem ClassFile Op Lib Jvm.Stand Jvm.Free Jvm.Free.XT
/-- WHAT COMES BACK, in the writer's own shape -/
def QV (Z : State) (x : Addr) (N : Int32) (bs : List Int32) (h : Heap) (n0 : Nat) (v : Option Value) (h' : Heap) (L : List Loc) : Prop := v = none ∧ RoadKit.Fr n0 L ∧ RoadKit.Keep h h' [x] ∧ RoadKit.Exa Z h' x ST ∧ RoadKit.Fld Z h' x ST "coder" "B" (.int 0) ∧
  ∃ (t : Addr) (kb : ClassId), n0 ≤ t ∧ h.size ≤ t ∧ ¬ t = x ∧ RoadKit.Fld Z h' x ST "value" "[B" (.ref t) ∧ RoadKit.Arv Z h' t kb .byte N (bs.map Value.int) (.int 0)
/-- **new String(chars) AT A CALL, FOR THE WRITER**: a char[] of n known ints, each 0 to 255 -/
theorem backV {p : Program} {l : Launch} {e : Env} {R : Room} {s : State} {args : Array Value} {below : List Frame} {len W : Nat} {Z : State} {a0 : Array Value} {h : Heap} (hZ : Z.Warmed39 s.vm) (hw : ∀ d ∈ words, d.before a0 Z = true) {kI : Nat} (wi : (Jvm.Cond.instantiable ST kI).before a0 Z = true)
    {x b : Addr} {kC : ClassId} {cs bs : List Int32} {d v0 c0 : Value} {z N : Int32} {n n0 : Nat} (hx0 : n0 ≤ x) (hh0 : n0 ≤ h.size) (E : RoadKit.Exa Z h x ST) (V : RoadKit.Fld Z h x ST "value" "[B" v0) (C : RoadKit.Fld Z h x ST "coder" "B" c0) (K : RoadKit.Arv Z h b kC .char N (cs.map Value.int) d) (S : RoadKit.Sta Z h ST "COMPACT_STRINGS" "Z" (.int z)) (hz : ¬ z = 0)
    (hn : cs.length = n) (hN : N = Int32.ofNat n) (l0 : 0 < n) (l2 : n ≤ 4000) (hp : ∀ c ∈ cs, ¬ c < 0 ∧ ¬ (255 : Int32) < c) (hb : bs = cs.map (fun c => c.toInt8.toInt32)) (hfr : 4 ≤ R.frames) (hlo : W + 65 ≤ R.locals) :
    Back l R p e below s args (⟨"java/lang/String", "<init>", "([C)V"⟩ : MethodName) len W (fun P a => a = #[.ref x, .ref b] ∧ P.U.heap = h ∧ P.cells + 1 ≤ R.cells ∧ P.slots + n ≤ R.slots)
      (fun P _ v B => ∃ L, QV Z x N bs h n0 v B.U.heap L ∧ B.locs = P.locs ++ L ∧ B.cells = P.cells + 1 ∧ B.slots = P.slots + n) := by
  subst hn hN hb
  refine Back.mono (backArv hZ hw wi E V C K S hz (n32 (by omega)) l0 (by omega) (fun c hc => (hp c hc).2) hfr hlo) (fun P a hp => hp) (fun P a v B hp hq => ?_)
  obtain ⟨L, ⟨q1, q2, q3, q4, q5, q6, q7, ⟨kb, v1, v2⟩, q9⟩, hl, hc, hs⟩ := hq
  exact ⟨L, ⟨q1, fun y hy => by rw [q2 y hy]; exact hx0, q3, q5, q7, h.size, kb, hh0, Nat.le_refl _, Nat.ne_of_gt E.lt, q6, by rw [List.map_map]; exact v2⟩, hl, hc, hs⟩
end StrChars.Road
namespace StrChars
open Jvm Sem ClassFile Op Lib Jvm.Stand Jvm.Free.XT Jvm.Free.ALB Jvm.Free.JM Jvm.Free
open Jvm.Lib.Cold (StaticIs)
def hi8 (x : Int32) : Int32 := lo8 (x >>> ((8 : Int32) &&& 31))
/-- what StringUTF16.getChar makes of two bytes -/
def pairCh (u v : Int32) : Int32 := (((u &&& 255) <<< ((0 : Int32) &&& 31)) ||| ((v &&& 255) <<< ((8 : Int32) &&& 31))).toUInt32.toUInt16.toUInt32.toInt32
theorem shr0 (c : Int32) : c >>> ((0 : Int32) &&& 31) = c := by
  have e : ((0 : Int32) &&& 31) = 0 := by decide
  rw [e]
  apply Int32.toBitVec_inj.mp
  rw [Int32.toBitVec_shiftRight]
  have e1 : ((0 : Int32).toBitVec.smod 32) = 0#32 := by decide
  rw [e1, BitVec.sshiftRight_eq']
  exact BitVec.sshiftRight_zero
theorem lo8_and (x : Int32) : (lo8 x &&& 255).toBitVec.toNat = x.toBitVec.toNat % 256 := by
  have h : (lo8 x).toBitVec = (x.toBitVec.signExtend 8).signExtend 32 := by rw [lo8, Int8.toBitVec_toInt32, Int32.toBitVec_toInt8]
  rw [Int32.toBitVec_and, BitVec.toNat_and, h]
  have e : ((x.toBitVec.signExtend 8).signExtend 32).toNat % 256 = x.toBitVec.toNat % 256 := by
    rw [BitVec.toNat_signExtend]
    have hlt := x.toBitVec.isLt
    simp only [BitVec.toNat_setWidth, BitVec.toNat_signExtend]
    split <;> split <;> omega
  rw [← e]
  exact Nat.and_two_pow_sub_one_eq_mod _ 8
theorem pair_says {c : Int32} (h0 : ¬ c < 0) (h1 : ¬ 65535 < c) : pairCh (lo8 c) (hi8 c) = c := by
  rw [Int32.lt_iff_toInt_lt] at h0 h1
  have e0 : (0 : Int32).toInt = 0 := rfl
  have e1 : (65535 : Int32).toInt = 65535 := rfl
  have hc : c.toInt = c.toBitVec.toNat := by
    have := c.toBitVec.isLt
    have e : c.toInt = c.toBitVec.toInt := rfl
    rw [e] at h0 h1
    rw [e]
    rw [BitVec.toInt_eq_toNat_cond] at h0 h1 ⊢
    split at h0 <;> split <;> omega
  have hn : c.toBitVec.toNat < 65536 := by omega
  have a1 := lo8_and c
  have a2 : (hi8 c &&& 255).toBitVec.toNat = c.toBitVec.toNat / 256 := by
    rw [hi8, lo8_and]
    have e : ((8 : Int32) &&& 31) = 8 := by decide
    rw [e, Int32.toBitVec_shiftRight]
    have e2 : ((8 : Int32).toBitVec.smod 32) = 8#32 := by decide
    rw [e2, BitVec.sshiftRight_eq', BitVec.toNat_sshiftRight_of_msb_false (by rw [BitVec.msb_eq_false_iff_two_mul_lt]; omega)]
    show c.toBitVec.toNat >>> 8 % 256 = _
    rw [Nat.shiftRight_eq_div_pow]
    omega
  unfold pairCh
  apply Int32.toBitVec_inj.mp
  apply BitVec.eq_of_toNat_eq
  have f0 : ((0 : Int32) &&& 31) = 0 := by decide
  have f8 : ((8 : Int32) &&& 31) = 8 := by decide
  rw [f0, f8]
  have g : (((lo8 c &&& 255) <<< (0 : Int32)) ||| ((hi8 c &&& 255) <<< (8 : Int32))).toBitVec.toNat = c.toBitVec.toNat := by
    rw [Int32.toBitVec_or, Int32.toBitVec_shiftLeft, Int32.toBitVec_shiftLeft]
    have s0 : ((0 : Int32).toBitVec.smod 32) = 0#32 := by decide
    have s8 : ((8 : Int32).toBitVec.smod 32) = 8#32 := by decide
    rw [s0, s8, BitVec.toNat_or]
    simp only [BitVec.shiftLeft_eq', BitVec.toNat_shiftLeft, a1, a2]
    show (c.toBitVec.toNat % 256) <<< 0 % 2 ^ 32 ||| (c.toBitVec.toNat / 256) <<< 8 % 2 ^ 32 = _
    rw [Nat.shiftLeft_zero, Nat.mod_eq_of_lt (show c.toBitVec.toNat % 256 < 2 ^ 32 by omega), Nat.mod_eq_of_lt (show (c.toBitVec.toNat / 256) <<< 8 < 2 ^ 32 by rw [Nat.shiftLeft_eq]; omega), Nat.or_comm, ← Nat.shiftLeft_add_eq_or_of_lt (by omega), Nat.shiftLeft_eq]
    omega
  show BitVec.toNat (((((lo8 c &&& 255) <<< (0 : Int32)) ||| ((hi8 c &&& 255) <<< (8 : Int32))).toBitVec.setWidth 16).setWidth 32) = _
  rw [BitVec.toNat_setWidth, BitVec.toNat_setWidth, g]
  omega
end StrChars
namespace StrChars
open Jvm Sem ClassFile Op Lib Jvm.Stand Jvm.Free.XT Jvm.Free.ALB Jvm.Free.JM Jvm.Free
open Jvm.Lib.Cold (StaticIs)
theorem shr1 {n : Nat} (h : 2 * n < 2 ^ 31) : Int32.ofNat (2 * n) >>> ((1 : Int32) &&& 31) = Int32.ofNat n := by
  have e : ((1 : Int32) &&& 31) = 1 := by decide
  rw [e]
  apply Int32.toBitVec_inj.mp
  rw [Int32.toBitVec_shiftRight]
  have e1 : ((1 : Int32).toBitVec.smod 32) = 1#32 := by decide
  have hm : (BitVec.ofNat 32 (2 * n)).toNat = 2 * n := by rw [BitVec.toNat_ofNat, Nat.mod_eq_of_lt (by omega)]
  rw [e1, BitVec.sshiftRight_eq']
  apply BitVec.eq_of_toNat_eq
  show ((BitVec.ofNat 32 (2 * n)).sshiftRight 1).toNat = (BitVec.ofNat 32 n).toNat
  rw [BitVec.toNat_sshiftRight_of_msb_false (by rw [BitVec.msb_eq_false_iff_two_mul_lt, hm]; omega), hm, BitVec.toNat_ofNat, Nat.shiftRight_eq_div_pow]
  omega
/-- charAt's cast of a byte read back -/
def chr8 (u : Int32) : Int32 := (u &&& 255).toUInt32.toUInt16.toUInt32.toInt32
theorem chr8_lo8 {c : Int32} (h0 : ¬ c < 0) (h1 : ¬ 255 < c) : chr8 (lo8 c) = c := by
  have t : ∀ k : Fin 256, (Int32.ofNat k.val).toUInt32.toUInt16.toUInt32.toInt32 = Int32.ofNat k.val := by decide +kernel
  unfold chr8
  rw [lo8_mask h0 h1]
  rw [Int32.lt_iff_toInt_lt] at h0 h1
  have e0 : (0 : Int32).toInt = 0 := rfl
  have e1 : (255 : Int32).toInt = 255 := rfl
  obtain ⟨k, hk⟩ : ∃ k : Nat, c.toInt = k := ⟨c.toInt.toNat, by omega⟩
  have hx : c = Int32.ofNat k := Int32.toInt_inj.mp (by rw [hk, Int32.toInt_ofNat_small (by omega)])
  rw [hx]
  exact t ⟨k, by omega⟩
theorem narrow_ch {c : Int32} (h0 : ¬ c < 0) (h1 : ¬ 65535 < c) : narrow .char (.int c) = .int c := by
  have q : narrow .char (.int (pairCh (lo8 c) (hi8 c))) = .int (pairCh (lo8 c) (hi8 c)) := narrow_c _
  rwa [pair_says h0 h1] at q
/-- the array's cell V codes the n chars f 0 .. f (n - 1) by the coder cd, as the JDK does: coder 1 just where some char is above 255 -/
def Cod (cd : Int32) (n : Nat) (f : Nat → Int32) (V : Cell) : Prop := (cd = 0 ∧ V.slots.size = n ∧ ∀ j, j < n → V.slots[j]? = some (.int (lo8 (f j))) ∧ ¬ 255 < f j) ∨ (cd = 1 ∧ V.slots.size = 2 * n ∧ (∀ j, j < n → V.slots[2 * j]? = some (.int (lo8 (f j))) ∧ V.slots[2 * j + 1]? = some (.int (hi8 (f j)))) ∧ ∃ j, j < n ∧ 255 < f j)
theorem Cod.cd {cd : Int32} {n : Nat} {f : Nat → Int32} {V : Cell} (h : Cod cd n f V) : cd = 0 ∨ cd = 1 := h.imp (fun q => q.1) fun q => q.1
theorem Cod.len {cd : Int32} {n : Nat} {f : Nat → Int32} {V : Cell} (h : Cod cd n f V) (hs : V.slots.size < 2 ^ 31) : Int32.ofNat V.slots.size >>> (cd &&& 31) = Int32.ofNat n := by
  rcases h with ⟨rfl, h, -⟩ | ⟨rfl, h, -⟩
  · rw [shr0, h]
  · rw [h, shr1 (by omega)]
/-- **x is a String of the n chars f 0 .. f (n - 1)**, Latin-1 or UTF-16; its array at t has the cell V -/
def Txt (x t : Addr) (V : Cell) (cd : Int32) (n : Nat) (f : Nat → Int32) (U : State) : Prop := Exact "java/lang/String" x U ∧ Has x "java/lang/String" "value" "[B" (.ref t) U ∧ Has x "java/lang/String" "coder" "B" (.int cd) U ∧ XT.Arr .byte t V U ∧ Cod cd n f V ∧ ∀ j, j < n → ¬ f j < 0 ∧ ¬ 65535 < f j
theorem Txt.mv {x t : Addr} {V : Cell} {cd : Int32} {n : Nat} {f : Nat → Int32} {U U' : State} (h : Txt x t V cd n f U) (hal : U.vm.Alike U'.vm) (hh : U'.heap = U.heap) : Txt x t V cd n f U' := ⟨h.1.mv hal hh, h.2.1.mv hal hh, h.2.2.1.mv hal hh, h.2.2.2.1.mv hal hh, h.2.2.2.2⟩
namespace Cdr
def yN : MethodName := ⟨"java/lang/String", "coder", "()B"⟩
abbrev yB : ByteArray := jdk_42_method_152_code
theorem d0 : decode yB 0 = .ok (.getstatic 38, 3) := by decide +kernel
theorem d3 : decode yB 3 = .ok (.ifCond (.eq) 10, 3) := by decide +kernel
theorem d6 : decode yB 6 = .ok (.aload_n 0, 1) := by decide +kernel
theorem d7 : decode yB 7 = .ok (.getfield 15, 3) := by decide +kernel
theorem d10 : decode yB 10 = .ok (.goto 4, 3) := by decide +kernel
theorem d14 : decode yB 14 = .ok (.ireturn, 1) := by decide +kernel
def site : List Cond := [.fieldLink "java/lang/String" 38 "java/lang/String" "COMPACT_STRINGS" "Z", .fieldLink "java/lang/String" 15 "java/lang/String" "coder" "B"]
def tab : Cond := tabOf yN yB 1 (some .byte) site
def P (x : Addr) (cd z : Int32) (args : Array Value) (s : State) : Prop := args = #[.ref x] ∧ Has x "java/lang/String" "coder" "B" (.int cd) s ∧ (cd = 0 ∨ cd = 1) ∧ StaticIs s "java/lang/String" "COMPACT_STRINGS" "Z" (.int z) ∧ ¬ z = 0
def E (cd : Int32) (r : Option Value) (s u : State) : Prop := XT.PureE (some (.int cd)) r s u
theorem law (l : Launch) (x : Addr) (cd z : Int32) : Law l yN 1 0 0 0 yB 1 (some .byte) site (P x cd z) (E cd) [] 0 0 := by
  refine Law.of_walk (plainFor_of_name (by decide +kernel)) (by decide +kernel) (by decide +kernel) (by decide) (fun _ _ h => by rw [h.1]; rfl) (fun _ U U' hal hh h => ⟨h.1, h.2.1.mv hal hh, h.2.2.1, h.2.2.2.1.there hal hh, h.2.2.2.2⟩) (fun r U U' V V' h1 hal h2 h => XT.PureE.mv r U U' V V' h1 hal h2 h) ?_
  intro p e s m args below meth c s₁ X0 hexec hbytes hml hret hlk hnm hown hh0 W hP
  obtain ⟨rfl, hx, hc, s1, hz⟩ := hP
  have c1 : Steps p.tables e below (s₁.setTop (entryFrame m #[.ref x] 1)) (s₁.setTop (mkF m 0 #[.val (.ref x)] [])) := entry rfl
  obtain ⟨T2, X2, q2, st2⟩ := X0.sget hexec hown (wk W (.fieldLink "java/lang/String" 38 "java/lang/String" "COMPACT_STRINGS" "Z")) s1 (fun _ _ h => by rw [hh0]; exact h) (g := (mkF m 0 #[.val (.ref x)] [])) rfl (hb hbytes d0)
  have hh2 := q2.trans hh0
  have c3 : Steps p.tables e below (s₁.setTop (entryFrame m #[.ref x] 1)) (T2.setTop (mkF m 7 #[.val (.ref x)] [.ref x])) := (c1.trans (st2 _ (Steps.refl _))).trans (by
    refine XS.ifNo X2.here hexec rfl (hb hbytes d3) rfl (i0_eq_f hz) ?_
    refine XS.aloadN X2.here hexec rfl (hb hbytes d6) rfl rfl ?_
    exact Steps.refl _)
  obtain ⟨T4, X4, q4, st4⟩ := X2.hget hexec hown (wk W (.fieldLink "java/lang/String" 15 "java/lang/String" "coder" "B")) (hx.mv X2.warmed.alike hh2) (g := (mkF m 7 #[.val (.ref x)] [.ref x])) rfl (rest := []) rfl (hb hbytes d7)
  have c5 : Steps p.tables e below (s₁.setTop (entryFrame m #[.ref x] 1)) (T4.setTop (mkF m 14 #[.val (.ref x)] [.int cd])) := (c3.trans (st4 _ (Steps.refl _))).trans (by
    refine XS.goto X4.here hexec rfl (pc0 := 10) rfl (hb hbytes d10) (by decide) rfl ?_
    exact Steps.refl _)
  exact ⟨T4, some (.int cd), _, _, _, X4, rfl, rfl, rfl, (fun h => by cases h), ⟨rfl, q4.trans hh2⟩, fun fs hl => c5.trans (X4.ireturnOut hexec hret (by rcases hc with rfl | rfl <;> rfl) (Or.inr (Or.inr (Or.inl rfl))) (hb hbytes d14) hl)⟩
end Cdr
namespace Len
def yN : MethodName := ⟨"java/lang/String", "length", "()I"⟩
abbrev yB : ByteArray := jdk_42_method_54_code
theorem d0 : decode yB 0 = .ok (.aload_n 0, 1) := by decide +kernel
theorem d1 : decode yB 1 = .ok (.getfield 9, 3) := by decide +kernel
theorem d4 : decode yB 4 = .ok (.arraylength, 1) := by decide +kernel
theorem d5 : decode yB 5 = .ok (.aload_n 0, 1) := by decide +kernel
theorem d6 : decode yB 6 = .ok (.invokevirtual 335, 3) := by decide +kernel
theorem d9 : decode yB 9 = .ok (.ishr, 1) := by decide +kernel
theorem d10 : decode yB 10 = .ok (.ireturn, 1) := by decide +kernel
def site : List Cond := [.fieldLink "java/lang/String" 9 "java/lang/String" "value" "[B", Cdr.tab] ++ virtW "java/lang/String" 335 "java/lang/String" Cdr.yN Cdr.yN
def tab : Cond := tabOf yN yB 1 (some .int) site
def P (x t : Addr) (V : Cell) (cd : Int32) (n : Nat) (f : Nat → Int32) (z : Int32) (args : Array Value) (s : State) : Prop := args = #[.ref x] ∧ Txt x t V cd n f s ∧ StaticIs s "java/lang/String" "COMPACT_STRINGS" "Z" (.int z) ∧ ¬ z = 0
def E (n : Nat) (r : Option Value) (s u : State) : Prop := XT.PureE (some (.int (Int32.ofNat n))) r s u
/-- length() of a String of n chars, in either coding -/
theorem law (l : Launch) (x t : Addr) (V : Cell) (cd : Int32) (n : Nat) (f : Nat → Int32) (z : Int32) : Law l yN 1 0 1 13 yB 1 (some .int) site (P x t V cd n f z) (E n) [] 0 0 := by
  refine Law.of_walk (plainFor_of_name (by decide +kernel)) (by decide +kernel) (by decide +kernel) (by decide) (fun _ _ h => by rw [h.1]; rfl) (fun _ U U' hal hh h => ⟨h.1, h.2.1.mv hal hh, h.2.2.1.there hal hh, h.2.2.2⟩) (fun r U U' V V' h1 hal h2 h => XT.PureE.mv r U U' V V' h1 hal h2 h) ?_
  intro p e s m args below meth c s₁ X0 hexec hbytes hml hret hlk hnm hown hh0 W hP
  obtain ⟨rfl, hx, s1, hz⟩ := hP
  have v31 := hx.2.2.2.1.2.2.2
  have c1 : Steps p.tables e below (s₁.setTop (entryFrame m #[.ref x] 1)) (s₁.setTop (mkF m 1 #[.val (.ref x)] [.ref x])) := Steps.trans (entry rfl) (by
    show Steps p.tables e below (s₁.setTop (mkF m 0 #[.val (.ref x)] [])) _
    refine XS.aloadN X0.here hexec rfl (hb hbytes d0) rfl rfl ?_
    exact Steps.refl _)
  obtain ⟨T2, X2, q2, st2⟩ := X0.hget hexec hown (wk W (.fieldLink "java/lang/String" 9 "java/lang/String" "value" "[B")) (hx.mv X0.warmed.alike hh0).2.1 (g := (mkF m 1 #[.val (.ref x)] [.ref x])) rfl (rest := []) rfl (hb hbytes d1)
  have hh2 := q2.trans hh0
  have hx2 := hx.mv X2.warmed.alike hh2
  have c3 : Steps p.tables e below (s₁.setTop (entryFrame m #[.ref x] 1)) (T2.setTop (mkF m 6 #[.val (.ref x)] [.ref x, .int (Int32.ofNat V.slots.size)])) := (c1.trans (st2 _ (Steps.refl _))).trans (by
    refine X2.alen hexec hx2.2.2.2.1 rfl rfl (hb hbytes d4) ?_
    refine XS.aloadN X2.here hexec rfl (hb hbytes d5) rfl rfl ?_
    exact Steps.refl _)
  obtain ⟨v4, T4, X4, E4, g4⟩ := X2.callV hexec (Cdr.law l x cd z) hown (wks W (virtW "java/lang/String" 335 "java/lang/String" Cdr.yN Cdr.yN)) rfl (by decide) (wk W Cdr.tab) (W := 1) (Nat.le_of_ble_eq_true rfl) (Nat.le_of_ble_eq_true rfl) (Nat.le_refl _) (Nat.le_refl _) (hx2.1.fc X2.warmed.alike) hx2.1.is (g := (mkF m 6 #[.val (.ref x)] [.ref x, .int (Int32.ofNat V.slots.size)])) rfl (by rw [hml]; rfl) c3 (argsL := []) (rest := [.int (Int32.ofNat V.slots.size)]) rfl rfl (by show 2 * 0 + (1 + 0) ≤ _; decide) (hb hbytes d6) (⟨rfl, hx2.2.2.1, hx.2.2.2.2.1.cd, s1.there X2.warmed.alike hh2, hz⟩)
  obtain ⟨rfl, q4⟩ := E4
  have c5 : Steps p.tables e below (s₁.setTop (entryFrame m #[.ref x] 1)) (T4.setTop (mkF m 10 #[.val (.ref x)] [.int (Int32.ofNat V.slots.size >>> (cd &&& 31))])) := Steps.trans g4 (by
    refine ishr X4.here hexec rfl (hb hbytes d9) rfl ?_
    exact Steps.refl _)
  rw [hx.2.2.2.2.1.len v31] at c5
  exact ⟨T4, some (.int (Int32.ofNat n)), _, _, _, X4, rfl, rfl, rfl, (fun h => by cases h), ⟨rfl, q4.trans hh2⟩, fun fs hl => c5.trans (X4.ireturnOut hexec hret rfl (Or.inl rfl) (hb hbytes d10) hl)⟩
theorem pays {l : Launch} {R : Room} {p : Program} {e : Env} {below : List Frame} {s : State} {sargs : Array Value} {len W : Nat} (x t : Addr) (V : Cell) (cd : Int32) (n : Nat) (f : Nat → Int32) (z : Int32) (htab : tab.before sargs s = true) (hfr : 2 ≤ R.frames) (hlo : W + 25 ≤ R.locals) :
    Back l R p e below s sargs yN len W (fun A₁ a₁ => A₁.cells + 0 ≤ R.cells ∧ A₁.slots + 0 ≤ R.slots ∧ P x t V cd n f z a₁ A₁.U) (fun A₁ _ v₁ B₁ => E n v₁ A₁.U B₁.U ∧ B₁.locs = A₁.locs ++ [] ∧ B₁.cells = A₁.cells + 0 ∧ B₁.slots = A₁.slots + 0) :=
  (law l x t V cd n f z).pays htab hfr (by omega)
end Len
namespace IsL
def yN : MethodName := ⟨"java/lang/String", "isLatin1", "()Z"⟩
abbrev yB : ByteArray := jdk_42_method_154_code
theorem d0 : decode yB 0 = .ok (.getstatic 38, 3) := by decide +kernel
theorem d3 : decode yB 3 = .ok (.ifCond (.eq) 14, 3) := by decide +kernel
theorem d6 : decode yB 6 = .ok (.aload_n 0, 1) := by decide +kernel
theorem d7 : decode yB 7 = .ok (.getfield 15, 3) := by decide +kernel
theorem d10 : decode yB 10 = .ok (.ifCond (.ne) 7, 3) := by decide +kernel
theorem d13 : decode yB 13 = .ok (.iconst 1, 1) := by decide +kernel
theorem d14 : decode yB 14 = .ok (.goto 4, 3) := by decide +kernel
theorem d17 : decode yB 17 = .ok (.iconst 0, 1) := by decide +kernel
theorem d18 : decode yB 18 = .ok (.ireturn, 1) := by decide +kernel
def site : List Cond := [.fieldLink "java/lang/String" 38 "java/lang/String" "COMPACT_STRINGS" "Z", .fieldLink "java/lang/String" 15 "java/lang/String" "coder" "B"]
def tab : Cond := tabOf yN yB 1 (some .boolean) site
def P (x : Addr) (cd z : Int32) (args : Array Value) (s : State) : Prop := args = #[.ref x] ∧ Has x "java/lang/String" "coder" "B" (.int cd) s ∧ (cd = 0 ∨ cd = 1) ∧ StaticIs s "java/lang/String" "COMPACT_STRINGS" "Z" (.int z) ∧ ¬ z = 0
def E (cd : Int32) (r : Option Value) (s u : State) : Prop := XT.PureE (some (.int (1 - cd))) r s u
theorem law (l : Launch) (x : Addr) (cd z : Int32) : Law l yN 1 0 0 0 yB 1 (some .boolean) site (P x cd z) (E cd) [] 0 0 := by
  refine Law.of_walk (plainFor_of_name (by decide +kernel)) (by decide +kernel) (by decide +kernel) (by decide) (fun _ _ h => by rw [h.1]; rfl) (fun _ U U' hal hh h => ⟨h.1, h.2.1.mv hal hh, h.2.2.1, h.2.2.2.1.there hal hh, h.2.2.2.2⟩) (fun r U U' V V' h1 hal h2 h => XT.PureE.mv r U U' V V' h1 hal h2 h) ?_
  intro p e s m args below meth c s₁ X0 hexec hbytes hml hret hlk hnm hown hh0 W hP
  obtain ⟨rfl, hx, hc, s1, hz⟩ := hP
  have c1 : Steps p.tables e below (s₁.setTop (entryFrame m #[.ref x] 1)) (s₁.setTop (mkF m 0 #[.val (.ref x)] [])) := entry rfl
  obtain ⟨T2, X2, q2, st2⟩ := X0.sget hexec hown (wk W (.fieldLink "java/lang/String" 38 "java/lang/String" "COMPACT_STRINGS" "Z")) s1 (fun _ _ h => by rw [hh0]; exact h) (g := (mkF m 0 #[.val (.ref x)] [])) rfl (hb hbytes d0)
  have hh2 := q2.trans hh0
  have c3 : Steps p.tables e below (s₁.setTop (entryFrame m #[.ref x] 1)) (T2.setTop (mkF m 7 #[.val (.ref x)] [.ref x])) := (c1.trans (st2 _ (Steps.refl _))).trans (by
    refine XS.ifNo X2.here hexec rfl (hb hbytes d3) rfl (i0_eq_f hz) ?_
    refine XS.aloadN X2.here hexec rfl (hb hbytes d6) rfl rfl ?_
    exact Steps.refl _)
  obtain ⟨T4, X4, q4, st4⟩ := X2.hget hexec hown (wk W (.fieldLink "java/lang/String" 15 "java/lang/String" "coder" "B")) (hx.mv X2.warmed.alike hh2) (g := (mkF m 7 #[.val (.ref x)] [.ref x])) rfl (rest := []) rfl (hb hbytes d7)
  have c5 : Steps p.tables e below (s₁.setTop (entryFrame m #[.ref x] 1)) (T4.setTop (mkF m 10 #[.val (.ref x)] [.int cd])) := c3.trans (st4 _ (Steps.refl _))
  have c6 : Steps p.tables e below (s₁.setTop (entryFrame m #[.ref x] 1)) (T4.setTop (mkF m 18 #[.val (.ref x)] [.int (1 - cd)])) := by
    rcases hc with rfl | rfl
    · exact c5.trans (by
        refine XS.ifNo X4.here hexec rfl (hb hbytes d10) rfl (i0_ne_f rfl) ?_
        refine iconstV X4.here hexec rfl 1 (hb hbytes d13) (by decide) ?_
        refine XS.goto X4.here hexec rfl (pc0 := 14) rfl (hb hbytes d14) (by decide) rfl ?_
        exact Steps.refl _)
    · exact c5.trans (by
        refine XS.ifYes X4.here hexec rfl (pc0 := 10) rfl (hb hbytes d10) rfl (i0_ne_t (by decide)) (by decide) rfl ?_
        refine iconstV X4.here hexec rfl 0 (hb hbytes d17) (by decide) ?_
        exact Steps.refl _)
  exact ⟨T4, some (.int (1 - cd)), _, _, _, X4, rfl, rfl, rfl, (fun h => by cases h), ⟨rfl, q4.trans hh2⟩, fun fs hl => c6.trans (X4.ireturnOut hexec hret (by rcases hc with rfl | rfl <;> rfl) (Or.inr (Or.inl rfl)) (hb hbytes d18) hl)⟩
end IsL
namespace LChA
def yN : MethodName := ⟨"java/lang/StringLatin1", "charAt", "([BI)C"⟩
abbrev yB : ByteArray := jdk_43_method_2_code
theorem d0 : decode yB 0 = .ok (.iload_n 1, 1) := by decide +kernel
theorem d1 : decode yB 1 = .ok (.aload_n 0, 1) := by decide +kernel
theorem d2 : decode yB 2 = .ok (.arraylength, 1) := by decide +kernel
theorem d3 : decode yB 3 = .ok (.invokestatic 9, 3) := by decide +kernel
theorem d6 : decode yB 6 = .ok (.aload_n 0, 1) := by decide +kernel
theorem d7 : decode yB 7 = .ok (.iload_n 1, 1) := by decide +kernel
theorem d8 : decode yB 8 = .ok (.baload, 1) := by decide +kernel
theorem d9 : decode yB 9 = .ok (.sipush 255, 3) := by decide +kernel
theorem d12 : decode yB 12 = .ok (.iand, 1) := by decide +kernel
theorem d13 : decode yB 13 = .ok (.i2c, 1) := by decide +kernel
theorem d14 : decode yB 14 = .ok (.ireturn, 1) := by decide +kernel
def site : List Cond := [JO.Str_checkIndex.tab] ++ staticW "java/lang/StringLatin1" 9 JO.Str_checkIndex.yN
def tab : Cond := tabOf yN yB 2 (some .char) site
def P (t : Addr) (V : Cell) (i : Nat) (u : Int32) (fm : Value) (args : Array Value) (s : State) : Prop := args = #[.ref t, .int (Int32.ofNat i)] ∧ XT.Arr .byte t V s ∧ V.slots[i]? = some (.int u) ∧ (StaticIs s "jdk/internal/util/Preconditions" "SIOOBE_FORMATTER" "Ljava/util/function/BiFunction;" fm ∧ fm.isRef = true)
def E (u : Int32) (r : Option Value) (s w : State) : Prop := XT.PureE (some (.int (chr8 u))) r s w
theorem law (l : Launch) (t : Addr) (V : Cell) (i : Nat) (u : Int32) (fm : Value) : Law l yN 2 2 2 27 yB 2 (some .char) site (P t V i u fm) (E u) [] 0 0 := by
  refine Law.of_walk (plainFor_of_name (by decide +kernel)) (by decide +kernel) (by decide +kernel) (by decide) (fun _ _ h => by rw [h.1]; rfl) (fun _ U U' hal hh h => ⟨h.1, h.2.1.mv hal hh, h.2.2.1, h.2.2.2.1.there hal hh, h.2.2.2.2⟩) (fun r U U' V V' h1 hal h2 h => XT.PureE.mv r U U' V V' h1 hal h2 h) ?_
  intro p e s m args below meth c s₁ X0 hexec hbytes hml hret hlk hnm hown hh0 W hP
  obtain ⟨rfl, hV, hu, s1, rf⟩ := hP
  have v31 := hV.2.2.2
  have hi : i < V.slots.size := (Array.getElem?_eq_some_iff.mp hu).1
  have c1 : Steps p.tables e below (s₁.setTop (entryFrame m #[.ref t, .int (Int32.ofNat i)] 2)) (s₁.setTop (mkF m 0 #[.val (.ref t), .val (.int (Int32.ofNat i))] [])) := entry rfl
  have c2 : Steps p.tables e below (s₁.setTop (entryFrame m #[.ref t, .int (Int32.ofNat i)] 2)) (s₁.setTop (mkF m 3 #[.val (.ref t), .val (.int (Int32.ofNat i))] [.int (Int32.ofNat V.slots.size), .int (Int32.ofNat i)])) := c1.trans (by
    refine XS.iloadN X0.here hexec rfl (hb hbytes d0) rfl ?_
    refine XS.aloadN X0.here hexec rfl (hb hbytes d1) rfl rfl ?_
    refine X0.alen hexec (hV.mv X0.warmed.alike hh0) rfl rfl (hb hbytes d2) ?_
    exact Steps.refl _)
  obtain ⟨v3, T3, X3, E3, g3⟩ := X0.callS hexec (JO.Str_checkIndex.law l (Int32.ofNat i) (Int32.ofNat V.slots.size) fm) hown (wks W (staticW "java/lang/StringLatin1" 9 JO.Str_checkIndex.yN)) (wk W JO.Str_checkIndex.tab) (W := 0) (Nat.le_of_ble_eq_true rfl) (Nat.le_of_ble_eq_true rfl) (Nat.le_refl _) (Nat.le_refl _) (g := (mkF m 3 #[.val (.ref t), .val (.int (Int32.ofNat i))] [.int (Int32.ofNat V.slots.size), .int (Int32.ofNat i)])) rfl (by rw [hml]; rfl) c2 (argsL := [.int (Int32.ofNat i), .int (Int32.ofNat V.slots.size)]) (rest := []) rfl rfl (by show 2 * 0 + 0 ≤ _; decide) (hb hbytes d3) (⟨rfl, rf, s1.there X0.warmed.alike hh0, Int32.ofNat_not_neg (by omega), lt32 v31 hi⟩)
  obtain ⟨rfl, q3⟩ := E3
  have hh3 := q3.trans hh0
  have c4 : Steps p.tables e below (s₁.setTop (entryFrame m #[.ref t, .int (Int32.ofNat i)] 2)) (T3.setTop (mkF m 14 #[.val (.ref t), .val (.int (Int32.ofNat i))] [.int (chr8 u)])) := Steps.trans g3 (by
    refine XS.aloadN X3.here hexec rfl (hb hbytes d6) rfl rfl ?_
    refine XS.iloadN X3.here hexec rfl (hb hbytes d7) rfl ?_
    refine X3.aget hexec (hV.mv X3.warmed.alike hh3) rfl hu rfl rfl (hb hbytes d8) ?_
    refine sipushV X3.here hexec rfl 255 (hb hbytes d9) (by decide) ?_
    refine XS.iand X3.here hexec rfl (hb hbytes d12) rfl ?_
    refine i2c X3.here hexec rfl (hb hbytes d13) rfl ?_
    exact Steps.refl _)
  exact ⟨T3, some (.int (chr8 u)), _, _, _, X3, rfl, rfl, rfl, (fun h => by cases h), ⟨rfl, hh3⟩, fun fs hl => c4.trans (X3.ireturnOut hexec hret (narrow_c _) (Or.inr (Or.inr (Or.inr (Or.inl rfl)))) (hb hbytes d14) hl)⟩
end LChA
end StrChars
namespace StrChars.Road
open Jvm Sem ClassFile Op Lib Jvm.Stand Jvm.Free Jvm.Free.XT
open Jvm.Lib.Cold (StaticIs)
theorem consq {a : Array Value} {s : State} {c : Jvm.Cond} {L : List Jvm.Cond} (h0 : c.before a s = true) (h : ∀ w ∈ L, w.before a s = true) : ∀ w ∈ c :: L, w.before a s = true := fun w hw => (List.mem_cons.mp hw).elim (fun e => e ▸ h0) (h w)
/-- the words of String.length(), either coding -/
abbrev wordsLen : List Jvm.Cond := [.code Len.yN Len.yB 1 (some .int), .initialized ST, .fieldLink ST 9 ST "value" "[B", .fieldLink ST 38 ST "COMPACT_STRINGS" "Z", .fieldLink ST 15 ST "coder" "B", .code Cdr.yN Cdr.yB 1 (some .byte), .methodLink ST 335 Cdr.yN, .declares Cdr.yN, .selects ST Cdr.yN Cdr.yN, .instanceMethod Cdr.yN]
theorem tabLen_of {a : Array Value} {s : State} (h : ∀ w ∈ wordsLen, w.before a s = true) : Len.tab.before a s = true := by
  have hc : Cdr.tab.before a s = true := unparts (wk h (.code Cdr.yN Cdr.yB 1 (some .byte))) (wks h (.initialized Cdr.yN.cls :: Cdr.site))
  have q := consq hc h
  exact unparts (wk q (.code Len.yN Len.yB 1 (some .int))) (wks q (.initialized Len.yN.cls :: Len.site))
theorem movedLen {Z s : State} {a0 args : Array Value} (hZ : Z.Warmed39 s.vm) (hw : ∀ d ∈ wordsLen, d.before a0 Z = true) : ∀ d ∈ wordsLen, d.before args s = true := fun d hd => by
  have q := hw d hd
  have t : ∀ d ∈ wordsLen, d = .arrayClass .byte ∨ (d.onTables && d.keepsFace) = true := by decide +kernel
  rcases t d hd with rfl | t
  · exact RoadKit.mvA hZ q
  · exact RoadKit.mv hZ q t
/-- the bytes of the chars cs, low before high -/
def wideBytes : List Int32 → List Value
  | [] => []
  | c :: cs => .int (lo8 c) :: .int (hi8 c) :: wideBytes cs
theorem wide_lo (d : Value) : ∀ (cs : List Int32) (j : Nat), j < cs.length → (wideBytes cs).getD (2 * j) d = .int (lo8 (cs.getD j 0))
  | [], j, h => absurd h (Nat.not_lt_zero j)
  | c :: cs, 0, _ => rfl
  | c :: cs, j + 1, h => by
    have q := wide_lo d cs j (by simpa using h)
    rw [show 2 * (j + 1) = 2 * j + 1 + 1 from by omega]
    simpa [wideBytes] using q
theorem wide_hi (d : Value) : ∀ (cs : List Int32) (j : Nat), j < cs.length → (wideBytes cs).getD (2 * j + 1) d = .int (hi8 (cs.getD j 0))
  | [], j, h => absurd h (Nat.not_lt_zero j)
  | c :: cs, 0, _ => rfl
  | c :: cs, j + 1, h => by
    have q := wide_hi d cs j (by simpa using h)
    rw [show 2 * (j + 1) + 1 = 2 * j + 1 + 1 + 1 from by omega]
    simpa [wideBytes] using q
theorem low_at (d : Value) (cs : List Int32) (j : Nat) (h : j < cs.length) : (cs.map fun c => Value.int (lo8 c)).getD j d = .int (lo8 (cs.getD j 0)) := by
  simp [List.getD_eq_getElem?_getD, h]
/-- an array of N2 bytes vs codes the chars cs by the coder cd -/
def CodA (cs : List Int32) (cd N2 : Int32) (vs : List Value) : Prop := (cd = 0 ∧ N2 = Int32.ofNat cs.length ∧ vs = (cs.map fun c => Value.int (lo8 c)) ∧ ∀ c ∈ cs, ¬ 255 < c) ∨ (cd = 1 ∧ N2 = Int32.ofNat (2 * cs.length) ∧ vs = wideBytes cs ∧ ∃ c ∈ cs, 255 < c)
theorem CodA.cod {cs : List Int32} {cd N2 : Int32} {vs : List Value} {V : Cell} (h : CodA cs cd N2 vs) (hn : 2 * cs.length < 2 ^ 31) (hs : V.slots.size = N2.toNatClampNeg) (hv : RoadKit.Has V vs (.int 0)) : Cod cd cs.length (fun j => cs.getD j 0) V := by
  rcases h with ⟨rfl, rfl, rfl, h⟩ | ⟨rfl, rfl, rfl, c, hc, hw⟩
  · rw [n32 (by omega)] at hs
    exact Or.inl ⟨rfl, hs, fun j hj => ⟨by rw [hv j (by omega), low_at _ _ _ hj], by
      have e : cs.getD j 0 = cs[j] := by simp [List.getD_eq_getElem?_getD, hj]
      show ¬ 255 < cs.getD j 0
      rw [e]; exact h _ (List.getElem_mem _)⟩⟩
  · rw [n32 (by omega)] at hs
    obtain ⟨j, hj, rfl⟩ := List.getElem_of_mem hc
    exact Or.inr ⟨rfl, hs, fun j hj => ⟨by rw [hv _ (by omega), wide_lo _ _ _ hj], by rw [hv _ (by omega), wide_hi _ _ _ hj]⟩, j, hj, by
      have e : cs.getD j 0 = cs[j] := by simp [List.getD_eq_getElem?_getD, hj]
      show 255 < cs.getD j 0
      rw [e]; exact hw⟩
/-- an object of exactly java/lang/String, its two fields found: as the laws ask it -/
theorem strObj {Z U : State} {a0 : Array Value} {kI : Nat} (wi : (Jvm.Cond.instantiable ST kI).before a0 Z = true) (al : Z.vm.Alike U.vm) {x : Addr} {v0 c0 : Value} (E : RoadKit.Exa Z U.heap x ST) (V : RoadKit.Fld Z U.heap x ST "value" "[B" v0) (C : RoadKit.Fld Z U.heap x ST "coder" "B" c0) :
    ∃ (D : Cell) (fV fC : Field), Blank ST x D U ∧ Found ST "value" "[B" fV U ∧ Found ST "coder" "B" fC U ∧ D.slots[fV.slot]? = some v0 ∧ D.slots[fC.slot]? = some c0 ∧ RoadKit.slotOf Z ST "value" "[B" = fV.slot ∧ RoadKit.slotOf Z ST "coder" "B" = fC.slot := by
  obtain ⟨D, cfV, kV, iV, fV, hD, gV, stV, knV, obV, asV, slV⟩ := V
  obtain ⟨D', cfC, kC, iC, fC, hD', gC, stC, -, -, asC, slC⟩ := C
  cases hD.symm.trans hD'
  obtain ⟨D2, kD, e1, e2, e3, e4, e5⟩ := E
  cases hD.symm.trans e1
  obtain ⟨c2, k2, i1, i2, i3, -⟩ := Cond.instantiable_spec wi
  cases e2.symm.trans i1
  cases e3.symm.trans i2
  obtain ⟨kU, u1, u2⟩ := al.2.2 _ _ e3
  exact ⟨D, fV, fC, ⟨hD, ⟨knV, fun q hq => by rw [hq] at obV; cases obV⟩, by rw [al.findClass]; exact e2, kU, u1, by rw [u2]; exact i3, by rw [u2]; exact e5 i3⟩, ⟨SBG.found_only al ⟨cfV, kV, iV, gV⟩, stV⟩, ⟨SBG.found_only al ⟨cfC, kC, iC, gC⟩, stC⟩, slV, slC, by simp [RoadKit.slotOf, gV], by simp [RoadKit.slotOf, gC]⟩
theorem sta_is {Z U : State} (al : Z.vm.Alike U.vm) {C n d : String} {v : Value} (S : RoadKit.Sta Z U.heap C n d v) : StaticIs U C n d v := by
  obtain ⟨cfS, iS, kS, fS, st, cS, t1, t2, t3, t4, t5, t6, t7⟩ := S
  exact StaticIs.there (s := { Z with heap := U.heap }) ⟨cfS, iS, kS, fS, st, cS, t1, t2, t3, t4, t5, (fun q => by rw [q] at t6; cases t6), t7⟩ al rfl
/-- **length() OF SUCH A STRING** -/
theorem lenW {p : Program} {l : Launch} {e : Env} {R : Room} {s : State} {args : Array Value} {below : List Frame} {len W : Nat} {Z : State} {a0 : Array Value} {h : Heap} (hZ : Z.Warmed39 s.vm) (hw : ∀ d ∈ wordsLen, d.before a0 Z = true) {kI : Nat} (wi : (Jvm.Cond.instantiable ST kI).before a0 Z = true)
    {x t : Addr} {kb : ClassId} {cs : List Int32} {cd N2 z : Int32} {vs : List Value} (E : RoadKit.Exa Z h x ST) (V : RoadKit.Fld Z h x ST "value" "[B" (.ref t)) (C : RoadKit.Fld Z h x ST "coder" "B" (.int cd)) (K : RoadKit.Arv Z h t kb .byte N2 vs (.int 0)) (hc : CodA cs cd N2 vs) (hb : ∀ c ∈ cs, ¬ c < 0 ∧ ¬ (65535 : Int32) < c)
    (S : RoadKit.Sta Z h ST "COMPACT_STRINGS" "Z" (.int z)) (hz : ¬ z = 0) (l2 : cs.length ≤ 4000) (hfr : 2 ≤ R.frames) (hlo : W + 25 ≤ R.locals) :
    Back l R p e below s args (⟨"java/lang/String", "length", "()I"⟩ : MethodName) len W (fun P a => a = #[.ref x] ∧ P.U.heap = h ∧ P.cells + 0 ≤ R.cells ∧ P.slots + 0 ≤ R.slots)
      (fun P _ v B => ∃ L, (v = some (.int (Int32.ofNat cs.length)) ∧ L = [] ∧ B.U.heap = h) ∧ B.locs = P.locs ++ L ∧ B.cells = P.cells + 0 ∧ B.slots = P.slots + 0) := by
  obtain ⟨A, K1, K2, K3, K4, K5, K6⟩ := K
  have hcod := hc.cod (by omega) K3 K5
  intro m meth c P g ig mk a X hg hsize hdg hW hn hp'
  obtain ⟨rfl, rfl, r1, r2⟩ := hp'
  have al : Z.vm.Alike P.U.vm := hZ.alike.trans X.warmed.alike
  obtain ⟨D, fV, fC, hB, F1, F2, g1, g2, -, -⟩ := strObj wi al E V C
  have hx : Txt x t A cd cs.length (fun j => cs.getD j 0) P.U := ⟨⟨_, hB.2.2.1, D, hB.1, rfl, by cases q : D.vm <;> first | rfl | exact absurd q (hB.2.1.2 _)⟩, Has.of hB F1 g1, Has.of hB F2 g2, ⟨K1.1, State.isArrayOf_alike al K1.2.1, K1.2.2, by rcases hcod with ⟨-, q, -⟩ | ⟨-, q, -⟩ <;> omega⟩, hcod, fun j hj => by
    have e : cs.getD j 0 = cs[j] := by simp [List.getD_eq_getElem?_getD, hj]
    show ¬ cs.getD j 0 < 0 ∧ ¬ 65535 < cs.getD j 0
    rw [e]; exact hb _ (List.getElem_mem _)⟩
  obtain ⟨v, B, X', ⟨⟨hv, hh⟩, hl, hk, hs⟩, st⟩ := Len.pays x t A cd cs.length (fun j => cs.getD j 0) z (tabLen_of (movedLen hZ hw)) hfr hlo m meth c P g ig mk _ X hg hsize hdg hW hn ⟨r1, r2, rfl, hx, sta_is al S, hz⟩
  exact ⟨v, B, X', ⟨[], ⟨hv, rfl, hh⟩, hl, hk, hs⟩, st⟩
end StrChars.Road
namespace StrChars
open Jvm Sem ClassFile Op Lib Jvm.Stand Jvm.Free.XT Jvm.Free.ALB Jvm.Free.JM Jvm.Free
open Jvm.Lib.Cold (StaticIs)
namespace Emp
def yN : MethodName := ⟨"java/lang/String", "isEmpty", "()Z"⟩
abbrev yB : ByteArray := jdk_42_method_55_code
theorem d0 : decode yB 0 = .ok (.aload_n 0, 1) := by decide +kernel
theorem d1 : decode yB 1 = .ok (.getfield 9, 3) := by decide +kernel
theorem d4 : decode yB 4 = .ok (.arraylength, 1) := by decide +kernel
theorem d5 : decode yB 5 = .ok (.ifCond (.ne) 7, 3) := by decide +kernel
theorem d8 : decode yB 8 = .ok (.iconst 1, 1) := by decide +kernel
theorem d9 : decode yB 9 = .ok (.goto 4, 3) := by decide +kernel
theorem d12 : decode yB 12 = .ok (.iconst 0, 1) := by decide +kernel
theorem d13 : decode yB 13 = .ok (.ireturn, 1) := by decide +kernel
def site : List Cond := [.fieldLink "java/lang/String" 9 "java/lang/String" "value" "[B"]
def tab : Cond := tabOf yN yB 1 (some .boolean) site
def P (x t : Addr) (V : Cell) (cd : Int32) (n : Nat) (f : Nat → Int32) (args : Array Value) (s : State) : Prop := args = #[.ref x] ∧ Txt x t V cd n f s
def E (n : Nat) (r : Option Value) (s u : State) : Prop := XT.PureE (some (.int (if n = 0 then 1 else 0))) r s u
/-- isEmpty() of a String of n chars -/
theorem law (l : Launch) (x t : Addr) (V : Cell) (cd : Int32) (n : Nat) (f : Nat → Int32) : Law l yN 1 0 0 0 yB 1 (some .boolean) site (P x t V cd n f) (E n) [] 0 0 := by
  refine Law.of_walk (plainFor_of_name (by decide +kernel)) (by decide +kernel) (by decide +kernel) (by decide) (fun _ _ h => by rw [h.1]; rfl) (fun _ U U' hal hh h => ⟨h.1, h.2.mv hal hh⟩) (fun r U U' V V' h1 hal h2 h => XT.PureE.mv r U U' V V' h1 hal h2 h) ?_
  intro p e s m args below meth c s₁ X0 hexec hbytes hml hret hlk hnm hown hh0 W hP
  obtain ⟨rfl, hx⟩ := hP
  have v31 := hx.2.2.2.1.2.2.2
  have c1 : Steps p.tables e below (s₁.setTop (entryFrame m #[.ref x] 1)) (s₁.setTop (mkF m 1 #[.val (.ref x)] [.ref x])) := Steps.trans (entry rfl) (by
    show Steps p.tables e below (s₁.setTop (mkF m 0 #[.val (.ref x)] [])) _
    refine XS.aloadN X0.here hexec rfl (hb hbytes d0) rfl rfl ?_
    exact Steps.refl _)
  obtain ⟨T2, X2, q2, st2⟩ := X0.hget hexec hown (wk W (.fieldLink "java/lang/String" 9 "java/lang/String" "value" "[B")) (hx.mv X0.warmed.alike hh0).2.1 (g := (mkF m 1 #[.val (.ref x)] [.ref x])) rfl (rest := []) rfl (hb hbytes d1)
  have hh2 := q2.trans hh0
  have hx2 := hx.mv X2.warmed.alike hh2
  have c3 : Steps p.tables e below (s₁.setTop (entryFrame m #[.ref x] 1)) (T2.setTop (mkF m 5 #[.val (.ref x)] [.int (Int32.ofNat V.slots.size)])) := (c1.trans (st2 _ (Steps.refl _))).trans (by
    refine X2.alen hexec hx2.2.2.2.1 rfl rfl (hb hbytes d4) ?_
    exact Steps.refl _)
  have hz : V.slots.size = 0 ↔ n = 0 := by
    rcases hx.2.2.2.2.1 with ⟨-, q, -⟩ | ⟨-, q, -⟩ <;> omega
  by_cases h0 : n = 0
  · have c4 : Steps p.tables e below (s₁.setTop (entryFrame m #[.ref x] 1)) (T2.setTop (mkF m 13 #[.val (.ref x)] [.int 1])) := c3.trans (by
      refine XS.ifNo X2.here hexec rfl (hb hbytes d5) rfl (i0_ne_f (by rw [hz.mpr h0]; rfl)) ?_
      refine iconstV X2.here hexec rfl 1 (hb hbytes d8) (by decide) ?_
      refine XS.goto X2.here hexec rfl (pc0 := 9) rfl (hb hbytes d9) (by decide) rfl ?_
      exact Steps.refl _)
    exact ⟨T2, some (.int 1), _, _, _, X2, rfl, rfl, rfl, (fun h => by cases h), ⟨by rw [if_pos h0], hh2⟩, fun fs hl => c4.trans (X2.ireturnOut hexec hret rfl (Or.inr (Or.inl rfl)) (hb hbytes d13) hl)⟩
  · have c4 : Steps p.tables e below (s₁.setTop (entryFrame m #[.ref x] 1)) (T2.setTop (mkF m 13 #[.val (.ref x)] [.int 0])) := c3.trans (by
      refine XS.ifYes X2.here hexec rfl (pc0 := 5) rfl (hb hbytes d5) rfl (i0_ne_t (nz32 v31 (by omega))) (by decide) rfl ?_
      refine iconstV X2.here hexec rfl 0 (hb hbytes d12) (by decide) ?_
      exact Steps.refl _)
    exact ⟨T2, some (.int 0), _, _, _, X2, rfl, rfl, rfl, (fun h => by cases h), ⟨by rw [if_neg h0], hh2⟩, fun fs hl => c4.trans (X2.ireturnOut hexec hret rfl (Or.inr (Or.inl rfl)) (hb hbytes d13) hl)⟩
theorem pays {l : Launch} {R : Room} {p : Program} {e : Env} {below : List Frame} {s : State} {sargs : Array Value} {len W : Nat} (x t : Addr) (V : Cell) (cd : Int32) (n : Nat) (f : Nat → Int32) (htab : tab.before sargs s = true) (hfr : 1 ≤ R.frames) (hlo : W + 12 ≤ R.locals) :
    Back l R p e below s sargs yN len W (fun A₁ a₁ => A₁.cells + 0 ≤ R.cells ∧ A₁.slots + 0 ≤ R.slots ∧ P x t V cd n f a₁ A₁.U) (fun A₁ _ v₁ B₁ => E n v₁ A₁.U B₁.U ∧ B₁.locs = A₁.locs ++ [] ∧ B₁.cells = A₁.cells + 0 ∧ B₁.slots = A₁.slots + 0) :=
  (law l x t V cd n f).pays htab hfr (by omega)
end Emp
/-- what place i of a byte[]'s cell holds -/
def yv (A : Cell) (i : Nat) : Int32 := match A.slots[i]? with | some (.int x) => x | _ => 0
theorem yv_get {a : Addr} {A : Cell} {U : State} (h : XT.Arr .byte a A U) (ht : Typed .byte A) {i : Nat} (hi : i < A.slots.size) : A.slots[i]? = some (.int (yv A i)) := by
  have e := Array.getElem?_eq_getElem hi
  have f := ht i _ e
  unfold yv; rw [e]
  generalize A.slots[i] = v at f
  cases v <;> simp [fits] at f ⊢
/-- the two arrays are equal, place for place -/
def EqC (A B : Cell) : Prop := A.slots.size = B.slots.size ∧ ∀ i, i < A.slots.size → yv A i = yv B i
/-- a boolean that says whether p -/
def Says01 (q : Prop) (r : Option Value) (s u : State) : Prop := ∃ v : Int32, r = some (.int v) ∧ u.heap = s.heap ∧ ((v = 1 ∧ q) ∨ (v = 0 ∧ ¬ q))
theorem Says01.mv {q : Prop} : ∀ r (U U' V V' : State), U'.heap = U.heap → V.vm.Alike V'.vm → V'.heap = V.heap → Says01 q r U V → Says01 q r U' V' :=
  fun r U U' V V' h1 _ h2 ⟨v, a, b, c⟩ => ⟨v, a, by rw [h1, h2]; exact b, c⟩
namespace LEq
def yN : MethodName := ⟨"java/lang/StringLatin1", "equals", "([B[B)Z"⟩
abbrev yB : ByteArray := jdk_43_method_13_code
theorem d0 : decode yB 0 = .ok (.aload_n 0, 1) := by decide +kernel
theorem d1 : decode yB 1 = .ok (.arraylength, 1) := by decide +kernel
theorem d2 : decode yB 2 = .ok (.aload_n 1, 1) := by decide +kernel
theorem d3 : decode yB 3 = .ok (.arraylength, 1) := by decide +kernel
theorem d4 : decode yB 4 = .ok (.if_icmp (.ne) 30, 3) := by decide +kernel
theorem d7 : decode yB 7 = .ok (.iconst 0, 1) := by decide +kernel
theorem d8 : decode yB 8 = .ok (.istore_n 2, 1) := by decide +kernel
theorem d9 : decode yB 9 = .ok (.iload_n 2, 1) := by decide +kernel
theorem d10 : decode yB 10 = .ok (.aload_n 0, 1) := by decide +kernel
theorem d11 : decode yB 11 = .ok (.arraylength, 1) := by decide +kernel
theorem d12 : decode yB 12 = .ok (.if_icmp (.ge) 20, 3) := by decide +kernel
theorem d15 : decode yB 15 = .ok (.aload_n 0, 1) := by decide +kernel
theorem d16 : decode yB 16 = .ok (.iload_n 2, 1) := by decide +kernel
theorem d17 : decode yB 17 = .ok (.baload, 1) := by decide +kernel
theorem d18 : decode yB 18 = .ok (.aload_n 1, 1) := by decide +kernel
theorem d19 : decode yB 19 = .ok (.iload_n 2, 1) := by decide +kernel
theorem d20 : decode yB 20 = .ok (.baload, 1) := by decide +kernel
theorem d21 : decode yB 21 = .ok (.if_icmp (.eq) 5, 3) := by decide +kernel
theorem d24 : decode yB 24 = .ok (.iconst 0, 1) := by decide +kernel
theorem d25 : decode yB 25 = .ok (.ireturn, 1) := by decide +kernel
theorem d26 : decode yB 26 = .ok (.iinc 2 1, 3) := by decide +kernel
theorem d29 : decode yB 29 = .ok (.goto (-20), 3) := by decide +kernel
theorem d32 : decode yB 32 = .ok (.iconst 1, 1) := by decide +kernel
theorem d33 : decode yB 33 = .ok (.ireturn, 1) := by decide +kernel
theorem d34 : decode yB 34 = .ok (.iconst 0, 1) := by decide +kernel
theorem d35 : decode yB 35 = .ok (.ireturn, 1) := by decide +kernel
def site : List Cond := []
def tab : Cond := tabOf yN yB 3 (some .boolean) site
def P (a : Addr) (A : Cell) (b : Addr) (B : Cell) (args : Array Value) (s : State) : Prop := args = #[.ref a, .ref b] ∧ XT.Arr .byte a A s ∧ Typed .byte A ∧ XT.Arr .byte b B s ∧ Typed .byte B
/-- whether two byte[] are equal, place for place -/
theorem law (l : Launch) (a : Addr) (A : Cell) (b : Addr) (B : Cell) : Law l yN 2 2 0 0 yB 3 (some .boolean) site (P a A b B) (Says01 (EqC A B)) [] 0 0 := by
  refine Law.of_walk (plainFor_of_name (by decide +kernel)) (by decide +kernel) (by decide +kernel) (by decide) (fun _ _ h => by rw [h.1]; rfl) (fun _ U U' hal hh h => ⟨h.1, h.2.1.mv hal hh, h.2.2.1, h.2.2.2.1.mv hal hh, h.2.2.2.2⟩) (fun r U U' V V' h1 hal h2 h => Says01.mv r U U' V V' h1 hal h2 h) ?_
  intro p e s m args below meth c s₁ X0 hexec hbytes hml hret hlk hnm hown hh0 W hP
  obtain ⟨rfl, hA, tA, hB, tB⟩ := hP
  have a31 := hA.2.2.2
  have b31 := hB.2.2.2
  have hA0 := hA.mv X0.warmed.alike hh0
  have hB0 := hB.mv X0.warmed.alike hh0
  have c1 : Steps p.tables e below (s₁.setTop (entryFrame m #[.ref a, .ref b] 3)) (s₁.setTop (mkF m 0 #[.val (.ref a), .val (.ref b), .unset] [])) := entry rfl
  have c2 : Steps p.tables e below (s₁.setTop (entryFrame m #[.ref a, .ref b] 3)) (s₁.setTop (mkF m 4 #[.val (.ref a), .val (.ref b), .unset] [.int (Int32.ofNat B.slots.size), .int (Int32.ofNat A.slots.size)])) := c1.trans (by
    refine XS.aloadN X0.here hexec rfl (hb hbytes d0) rfl rfl ?_
    refine X0.alen hexec hA0 rfl rfl (hb hbytes d1) ?_
    refine XS.aloadN X0.here hexec rfl (hb hbytes d2) rfl rfl ?_
    refine X0.alen hexec hB0 rfl rfl (hb hbytes d3) ?_
    exact Steps.refl _)
  by_cases hs : A.slots.size = B.slots.size
  · have c3 : Steps p.tables e below (s₁.setTop (entryFrame m #[.ref a, .ref b] 3)) (s₁.setTop (mkF m 9 #[.val (.ref a), .val (.ref b), .val (.int 0)] [])) := c2.trans (by
      refine XS.icmpNo X0.here hexec rfl (hb hbytes d4) rfl (ii_ne_f (by rw [hs])) ?_
      refine iconstV X0.here hexec rfl 0 (hb hbytes d7) (by decide) ?_
      refine XS.istoreN X0.here hexec rfl (hb hbytes d8) rfl rfl ?_
      exact Steps.refl _)
    have loop : ∀ (r i : Nat), i + r = A.slots.size → (∀ j, j < i → yv A j = yv B j) → Steps p.tables e below (s₁.setTop (entryFrame m #[.ref a, .ref b] 3)) (s₁.setTop (mkF m 9 #[.val (.ref a), .val (.ref b), .val (.int (Int32.ofNat i))] [])) → ∃ (pc : Nat) (Ls : Array Slot) (v : Int32), (pc = 25 ∨ pc = 33) ∧ ((v = 1 ∧ EqC A B) ∨ (v = 0 ∧ ¬ EqC A B)) ∧ Steps p.tables e below (s₁.setTop (entryFrame m #[.ref a, .ref b] 3)) (s₁.setTop (mkF m pc Ls [.int v])) := by
      intro r
      induction r with
      | zero =>
        intro i hi he cl
        exact ⟨33, _, 1, Or.inr rfl, Or.inl ⟨rfl, hs, fun j hj => he j (by omega)⟩, cl.trans (by
          refine XS.iloadN X0.here hexec rfl (hb hbytes d9) rfl ?_
          refine XS.aloadN X0.here hexec rfl (hb hbytes d10) rfl rfl ?_
          refine X0.alen hexec hA0 rfl rfl (hb hbytes d11) ?_
          refine XS.icmpYes X0.here hexec rfl (pc0 := 12) rfl (hb hbytes d12) rfl (ii_ge_t (nlt32 (by omega) (by omega))) (by decide) rfl ?_
          refine iconstV X0.here hexec rfl 1 (hb hbytes d32) (by decide) ?_
          exact Steps.refl _)⟩
      | succ r ih =>
        intro i hi he cl
        have c4 : Steps p.tables e below (s₁.setTop (entryFrame m #[.ref a, .ref b] 3)) (s₁.setTop (mkF m 21 #[.val (.ref a), .val (.ref b), .val (.int (Int32.ofNat i))] [.int (yv B i), .int (yv A i)])) := cl.trans (by
          refine XS.iloadN X0.here hexec rfl (hb hbytes d9) rfl ?_
          refine XS.aloadN X0.here hexec rfl (hb hbytes d10) rfl rfl ?_
          refine X0.alen hexec hA0 rfl rfl (hb hbytes d11) ?_
          refine XS.icmpNo X0.here hexec rfl (hb hbytes d12) rfl (ii_ge_f (lt32 (by omega) (by omega))) ?_
          refine XS.aloadN X0.here hexec rfl (hb hbytes d15) rfl rfl ?_
          refine XS.iloadN X0.here hexec rfl (hb hbytes d16) rfl ?_
          refine X0.aget hexec hA0 rfl (yv_get hA tA (i := i) (by omega)) rfl rfl (hb hbytes d17) ?_
          refine XS.aloadN X0.here hexec rfl (hb hbytes d18) rfl rfl ?_
          refine XS.iloadN X0.here hexec rfl (hb hbytes d19) rfl ?_
          refine X0.aget hexec hB0 rfl (yv_get hB tB (i := i) (by omega)) rfl rfl (hb hbytes d20) ?_
          exact Steps.refl _)
        by_cases hv : yv A i = yv B i
        · have c5 : Steps p.tables e below (s₁.setTop (entryFrame m #[.ref a, .ref b] 3)) (s₁.setTop (mkF m 9 #[.val (.ref a), .val (.ref b), .val (.int (Int32.ofNat i + 1))] [])) := c4.trans (by
            refine XS.icmpYes X0.here hexec rfl (pc0 := 21) rfl (hb hbytes d21) rfl (ii_eq_t hv) (by decide) rfl ?_
            refine iincV X0.here hexec rfl 1 (hb hbytes d26) (by decide) rfl rfl ?_
            refine XS.goto X0.here hexec rfl (pc0 := 29) rfl (hb hbytes d29) (by decide) rfl ?_
            exact Steps.refl _)
          rw [succ32] at c5
          exact ih (i + 1) (by omega) (fun j hj => by
            by_cases e : j = i
            · rw [e]; exact hv
            · exact he j (by omega)) c5
        · exact ⟨25, _, 0, Or.inl rfl, Or.inr ⟨rfl, fun q => hv (q.2 i (by omega))⟩, c4.trans (by
            refine XS.icmpNo X0.here hexec rfl (hb hbytes d21) rfl (ii_eq_f hv) ?_
            refine iconstV X0.here hexec rfl 0 (hb hbytes d24) (by decide) ?_
            exact Steps.refl _)⟩
    obtain ⟨pc, Ls, v, hpc, hv, cz⟩ := loop A.slots.size 0 (by omega) (fun j hj => absurd hj (Nat.not_lt_zero j)) c3
    have nv : narrow .boolean (.int v) = .int v := by rcases hv with ⟨rfl, -⟩ | ⟨rfl, -⟩ <;> rfl
    rcases hpc with rfl | rfl
    · exact ⟨s₁, some (.int v), _, _, _, X0, rfl, rfl, rfl, (fun h => by cases h), ⟨v, rfl, hh0, hv⟩, fun fs hl => cz.trans (X0.ireturnOut hexec hret nv (Or.inr (Or.inl rfl)) (hb hbytes d25) hl)⟩
    · exact ⟨s₁, some (.int v), _, _, _, X0, rfl, rfl, rfl, (fun h => by cases h), ⟨v, rfl, hh0, hv⟩, fun fs hl => cz.trans (X0.ireturnOut hexec hret nv (Or.inr (Or.inl rfl)) (hb hbytes d33) hl)⟩
  · have c3 : Steps p.tables e below (s₁.setTop (entryFrame m #[.ref a, .ref b] 3)) (s₁.setTop (mkF m 35 #[.val (.ref a), .val (.ref b), .unset] [.int 0])) := c2.trans (by
      refine XS.icmpYes X0.here hexec rfl (pc0 := 4) rfl (hb hbytes d4) rfl (ii_ne_t (ne32 a31 b31 hs)) (by decide) rfl ?_
      refine iconstV X0.here hexec rfl 0 (hb hbytes d34) (by decide) ?_
      exact Steps.refl _)
    exact ⟨s₁, some (.int 0), _, _, _, X0, rfl, rfl, rfl, (fun h => by cases h), ⟨0, rfl, hh0, Or.inr ⟨rfl, fun q => hs q.1⟩⟩, fun fs hl => c3.trans (X0.ireturnOut hexec hret rfl (Or.inr (Or.inl rfl)) (hb hbytes d35) hl)⟩
end LEq
theorem Cod.ty {cd : Int32} {n : Nat} {f : Nat → Int32} {V : Cell} (h : Cod cd n f V) : Typed .byte V := fun i v hv => by
  have hi : i < V.slots.size := (Array.getElem?_eq_some_iff.mp hv).1
  rcases h with ⟨-, k1, k2⟩ | ⟨-, k1, k2, -⟩
  · rw [(k2 i (by omega)).1] at hv; cases hv; exact fits_lo8 _
  · rcases Nat.mod_two_eq_zero_or_one i with e | e
    · obtain ⟨j, rfl⟩ : ∃ j, i = 2 * j := ⟨i / 2, by omega⟩
      rw [(k2 j (by omega)).1] at hv; cases hv; exact fits_lo8 _
    · obtain ⟨j, rfl⟩ : ∃ j, i = 2 * j + 1 := ⟨i / 2, by omega⟩
      rw [(k2 j (by omega)).2] at hv; cases hv; exact fits_lo8 _
/-- the same text -/
def SameT (n : Nat) (f : Nat → Int32) (k : Nat) (g : Nat → Int32) : Prop := n = k ∧ ∀ j, j < n → f j = g j
theorem lo8_inj {x y : Int32} (h0 : ¬ x < 0) (h1 : ¬ 255 < x) (k0 : ¬ y < 0) (k1 : ¬ 255 < y) (h : lo8 x = lo8 y) : x = y := by
  rw [← lo8_mask h0 h1, ← lo8_mask k0 k1, h]
/-- arrays coded by one coder are equal just where the texts are -/
theorem Cod.eqv {cd : Int32} {n k : Nat} {f g : Nat → Int32} {V V' : Cell} (h : Cod cd n f V) (h' : Cod cd k g V') (hf : ∀ j, j < n → ¬ f j < 0 ∧ ¬ 65535 < f j) (hg : ∀ j, j < k → ¬ g j < 0 ∧ ¬ 65535 < g j) : EqC V V' ↔ SameT n f k g := by
  have yvv : ∀ {W : Cell} {i : Nat} {x : Int32}, W.slots[i]? = some (.int x) → yv W i = x := fun q => by unfold yv; rw [q]
  rcases h with ⟨rfl, k1, k2⟩ | ⟨rfl, k1, k2, -⟩
  · rcases h' with ⟨-, m1, m2⟩ | ⟨e, -⟩
    · constructor
      · rintro ⟨e1, e2⟩
        refine ⟨by omega, fun j hj => ?_⟩
        have q := e2 j (by omega)
        rw [yvv (k2 j hj).1, yvv (m2 j (by omega)).1] at q
        exact lo8_inj (hf j hj).1 (k2 j hj).2 (hg j (by omega)).1 (m2 j (by omega)).2 q
      · rintro ⟨rfl, e2⟩
        refine ⟨by omega, fun j hj => ?_⟩
        rw [yvv (k2 j (by omega)).1, yvv (m2 j (by omega)).1, e2 j (by omega)]
    · exact absurd e (by decide)
  · rcases h' with ⟨e, -⟩ | ⟨-, m1, m2, -⟩
    · exact absurd e (by decide)
    · constructor
      · rintro ⟨e1, e2⟩
        refine ⟨by omega, fun j hj => ?_⟩
        have q1 := e2 (2 * j) (by omega)
        have q2 := e2 (2 * j + 1) (by omega)
        rw [yvv (k2 j hj).1, yvv (m2 j (by omega)).1] at q1
        rw [yvv (k2 j hj).2, yvv (m2 j (by omega)).2] at q2
        rw [← pair_says (hf j hj).1 (hf j hj).2, ← pair_says (hg j (by omega)).1 (hg j (by omega)).2, q1, q2]
      · rintro ⟨rfl, e2⟩
        refine ⟨by omega, fun i hi => ?_⟩
        rcases Nat.mod_two_eq_zero_or_one i with e | e
        · obtain ⟨j, rfl⟩ : ∃ j, i = 2 * j := ⟨i / 2, by omega⟩
          rw [yvv (k2 j (by omega)).1, yvv (m2 j (by omega)).1, e2 j (by omega)]
        · obtain ⟨j, rfl⟩ : ∃ j, i = 2 * j + 1 := ⟨i / 2, by omega⟩
          rw [yvv (k2 j (by omega)).2, yvv (m2 j (by omega)).2, e2 j (by omega)]
/-- two codings differ: so do the texts -/
theorem Cod.dif {cd cd' : Int32} {n k : Nat} {f g : Nat → Int32} {V V' : Cell} (h : Cod cd n f V) (h' : Cod cd' k g V') (hne : ¬ cd = cd') : ¬ SameT n f k g := by
  rintro ⟨rfl, e⟩
  rcases h with ⟨rfl, -, k2⟩ | ⟨rfl, -, -, j, hj, hw⟩
  · rcases h' with ⟨rfl, -⟩ | ⟨-, -, -, j, hj, hw⟩
    · exact hne rfl
    · exact (k2 j hj).2 (by rw [e j hj]; exact hw)
  · rcases h' with ⟨-, -, m2⟩ | ⟨rfl, -⟩
    · exact (m2 j hj).2 (by rw [← e j hj]; exact hw)
    · exact hne rfl
/-- an object of exactly C is an instance of C -/
theorem cinst {p : Program} {l : Launch} {e : Env} {R : Room} {s : State} {m : MethodId} {args : Array Value} {below : List Frame} {meth : Method} {c : Code} {T : State} {locs : List Loc} {cells slots : Nat} (X : Stand p l e R s m args below meth c T locs cells slots) (hexec : p.tables.exec = Jvm.exec) {own C : String} {index : Nat} (hown : s.vm.findClass own = some m.cls) (hlink : (Cond.classLink own index C).before args s = true) {a : Addr} (hE : Exact C a T)
    {g : JFrame} (hg : g.method = m) {rest : List Value} (hstack : g.stack = .ref a :: rest) (hdg : decode c.code g.pc = .ok (.instanceof index, 3)) :
    ∃ T', Stand p l e R s m args below meth c T' locs cells slots ∧ T'.heap = T.heap ∧ ∀ target, Steps p.tables e below (T'.setTop { g with pc := g.pc + 3, stack := .int 1 :: rest }) target → Steps p.tables e below (T.setTop g) target := by
  obtain ⟨cB, h1, D, h2, h3, h4⟩ := hE
  have h1' : s.vm.findClass C = some cB := by rw [← X.warmed.alike.findClass]; exact h1
  obtain ⟨vm', X', st⟩ := X.instanceofYes hexec hown hlink h2 h4 h1' (by rw [h3]; exact Jvm.Free.SB.assignable_self _ _) hg hstack hdg
  exact ⟨_, X', rfl, st⟩
theorem cself {p : Program} {l : Launch} {e : Env} {R : Room} {s : State} {m : MethodId} {args : Array Value} {below : List Frame} {meth : Method} {c : Code} {T : State} {locs : List Loc} {cells slots : Nat} (X : Stand p l e R s m args below meth c T locs cells slots) (hexec : p.tables.exec = Jvm.exec) {own C : String} {index : Nat} (hown : s.vm.findClass own = some m.cls) (hlink : (Cond.classLink own index C).before args s = true) {a : Addr} (hE : Exact C a T)
    {g : JFrame} (hg : g.method = m) {rest : List Value} (hstack : g.stack = .ref a :: rest) (hdg : decode c.code g.pc = .ok (.checkcast index, 3)) :
    ∃ T', Stand p l e R s m args below meth c T' locs cells slots ∧ T'.heap = T.heap ∧ ∀ target, Steps p.tables e below (T'.setTop { g with pc := g.pc + 3, stack := .ref a :: rest }) target → Steps p.tables e below (T.setTop g) target := by
  obtain ⟨cB, h1, D, h2, h3, h4⟩ := hE
  have h1' : s.vm.findClass C = some cB := by rw [← X.warmed.alike.findClass]; exact h1
  obtain ⟨vm', X', st⟩ := X.checkcastYes hexec hown hlink h2 h4 h1' (by rw [h3]; exact Jvm.Free.SB.assignable_self _ _) hg hstack hdg
  exact ⟨_, X', rfl, fun t h => st t (by rw [← hstack] at h; exact h)⟩
namespace SEq
def yN : MethodName := ⟨"java/lang/String", "equals", "(Ljava/lang/Object;)Z"⟩
abbrev yB : ByteArray := jdk_42_method_66_code
theorem d0 : decode yB 0 = .ok (.aload_n 0, 1) := by decide +kernel
theorem d1 : decode yB 1 = .ok (.aload_n 1, 1) := by decide +kernel
theorem d2 : decode yB 2 = .ok (.if_acmp (.ne) 5, 3) := by decide +kernel
theorem d5 : decode yB 5 = .ok (.iconst 1, 1) := by decide +kernel
theorem d6 : decode yB 6 = .ok (.ireturn, 1) := by decide +kernel
theorem d7 : decode yB 7 = .ok (.aload_n 1, 1) := by decide +kernel
theorem d8 : decode yB 8 = .ok (.instanceof 10, 3) := by decide +kernel
theorem d11 : decode yB 11 = .ok (.ifCond (.eq) 43, 3) := by decide +kernel
theorem d14 : decode yB 14 = .ok (.aload_n 1, 1) := by decide +kernel
theorem d15 : decode yB 15 = .ok (.checkcast 10, 3) := by decide +kernel
theorem d18 : decode yB 18 = .ok (.astore_n 2, 1) := by decide +kernel
theorem d19 : decode yB 19 = .ok (.getstatic 38, 3) := by decide +kernel
theorem d22 : decode yB 22 = .ok (.ifCond (.eq) 14, 3) := by decide +kernel
theorem d25 : decode yB 25 = .ok (.aload_n 0, 1) := by decide +kernel
theorem d26 : decode yB 26 = .ok (.getfield 15, 3) := by decide +kernel
theorem d29 : decode yB 29 = .ok (.aload_n 2, 1) := by decide +kernel
theorem d30 : decode yB 30 = .ok (.getfield 15, 3) := by decide +kernel
theorem d33 : decode yB 33 = .ok (.if_icmp (.ne) 21, 3) := by decide +kernel
theorem d36 : decode yB 36 = .ok (.aload_n 0, 1) := by decide +kernel
theorem d37 : decode yB 37 = .ok (.getfield 9, 3) := by decide +kernel
theorem d40 : decode yB 40 = .ok (.aload_n 2, 1) := by decide +kernel
theorem d41 : decode yB 41 = .ok (.getfield 9, 3) := by decide +kernel
theorem d44 : decode yB 44 = .ok (.invokestatic 541, 3) := by decide +kernel
theorem d47 : decode yB 47 = .ok (.ifCond (.eq) 7, 3) := by decide +kernel
theorem d50 : decode yB 50 = .ok (.iconst 1, 1) := by decide +kernel
theorem d51 : decode yB 51 = .ok (.goto 4, 3) := by decide +kernel
theorem d54 : decode yB 54 = .ok (.iconst 0, 1) := by decide +kernel
theorem d55 : decode yB 55 = .ok (.ireturn, 1) := by decide +kernel
def site : List Cond := [.classLink "java/lang/String" 10 "java/lang/String", .fieldLink "java/lang/String" 38 "java/lang/String" "COMPACT_STRINGS" "Z", .fieldLink "java/lang/String" 15 "java/lang/String" "coder" "B", .fieldLink "java/lang/String" 9 "java/lang/String" "value" "[B", LEq.tab] ++ staticW "java/lang/String" 541 LEq.yN
def tab : Cond := tabOf yN yB 3 (some .boolean) site
def P (x t : Addr) (V : Cell) (cd : Int32) (n : Nat) (f : Nat → Int32) (y t' : Addr) (V' : Cell) (cd' : Int32) (k : Nat) (g : Nat → Int32) (z : Int32) (args : Array Value) (s : State) : Prop := args = #[.ref x, .ref y] ∧ Txt x t V cd n f s ∧ Txt y t' V' cd' k g s ∧ StaticIs s "java/lang/String" "COMPACT_STRINGS" "Z" (.int z) ∧ ¬ z = 0
/-- equals(Object) of two Strings: whether the texts are the same -/
theorem law (l : Launch) (x t : Addr) (V : Cell) (cd : Int32) (n : Nat) (f : Nat → Int32) (y t' : Addr) (V' : Cell) (cd' : Int32) (k : Nat) (g : Nat → Int32) (z : Int32) : Law l yN 2 1 1 14 yB 3 (some .boolean) site (P x t V cd n f y t' V' cd' k g z) (Says01 (SameT n f k g)) [] 0 0 := by
  refine Law.of_walk (plainFor_of_name (by decide +kernel)) (by decide +kernel) (by decide +kernel) (by decide) (fun _ _ h => by rw [h.1]; rfl) (fun _ U U' hal hh h => ⟨h.1, h.2.1.mv hal hh, h.2.2.1.mv hal hh, h.2.2.2.1.there hal hh, h.2.2.2.2⟩) (fun r U U' V V' h1 hal h2 h => Says01.mv r U U' V V' h1 hal h2 h) ?_
  intro p e s m args below meth c s₁ X0 hexec hbytes hml hret hlk hnm hown hh0 W hP
  obtain ⟨rfl, hx, hy, s1, hz⟩ := hP
  have c1 : Steps p.tables e below (s₁.setTop (entryFrame m #[.ref x, .ref y] 3)) (s₁.setTop (mkF m 2 #[.val (.ref x), .val (.ref y), .unset] [.ref y, .ref x])) := Steps.trans (entry rfl) (by
    show Steps p.tables e below (s₁.setTop (mkF m 0 #[.val (.ref x), .val (.ref y), .unset] [])) _
    refine XS.aloadN X0.here hexec rfl (hb hbytes d0) rfl rfl ?_
    refine XS.aloadN X0.here hexec rfl (hb hbytes d1) rfl rfl ?_
    exact Steps.refl _)
  by_cases hxy : x = y
  · have c2 : Steps p.tables e below (s₁.setTop (entryFrame m #[.ref x, .ref y] 3)) (s₁.setTop (mkF m 6 #[.val (.ref x), .val (.ref y), .unset] [.int 1])) := c1.trans (by
      refine acmpNo X0.here hexec rfl (hb hbytes d2) rfl rfl rfl (by simp [acmp, hxy]) ?_
      refine iconstV X0.here hexec rfl 1 (hb hbytes d5) (by decide) ?_
      exact Steps.refl _)
    subst hxy
    have ec : cd = cd' := by
      obtain ⟨D, fd, a1, a2, a3⟩ := hx.2.2.1
      obtain ⟨D', fd', b1, b2, b3⟩ := hy.2.2.1
      cases a1.symm.trans b1
      obtain ⟨q1, q2, q3, q4⟩ := a2.1
      obtain ⟨r1, r2, r3, r4⟩ := b2.1
      cases q4.symm.trans r4
      cases a3.symm.trans b3; rfl
    have et : t = t' := by
      obtain ⟨D, fd, a1, a2, a3⟩ := hx.2.1
      obtain ⟨D', fd', b1, b2, b3⟩ := hy.2.1
      cases a1.symm.trans b1
      obtain ⟨q1, q2, q3, q4⟩ := a2.1
      obtain ⟨r1, r2, r3, r4⟩ := b2.1
      cases q4.symm.trans r4
      cases a3.symm.trans b3; rfl
    subst ec et
    have ev : V = V' := by cases hx.2.2.2.1.1.symm.trans hy.2.2.2.1.1; rfl
    subst ev
    have hs : SameT n f k g := (Cod.eqv hx.2.2.2.2.1 hy.2.2.2.2.1 hx.2.2.2.2.2 hy.2.2.2.2.2).mp ⟨rfl, fun _ _ => rfl⟩
    exact ⟨s₁, some (.int 1), _, _, _, X0, rfl, rfl, rfl, (fun h => by cases h), ⟨1, rfl, hh0, Or.inl ⟨rfl, hs⟩⟩, fun fs hl => c2.trans (X0.ireturnOut hexec hret rfl (Or.inr (Or.inl rfl)) (hb hbytes d6) hl)⟩
  · have c2 : Steps p.tables e below (s₁.setTop (entryFrame m #[.ref x, .ref y] 3)) (s₁.setTop (mkF m 8 #[.val (.ref x), .val (.ref y), .unset] [.ref y])) := c1.trans (by
      refine acmpYes X0.here hexec rfl (pc0 := 2) rfl (hb hbytes d2) rfl rfl rfl (by simp [acmp, hxy]) (by decide) rfl ?_
      refine XS.aloadN X0.here hexec rfl (hb hbytes d7) rfl rfl ?_
      exact Steps.refl _)
    obtain ⟨T3, X3, q3, st3⟩ := cinst X0 hexec hown (wk W (.classLink "java/lang/String" 10 "java/lang/String")) (hy.mv X0.warmed.alike hh0).1 (g := (mkF m 8 #[.val (.ref x), .val (.ref y), .unset] [.ref y])) rfl (rest := []) rfl (hb hbytes d8)
    have hh3 := q3.trans hh0
    have c4 : Steps p.tables e below (s₁.setTop (entryFrame m #[.ref x, .ref y] 3)) (T3.setTop (mkF m 15 #[.val (.ref x), .val (.ref y), .unset] [.ref y])) := (c2.trans (st3 _ (Steps.refl _))).trans (by
      refine XS.ifNo X3.here hexec rfl (hb hbytes d11) rfl (i0_eq_f (by decide)) ?_
      refine XS.aloadN X3.here hexec rfl (hb hbytes d14) rfl rfl ?_
      exact Steps.refl _)
    obtain ⟨T5, X5, q5, st5⟩ := cself X3 hexec hown (wk W (.classLink "java/lang/String" 10 "java/lang/String")) (hy.mv X3.warmed.alike hh3).1 (g := (mkF m 15 #[.val (.ref x), .val (.ref y), .unset] [.ref y])) rfl (rest := []) rfl (hb hbytes d15)
    have hh5 := q5.trans hh3
    have c6 : Steps p.tables e below (s₁.setTop (entryFrame m #[.ref x, .ref y] 3)) (T5.setTop (mkF m 19 #[.val (.ref x), .val (.ref y), .val (.ref y)] [])) := (c4.trans (st5 _ (Steps.refl _))).trans (by
      refine XS.astoreN X5.here hexec rfl (hb hbytes d18) rfl rfl rfl ?_
      exact Steps.refl _)
    obtain ⟨T7, X7, q7, st7⟩ := X5.sget hexec hown (wk W (.fieldLink "java/lang/String" 38 "java/lang/String" "COMPACT_STRINGS" "Z")) s1 (fun _ _ h => by rw [hh5]; exact h) (g := (mkF m 19 #[.val (.ref x), .val (.ref y), .val (.ref y)] [])) rfl (hb hbytes d19)
    have hh7 := q7.trans hh5
    have c8 : Steps p.tables e below (s₁.setTop (entryFrame m #[.ref x, .ref y] 3)) (T7.setTop (mkF m 26 #[.val (.ref x), .val (.ref y), .val (.ref y)] [.ref x])) := (c6.trans (st7 _ (Steps.refl _))).trans (by
      refine XS.ifNo X7.here hexec rfl (hb hbytes d22) rfl (i0_eq_f hz) ?_
      refine XS.aloadN X7.here hexec rfl (hb hbytes d25) rfl rfl ?_
      exact Steps.refl _)
    obtain ⟨T9, X9, q9, st9⟩ := X7.hget hexec hown (wk W (.fieldLink "java/lang/String" 15 "java/lang/String" "coder" "B")) (hx.mv X7.warmed.alike hh7).2.2.1 (g := (mkF m 26 #[.val (.ref x), .val (.ref y), .val (.ref y)] [.ref x])) rfl (rest := []) rfl (hb hbytes d26)
    have hh9 := q9.trans hh7
    have c10 : Steps p.tables e below (s₁.setTop (entryFrame m #[.ref x, .ref y] 3)) (T9.setTop (mkF m 30 #[.val (.ref x), .val (.ref y), .val (.ref y)] [.ref y, .int cd])) := (c8.trans (st9 _ (Steps.refl _))).trans (by
      refine XS.aloadN X9.here hexec rfl (hb hbytes d29) rfl rfl ?_
      exact Steps.refl _)
    obtain ⟨T11, X11, q11, st11⟩ := X9.hget hexec hown (wk W (.fieldLink "java/lang/String" 15 "java/lang/String" "coder" "B")) (hy.mv X9.warmed.alike hh9).2.2.1 (g := (mkF m 30 #[.val (.ref x), .val (.ref y), .val (.ref y)] [.ref y, .int cd])) rfl (rest := [.int cd]) rfl (hb hbytes d30)
    have hh11 := q11.trans hh9
    have c12 : Steps p.tables e below (s₁.setTop (entryFrame m #[.ref x, .ref y] 3)) (T11.setTop (mkF m 33 #[.val (.ref x), .val (.ref y), .val (.ref y)] [.int cd', .int cd])) := c10.trans (st11 _ (Steps.refl _))
    by_cases hcd : cd = cd'
    · subst hcd
      have c13 : Steps p.tables e below (s₁.setTop (entryFrame m #[.ref x, .ref y] 3)) (T11.setTop (mkF m 37 #[.val (.ref x), .val (.ref y), .val (.ref y)] [.ref x])) := c12.trans (by
        refine XS.icmpNo X11.here hexec rfl (hb hbytes d33) rfl (ii_ne_f rfl) ?_
        refine XS.aloadN X11.here hexec rfl (hb hbytes d36) rfl rfl ?_
        exact Steps.refl _)
      obtain ⟨T14, X14, q14, st14⟩ := X11.hget hexec hown (wk W (.fieldLink "java/lang/String" 9 "java/lang/String" "value" "[B")) (hx.mv X11.warmed.alike hh11).2.1 (g := (mkF m 37 #[.val (.ref x), .val (.ref y), .val (.ref y)] [.ref x])) rfl (rest := []) rfl (hb hbytes d37)
      have hh14 := q14.trans hh11
      have c15 : Steps p.tables e below (s₁.setTop (entryFrame m #[.ref x, .ref y] 3)) (T14.setTop (mkF m 41 #[.val (.ref x), .val (.ref y), .val (.ref y)] [.ref y, .ref t])) := (c13.trans (st14 _ (Steps.refl _))).trans (by
        refine XS.aloadN X14.here hexec rfl (hb hbytes d40) rfl rfl ?_
        exact Steps.refl _)
      obtain ⟨T16, X16, q16, st16⟩ := X14.hget hexec hown (wk W (.fieldLink "java/lang/String" 9 "java/lang/String" "value" "[B")) (hy.mv X14.warmed.alike hh14).2.1 (g := (mkF m 41 #[.val (.ref x), .val (.ref y), .val (.ref y)] [.ref y, .ref t])) rfl (rest := [.ref t]) rfl (hb hbytes d41)
      have hh16 := q16.trans hh14
      have c17 : Steps p.tables e below (s₁.setTop (entryFrame m #[.ref x, .ref y] 3)) (T16.setTop (mkF m 44 #[.val (.ref x), .val (.ref y), .val (.ref y)] [.ref t', .ref t])) := c15.trans (st16 _ (Steps.refl _))
      obtain ⟨v18, T18, X18, E18, g18⟩ := X16.callS hexec (LEq.law l t V t' V') hown (wks W (staticW "java/lang/String" 541 LEq.yN)) (wk W LEq.tab) (W := 0) (Nat.le_of_ble_eq_true rfl) (Nat.le_of_ble_eq_true rfl) (Nat.le_refl _) (Nat.le_refl _) (g := (mkF m 44 #[.val (.ref x), .val (.ref y), .val (.ref y)] [.ref t', .ref t])) rfl (by rw [hml]; rfl) c17 (argsL := [.ref t, .ref t']) (rest := []) rfl rfl (by show 2 * 0 + 0 ≤ _; decide) (hb hbytes d44) (⟨rfl, hx.2.2.2.1.mv X16.warmed.alike hh16, hx.2.2.2.2.1.ty, hy.2.2.2.1.mv X16.warmed.alike hh16, hy.2.2.2.2.1.ty⟩)
      obtain ⟨v, rfl, q18, hv⟩ := E18
      have iff := Cod.eqv hx.2.2.2.2.1 hy.2.2.2.2.1 hx.2.2.2.2.2 hy.2.2.2.2.2
      rcases hv with ⟨rfl, he⟩ | ⟨rfl, he⟩
      · have c19 : Steps p.tables e below (s₁.setTop (entryFrame m #[.ref x, .ref y] 3)) (T18.setTop (mkF m 55 #[.val (.ref x), .val (.ref y), .val (.ref y)] [.int 1])) := Steps.trans g18 (by
          refine XS.ifNo X18.here hexec rfl (hb hbytes d47) rfl (i0_eq_f (by decide)) ?_
          refine iconstV X18.here hexec rfl 1 (hb hbytes d50) (by decide) ?_
          refine XS.goto X18.here hexec rfl (pc0 := 51) rfl (hb hbytes d51) (by decide) rfl ?_
          exact Steps.refl _)
        exact ⟨T18, some (.int 1), _, _, _, X18, rfl, rfl, rfl, (fun h => by cases h), ⟨1, rfl, q18.trans hh16, Or.inl ⟨rfl, iff.mp he⟩⟩, fun fs hl => c19.trans (X18.ireturnOut hexec hret rfl (Or.inr (Or.inl rfl)) (hb hbytes d55) hl)⟩
      · have c19 : Steps p.tables e below (s₁.setTop (entryFrame m #[.ref x, .ref y] 3)) (T18.setTop (mkF m 55 #[.val (.ref x), .val (.ref y), .val (.ref y)] [.int 0])) := Steps.trans g18 (by
          refine XS.ifYes X18.here hexec rfl (pc0 := 47) rfl (hb hbytes d47) rfl (i0_eq_t rfl) (by decide) rfl ?_
          refine iconstV X18.here hexec rfl 0 (hb hbytes d54) (by decide) ?_
          exact Steps.refl _)
        exact ⟨T18, some (.int 0), _, _, _, X18, rfl, rfl, rfl, (fun h => by cases h), ⟨0, rfl, q18.trans hh16, Or.inr ⟨rfl, fun q => he (iff.mpr q)⟩⟩, fun fs hl => c19.trans (X18.ireturnOut hexec hret rfl (Or.inr (Or.inl rfl)) (hb hbytes d55) hl)⟩
    · have c13 : Steps p.tables e below (s₁.setTop (entryFrame m #[.ref x, .ref y] 3)) (T11.setTop (mkF m 55 #[.val (.ref x), .val (.ref y), .val (.ref y)] [.int 0])) := c12.trans (by
        refine XS.icmpYes X11.here hexec rfl (pc0 := 33) rfl (hb hbytes d33) rfl (ii_ne_t hcd) (by decide) rfl ?_
        refine iconstV X11.here hexec rfl 0 (hb hbytes d54) (by decide) ?_
        exact Steps.refl _)
      exact ⟨T11, some (.int 0), _, _, _, X11, rfl, rfl, rfl, (fun h => by cases h), ⟨0, rfl, hh11, Or.inr ⟨rfl, Cod.dif hx.2.2.2.2.1 hy.2.2.2.2.1 hcd⟩⟩, fun fs hl => c13.trans (X11.ireturnOut hexec hret rfl (Or.inr (Or.inl rfl)) (hb hbytes d55) hl)⟩
theorem pays {l : Launch} {R : Room} {p : Program} {e : Env} {below : List Frame} {s : State} {sargs : Array Value} {len W : Nat} (x t : Addr) (V : Cell) (cd : Int32) (n : Nat) (f : Nat → Int32) (y t' : Addr) (V' : Cell) (cd' : Int32) (k : Nat) (g : Nat → Int32) (z : Int32) (htab : tab.before sargs s = true) (hfr : 2 ≤ R.frames) (hlo : W + 28 ≤ R.locals) :
    Back l R p e below s sargs yN len W (fun A₁ a₁ => A₁.cells + 0 ≤ R.cells ∧ A₁.slots + 0 ≤ R.slots ∧ P x t V cd n f y t' V' cd' k g z a₁ A₁.U) (fun A₁ _ v₁ B₁ => Says01 (SameT n f k g) v₁ A₁.U B₁.U ∧ B₁.locs = A₁.locs ++ [] ∧ B₁.cells = A₁.cells + 0 ∧ B₁.slots = A₁.slots + 0) :=
  (law l x t V cd n f y t' V' cd' k g z).pays htab hfr (by omega)
end SEq
end StrChars
namespace StrChars.Road
open Jvm Sem ClassFile Op Lib Jvm.Stand Jvm.Free Jvm.Free.XT
open Jvm.Lib.Cold (StaticIs)
/-- the words of String.isEmpty() -/
abbrev wordsEmp : List Jvm.Cond := [.code Emp.yN Emp.yB 1 (some .boolean), .initialized ST, .fieldLink ST 9 ST "value" "[B"]
theorem tabEmp_of {a : Array Value} {s : State} (h : ∀ w ∈ wordsEmp, w.before a s = true) : Emp.tab.before a s = true := unparts (wk h (.code Emp.yN Emp.yB 1 (some .boolean))) (wks h (.initialized Emp.yN.cls :: Emp.site))
theorem movedEmp {Z s : State} {a0 args : Array Value} (hZ : Z.Warmed39 s.vm) (hw : ∀ d ∈ wordsEmp, d.before a0 Z = true) : ∀ d ∈ wordsEmp, d.before args s = true := fun d hd => by
  have t : ∀ d ∈ wordsEmp, (d.onTables && d.keepsFace) = true := by decide +kernel
  exact RoadKit.mv hZ (hw d hd) (t d hd)
/-- the words of String.equals(Object) -/
abbrev wordsEq : List Jvm.Cond := [.code SEq.yN SEq.yB 3 (some .boolean), .initialized ST, .classLink ST 10 ST, .fieldLink ST 38 ST "COMPACT_STRINGS" "Z", .fieldLink ST 15 ST "coder" "B", .fieldLink ST 9 ST "value" "[B", .methodLink ST 541 LEq.yN, .static LEq.yN, .code LEq.yN LEq.yB 3 (some .boolean), .initialized "java/lang/StringLatin1"]
theorem tabEq_of {a : Array Value} {s : State} (h : ∀ w ∈ wordsEq, w.before a s = true) : SEq.tab.before a s = true := by
  have hl : LEq.tab.before a s = true := unparts (wk h (.code LEq.yN LEq.yB 3 (some .boolean))) (wks h (.initialized LEq.yN.cls :: LEq.site))
  have q := consq hl h
  exact unparts (wk q (.code SEq.yN SEq.yB 3 (some .boolean))) (wks q (.initialized SEq.yN.cls :: SEq.site))
theorem movedEq {Z s : State} {a0 args : Array Value} (hZ : Z.Warmed39 s.vm) (hw : ∀ d ∈ wordsEq, d.before a0 Z = true) : ∀ d ∈ wordsEq, d.before args s = true := fun d hd => by
  have t : ∀ d ∈ wordsEq, (d.onTables && d.keepsFace) = true := by decide +kernel
  exact RoadKit.mv hZ (hw d hd) (t d hd)
/-- the road's facts of a String, as the laws ask it -/
theorem txt_of {Z U : State} {a0 : Array Value} {kI : Nat} (wi : (Jvm.Cond.instantiable ST kI).before a0 Z = true) (al : Z.vm.Alike U.vm) {x t : Addr} {kb : ClassId} {cs : List Int32} {cd N2 : Int32} {vs : List Value} (E : RoadKit.Exa Z U.heap x ST) (V : RoadKit.Fld Z U.heap x ST "value" "[B" (.ref t)) (C : RoadKit.Fld Z U.heap x ST "coder" "B" (.int cd)) (K : RoadKit.Arv Z U.heap t kb .byte N2 vs (.int 0)) (hc : CodA cs cd N2 vs) (hb : ∀ c ∈ cs, ¬ c < 0 ∧ ¬ (65535 : Int32) < c) (l2 : cs.length ≤ 4000) :
    ∃ A, Txt x t A cd cs.length (fun j => cs.getD j 0) U := by
  obtain ⟨A, K1, K2, K3, K4, K5, K6⟩ := K
  have hcod := hc.cod (by omega) K3 K5
  obtain ⟨D, fV, fC, hB, F1, F2, g1, g2, -, -⟩ := strObj wi al E V C
  exact ⟨A, ⟨_, hB.2.2.1, D, hB.1, rfl, by cases q : D.vm <;> first | rfl | exact absurd q (hB.2.1.2 _)⟩, Has.of hB F1 g1, Has.of hB F2 g2, ⟨K1.1, State.isArrayOf_alike al K1.2.1, K1.2.2, by rcases hcod with ⟨-, q, -⟩ | ⟨-, q, -⟩ <;> omega⟩, hcod, fun j hj => by
    have e : cs.getD j 0 = cs[j] := by simp [List.getD_eq_getElem?_getD, hj]
    show ¬ cs.getD j 0 < 0 ∧ ¬ 65535 < cs.getD j 0
    rw [e]; exact hb _ (List.getElem_mem _)⟩
theorem same_list (cs ds : List Int32) : SameT cs.length (fun j => cs.getD j 0) ds.length (fun j => ds.getD j 0) ↔ cs = ds := by
  constructor
  · rintro ⟨e, q⟩
    refine List.ext_getElem e fun j h1 h2 => ?_
    have := q j h1
    simpa [List.getD_eq_getElem?_getD, h1, h2] using this
  · rintro rfl
    exact ⟨rfl, fun _ _ => rfl⟩
/-- **isEmpty() OF SUCH A STRING** -/
theorem empW {p : Program} {l : Launch} {e : Env} {R : Room} {s : State} {args : Array Value} {below : List Frame} {len W : Nat} {Z : State} {a0 : Array Value} {h : Heap} (hZ : Z.Warmed39 s.vm) (hw : ∀ d ∈ wordsEmp, d.before a0 Z = true) {kI : Nat} (wi : (Jvm.Cond.instantiable ST kI).before a0 Z = true)
    {x t : Addr} {kb : ClassId} {cs : List Int32} {cd N2 : Int32} {vs : List Value} (E : RoadKit.Exa Z h x ST) (V : RoadKit.Fld Z h x ST "value" "[B" (.ref t)) (C : RoadKit.Fld Z h x ST "coder" "B" (.int cd)) (K : RoadKit.Arv Z h t kb .byte N2 vs (.int 0)) (hc : CodA cs cd N2 vs) (hb : ∀ c ∈ cs, ¬ c < 0 ∧ ¬ (65535 : Int32) < c) (l2 : cs.length ≤ 4000) (hfr : 1 ≤ R.frames) (hlo : W + 12 ≤ R.locals) :
    Back l R p e below s args (⟨"java/lang/String", "isEmpty", "()Z"⟩ : MethodName) len W (fun P a => a = #[.ref x] ∧ P.U.heap = h ∧ P.cells + 0 ≤ R.cells ∧ P.slots + 0 ≤ R.slots)
      (fun P _ v B => ∃ L, (v = some (.int (if cs.length = 0 then 1 else 0)) ∧ L = [] ∧ B.U.heap = h) ∧ B.locs = P.locs ++ L ∧ B.cells = P.cells + 0 ∧ B.slots = P.slots + 0) := by
  intro m meth c P g ig mk a X hg hsize hdg hW hn hp'
  obtain ⟨rfl, rfl, r1, r2⟩ := hp'
  have al : Z.vm.Alike P.U.vm := hZ.alike.trans X.warmed.alike
  obtain ⟨A, hx⟩ := txt_of wi al E V C K hc hb l2
  obtain ⟨v, B, X', ⟨⟨hv, hh⟩, hl, hk, hs⟩, st⟩ := Emp.pays x t A cd cs.length (fun j => cs.getD j 0) (tabEmp_of (movedEmp hZ hw)) hfr hlo m meth c P g ig mk _ X hg hsize hdg hW hn ⟨r1, r2, rfl, hx⟩
  exact ⟨v, B, X', ⟨[], ⟨hv, rfl, hh⟩, hl, hk, hs⟩, st⟩
/-- **equals(Object) OF TWO SUCH STRINGS**: 1 just where the chars are the same -/
theorem eqW {p : Program} {l : Launch} {e : Env} {R : Room} {s : State} {args : Array Value} {below : List Frame} {len W : Nat} {Z : State} {a0 : Array Value} {h : Heap} (hZ : Z.Warmed39 s.vm) (hw : ∀ d ∈ wordsEq, d.before a0 Z = true) {kI : Nat} (wi : (Jvm.Cond.instantiable ST kI).before a0 Z = true)
    {x t : Addr} {kb : ClassId} {cs : List Int32} {cd N2 : Int32} {vs : List Value} (E : RoadKit.Exa Z h x ST) (V : RoadKit.Fld Z h x ST "value" "[B" (.ref t)) (C : RoadKit.Fld Z h x ST "coder" "B" (.int cd)) (K : RoadKit.Arv Z h t kb .byte N2 vs (.int 0)) (hc : CodA cs cd N2 vs) (hb : ∀ c ∈ cs, ¬ c < 0 ∧ ¬ (65535 : Int32) < c) (l2 : cs.length ≤ 4000)
    {y t' : Addr} {kb' : ClassId} {ds : List Int32} {cd' N2' : Int32} {vs' : List Value} (E' : RoadKit.Exa Z h y ST) (V' : RoadKit.Fld Z h y ST "value" "[B" (.ref t')) (C' : RoadKit.Fld Z h y ST "coder" "B" (.int cd')) (K' : RoadKit.Arv Z h t' kb' .byte N2' vs' (.int 0)) (hc' : CodA ds cd' N2' vs') (hb' : ∀ c ∈ ds, ¬ c < 0 ∧ ¬ (65535 : Int32) < c) (l2' : ds.length ≤ 4000)
    {z : Int32} (S : RoadKit.Sta Z h ST "COMPACT_STRINGS" "Z" (.int z)) (hz : ¬ z = 0) (hfr : 2 ≤ R.frames) (hlo : W + 28 ≤ R.locals) :
    Back l R p e below s args (⟨"java/lang/String", "equals", "(Ljava/lang/Object;)Z"⟩ : MethodName) len W (fun P a => a = #[.ref x, .ref y] ∧ P.U.heap = h ∧ P.cells + 0 ≤ R.cells ∧ P.slots + 0 ≤ R.slots)
      (fun P _ v B => ∃ L, (((v = some (.int 1) ∧ cs = ds) ∨ (v = some (.int 0) ∧ ¬ cs = ds)) ∧ L = [] ∧ B.U.heap = h) ∧ B.locs = P.locs ++ L ∧ B.cells = P.cells + 0 ∧ B.slots = P.slots + 0) := by
  intro m meth c P g ig mk a X hg hsize hdg hW hn hp'
  obtain ⟨rfl, rfl, r1, r2⟩ := hp'
  have al : Z.vm.Alike P.U.vm := hZ.alike.trans X.warmed.alike
  obtain ⟨A, hx⟩ := txt_of wi al E V C K hc hb l2
  obtain ⟨A', hy⟩ := txt_of wi al E' V' C' K' hc' hb' l2'
  obtain ⟨v, B, X', ⟨⟨w, hv, hh, hq⟩, hl, hk, hs⟩, st⟩ := SEq.pays x t A cd cs.length (fun j => cs.getD j 0) y t' A' cd' ds.length (fun j => ds.getD j 0) z (tabEq_of (movedEq hZ hw)) hfr hlo m meth c P g ig mk _ X hg hsize hdg hW hn ⟨r1, r2, rfl, hx, hy, sta_is al S, hz⟩
  refine ⟨v, B, X', ⟨[], ⟨?_, rfl, hh⟩, hl, hk, hs⟩, st⟩
  rcases hq with ⟨rfl, q⟩ | ⟨rfl, q⟩
  · exact Or.inl ⟨hv, (same_list cs ds).mp q⟩
  · exact Or.inr ⟨hv, fun e => q ((same_list cs ds).mpr e)⟩
end StrChars.Road
namespace StrChars
open Jvm Sem ClassFile Op Lib Jvm.Stand Jvm.Free.XT Jvm.Free.ALB Jvm.Free.JM Jvm.Free
open Jvm.Lib.Cold (StaticIs)
namespace ChN
def yN : MethodName := ⟨"java/lang/String", "charAt", "(I)C"⟩
abbrev yB : ByteArray := jdk_42_method_56_code
theorem d0 : decode yB 0 = .ok (.aload_n 0, 1) := by decide +kernel
theorem d1 : decode yB 1 = .ok (.invokevirtual 492, 3) := by decide +kernel
theorem d4 : decode yB 4 = .ok (.ifCond (.eq) 12, 3) := by decide +kernel
theorem d7 : decode yB 7 = .ok (.aload_n 0, 1) := by decide +kernel
theorem d8 : decode yB 8 = .ok (.getfield 9, 3) := by decide +kernel
theorem d11 : decode yB 11 = .ok (.iload_n 1, 1) := by decide +kernel
theorem d12 : decode yB 12 = .ok (.invokestatic 495, 3) := by decide +kernel
theorem d15 : decode yB 15 = .ok (.ireturn, 1) := by decide +kernel
def site : List Cond := [.fieldLink "java/lang/String" 9 "java/lang/String" "value" "[B", IsL.tab, LChA.tab] ++ virtW "java/lang/String" 492 "java/lang/String" IsL.yN IsL.yN ++ staticW "java/lang/String" 495 LChA.yN
def tab : Cond := tabOf yN yB 2 (some .char) site
def P (x t : Addr) (V : Cell) (n : Nat) (f : Nat → Int32) (z : Int32) (fm : Value) (i : Nat) (args : Array Value) (s : State) : Prop := args = #[.ref x, .int (Int32.ofNat i)] ∧ Txt x t V 0 n f s ∧ i < n ∧ StaticIs s "java/lang/String" "COMPACT_STRINGS" "Z" (.int z) ∧ ¬ z = 0 ∧ StaticIs s "jdk/internal/util/Preconditions" "SIOOBE_FORMATTER" "Ljava/util/function/BiFunction;" fm ∧ fm.isRef = true
def E (f : Nat → Int32) (i : Nat) (r : Option Value) (s u : State) : Prop := XT.PureE (some (.int (f i))) r s u
/-- charAt(i) of a Latin-1 String of n chars, i < n: f i -/
theorem law (l : Launch) (x t : Addr) (V : Cell) (n : Nat) (f : Nat → Int32) (z : Int32) (fm : Value) (i : Nat) : Law l yN 2 1 3 40 yB 2 (some .char) site (P x t V n f z fm i) (E f i) [] 0 0 := by
  refine Law.of_walk (plainFor_of_name (by decide +kernel)) (by decide +kernel) (by decide +kernel) (by decide) (fun _ _ h => by rw [h.1]; rfl) (fun _ U U' hal hh h => ⟨h.1, h.2.1.mv hal hh, h.2.2.1, h.2.2.2.1.there hal hh, h.2.2.2.2.1, h.2.2.2.2.2.1.there hal hh, h.2.2.2.2.2.2⟩) (fun r U U' V V' h1 hal h2 h => XT.PureE.mv r U U' V V' h1 hal h2 h) ?_
  intro p e s m args below meth c s₁ X0 hexec hbytes hml hret hlk hnm hown hh0 W hP
  obtain ⟨rfl, hx, hi, s1, hz, s3, rf⟩ := hP
  have v31 := hx.2.2.2.1.2.2.2
  have hr := hx.2.2.2.2.2 i hi
  have hx0 := hx.mv X0.warmed.alike hh0
  have c1 : Steps p.tables e below (s₁.setTop (entryFrame m #[.ref x, .int (Int32.ofNat i)] 2)) (s₁.setTop (mkF m 1 #[.val (.ref x), .val (.int (Int32.ofNat i))] [.ref x])) := Steps.trans (entry rfl) (by
    show Steps p.tables e below (s₁.setTop (mkF m 0 #[.val (.ref x), .val (.int (Int32.ofNat i))] [])) _
    refine XS.aloadN X0.here hexec rfl (hb hbytes d0) rfl rfl ?_
    exact Steps.refl _)
  obtain ⟨v2, T2, X2, E2, g2⟩ := X0.callV hexec (IsL.law l x 0 z) hown (wks W (virtW "java/lang/String" 492 "java/lang/String" IsL.yN IsL.yN)) rfl (by decide) (wk W IsL.tab) (W := 0) (Nat.le_of_ble_eq_true rfl) (Nat.le_of_ble_eq_true rfl) (Nat.le_refl _) (Nat.le_refl _) (hx0.1.fc X0.warmed.alike) hx0.1.is (g := (mkF m 1 #[.val (.ref x), .val (.int (Int32.ofNat i))] [.ref x])) rfl (by rw [hml]; rfl) c1 (argsL := []) (rest := []) rfl rfl (by show 2 * 0 + 0 ≤ _; decide) (hb hbytes d1) (⟨rfl, hx0.2.2.1, hx.2.2.2.2.1.cd, s1.there X0.warmed.alike hh0, hz⟩)
  obtain ⟨rfl, q2⟩ := E2
  have hh2 := q2.trans hh0
  have hx2 := hx.mv X2.warmed.alike hh2
  obtain ⟨-, k1, k2⟩ | ⟨k0, -⟩ := hx.2.2.2.2.1
  · have c3 : Steps p.tables e below (s₁.setTop (entryFrame m #[.ref x, .int (Int32.ofNat i)] 2)) (T2.setTop (mkF m 8 #[.val (.ref x), .val (.int (Int32.ofNat i))] [.ref x])) := Steps.trans g2 (by
      refine XS.ifNo X2.here hexec rfl (hb hbytes d4) rfl (i0_eq_f (by decide)) ?_
      refine XS.aloadN X2.here hexec rfl (hb hbytes d7) rfl rfl ?_
      exact Steps.refl _)
    obtain ⟨T4, X4, q4, st4⟩ := X2.hget hexec hown (wk W (.fieldLink "java/lang/String" 9 "java/lang/String" "value" "[B")) hx2.2.1 (g := (mkF m 8 #[.val (.ref x), .val (.int (Int32.ofNat i))] [.ref x])) rfl (rest := []) rfl (hb hbytes d8)
    have hh4 := q4.trans hh2
    have c5 : Steps p.tables e below (s₁.setTop (entryFrame m #[.ref x, .int (Int32.ofNat i)] 2)) (T4.setTop (mkF m 12 #[.val (.ref x), .val (.int (Int32.ofNat i))] [.int (Int32.ofNat i), .ref t])) := (c3.trans (st4 _ (Steps.refl _))).trans (by
      refine XS.iloadN X4.here hexec rfl (hb hbytes d11) rfl ?_
      exact Steps.refl _)
    obtain ⟨v6, T6, X6, E6, g6⟩ := X4.callS hexec (LChA.law l t V i (lo8 (f i)) fm) hown (wks W (staticW "java/lang/String" 495 LChA.yN)) (wk W LChA.tab) (W := 0) (Nat.le_of_ble_eq_true rfl) (Nat.le_of_ble_eq_true rfl) (Nat.le_refl _) (Nat.le_refl _) (g := (mkF m 12 #[.val (.ref x), .val (.int (Int32.ofNat i))] [.int (Int32.ofNat i), .ref t])) rfl (by rw [hml]; rfl) c5 (argsL := [.ref t, .int (Int32.ofNat i)]) (rest := []) rfl rfl (by show 2 * 0 + 0 ≤ _; decide) (hb hbytes d12) (⟨rfl, hx.2.2.2.1.mv X4.warmed.alike hh4, (k2 i hi).1, s3.there X4.warmed.alike hh4, rf⟩)
    obtain ⟨rfl, q6⟩ := E6
    rw [chr8_lo8 hr.1 (k2 i hi).2] at g6
    exact ⟨T6, some (.int (f i)), _, _, _, X6, rfl, rfl, rfl, (fun h => by cases h), ⟨rfl, q6.trans hh4⟩, fun fs hl => Steps.trans g6 (X6.ireturnOut hexec hret (narrow_ch hr.1 hr.2) (Or.inr (Or.inr (Or.inr (Or.inl rfl)))) (hb hbytes d15) hl)⟩
  · exact absurd k0 (by decide)
theorem pays {l : Launch} {R : Room} {p : Program} {e : Env} {below : List Frame} {s : State} {sargs : Array Value} {len W : Nat} (x t : Addr) (V : Cell) (n : Nat) (f : Nat → Int32) (z : Int32) (fm : Value) (i : Nat) (htab : tab.before sargs s = true) (hfr : 4 ≤ R.frames) (hlo : W + 53 ≤ R.locals) :
    Back l R p e below s sargs yN len W (fun A₁ a₁ => A₁.cells + 0 ≤ R.cells ∧ A₁.slots + 0 ≤ R.slots ∧ P x t V n f z fm i a₁ A₁.U) (fun A₁ _ v₁ B₁ => E f i v₁ A₁.U B₁.U ∧ B₁.locs = A₁.locs ++ [] ∧ B₁.cells = A₁.cells + 0 ∧ B₁.slots = A₁.slots + 0) :=
  (law l x t V n f z fm i).pays htab hfr (by omega)
end ChN
end StrChars
namespace StrChars.Road
open Jvm Sem ClassFile Op Lib Jvm.Stand Jvm.Free Jvm.Free.XT
open Jvm.Lib.Cold (StaticIs)
/-- the words of String.charAt(int), the Latin-1 road alone -/
abbrev wordsChN : List Jvm.Cond := [.code ChN.yN ChN.yB 2 (some .char), .initialized ST, .fieldLink ST 9 ST "value" "[B", .fieldLink ST 38 ST "COMPACT_STRINGS" "Z", .fieldLink ST 15 ST "coder" "B", .code IsL.yN IsL.yB 1 (some .boolean), .methodLink ST 492 IsL.yN, .declares IsL.yN, .selects ST IsL.yN IsL.yN, .instanceMethod IsL.yN,
  .methodLink ST 495 LChA.yN, .static LChA.yN, .code LChA.yN LChA.yB 2 (some .char), .initialized "java/lang/StringLatin1", .methodLink "java/lang/StringLatin1" 9 JO.Str_checkIndex.yN, .static JO.Str_checkIndex.yN, .code JO.Str_checkIndex.yN JO.Str_checkIndex.yB 2 none,
  .fieldLink ST 1053 "jdk/internal/util/Preconditions" "SIOOBE_FORMATTER" "Ljava/util/function/BiFunction;", .methodLink ST 1059 JC.PreCheck.yN, .static JC.PreCheck.yN, .code JC.PreCheck.yN JC.PreCheck.yB 3 (some .int), .initialized "jdk/internal/util/Preconditions"]
theorem tabChN_of {a : Array Value} {s : State} (h : ∀ w ∈ wordsChN, w.before a s = true) : ChN.tab.before a s = true := by
  have hp : JC.PreCheck.tab.before a s = true := unparts (wk h (.code JC.PreCheck.yN JC.PreCheck.yB 3 (some .int))) (wks h (.initialized JC.PreCheck.yN.cls :: JC.PreCheck.site))
  have qk := consq hp h
  have hk : JO.Str_checkIndex.tab.before a s = true := unparts (wk qk (.code JO.Str_checkIndex.yN JO.Str_checkIndex.yB 2 none)) (wks qk (.initialized JO.Str_checkIndex.yN.cls :: JO.Str_checkIndex.site))
  have ql := consq hk h
  have hl : LChA.tab.before a s = true := unparts (wk ql (.code LChA.yN LChA.yB 2 (some .char))) (wks ql (.initialized LChA.yN.cls :: LChA.site))
  have hi : IsL.tab.before a s = true := unparts (wk h (.code IsL.yN IsL.yB 1 (some .boolean))) (wks h (.initialized IsL.yN.cls :: IsL.site))
  have q := consq hi (consq hl h)
  exact unparts (wk q (.code ChN.yN ChN.yB 2 (some .char))) (wks q (.initialized ChN.yN.cls :: ChN.site))
theorem movedChN {Z s : State} {a0 args : Array Value} (hZ : Z.Warmed39 s.vm) (hw : ∀ d ∈ wordsChN, d.before a0 Z = true) : ∀ d ∈ wordsChN, d.before args s = true := fun d hd => by
  have t : ∀ d ∈ wordsChN, (d.onTables && d.keepsFace) = true := by decide +kernel
  exact RoadKit.mv hZ (hw d hd) (t d hd)
/-- **charAt(i) OF A LATIN-1 STRING**, i < n: the char -/
theorem chN {p : Program} {l : Launch} {e : Env} {R : Room} {s : State} {args : Array Value} {below : List Frame} {len W : Nat} {Z : State} {a0 : Array Value} {h : Heap} (hZ : Z.Warmed39 s.vm) (hw : ∀ d ∈ wordsChN, d.before a0 Z = true) {kI : Nat} (wi : (Jvm.Cond.instantiable ST kI).before a0 Z = true)
    {x t : Addr} {kb : ClassId} {cs : List Int32} {N2 z : Int32} {vs : List Value} {fm : Value} {i : Nat} {j : Int32} (E : RoadKit.Exa Z h x ST) (V : RoadKit.Fld Z h x ST "value" "[B" (.ref t)) (C : RoadKit.Fld Z h x ST "coder" "B" (.int 0)) (K : RoadKit.Arv Z h t kb .byte N2 vs (.int 0)) (hc : CodA cs 0 N2 vs) (hb : ∀ c ∈ cs, ¬ c < 0 ∧ ¬ (65535 : Int32) < c)
    (S : RoadKit.Sta Z h ST "COMPACT_STRINGS" "Z" (.int z)) (hz : ¬ z = 0) (F : RoadKit.Sta Z h "jdk/internal/util/Preconditions" "SIOOBE_FORMATTER" "Ljava/util/function/BiFunction;" fm) (rf : fm.isRef = true) (l2 : cs.length ≤ 4000) (hi : i < cs.length) (hj : j = Int32.ofNat i) (hfr : 4 ≤ R.frames) (hlo : W + 53 ≤ R.locals) :
    Back l R p e below s args (⟨"java/lang/String", "charAt", "(I)C"⟩ : MethodName) len W (fun P a => a = #[.ref x, .int j] ∧ P.U.heap = h ∧ P.cells + 0 ≤ R.cells ∧ P.slots + 0 ≤ R.slots)
      (fun P _ v B => ∃ L, (v = some (.int (cs.getD i 0)) ∧ L = [] ∧ B.U.heap = h) ∧ B.locs = P.locs ++ L ∧ B.cells = P.cells + 0 ∧ B.slots = P.slots + 0) := by
  subst hj
  intro m meth c P g ig mk a X hg hsize hdg hW hn hp'
  obtain ⟨rfl, rfl, r1, r2⟩ := hp'
  have al : Z.vm.Alike P.U.vm := hZ.alike.trans X.warmed.alike
  obtain ⟨A, hx⟩ := txt_of wi al E V C K hc hb l2
  obtain ⟨v, B, X', ⟨⟨hv, hh⟩, hl, hk, hs⟩, st⟩ := ChN.pays x t A cs.length (fun j => cs.getD j 0) z fm i (tabChN_of (movedChN hZ hw)) hfr hlo m meth c P g ig mk _ X hg hsize hdg hW hn ⟨r1, r2, rfl, hx, hi, sta_is al S, hz, sta_is al F, rf⟩
  exact ⟨v, B, X', ⟨[], ⟨hv, rfl, hh⟩, hl, hk, hs⟩, st⟩
/-- what backV says of its String, as the contracts of this text ask it: cs's low bytes, coder 0 -/
theorem codOf {cs : List Int32} {n : Nat} (hn : cs.length = n) (hb : ∀ c ∈ cs, ¬ 255 < c) : CodA cs 0 (Int32.ofNat n) ((cs.map lo8).map Value.int) := Or.inl ⟨rfl, by rw [hn], by simp [List.map_map, Function.comp_def], hb⟩
end StrChars.Road
end Jvm.Pilot.@@N@@
namespace Jvm.Pilot.@@N@@
open Jvm Jvm.ClassFile Sem Op Lib Jvm.Free Jvm.Stand Jvm.LawKit Jvm.RoadKit Bundle Jvm.Pilot.@@N@@.Jvm.D
section OwnKit
variable {Z : State} {a0 : Array Value} {EL : List (String × Nat)} {own : String} {p : Program} {l : Launch} {e : Env} {R : Room} {s : State} {m : MethodId} {args : Array Value} {below : List Frame} {meth : Method} {c : Code} {vm : Vm} {T : State} {h : Heap} {cells slots : Nat}
theorem nle {a b : Nat} (h : Nat.ble a b = true) : a ≤ b := Nat.le_of_ble_eq_true h
theorem olt {x : Addr} {n : Nat} (h : @LT.lt Nat _ x n) : x < n := h
theorem one {x y : Addr} (h : @Ne Nat x y) : x ≠ y := h
theorem own_xr (h1 : Heap) : Ext h1 h1 := ⟨Nat.le_refl _, fun _ _ q => q⟩
theorem own_xt {h1 h2 h3 : Heap} (A : Ext h1 h2) (B : Ext h2 h3) : Ext h1 h3 := ⟨Nat.le_trans A.1 B.1, fun a c q => B.2 a c (A.2 a c q)⟩
theorem own_xk {h1 h2 h3 : Heap} {ws : List Addr} (A : Ext h1 h2) (K : Keep h2 h3 ws) (q : ∀ x ∈ ws, h1.size ≤ x) : Ext h1 h3 :=
  ⟨Nat.le_trans A.1 K.1, fun a c r => K.2.1 a c (A.2 a c r) fun z => absurd (Array.getElem?_eq_some_iff.mp r).1 (Nat.not_lt.mpr (q a z))⟩
theorem own_xw {h1 h2 h3 : Heap} {a : Addr} {sl : Nat} {v : Value} (A : Ext h1 h2) (W : Wr h2 h3 a sl v) (q : h1.size ≤ a) : Ext h1 h3 := own_xk A (Keep.of_wr W) (allS q all0)
/-- the walk stands: over the start with the tables at hand; its heap; the literals' word; all that it wrote is new -/
def Wk (Z : State) (a0 : Array Value) (EL : List (String × Nat)) (own : String) (p : Program) (l : Launch) (e : Env) (R : Room) (s : State) (m : MethodId) (args : Array Value) (below : List Frame) (meth : Method) (c : Code) (vm : Vm) (T : State) (h : Heap) (cells slots : Nat) : Prop :=
  ∃ (locs : List Loc) (k : Nat), Stand p l e R (s.setVm vm) m args below meth c T locs cells slots ∧ T.heap = h ∧ s.Since vm k ∧ k ≤ h.size ∧ Z.Warmed39 vm ∧ vm.findClass own = some m.cls ∧ EW Z a0 EL ∧ CHr Z EL s.vm s.heap vm h ∧ Fr Z.heap.size locs ∧ Ext Z.heap h
theorem Wk.here (W : Wk Z a0 EL own p l e R s m args below meth c vm T h cells slots) : At T m c below := by obtain ⟨_, _, X, -⟩ := W; exact X.here
theorem Wk.al (W : Wk Z a0 EL own p l e R s m args below meth c vm T h cells slots) : Z.vm.Alike vm := by obtain ⟨_, _, -, -, -, -, hZ, -⟩ := W; exact hZ.alike
theorem Wk.old (W : Wk Z a0 EL own p l e R s m args below meth c vm T h cells slots) : Ext Z.heap h := by obtain ⟨_, _, -, -, -, -, -, -, -, -, -, q⟩ := W; exact q
theorem Wk.ch (W : Wk Z a0 EL own p l e R s m args below meth c vm T h cells slots) : CHv Z EL vm h := by obtain ⟨_, _, -, -, -, -, -, -, -, q, -⟩ := W; exact q.1
theorem Wk.sz (W : Wk Z a0 EL own p l e R s m args below meth c vm T h cells slots) : Z.heap.size ≤ h.size := W.old.1
theorem own_safeB {h' : Heap} {x : Addr} (W : Wk Z a0 EL own p l e R s m args below meth c vm T h cells slots) (E : Ext h h') (q : h.size ≤ x) : Safe Z EL vm h' x := Safe.ext E W.ch (Safe.new q)
theorem own_safeE {x : Addr} {C : String} (W : Wk Z a0 EL own p l e R s m args below meth c vm T h cells slots) (E : Exa Z h x C) (h1 : C ≠ "java/lang/String") (h2 : C ≠ "[B") : Safe Z EL vm h x := Safe.exa W.al E h1 h2
/-- a step that grows the heap at its end and leaves the tables -/
theorem own_mkE {T' : State} {h' : Heap} {cells' slots' : Nat} {locs' : List Loc} {k : Nat} (X : Stand p l e R (s.setVm vm) m args below meth c T' locs' cells' slots') (e' : T'.heap = h') (hS : s.Since vm k) (hk : k ≤ h.size) (hZ : Z.Warmed39 vm) (ho : vm.findClass own = some m.cls) (hEW : EW Z a0 EL) (hC : CHr Z EL s.vm s.heap vm h) (N : Fr Z.heap.size locs') (O : Ext Z.heap h) (E : Ext h h') :
    Wk Z a0 EL own p l e R s m args below meth c vm T' h' cells' slots' :=
  ⟨locs', k, X, e', hS, Nat.le_trans hk E.1, hZ, ho, hEW, hC.trans (CHr.ext E hC.1), N, own_xt O E⟩
theorem own_new (W : Wk Z a0 EL own p l e R s m args below meth c vm T h cells slots) (hx : p.tables.exec = Jvm.exec) {C : String} {index n : Nat} (w : (Cond.classLink own index C).before a0 Z = true) (wi : (Cond.instantiable C n).before a0 Z = true) (wz : (Cond.initialized C).before a0 Z = true)
    {g : JFrame} (hg : g.method = m) (hd : decode c.code g.pc = .ok (.new index, 3)) (hc : cells + 1 ≤ R.cells) (hl : slots + n ≤ R.slots) :
    ∃ (x : Addr) (T' : State) (h' : Heap), h.size ≤ x ∧ Wk Z a0 EL own p l e R s m args below meth c vm T' h' (cells + 1) (slots + n) ∧ Ext h h' ∧ Exa Z h' x C ∧ (∀ {O nm d : String} {ty : FieldType}, Laid Z a0 C O nm d → parseFieldDescriptor d = some ty → Fld Z h' x O nm d (defaultValue ty)) ∧ Unt h' x ∧
      ∀ target, Steps p.tables e below (T'.setTop { g with pc := g.pc + 3, stack := .ref x :: g.stack }) target → Steps p.tables e below (T.setTop g) target := by
  obtain ⟨locs, k, X, eT, hS, hk, hZ, ho, hEW, hC, N, O⟩ := W
  obtain ⟨T', h', X', e', E, A, D, U, st⟩ := newO X hx hZ ho w wi wz eT hg hd hc hl
  exact ⟨_, T', h', Nat.le_refl _, own_mkE X' e' hS hk hZ ho hEW hC N O E, E, A, D, U, st⟩
theorem own_newP (W : Wk Z a0 EL own p l e R s m args below meth c vm T h cells slots) (hx : p.tables.exec = Jvm.exec) {aty : ArrayType} (w : (Cond.arrayClass (newarray.typeOf aty)).before a0 Z = true) {g : JFrame} (hg : g.method = m) (hd : decode c.code g.pc = .ok (.newarray aty, 2)) {n : Int32} {rest : List Value} (hs : g.stack = .int n :: rest)
    (hn : ¬ n < 0) {cap : Nat} (hcap : n.toNatClampNeg ≤ cap) (hb : cap * 8 ≤ 536870912) (hc : cells + 1 ≤ R.cells) (hl : slots + cap ≤ R.slots) :
    ∃ (x : Addr) (T' : State) (h' : Heap) (k : ClassId), h.size ≤ x ∧ Wk Z a0 EL own p l e R s m args below meth c vm T' h' (cells + 1) (slots + cap) ∧ Ext h h' ∧ Arv Z h' x k (newarray.typeOf aty) n [] (defaultValue (newarray.typeOf aty)) ∧
      ∀ target, Steps p.tables e below (T'.setTop { g with pc := g.pc + 2, stack := .ref x :: rest }) target → Steps p.tables e below (T.setTop g) target := by
  obtain ⟨locs, k, X, eT, hS, hk, hZ, ho, hEW, hC, N, O⟩ := W
  obtain ⟨T', h', cA, X', e', E, A, st⟩ := newP X hx hZ w eT hg hd hs hn hcap hb hc hl
  exact ⟨_, T', h', cA, Nat.le_refl _, own_mkE X' e' hS hk hZ ho hEW hC N O E, E, Arv.new A hn, st⟩
theorem own_mkW {T' : State} {h' : Heap} {cells' slots' : Nat} {locs' : List Loc} {k : Nat} {a : Addr} {sl : Nat} {v : Value} (X : Stand p l e R (s.setVm vm) m args below meth c T' (locs' ++ [⟨a, sl⟩]) cells' slots') (e' : T'.heap = h') (hS : s.Since vm k) (hk : k ≤ h.size) (hZ : Z.Warmed39 vm) (ho : vm.findClass own = some m.cls) (hEW : EW Z a0 EL) (hC : CHr Z EL s.vm s.heap vm h) (N : Fr Z.heap.size locs') (O : Ext Z.heap h) (W : Wr h h' a sl v) (S : Safe Z EL vm h a) (q : Z.heap.size ≤ a) :
    Wk Z a0 EL own p l e R s m args below meth c vm T' h' cells' slots' :=
  ⟨_, k, X, e', hS, by rw [W.size]; exact hk, hZ, ho, hEW, hC.trans (CHr.wr W S hC.1), N.app fun y hy => by cases List.mem_singleton.mp hy; exact q, own_xw O W q⟩
theorem own_nc {x : Int32} (h : ¬ x < 0 ∧ ¬ 65535 < x) : nar .char x = x := by
  show x.toUInt32.toUInt16.toUInt32.toInt32 = x
  obtain ⟨h1, h2⟩ := h
  rw [Int32.lt_iff_toInt_lt] at h1 h2
  have e1 : (0 : Int32).toInt = 0 := rfl
  have e2 : (65535 : Int32).toInt = 65535 := rfl
  rw [e1] at h1; rw [e2] at h2
  apply Int32.toBitVec_inj.mp
  apply BitVec.eq_of_toNat_eq
  have hx : x.toInt = x.toBitVec.toInt := rfl
  rw [hx, BitVec.toInt_eq_toNat_cond] at h1 h2
  have hlt := x.toBitVec.isLt
  have hn : x.toBitVec.toNat < 65536 := by split at h1 <;> split at h2 <;> omega
  show ((x.toUInt32.toUInt16.toUInt32)).toBitVec.toNat = _
  have e3 : (x.toUInt32.toUInt16.toUInt32).toNat = x.toUInt32.toNat % 65536 := by simp
  have e4 : x.toUInt32.toNat = x.toBitVec.toNat := rfl
  show (x.toUInt32.toUInt16.toUInt32).toNat = _
  rw [e3, e4]; omega
theorem own_stC (W : Wk Z a0 EL own p l e R s m args below meth c vm T h cells slots) (hx : p.tables.exec = Jvm.exec) {a : Addr} {k : ClassId} {z : Int32} {vs : List Value} {dv : Value} (F : Arv Z h a k .char z vs dv) (q : Z.heap.size ≤ a) {j x : Int32} {i : Nat} (hj : ¬ j < 0 ∧ j < z) (hi : j.toNatClampNeg = i) (hl : i < vs.length) (hr : ¬ x < 0 ∧ ¬ 65535 < x)
    {g : JFrame} (hg : g.method = m) {rest : List Value} (hs : g.stack = .int x :: .int j :: .ref a :: rest) (hd : decode c.code g.pc = .ok (.castore, 1)) :
    ∃ (T' : State) (h' : Heap), Wk Z a0 EL own p l e R s m args below meth c vm T' h' cells slots ∧ Wr h h' a i (.int x) ∧ Arv Z h' a k .char z (vs.set i (.int x)) dv ∧
      ∀ target, Steps p.tables e below (T'.setTop { g with pc := g.pc + 1, stack := rest }) target → Steps p.tables e below (T.setTop g) target := by
  obtain ⟨locs, k1, X, eT, hS, hk, hZ, ho, hEW, hC, N, O⟩ := W
  obtain ⟨cl, A, q1, S, q3, H, U⟩ := id F
  obtain ⟨T', h', X', e', Wr', st⟩ := stC X hx hZ eT A (inb_of S hj) hg hs hd
  rw [own_nc hr, hi] at Wr'
  rw [hi] at X'
  have fx : fits .char (.int x) = true := by have := fits_nar_char x; rw [own_nc hr] at this; exact this
  refine ⟨T', h', own_mkW X' e' hS hk hZ ho hEW hC N O Wr' (Safe.arr hZ.alike A (by decide)) q, Wr', ?_, st⟩
  exact Arv.set A q1 S q3 H U fx (by rw [hi]; exact Wr') i hi hl
theorem own_stB (W : Wk Z a0 EL own p l e R s m args below meth c vm T h cells slots) (hx : p.tables.exec = Jvm.exec) {a : Addr} {k : ClassId} {z : Int32} {vs : List Value} {dv : Value} (F : Arv Z h a k .byte z vs dv) (q : Z.heap.size ≤ a) (Sf : Safe Z EL vm h a) {j x : Int32} {i : Nat} (hj : ¬ j < 0 ∧ j < z) (hi : j.toNatClampNeg = i) (hl : i < vs.length)
    {g : JFrame} (hg : g.method = m) {rest : List Value} (hs : g.stack = .int x :: .int j :: .ref a :: rest) (hd : decode c.code g.pc = .ok (.bastore, 1)) :
    ∃ (T' : State) (h' : Heap), Wk Z a0 EL own p l e R s m args below meth c vm T' h' cells slots ∧ Wr h h' a i (.int x.toInt8.toInt32) ∧ Arv Z h' a k .byte z (vs.set i (.int x.toInt8.toInt32)) dv ∧
      ∀ target, Steps p.tables e below (T'.setTop { g with pc := g.pc + 1, stack := rest }) target → Steps p.tables e below (T.setTop g) target := by
  obtain ⟨locs, k1, X, eT, hS, hk, hZ, ho, hEW, hC, N, O⟩ := W
  obtain ⟨cl, A, q1, S, q3, H, U⟩ := id F
  obtain ⟨T', h', X', e', Wr', st⟩ := stB X hx hZ eT A (inb_of S hj) hg hs hd
  have Wr2 : Wr h h' a i (.int x.toInt8.toInt32) := by rw [← hi]; exact Wr'
  rw [hi] at X'
  refine ⟨T', h', own_mkW X' e' hS hk hZ ho hEW hC N O Wr2 Sf q, Wr2, ?_, st⟩
  exact Arv.set A q1 S q3 H U (fits_nar_byte x) Wr' i hi hl
theorem own_put (W : Wk Z a0 EL own p l e R s m args below meth c vm T h cells slots) (hx : p.tables.exec = Jvm.exec) {R0 O n d host C : String} {index kk : Nat} {ty : FieldType} (w : (Cond.fieldLink own index R0 n d).before a0 Z = true ∨ (Cond.fieldLinkNest own index R0 n d host).before a0 Z = true) (via : Via Z R0 O n d)
    {a : Addr} {v old : Value} (F : Fld Z h a O n d old) (E : Exa Z h a C) (L : (Cond.lays C O n d).before a0 Z = true ∨ ((Cond.laysFinal C O n d).before a0 Z = true ∧ own = O ∧ meth.name = "<init>")) (wi : (Cond.instantiable C kk).before a0 Z = true)
    (hty : parseFieldDescriptor d = some ty) (hn : narrow ty v = v) (hf : fits ty v = true) (S : Safe Z EL vm h a) (q : Z.heap.size ≤ a) {g : JFrame} (hg : g.method = m) {rest : List Value} (hs : g.stack = v :: .ref a :: rest) (hd : decode c.code g.pc = .ok (.putfield index, 3)) :
    ∃ (T' : State) (h' : Heap), Wk Z a0 EL own p l e R s m args below meth c vm T' h' cells slots ∧ Wr h h' a (RoadKit.slotOf Z O n d) v ∧ Fld Z h' a O n d v ∧
      ∀ target, Steps p.tables e below (T'.setTop { g with pc := g.pc + 3, stack := rest }) target → Steps p.tables e below (T.setTop g) target := by
  obtain ⟨locs, k1, X, eT, hS, hk, hZ, ho, hEW, hC, N, O'⟩ := W
  obtain ⟨T', h', X', e', W', st⟩ := putF X hx hZ ho w via eT F E L wi hty hn hf hg hs hd
  exact ⟨T', h', own_mkW X' e' hS hk hZ ho hEW hC N O' W' S q, W', F.same W', st⟩
theorem own_get (W : Wk Z a0 EL own p l e R s m args below meth c vm T h cells slots) (hx : p.tables.exec = Jvm.exec) {R0 O n d host : String} {index : Nat} (w : (Cond.fieldLink own index R0 n d).before a0 Z = true ∨ (Cond.fieldLinkNest own index R0 n d host).before a0 Z = true) (via : Via Z R0 O n d)
    {a : Addr} {v : Value} (F : Fld Z h a O n d v) {g : JFrame} (hg : g.method = m) {rest : List Value} (hs : g.stack = .ref a :: rest) (hd : decode c.code g.pc = .ok (.getfield index, 3)) :
    ∃ T' : State, Wk Z a0 EL own p l e R s m args below meth c vm T' h cells slots ∧
      ∀ target, Steps p.tables e below (T'.setTop { g with pc := g.pc + 3, stack := v :: rest }) target → Steps p.tables e below (T.setTop g) target := by
  obtain ⟨locs, k1, X, eT, hS, hk, hZ, ho, hEW, hC, N, O'⟩ := W
  obtain ⟨T', X', e', st⟩ := getF X hx hZ ho w via eT F hg hs hd
  exact ⟨T', ⟨locs, k1, X', e', hS, hk, hZ, ho, hEW, hC, N, O'⟩, st⟩
theorem own_getS (W : Wk Z a0 EL own p l e R s m args below meth c vm T h cells slots) (hx : p.tables.exec = Jvm.exec) {R0 O n d host : String} {index : Nat} (w : (Cond.fieldLink own index R0 n d).before a0 Z = true ∨ (Cond.fieldLinkNest own index R0 n d host).before a0 Z = true) (via : Via Z R0 O n d)
    {v : Value} (F : Sta Z Z.heap O n d v) {g : JFrame} (hg : g.method = m) (hd : decode c.code g.pc = .ok (.getstatic index, 3)) :
    ∃ T' : State, Wk Z a0 EL own p l e R s m args below meth c vm T' h cells slots ∧
      ∀ target, Steps p.tables e below (T'.setTop { g with pc := g.pc + 3, stack := v :: g.stack }) target → Steps p.tables e below (T.setTop g) target := by
  obtain ⟨locs, k1, X, eT, hS, hk, hZ, ho, hEW, hC, N, O'⟩ := W
  obtain ⟨T', X', e', st⟩ := getS2 X hx hZ ho w via eT (F.ext O') hg hd
  exact ⟨T', ⟨locs, k1, X', e', hS, hk, hZ, ho, hEW, hC, N, O'⟩, st⟩
theorem own_initO (W : Wk Z a0 EL own p l e R s m args below meth c vm T h cells slots) (hx : p.tables.exec = Jvm.exec) {idx : Nat} (w1 : (Cond.methodLink own idx Lib.objectInit).before a0 Z = true) (w2 : (Cond.instanceMethod Lib.objectInit).before a0 Z = true)
    (w3 : (Cond.code Lib.objectInit ⟨#[0xb1]⟩ 1 none).before a0 Z = true) {g : JFrame} (hg : g.method = m) (hsize : g.locals.size = c.maxLocals) {a : Addr} {rest : List Value} (hs : g.stack = .ref a :: rest) (hd : decode c.code g.pc = .ok (.invokespecial idx, 3))
    (hf : 1 ≤ R.frames) {Wd : Nat} (hW : 2 * g.monitorRoom + (rest.map fun v => v.category).sum ≤ Wd) (hl : Wd + 12 ≤ R.locals) :
    ∃ T' : State, Wk Z a0 EL own p l e R s m args below meth c vm T' h cells slots ∧ ∀ target, Steps p.tables e below (T'.setTop { g with pc := g.pc + 3, stack := rest }) target → Steps p.tables e below (T.setTop g) target := by
  obtain ⟨locs, k1, X, eT, hS, hk, hZ, ho, hEW, hC, N, O'⟩ := W
  obtain ⟨T', X', e', st⟩ := initO X hx hZ ho w1 w2 w3 eT hg hsize hs hd hf hW hl
  exact ⟨T', ⟨locs, k1, X', e', hS, hk, hZ, ho, hEW, hC, N, O'⟩, st⟩
theorem own_ldcI (W : Wk Z a0 EL own p l e R s m args below meth c vm T h cells slots) (hx : p.tables.exec = Jvm.exec) {index : Nat} {v : Int32} (w : (Cond.constant own index v).before a0 Z = true) {g : JFrame} (hg : g.method = m) (hd : decode c.code g.pc = .ok (.ldc index, 2)) :
    ∀ target, Steps p.tables e below (T.setTop { g with pc := g.pc + 2, stack := .int v :: g.stack }) target → Steps p.tables e below (T.setTop g) target := by
  obtain ⟨locs, k1, X, eT, hS, hk, hZ, ho, hEW, hC, N, O'⟩ := W
  exact X.ldcInt hx ho (mv (s := s.setVm vm) hZ w) hg hd
theorem own_alen (W : Wk Z a0 EL own p l e R s m args below meth c vm T h cells slots) (hx : p.tables.exec = Jvm.exec) {a : Addr} {k : ClassId} {ty : FieldType} {z : Int32} {vs : List Value} {dv : Value} (F : Arv Z h a k ty z vs dv) {g : JFrame} (hg : g.method = m) {rest : List Value} (hs : g.stack = .ref a :: rest) (hd : decode c.code g.pc = .ok (.arraylength, 1)) :
    ∀ target, Steps p.tables e below (T.setTop { g with pc := g.pc + 1, stack := .int z :: rest }) target → Steps p.tables e below (T.setTop g) target := by
  obtain ⟨locs, k1, X, eT, hS, hk, hZ, ho, hEW, hC, N, O'⟩ := W
  obtain ⟨cl, A, q1, S, q3, H, U⟩ := F
  intro target q
  have e1 := len_of S q3
  refine X.arraylength hx (by rw [eT]; exact A.1) (State.isArrayOf_alike (T := s.setVm vm) hZ.alike A.2.1) hg hs hd _ ?_
  rw [e1]; exact q
theorem own_cal (W : Wk Z a0 EL own p l e R s m args below meth c vm T h cells slots) (hx : p.tables.exec = Jvm.exec) {a : Addr} {k : ClassId} {z : Int32} {vs : List Value} {dv : Value} (F : Arv Z h a k .char z vs dv) {j x : Int32} (hj : ¬ j < 0 ∧ j < z) (hv : vs.getD j.toNatClampNeg dv = .int x) {g : JFrame} (hg : g.method = m) {rest : List Value} (hs : g.stack = .int j :: .ref a :: rest) (hd : decode c.code g.pc = .ok (.caload, 1)) :
    ∀ target, Steps p.tables e below (T.setTop { g with pc := g.pc + 1, stack := .int x :: rest }) target → Steps p.tables e below (T.setTop g) target := by
  obtain ⟨locs, k1, X, eT, hS, hk, hZ, ho, hEW, hC, N, O'⟩ := W
  obtain ⟨cl, A, q1, S, q3, H, U⟩ := F
  exact X.caload hx (by rw [eT]; exact A.1) (State.isArrayOf_alike (T := s.setVm vm) hZ.alike A.2.1) A.2.2 (inb_of S hj) (H.at (inb_of S hj) hv) hg hs hd
theorem own_bal (W : Wk Z a0 EL own p l e R s m args below meth c vm T h cells slots) (hx : p.tables.exec = Jvm.exec) {a : Addr} {k : ClassId} {z : Int32} {vs : List Value} {dv : Value} (F : Arv Z h a k .byte z vs dv) {j x : Int32} (hj : ¬ j < 0 ∧ j < z) (hv : vs.getD j.toNatClampNeg dv = .int x) {g : JFrame} (hg : g.method = m) {rest : List Value} (hs : g.stack = .int j :: .ref a :: rest) (hd : decode c.code g.pc = .ok (.baload, 1)) :
    ∀ target, Steps p.tables e below (T.setTop { g with pc := g.pc + 1, stack := .int x :: rest }) target → Steps p.tables e below (T.setTop g) target := by
  obtain ⟨locs, k1, X, eT, hS, hk, hZ, ho, hEW, hC, N, O'⟩ := W
  obtain ⟨cl, A, q1, S, q3, H, U⟩ := F
  exact X.baloadBytes hx (by rw [eT]; exact A.1) (State.isArrayOf_alike (T := s.setVm vm) hZ.alike A.2.1) A.2.2 (inb_of S hj) (H.at (inb_of S hj) hv) hg hs hd
theorem own_irem (W : Wk Z a0 EL own p l e R s m args below meth c vm T h cells slots) (hx : p.tables.exec = Jvm.exec) {g : JFrame} (hg : g.method = m) {x y : Int32} {rest : List Value} (hd : decode c.code g.pc = .ok (.irem, 1)) (hs : g.stack = .int y :: .int x :: rest) (hy : y ≠ 0) :
    ∀ target, Steps p.tables e below (T.setTop { g with pc := g.pc + 1, stack := .int (x % y) :: rest }) target → Steps p.tables e below (T.setTop g) target := by
  obtain ⟨locs, k1, X, -⟩ := W
  exact fun _ q => iremM X hx hg hd hs hy q
theorem own_acmp (W : Wk Z a0 EL own p l e R s m args below meth c vm T h cells slots) (hx : p.tables.exec = Jvm.exec) {g : JFrame} (hg : g.method = m) {cd : ACond} {x y : Value} (h1 : x.isRef = true) (h2 : y.isRef = true) {rest : List Value} {o : Int} {pc0 pc' : Nat} {same : Bool} (hpc : g.pc = pc0)
    (hd : decode c.code g.pc = .ok (.if_acmp cd o, 3)) (hs : g.stack = y :: x :: rest) (hq : decide (x = y) = same) (ho : 0 ≤ (pc0 : Int) + o) (hp : pc' = if acV cd same = true then ((pc0 : Int) + o).toNat else pc0 + 3) :
    ∀ target, Steps p.tables e below (T.setTop { g with pc := pc', stack := rest }) target → Steps p.tables e below (T.setTop g) target := by
  obtain ⟨locs, k1, X, -⟩ := W
  exact fun _ q => Jvm.RoadKit.acmp X hx hg h1 h2 hpc hd hs hq ho hp q
theorem own_cast (W : Wk Z a0 EL own p l e R s m args below meth c vm T h cells slots) (hx : p.tables.exec = Jvm.exec) {K : String} {index : Nat} (w : (Cond.classLink own index K).before a0 Z = true) {a : Addr} (F : Ins Z h a K true) {g : JFrame} (hg : g.method = m) {rest : List Value} (hs : g.stack = .ref a :: rest) (hd : decode c.code g.pc = .ok (.checkcast index, 3)) :
    ∃ T' : State, Wk Z a0 EL own p l e R s m args below meth c vm T' h cells slots ∧ ∀ target, Steps p.tables e below (T'.setTop { g with pc := g.pc + 3 }) target → Steps p.tables e below (T.setTop g) target := by
  obtain ⟨locs, k1, X, eT, hS, hk, hZ, ho, hEW, hC, N, O'⟩ := W
  obtain ⟨T', X', e', st⟩ := castY X hx hZ ho w eT F hg hs hd
  exact ⟨T', ⟨locs, k1, X', e', hS, hk, hZ, ho, hEW, hC, N, O'⟩, st⟩
/-- ldc of a String constant, its text read -/
theorem own_ldcR (W : Wk Z a0 EL own p l e R s m args below meth c vm T h cells slots) (hx : p.tables.exec = Jvm.exec) {text : String} {index : Nat} (w : (Cond.stringLink own index text).before a0 Z = true) (wS : ∀ a ∈ Bundle.stringAtoms, a.before a0 Z = true) (hmem : (own, index) ∈ EL)
    {vs : List Value} {z : Int32} (ht : (∀ c ∈ text.toList, c.toNat < 256) ∧ text.toList.map (fun c => Value.int (Jvm.Lit.byteI c.toNat.toUInt16)) = vs) (hz : ¬ z < 0) (hl : z.toNatClampNeg = vs.length)
    {g : JFrame} (hg : g.method = m) (hd : decode c.code g.pc = .ok (.ldc index, 2)) {n : Nat} (hn : 4 * text.toList.length ≤ n) (hbig : n ≤ 536870912) (hc : cells + 2 ≤ R.cells) (hl' : slots + (n + 4) ≤ R.slots) :
    ∃ (a : Addr) (b : Addr) (k : ClassId) (vm' : Vm) (T' : State) (h' : Heap), Wk Z a0 EL own p l e R s m args below meth c vm' T' h' (cells + 2) (slots + (n + 4)) ∧ Ext h h' ∧ CHr Z EL vm h vm' h' ∧
      Exa Z h' a "java/lang/String" ∧ Fld Z h' a "java/lang/String" "coder" "B" (.int 0) ∧ Fld Z h' a "java/lang/String" "value" "[B" (.ref b) ∧ Arv Z h' b k .byte z vs (.int 0) ∧ (∀ x, Safe Z EL vm' h' x → x ≠ a ∧ x ≠ b) ∧
      ∀ target, Steps p.tables e below (T'.setTop { g with pc := g.pc + 2, stack := .ref a :: g.stack }) target → Steps p.tables e below (T.setTop g) target := by
  obtain ⟨locs, k1, X, eT, hS, hk, hZ, ho, hEW, hC, N, O'⟩ := W
  obtain ⟨a, T', h', k2, b, k, X', e', E, hS', hk', hZ', ho', f1, f2, f3, f4, -, -, hC', -, hne, st⟩ := ldcCH X hx hZ ho w wS eT hS hk hEW hmem hC.1 ht hz hl hg hd hn hbig hc hl'
  exact ⟨a, b, k, T'.vm, T', h', ⟨locs, k2, X', e', hS', hk', hZ', ho', hEW, hC.trans hC', N, own_xt O' E⟩, E, hC', f1, f2, f3, f4, hne, st⟩
/-- ldc of a String constant, unread -/
theorem own_ldcO (W : Wk Z a0 EL own p l e R s m args below meth c vm T h cells slots) (hx : p.tables.exec = Jvm.exec) {text : String} {index : Nat} (w : (Cond.stringLink own index text).before a0 Z = true) (wS : ∀ a ∈ Bundle.stringAtoms, a.before a0 Z = true)
    {g : JFrame} (hg : g.method = m) (hd : decode c.code g.pc = .ok (.ldc index, 2)) {n : Nat} (hn : 4 * text.toList.length ≤ n) (hbig : n ≤ 536870912) (hc : cells + 2 ≤ R.cells) (hl' : slots + (n + 4) ≤ R.slots) :
    ∃ (a : Addr) (vm' : Vm) (T' : State) (h' : Heap), Wk Z a0 EL own p l e R s m args below meth c vm' T' h' (cells + 2) (slots + (n + 4)) ∧ Ext h h' ∧ CHr Z EL vm h vm' h' ∧
      ∀ target, Steps p.tables e below (T'.setTop { g with pc := g.pc + 2, stack := .ref a :: g.stack }) target → Steps p.tables e below (T.setTop g) target := by
  obtain ⟨locs, k1, X, eT, hS, hk, hZ, ho, hEW, hC, N, O'⟩ := W
  obtain ⟨a, T', h', k2, X', e', E, hS', hk', hZ', ho', hC', -, st⟩ := ldcOH X hx hZ ho w wS eT hS hk hEW hC.1 hg hd hn hbig hc hl'
  exact ⟨a, T'.vm, T', h', ⟨locs, k2, X', e', hS', hk', hZ', ho', hEW, hC.trans hC', N, own_xt O' E⟩, E, hC', st⟩
/-- a method's contract, at a heap -/
def Ct (l : Launch) (Z : State) (a0 : Array Value) (EL : List (String × Nat)) (y : MethodName) (bytes : ByteArray) (maxL : Nat) (ret : Option FieldType) (ws : List Jvm.Cond) (rm : Room) (as' : Array Value) (h : Heap) (sf : List Addr) (Q : Option Value → Heap → List Addr → Prop) : Prop :=
  Ext Z.heap h → MetFree l y (head1 (Cond.code y bytes maxL ret :: ws) rm) (fun a U => a = as' ∧ Z.Warmed39 U.vm ∧ U.heap = h ∧ CHv Z EL U.vm h ∧ ∀ x ∈ sf, Safe Z EL U.vm h x) (fun _ _ _ _ _ => True)
    (fun _ U o U' => ∃ v L so, o = .returned v ∧ Q v U'.heap so ∧ Fr Z.heap.size L ∧ Ext Z.heap U'.heap ∧ CHr Z EL U.vm U.heap U'.vm U'.heap ∧ (∀ x ∈ so, Safe Z EL U'.vm U'.heap x) ∧ ReturnedEndW U o U' L rm.cells rm.slots)
theorem own_safeAt {locs : List Loc} (Y : Stand p l e R (s.setVm vm) m args below meth c T locs cells slots) (hZ : Z.Warmed39 vm) (hEW : EW Z a0 EL) (H : CHv Z EL vm h) {x : Addr} (S : Safe Z EL vm h x) : Safe Z EL T.vm h x := fun B => by
  rcases (CHv.at Y hZ hEW H).2.2 x B with q | q
  · exact S q
  · obtain ⟨cell, r⟩ := B.there
    have := (Array.getElem?_eq_some_iff.mp r).1; omega
theorem own_backS {y : MethodName} {bytes : ByteArray} {maxL : Nat} {ret : Option FieldType} {rm : Room} {len Wd : Nat} {as' : Array Value} {sf : List Addr} {Q : Option Value → Heap → List Addr → Prop} (O : Ext Z.heap h)
    (hM : Ct l Z a0 EL y bytes maxL ret [] rm as' h sf Q)
    (hZ : Z.Warmed39 vm) (wc : (Cond.code y bytes maxL ret).before a0 Z = true) (wz : (Cond.initialized y.cls).before a0 Z = true) (hf : rm.frames + 1 ≤ R.frames) (hl : Wd + (maxL + 11) + rm.locals ≤ R.locals) (hEL : EW Z a0 EL) (H : CHv Z EL vm h) (hsf : ∀ x ∈ sf, Safe Z EL vm h x) :
    BackS l R p e below (s.setVm vm) args y len Wd (fun A a => a = as' ∧ A.U.heap = h ∧ A.cells + rm.cells ≤ R.cells ∧ A.slots + rm.slots ≤ R.slots)
      (fun A _ v B => ∃ L so, Q v B.U.heap so ∧ Fr Z.heap.size L ∧ Ext Z.heap B.U.heap ∧ B.locs = A.locs ++ L ∧ B.cells = A.cells + rm.cells ∧ B.slots = A.slots + rm.slots ∧ CHr Z EL vm h B.U.vm B.U.heap ∧ ∀ x ∈ so, Safe Z EL B.U.vm B.U.heap x) :=
  BackS.of_freeW (bytes := bytes) (maxL := maxL) (ret := ret) (E := fun _ first o t L k n => k = rm.cells ∧ n = rm.slots ∧ (∃ v so, o = .returned v ∧ Q v t.heap so ∧ Fr Z.heap.size L ∧ Ext Z.heap t.heap ∧ ∀ x ∈ so, Safe Z EL t.vm t.heap x) ∧ CHr Z EL first.vm first.heap t.vm t.heap) (hM O) hf hl
    (fun m meth c A a Y hp => have hU : Z.Warmed39 A.U.vm := wtrans (s := s.setVm vm) hZ Y.warmed
      ⟨by show (Cond.and _ .tt).before a A.U = true; rw [Cond.before_and, mv hU wc]; rfl, mv hU wc, mv hU wz, hp.2.2.1, hp.2.2.2⟩)
    (fun m meth c A a g mk Y hp => ⟨hp.1, wtrans (s := s.setVm vm) hZ Y.warmed, hp.2.1, (CHv.at Y hZ hEL H).1, fun x hx => own_safeAt Y hZ hEL H (hsf x hx)⟩) (fun _ _ _ _ _ _ _ _ _ => trivial)
    (fun _ _ _ _ ⟨v, L, so, h1, h2, h3, h4, h5, h7, h6⟩ => ⟨L, _, _, h6, rfl, rfl, ⟨v, so, h1, h2, h3, h4, h7⟩, h5⟩)
    (fun m meth c A a g mk v t L k n Y hp _ _ ⟨e1, e2, ⟨v', so, e3, e4, e5, e6, e8⟩, e7⟩ => by
      cases e3; subst e1 e2
      refine ⟨L, so, e4, e5, e6, rfl, rfl, rfl, (CHv.at Y hZ hEL H).trans ?_, e8⟩
      rw [← hp.2.1]; exact e7)
theorem own_mkB {B : Pt} {L locs : List Loc} {k : Nat} {kc ks : Nat} (X : Stand p l e R ((s.setVm vm).setVm B.U.vm) m args below meth c B.U B.locs B.cells B.slots) (h2 : (s.setVm vm).Since B.U.vm B.U.heap.size) (hg : h.size ≤ B.U.heap.size) (hS : s.Since vm k) (hk : k ≤ h.size) (hZ : Z.Warmed39 vm) (ho : vm.findClass own = some m.cls) (hEW : EW Z a0 EL) (hC : CHr Z EL s.vm s.heap vm h) (N : Fr Z.heap.size locs)
    (hL : Fr Z.heap.size L) (O' : Ext Z.heap B.U.heap) (e1 : B.locs = locs ++ L) (e2 : B.cells = kc) (e3 : B.slots = ks) (hC' : CHr Z EL vm h B.U.vm B.U.heap) :
    Wk Z a0 EL own p l e R s m args below meth c B.U.vm B.U B.U.heap kc ks := by
  obtain ⟨X', hS', hZ', ho'⟩ := rebS hS hk X h2 hg hZ ho
  subst e2 e3
  exact ⟨B.locs, _, X', rfl, hS', Nat.le_refl _, hZ', ho', hEW, hC.trans hC', by rw [e1]; exact N.app hL, O'⟩
theorem own_static (W : Wk Z a0 EL own p l e R s m args below meth c vm T h cells slots) (hx : p.tables.exec = Jvm.exec) {index : Nat} {y : MethodName} {bytes : ByteArray} {maxL : Nat} {ret : Option FieldType} {rm : Room} {as' : Array Value} {sf : List Addr} {Q : Option Value → Heap → List Addr → Prop}
    (w1 : (Cond.methodLink own index y).before a0 Z = true) (w2 : (Cond.static y).before a0 Z = true) (w3 : (Cond.initialized y.cls).before a0 Z = true) (w4 : (Cond.code y bytes maxL ret).before a0 Z = true) (hy : y.cls ≠ "java/lang/invoke/MethodHandle" ∧ y.cls ≠ "java/lang/invoke/VarHandle")
    (hM : Ct l Z a0 EL y bytes maxL ret [] rm as' h sf Q) (hsf : ∀ x ∈ sf, Safe Z EL vm h x) {Wd : Nat} (hf : rm.frames + 1 ≤ R.frames) (hlo : Wd + (maxL + 11) + rm.locals ≤ R.locals) (hce : cells + rm.cells ≤ R.cells) (hsl : slots + rm.slots ≤ R.slots)
    {g : JFrame} (hg : g.method = m) (hsize : g.locals.size = c.maxLocals) {argsL rest : List Value} (hlen : ∀ sig, parseMethodDescriptor y.desc = some sig → argsL.length = sig.parameters.length) (hstack : g.stack = argsL.reverse ++ rest) (has : argsL.toArray = as') (hW : 2 * g.monitorRoom + (rest.map fun v => v.category).sum ≤ Wd)
    (hdg : decode c.code g.pc = .ok (.invokestatic index, 3)) :
    ∃ (v : Option Value) (so : List Addr) (vm' : Vm) (T' : State) (h' : Heap), Wk Z a0 EL own p l e R s m args below meth c vm' T' h' (cells + rm.cells) (slots + rm.slots) ∧ CHr Z EL vm h vm' h' ∧ Q v h' so ∧ (∀ x ∈ so, Safe Z EL vm' h' x) ∧
      ∀ target, Steps p.tables e below (T'.setTop { g with pc := g.pc + 3, stack := v.toList ++ rest }) target → Steps p.tables e below (T.setTop g) target := by
  obtain ⟨locs, k1, X, eT, hS, hk, hZ, ho, hEW, hC, N, O'⟩ := W
  subst eT
  obtain ⟨v, vm1, B, -, X', h2, hg2, ⟨L, so, hQ, hL, O2, e1, e2, e3, hC', hso⟩, st⟩ := callSS X hx ho (mv (s := s.setVm vm) hZ w1) (mv (s := s.setVm vm) hZ w2) (mv (s := s.setVm vm) hZ w3) (mv (s := s.setVm vm) hZ w4) hy (own_backS O' hM hZ w4 w3 hf hlo hEW hC.1 hsf) hg hsize hlen hstack hW hdg (fun _ _ => ⟨has, rfl, hce, hsl⟩)
  exact ⟨v, so, _, B.U, _, own_mkB X' h2 hg2 hS hk hZ ho hEW hC N hL O2 e1 e2 e3 hC', hC', hQ, hso, fun _ q => st.trans q⟩
theorem own_special (W : Wk Z a0 EL own p l e R s m args below meth c vm T h cells slots) (hx : p.tables.exec = Jvm.exec) {index : Nat} {y : MethodName} {bytes : ByteArray} {maxL : Nat} {rm : Room} {as' : Array Value} {sf : List Addr} {Q : Option Value → Heap → List Addr → Prop} (hy1 : y.name = "<init>")
    (w1 : (Cond.methodLink own index y).before a0 Z = true) (w2 : (Cond.instanceMethod y).before a0 Z = true) (w3 : (Cond.initialized y.cls).before a0 Z = true) (w4 : (Cond.code y bytes maxL none).before a0 Z = true) (hy : y.cls ≠ "java/lang/invoke/MethodHandle" ∧ y.cls ≠ "java/lang/invoke/VarHandle")
    (hM : Ct l Z a0 EL y bytes maxL none [] rm as' h sf Q) (hsf : ∀ x ∈ sf, Safe Z EL vm h x) {Wd : Nat} (hf : rm.frames + 1 ≤ R.frames) (hlo : Wd + (maxL + 11) + rm.locals ≤ R.locals) (hce : cells + rm.cells ≤ R.cells) (hsl : slots + rm.slots ≤ R.slots)
    {g : JFrame} (hg : g.method = m) (hsize : g.locals.size = c.maxLocals) {a : Addr} {argsL rest : List Value} (hlen : ∀ sig, parseMethodDescriptor y.desc = some sig → argsL.length = sig.parameters.length) (hstack : g.stack = argsL.reverse ++ .ref a :: rest) (has : (.ref a :: argsL).toArray = as') (hW : 2 * g.monitorRoom + (rest.map fun v => v.category).sum ≤ Wd)
    (hdg : decode c.code g.pc = .ok (.invokespecial index, 3)) :
    ∃ (v : Option Value) (so : List Addr) (vm' : Vm) (T' : State) (h' : Heap), Wk Z a0 EL own p l e R s m args below meth c vm' T' h' (cells + rm.cells) (slots + rm.slots) ∧ CHr Z EL vm h vm' h' ∧ Q v h' so ∧ (∀ x ∈ so, Safe Z EL vm' h' x) ∧
      ∀ target, Steps p.tables e below (T'.setTop { g with pc := g.pc + 3, stack := v.toList ++ rest }) target → Steps p.tables e below (T.setTop g) target := by
  obtain ⟨locs, k1, X, eT, hS, hk, hZ, ho, hEW, hC, N, O'⟩ := W
  subst eT
  obtain ⟨v, vm1, B, -, X', h2, hg2, ⟨L, so, hQ, hL, O2, e1, e2, e3, hC', hso⟩, st⟩ := X.specialBackS hx hy1 ho (mv (s := s.setVm vm) hZ w1) (mv (s := s.setVm vm) hZ w2) (mv (s := s.setVm vm) hZ w4) hy (own_backS O' hM hZ w4 w3 hf hlo hEW hC.1 hsf) hg hsize (Steps.refl _) hlen hstack hW hdg (fun _ _ => ⟨has, rfl, hce, hsl⟩)
  exact ⟨v, so, _, B.U, _, own_mkB X' h2 hg2 hS hk hZ ho hEW hC N hL O2 e1 e2 e3 hC', hC', hQ, hso, fun _ q => st.trans q⟩
theorem own_virtual (W : Wk Z a0 EL own p l e R s m args below meth c vm T h cells slots) (hx : p.tables.exec = Jvm.exec) {index : Nat} {C : String} {y z : MethodName} {bytes : ByteArray} {maxL : Nat} {ret : Option FieldType} {rm : Room} {as' : Array Value} {sf : List Addr} {Q : Option Value → Heap → List Addr → Prop}
    (w1 : (Cond.methodLink own index y).before a0 Z = true) (w2 : (Cond.declares y).before a0 Z = true) (w5 : (Cond.selects C y z).before a0 Z = true) (w6 : (Cond.instanceMethod z).before a0 Z = true) (w3 : (Cond.initialized z.cls).before a0 Z = true) (w4 : (Cond.code z bytes maxL ret).before a0 Z = true) (hy : y.cls ≠ "java/lang/invoke/MethodHandle" ∧ y.cls ≠ "java/lang/invoke/VarHandle") (hnf : NotFace (s.setVm vm) y)
    {a : Addr} (E : Exa Z h a C)
    (hM : Ct l Z a0 EL z bytes maxL ret [] rm as' h sf Q) (hsf : ∀ x ∈ sf, Safe Z EL vm h x) {Wd : Nat} (hf : rm.frames + 1 ≤ R.frames) (hlo : Wd + (maxL + 11) + rm.locals ≤ R.locals) (hce : cells + rm.cells ≤ R.cells) (hsl : slots + rm.slots ≤ R.slots)
    {g : JFrame} (hg : g.method = m) (hsize : g.locals.size = c.maxLocals) {argsL rest : List Value} (hlen : ∀ sig, parseMethodDescriptor y.desc = some sig → argsL.length = sig.parameters.length) (hstack : g.stack = argsL.reverse ++ .ref a :: rest) (has : (.ref a :: argsL).toArray = as') (hW : 2 * g.monitorRoom + (rest.map fun v => v.category).sum ≤ Wd)
    (hdg : decode c.code g.pc = .ok (.invokevirtual index, 3)) :
    ∃ (v : Option Value) (so : List Addr) (vm' : Vm) (T' : State) (h' : Heap), Wk Z a0 EL own p l e R s m args below meth c vm' T' h' (cells + rm.cells) (slots + rm.slots) ∧ CHr Z EL vm h vm' h' ∧ Q v h' so ∧ (∀ x ∈ so, Safe Z EL vm' h' x) ∧
      ∀ target, Steps p.tables e below (T'.setTop { g with pc := g.pc + 3, stack := v.toList ++ rest }) target → Steps p.tables e below (T.setTop g) target := by
  obtain ⟨locs, k1, X, eT, hS, hk, hZ, ho, hEW, hC, N, O'⟩ := W
  obtain ⟨cB, kB, q1, q2, q3⟩ := isOf (s := s.setVm vm) hZ eT E
  subst eT
  obtain ⟨v, vm1, B, -, X', h2, hg2, ⟨L, so, hQ, hL, O2, e1, e2, e3, hC', hso⟩, st⟩ := X.virtualBackS hx ho (mv (s := s.setVm vm) hZ w1) (mv (s := s.setVm vm) hZ w2) hnf (mv (s := s.setVm vm) hZ w5) (mv (s := s.setVm vm) hZ w6) hy (own_backS O' hM hZ w4 w3 hf hlo hEW hC.1 hsf) q1 q3 hg hsize (Steps.refl _) hlen hstack hW hdg (fun _ _ => ⟨has, rfl, hce, hsl⟩)
  exact ⟨v, so, _, B.U, _, own_mkB X' h2 hg2 hS hk hZ ho hEW hC N hL O2 e1 e2 e3 hC', hC', hQ, hso, fun _ q => st.trans q⟩
/-- that the class of a method that its own class selects is no interface -/
theorem own_nf (W : Wk Z a0 EL own p l e R s m args below meth c vm T h cells slots) {C : String} {y : MethodName} (w : (Cond.selects C y y).before a0 Z = true) : NotFace (s.setVm vm) y := by
  obtain ⟨locs, k1, X, eT, hS, hk, hZ, ho, hEW, hC, N, O'⟩ := W
  exact notFace_of_selects (args := #[]) (mv (s := s.setVm vm) hZ w)
/-- a callee of the library that leaves the tables, as a Back -/
theorem own_mkK {B : Pt} {L locs : List Loc} {k : Nat} {kc ks : Nat} {ws : List Addr} (X : Stand p l e R (s.setVm vm) m args below meth c B.U B.locs B.cells B.slots) (hS : s.Since vm k) (hk : k ≤ h.size) (hZ : Z.Warmed39 vm) (ho : vm.findClass own = some m.cls) (hEW : EW Z a0 EL) (hC : CHr Z EL s.vm s.heap vm h) (N : Fr Z.heap.size locs) (O' : Ext Z.heap h)
    (hL : Fr Z.heap.size L) (K : Keep h B.U.heap ws) (hs : ∀ x ∈ ws, Safe Z EL vm h x) (hn : ∀ x ∈ ws, Z.heap.size ≤ x) (e1 : B.locs = locs ++ L) (e2 : B.cells = kc) (e3 : B.slots = ks) :
    Wk Z a0 EL own p l e R s m args below meth c vm B.U B.U.heap kc ks := by
  subst e2 e3
  exact ⟨B.locs, k, X, rfl, hS, Nat.le_trans hk K.1, hZ, ho, hEW, hC.trans (CHr.keep K hs hC.1), by rw [e1]; exact N.app hL, own_xk O' K hn⟩
/-- an instance method that the library pays by a Back -/
theorem own_virtB (W : Wk Z a0 EL own p l e R s m args below meth c vm T h cells slots) (hx : p.tables.exec = Jvm.exec) {index : Nat} {C : String} {y z : MethodName} {kc ks : Nat} {as' : Array Value} {ws : List Addr} {Q : Option Value → Heap → List Loc → Prop}
    (w1 : (Cond.methodLink own index y).before a0 Z = true) (w2 : (Cond.declares y).before a0 Z = true) (w5 : (Cond.selects C y z).before a0 Z = true) (w6 : (Cond.instanceMethod z).before a0 Z = true) (hy : y.cls ≠ "java/lang/invoke/MethodHandle" ∧ y.cls ≠ "java/lang/invoke/VarHandle") (hnf : NotFace (s.setVm vm) y)
    {a : Addr} (E : Exa Z h a C) {Wd : Nat}
    (hK : ∀ s' : State, Z.Warmed39 s'.vm → Back l R p e below s' args z 3 Wd (fun P a => a = as' ∧ P.U.heap = h ∧ P.cells + kc ≤ R.cells ∧ P.slots + ks ≤ R.slots) (fun P _ v B => ∃ L, Q v B.U.heap L ∧ B.locs = P.locs ++ L ∧ B.cells = P.cells + kc ∧ B.slots = P.slots + ks))
    (hQ : ∀ v h' L, Q v h' L → Fr Z.heap.size L ∧ Keep h h' ws) (hs : ∀ x ∈ ws, Safe Z EL vm h x) (hn : ∀ x ∈ ws, Z.heap.size ≤ x) (hce : cells + kc ≤ R.cells) (hsl : slots + ks ≤ R.slots)
    {g : JFrame} (hg : g.method = m) (hsize : g.locals.size = c.maxLocals) {argsL rest : List Value} (hlen : ∀ sig, parseMethodDescriptor y.desc = some sig → argsL.length = sig.parameters.length) (hstack : g.stack = argsL.reverse ++ .ref a :: rest) (has : (.ref a :: argsL).toArray = as') (hW : 2 * g.monitorRoom + (rest.map fun v => v.category).sum ≤ Wd)
    (hdg : decode c.code g.pc = .ok (.invokevirtual index, 3)) :
    ∃ (v : Option Value) (T' : State) (h' : Heap) (L : List Loc), Wk Z a0 EL own p l e R s m args below meth c vm T' h' (cells + kc) (slots + ks) ∧ Q v h' L ∧
      ∀ target, Steps p.tables e below (T'.setTop { g with pc := g.pc + 3, stack := v.toList ++ rest }) target → Steps p.tables e below (T.setTop g) target := by
  obtain ⟨locs, k1, X, eT, hS, hk, hZ, ho, hEW, hC, N, O'⟩ := W
  obtain ⟨cB, kB, q1, q2, q3⟩ := isOf (s := s.setVm vm) hZ eT E
  obtain ⟨v, vm1, B, -, X', ⟨L, hq, e1, e2, e3⟩, st⟩ := X.virtualBack hx ho (mv (s := s.setVm vm) hZ w1) (mv (s := s.setVm vm) hZ w2) hnf (mv (s := s.setVm vm) hZ w5) (mv (s := s.setVm vm) hZ w6) hy (hK _ hZ) q1 q3 hg hsize (Steps.refl _) hlen hstack hW hdg (fun _ _ => ⟨has, eT, hce, hsl⟩)
  obtain ⟨hL, K⟩ := hQ _ _ _ hq
  exact ⟨v, B.U, _, L, own_mkK X' hS hk hZ ho hEW hC N O' hL K hs hn e1 e2 e3, hq, fun _ q => st.trans q⟩
/-- a constructor that the library pays by a Back -/
theorem own_specB (W : Wk Z a0 EL own p l e R s m args below meth c vm T h cells slots) (hx : p.tables.exec = Jvm.exec) {index : Nat} {y : MethodName} {bytes : ByteArray} {maxL kc ks : Nat} {as' : Array Value} {ws : List Addr} {Q : Option Value → Heap → List Loc → Prop} (hy1 : y.name = "<init>")
    (w1 : (Cond.methodLink own index y).before a0 Z = true) (w2 : (Cond.instanceMethod y).before a0 Z = true) (w4 : (Cond.code y bytes maxL none).before a0 Z = true) (hy : y.cls ≠ "java/lang/invoke/MethodHandle" ∧ y.cls ≠ "java/lang/invoke/VarHandle") {Wd : Nat}
    (hK : ∀ s' : State, Z.Warmed39 s'.vm → Back l R p e below s' args y 3 Wd (fun P a => a = as' ∧ P.U.heap = h ∧ P.cells + kc ≤ R.cells ∧ P.slots + ks ≤ R.slots) (fun P _ v B => ∃ L, Q v B.U.heap L ∧ B.locs = P.locs ++ L ∧ B.cells = P.cells + kc ∧ B.slots = P.slots + ks))
    (hQ : ∀ v h' L, Q v h' L → Fr Z.heap.size L ∧ Keep h h' ws) (hs : ∀ x ∈ ws, Safe Z EL vm h x) (hn : ∀ x ∈ ws, Z.heap.size ≤ x) (hce : cells + kc ≤ R.cells) (hsl : slots + ks ≤ R.slots)
    {g : JFrame} (hg : g.method = m) (hsize : g.locals.size = c.maxLocals) {a : Addr} {argsL rest : List Value} (hlen : ∀ sig, parseMethodDescriptor y.desc = some sig → argsL.length = sig.parameters.length) (hstack : g.stack = argsL.reverse ++ .ref a :: rest) (has : (.ref a :: argsL).toArray = as') (hW : 2 * g.monitorRoom + (rest.map fun v => v.category).sum ≤ Wd)
    (hdg : decode c.code g.pc = .ok (.invokespecial index, 3)) :
    ∃ (v : Option Value) (T' : State) (h' : Heap) (L : List Loc), Wk Z a0 EL own p l e R s m args below meth c vm T' h' (cells + kc) (slots + ks) ∧ Q v h' L ∧
      ∀ target, Steps p.tables e below (T'.setTop { g with pc := g.pc + 3, stack := v.toList ++ rest }) target → Steps p.tables e below (T.setTop g) target := by
  obtain ⟨locs, k1, X, eT, hS, hk, hZ, ho, hEW, hC, N, O'⟩ := W
  obtain ⟨v, vm1, B, -, X', ⟨L, hq, e1, e2, e3⟩, st⟩ := X.specialBack hx hy1 ho (mv (s := s.setVm vm) hZ w1) (mv (s := s.setVm vm) hZ w2) (mv (s := s.setVm vm) hZ w4) hy (hK _ hZ) hg hsize (Steps.refl _) hlen hstack hW hdg (fun _ _ => ⟨has, eT, hce, hsl⟩)
  obtain ⟨hL, K⟩ := hQ _ _ _ hq
  exact ⟨v, B.U, _, L, own_mkK X' hS hk hZ ho hEW hC N O' hL K hs hn e1 e2 e3, hq, fun _ q => st.trans q⟩
/-- System.arraycopy between two primitive arrays -/
theorem own_cp (W : Wk Z a0 EL own p l e R s m args below meth c vm T h cells slots) (hx : p.tables.exec = Jvm.exec) {index : Nat} (w1 : (Cond.methodLink own index Jvm.Stand.acN).before a0 Z = true) (w2 : (Cond.native Jvm.Stand.acN).before a0 Z = true) (w3 : (Cond.static Jvm.Stand.acN).before a0 Z = true) (w4 : (Cond.initialized "java/lang/System").before a0 Z = true)
    {a b : Addr} {k k' : ClassId} {ty : FieldType} {z z' sp dp nn : Int32} {vs vd us : List Value} {dv dd : Value} (A : Arv Z h a k ty z vs dv) (B : Arv Z h b k' ty z' vd dd) (hty : refKind ty = false) (Sf : Safe Z EL vm h b)
    (h1 : ¬ sp < 0) (h2 : ¬ dp < 0) (h3 : ¬ nn < 0) (h4 : sp.toNatClampNeg + nn.toNatClampNeg ≤ z.toNatClampNeg) (h5 : dp.toNatClampNeg + nn.toNatClampNeg ≤ z'.toNatClampNeg)
    (hus : us = (List.range nn.toNatClampNeg).map fun i => vs.getD (sp.toNatClampNeg + i) dv) (hl : dp.toNatClampNeg + nn.toNatClampNeg ≤ vd.length) (ge : Z.heap.size ≤ b)
    {g : JFrame} (hg : g.method = m) (hsize : g.locals.size = c.maxLocals) {rest : List Value} (hs : g.stack = .int nn :: .int dp :: .ref b :: .int sp :: .ref a :: rest) (hd : decode c.code g.pc = .ok (.invokestatic index, 3))
    (hf : 1 ≤ R.frames) {Wd : Nat} (hW : 2 * g.monitorRoom + (rest.map fun v => v.category).sum ≤ Wd) (hlo : Wd + (nativeFrameWords "java/lang/System" "arraycopy" 5 + 11) ≤ R.locals) :
    ∃ (T' : State) (h' : Heap), Wk Z a0 EL own p l e R s m args below meth c vm T' h' cells slots ∧ Keep h h' [b] ∧ Arv Z h' b k' ty z' (vd.take dp.toNatClampNeg ++ us ++ vd.drop (dp.toNatClampNeg + nn.toNatClampNeg)) dd ∧
      ∀ target, Steps p.tables e below (T'.setTop { g with pc := g.pc + 3, stack := rest }) target → Steps p.tables e below (T.setTop g) target := by
  obtain ⟨locs, k1, X, eT, hS, hk, hZ, ho, hEW, hC, N, O'⟩ := W
  obtain ⟨T', h', L, X', e', N', K, V, st⟩ := cpA X hx hZ ho w1 w2 w3 w4 eT A B (Or.inl ⟨rfl, hty⟩) h1 h2 h3 h4 h5 hus hl N ge hg hsize hs hd hf hW hlo
  exact ⟨T', h', ⟨L, k1, X', e', hS, Nat.le_trans hk K.1, hZ, ho, hEW, hC.trans (CHr.keep K (allS Sf all0) hC.1), N', own_xk O' K (allS ge all0)⟩, K, V, st⟩
theorem own_cat {v : Value} (h : v.isRef = true) : v.category = 1 := by rcases ref_cases h with rfl | ⟨_, rfl⟩ <;> rfl
theorem own_nrR {v : Value} {t : FieldType} (h : v.isRef = true) (ht : t.isReference = true) : narrow t v = v := by rcases ref_cases h with rfl | ⟨_, rfl⟩ <;> cases t <;> first | rfl | cases ht
theorem own_ftR {v : Value} {t : FieldType} (h : v.isRef = true) (ht : t.isReference = true) : fits t v = true := by rcases ref_cases h with rfl | ⟨_, rfl⟩ <;> cases t <;> first | rfl | cases ht
theorem own_up {x : Int32} (h : ¬ x < 0 ∧ ¬ (255 : Int32) < x) : ¬ x < 0 ∧ ¬ (65535 : Int32) < x := ⟨h.1, fun q => h.2 (by rw [Int32.lt_iff_toInt_lt] at q ⊢; have e1 : (65535 : Int32).toInt = 65535 := rfl; have e2 : (255 : Int32).toInt = 255 := rfl; omega)⟩
theorem own_retV (W : Wk Z a0 EL own p l e R s m args below meth c vm T h cells slots) (hx : p.tables.exec = Jvm.exec) {pc : Nat} {Ls : Array Slot} (hret : meth.sig.returnType = none) (hd : decode c.code pc = .ok (.return_, 1)) :
    ∀ fs : List Frame, (∀ (f : JFrame) (acts : List Action), f.method = m → f.locked = none → f.entered = [] → (doReturn e (T.setTop f) acts none).1 = T.setFrames fs) → Steps p.tables e below (T.setTop (mkF m pc Ls [])) (T.setFrames fs) := by
  obtain ⟨locs, k1, X, -⟩ := W
  exact fun fs hr => X.returnOut hx hret hd hr
theorem own_retI (W : Wk Z a0 EL own p l e R s m args below meth c vm T h cells slots) (hx : p.tables.exec = Jvm.exec) {pc : Nat} {Ls : Array Slot} {z : Int32} {rest : List Value} {t : FieldType} (hret : meth.sig.returnType = some t) (ht : t = .int ∨ t = .boolean ∨ t = .byte ∨ t = .char ∨ t = .short) (hn : narrow t (.int z) = .int z) (hd : decode c.code pc = .ok (.ireturn, 1)) :
    ∀ fs : List Frame, (∀ (f : JFrame) (acts : List Action), f.method = m → f.locked = none → f.entered = [] → (doReturn e (T.setTop f) acts (some (.int z))).1 = T.setFrames fs) → Steps p.tables e below (T.setTop (mkF m pc Ls (.int z :: rest))) (T.setFrames fs) := by
  obtain ⟨locs, k1, X, -⟩ := W
  exact fun fs hr => retOut X hx hret hn (Or.inl ⟨rfl, ht, z, rfl⟩) hd hr
theorem own_retA (W : Wk Z a0 EL own p l e R s m args below meth c vm T h cells slots) (hx : p.tables.exec = Jvm.exec) {pc : Nat} {Ls : Array Slot} {w : Value} {rest : List Value} {t : FieldType} (hret : meth.sig.returnType = some t) (ht : t.isReference = true) (hw : w.isRef = true) (hn : narrow t w = w) (hd : decode c.code pc = .ok (.areturn, 1)) :
    ∀ fs : List Frame, (∀ (f : JFrame) (acts : List Action), f.method = m → f.locked = none → f.entered = [] → (doReturn e (T.setTop f) acts (some w)).1 = T.setFrames fs) → Steps p.tables e below (T.setTop (mkF m pc Ls (w :: rest))) (T.setFrames fs) := by
  obtain ⟨locs, k1, X, -⟩ := W
  exact fun fs hr => retOut X hx hret hn (Or.inr (Or.inr (Or.inr (Or.inr ⟨rfl, ht, hw⟩)))) hd hr
theorem own_enter {y : MethodName} {bytes : ByteArray} {maxL : Nat} {ret : Option FieldType} {ws : List Jvm.Cond} {rm : Room} {as' : Array Value} {sf : List Addr} {Q : Option Value → Heap → List Addr → Prop} {F0 : MethodId → JFrame} (hp : plainFor y = true) (hEW : EW Z a0 EL) (ef : ∀ m, entryFrame m as' maxL = F0 m)
    (body : ∀ (p : Program) (e : Env) (s : State) (m : MethodId) (below : List Frame) (meth : Method) (c : Code) (s₁ : State) (G : State → JFrame → Prop), p.tables.exec = Jvm.exec → c.code = bytes → c.maxLocals = maxL → meth.sig.returnType = ret → meth.name = y.name →
      Wk Z a0 EL y.cls p l e rm s m as' below meth c s.vm s₁ h 0 0 → (∀ x ∈ sf, Safe Z EL s.vm h x) →
      (∀ {T T' : State} {g g' : JFrame}, (∀ target, Steps p.tables e below (T'.setTop g') target → Steps p.tables e below (T.setTop g) target) → G T' g' → G T g) →
      (∀ {v : Option Value} {so : List Addr} {vm : Vm} {T : State} {h' : Heap} {cells slots : Nat} {g : JFrame}, Wk Z a0 EL y.cls p l e rm s m as' below meth c vm T h' cells slots → cells ≤ rm.cells → slots ≤ rm.slots → Q v h' so → (∀ x ∈ so, Safe Z EL vm h' x) → (ret = none → v = none) →
        (∀ fs : List Frame, (∀ (f : JFrame) (acts : List Action), f.method = m → f.locked = none → f.entered = [] → (doReturn e (T.setTop f) acts v).1 = T.setFrames fs) → Steps p.tables e below (T.setTop g) (T.setFrames fs)) → G T g) →
      G s₁ (F0 m)) : Ct l Z a0 EL y bytes maxL ret ws rm as' h sf Q := by
  intro hE
  refine MetFree.of_bodySF hp hisR ?_
  intro p e s m args below meth c s₁ Bd hml0 hP hK
  obtain ⟨rfl, hZ, hh, hC, hS⟩ := hP
  have X0 : Stand p l e rm s m args below meth c s₁ [] 0 0 := Stand.of_body Bd
  have e0 : s₁.heap = h := by rw [← hh, Bd.state]; rfl
  have W0 : Wk Z a0 EL y.cls p l e rm s m args below meth c s.vm s₁ h 0 0 :=
    ⟨[], h.size, X0, e0, (State.WarmedH.refl s).since _, Nat.le_refl _, hZ, findClass_of_methodNamed Bd.named, hEW, by rw [hh]; exact CHr.refl hC, Fr.nil _, hE⟩
  have key := body p e s m below meth c s₁
    (fun T g => ∃ (v : Option Value) (so : List Addr) (vm : Vm) (T' : State) (h' : Heap) (cells slots : Nat), Wk Z a0 EL y.cls p l e rm s m args below meth c vm T' h' cells slots ∧ cells ≤ rm.cells ∧ slots ≤ rm.slots ∧ Q v h' so ∧ (∀ x ∈ so, Safe Z EL vm h' x) ∧ (ret = none → v = none) ∧
      ∀ fs : List Frame, (∀ (f : JFrame) (acts : List Action), f.method = m → f.locked = none → f.entered = [] → (doReturn e (T'.setTop f) acts v).1 = T'.setFrames fs) → Steps p.tables e below (T.setTop g) (T'.setFrames fs))
    Bd.exec Bd.bytes hml0 Bd.returns (name_of_methodNamed Bd.named Bd.method).1 W0 hS
    (fun st ⟨v, so, vm1, T', h', k1, k2, q1, q2, q3, q4, q7, q5, q6⟩ => ⟨v, so, vm1, T', h', k1, k2, q1, q2, q3, q4, q7, q5, fun fs hr => st _ (q6 fs hr)⟩)
    (fun q1 q2 q3 q4 q7 q5 q6 => ⟨_, _, _, _, _, _, _, q1, q2, q3, q4, q7, q5, q6⟩)
  obtain ⟨v, so, vm, T', h', k1, k2, ⟨locs, k, X, rfl, hS', hk, hZ', ho, -, hC', N, O⟩, q2, q3, q4, q7, q5, q6⟩ := key
  obtain ⟨fs, hr, hrun, hended, g1, g2, g3, g4⟩ := X.leaveW hS' hk (v := v) (fun q => q5 (Bd.returns ▸ q))
  have hCf := CHv.at X hZ' hEW hC'.1
  have hSf := fun x hx => own_safeAt X hZ' hEW hC'.1 (q7 x hx)
  exact ⟨_, _, castTop (ef m) (q6 fs hr), hrun, hended, v, locs, so, rfl, q4, N, O, hC'.trans hCf, hSf, g1, g2, g3, g4.mono q2 q3⟩
end OwnKit
section OwnKitX
variable {Z : State} {a0 : Array Value} {EL : List (String × Nat)} {own : String} {p : Program} {l : Launch} {e : Env} {R : Room} {s : State} {m : MethodId} {args : Array Value} {below : List Frame} {meth : Method} {c : Code} {vm : Vm} {T : State} {h : Heap} {cells slots : Nat}
theorem own_decl {y : MethodName} {bytes : ByteArray} {maxL : Nat} {ret : Option FieldType} (wi : (Cond.instanceMethod y).before a0 Z = true) (wc : (Cond.code y bytes maxL ret).before a0 Z = true) : (Cond.declares y).before a0 Z = true := by
  obtain ⟨m, meth, hn, hm, hs, -⟩ := Cond.instanceMethod_spec wi
  obtain ⟨meth', c, hm', -, -, -, -, -, -, hsig⟩ := Cond.code_spec hn wc
  cases hm.symm.trans hm'
  simp [Cond.before, Cond.holds, Cond.value, hn, hm, hs, hsig]
theorem own_nf2 (W : Wk Z a0 EL own p l e R s m args below meth c vm T h cells slots) {C : String} {y y' : MethodName} (w : (Cond.selects C y' y').before a0 Z = true) (hy : y.cls = y'.cls) : NotFace (s.setVm vm) y := fun r0 h0 => by
  obtain ⟨locs, k1, X, eT, hS, hk, hZ, ho, hEW, hC, N, O'⟩ := W
  obtain ⟨_, _, m2, _, _, q3, _, kP, hkP, hkPi⟩ := Cond.selects_spec (mv (s := s.setVm vm) (args := #[]) hZ w)
  have e1 := findClass_of_methodNamed h0
  have e2 := findClass_of_methodNamed q3
  rw [hy] at e1
  exact ⟨kP, by rw [Option.some.inj (e1.symm.trans e2)]; exact hkP, hkPi⟩
theorem own_sameM {C : String} {y y' : MethodName} (wd : (Cond.declares y).before a0 Z = true) (ws : (Cond.selects C y' y').before a0 Z = true) (hy : y.cls = y'.cls) (hp : y.cls ≠ "java/lang/invoke/MethodHandle" ∧ y.cls ≠ "java/lang/invoke/VarHandle") : (Cond.sameMethod y.cls y.cls y.name y.desc).before a0 Z = true := by
  obtain ⟨m0, meth, hn, -⟩ := Cond.declares_spec wd
  have hf := State.methodFound?_of_named hn hp
  have e1 := findClass_of_methodNamed hn
  obtain ⟨_, _, m2, _, _, q3, _, kP, hkP, hkPi⟩ := Cond.selects_spec ws
  have e2 := findClass_of_methodNamed q3
  rw [← hy] at e2
  have e3 : m0.cls = m2.cls := Option.some.inj (e1.symm.trans e2)
  have hn' : Z.methodNamed? ⟨y.cls, y.name, y.desc⟩ = some m0 := hn
  rw [← e3] at hkP
  simp [Cond.before, Cond.holds, Cond.value, e1, hf, hn', hkP, hkPi]
theorem own_super (W : Wk Z a0 EL own p l e R s m args below meth c vm T h cells slots) (hx : p.tables.exec = Jvm.exec) {index : Nat} {K : String} {y : MethodName} {bytes : ByteArray} {maxL : Nat} {ret : Option FieldType} {rm : Room} {as' : Array Value} {sf : List Addr} {Q : Option Value → Heap → List Addr → Prop}
    (w1 : (Cond.methodLink own index y).before a0 Z = true) (w2 : (Cond.sameMethod y.cls y.cls y.name y.desc).before a0 Z = true) (w6 : (Cond.instanceMethod y).before a0 Z = true) (w7 : (Cond.superclass own y.cls).before a0 Z = true) (hn : y.name ≠ "<init>") (w3 : (Cond.initialized y.cls).before a0 Z = true) (w4 : (Cond.code y bytes maxL ret).before a0 Z = true)
    {a : Addr} (F : Ins Z h a K true)
    (hM : Ct l Z a0 EL y bytes maxL ret [] rm as' h sf Q) (hsf : ∀ x ∈ sf, Safe Z EL vm h x) {Wd : Nat} (hf : rm.frames + 1 ≤ R.frames) (hlo : Wd + (maxL + 11) + rm.locals ≤ R.locals) (hce : cells + rm.cells ≤ R.cells) (hsl : slots + rm.slots ≤ R.slots)
    {g : JFrame} (hg : g.method = m) (hsize : g.locals.size = c.maxLocals) {argsL rest : List Value} (hlen : ∀ sig, parseMethodDescriptor y.desc = some sig → argsL.length = sig.parameters.length) (hstack : g.stack = argsL.reverse ++ .ref a :: rest) (has : (.ref a :: argsL).toArray = as') (hW : 2 * g.monitorRoom + (rest.map fun v => v.category).sum ≤ Wd)
    (hdg : decode c.code g.pc = .ok (.invokespecial index, 3)) :
    ∃ (v : Option Value) (so : List Addr) (vm' : Vm) (T' : State) (h' : Heap), Wk Z a0 EL own p l e R s m args below meth c vm' T' h' (cells + rm.cells) (slots + rm.slots) ∧ CHr Z EL vm h vm' h' ∧ Q v h' so ∧ (∀ x ∈ so, Safe Z EL vm' h' x) ∧
      ∀ target, Steps p.tables e below (T'.setTop { g with pc := g.pc + 3, stack := v.toList ++ rest }) target → Steps p.tables e below (T.setTop g) target := by
  obtain ⟨locs, k1, X, eT, hS, hk, hZ, ho, hEW, hC, N, O'⟩ := W
  subst eT
  obtain ⟨v, vm1, B, -, X', h2, hg2, ⟨L, so, hQ, hL, O2, e1, e2, e3, hC', hso⟩, st⟩ := superBackS X hx hZ ho w1 w2 w6 w7 hn (own_backS O' hM hZ w4 w3 hf hlo hEW hC.1 hsf) rfl F hg hsize w4 hlen hstack hW hdg (fun _ _ => ⟨has, rfl, hce, hsl⟩)
  exact ⟨v, so, _, B.U, _, own_mkB X' h2 hg2 hS hk hZ ho hEW hC N hL O2 e1 e2 e3 hC', hC', hQ, hso, fun _ q => st.trans q⟩
theorem own_ldcF (W : Wk Z a0 EL own p l e R s m args below meth c vm T h cells slots) (hx : p.tables.exec = Jvm.exec) {index : Nat} {b : UInt32} (w : (Cond.constantFloat own index b).before a0 Z = true) {g : JFrame} (hg : g.method = m) (hd : decode c.code g.pc = .ok (.ldc index, 2)) :
    ∀ target, Steps p.tables e below (T.setTop { g with pc := g.pc + 2, stack := .float b :: g.stack }) target → Steps p.tables e below (T.setTop g) target := by
  obtain ⟨locs, k1, X, eT, hS, hk, hZ, ho, hEW, hC, N, O'⟩ := W
  exact X.ldcFloatC hx ho (mv (s := s.setVm vm) hZ w) hg hd
end OwnKitX
section OwnStr
variable {Z : State} {a0 : Array Value} {EL : List (String × Nat)} {own : String} {p : Program} {l : Launch} {e : Env} {R : Room} {s : State} {m : MethodId} {args : Array Value} {below : List Frame} {meth : Method} {c : Code} {vm : Vm} {T : State} {h : Heap} {cells slots : Nat}
/-- a String that spells cs, each sign 0 to 255 -/
def Str (Z : State) (h : Heap) (a : Addr) (cs : List Int32) : Prop := Exa Z h a "java/lang/String" ∧ Fld Z h a "java/lang/String" "coder" "B" (.int 0) ∧ (∀ c ∈ cs, ¬ c < 0 ∧ ¬ (255 : Int32) < c) ∧ ∃ (t : Addr) (kb : ClassId), Fld Z h a "java/lang/String" "value" "[B" (.ref t) ∧ Arv Z h t kb .byte (Int32.ofNat cs.length) ((cs.map fun c => c.toInt8.toInt32).map Value.int) (.int 0)
theorem Str.ext {h' : Heap} {a : Addr} {cs : List Int32} (S : Str Z h a cs) (X : Ext h h') : Str Z h' a cs := by
  obtain ⟨E, C, hp, t, kb, V, K⟩ := S; exact ⟨E.ext X, C.ext X, hp, t, kb, V.ext X, K.ext X⟩
theorem Str.lt {a : Addr} {cs : List Int32} (S : Str Z h a cs) : a < h.size := S.1.lt
theorem own_ups {cs : List Int32} (h : ∀ c ∈ cs, ¬ c < 0 ∧ ¬ (255 : Int32) < c) : ∀ c ∈ cs, ¬ c < 0 ∧ ¬ (65535 : Int32) < c := fun c hc => own_up (h c hc)
theorem own_strNew (W : Wk Z a0 EL own p l e R s m args below meth c vm T h cells slots) (hx : p.tables.exec = Jvm.exec) (hws : ∀ d ∈ StrChars.Road.words, d.before a0 Z = true) {index kI : Nat} {bytes : ByteArray} {maxL : Nat} (w1 : (Cond.methodLink own index ⟨"java/lang/String", "<init>", "([C)V"⟩).before a0 Z = true) (w2 : (Cond.instanceMethod ⟨"java/lang/String", "<init>", "([C)V"⟩).before a0 Z = true) (w4 : (Cond.code ⟨"java/lang/String", "<init>", "([C)V"⟩ bytes maxL none).before a0 Z = true) (wi : (Cond.instantiable "java/lang/String" kI).before a0 Z = true)
    {x b : Addr} {kC : ClassId} {cs : List Int32} {d v0 c0 : Value} {N : Int32} (E : Exa Z h x "java/lang/String") (V : Fld Z h x "java/lang/String" "value" "[B" v0) (C : Fld Z h x "java/lang/String" "coder" "B" c0) (K : Arv Z h b kC .char N (cs.map Value.int) d) (hN : N = Int32.ofNat cs.length) (cmp : ∃ z : Int32, Sta Z Z.heap "java/lang/String" "COMPACT_STRINGS" "Z" (.int z) ∧ ¬ z = 0)
    (l0 : 0 < cs.length) (l2 : cs.length ≤ 4000) (hp : ∀ c ∈ cs, ¬ c < 0 ∧ ¬ (255 : Int32) < c) (Sf : Safe Z EL vm h x) (hfr : Z.heap.size ≤ x) {Wd : Nat} (hf : 4 ≤ R.frames) (hlo : Wd + 65 ≤ R.locals) (hce : cells + 1 ≤ R.cells) (hsl : slots + cs.length ≤ R.slots)
    {g : JFrame} (hg : g.method = m) (hsize : g.locals.size = c.maxLocals) {rest : List Value} (hs : g.stack = .ref b :: .ref x :: rest) (hW : 2 * g.monitorRoom + (rest.map fun v => v.category).sum ≤ Wd) (hd : decode c.code g.pc = .ok (.invokespecial index, 3)) :
    ∃ (T' : State) (h' : Heap), Wk Z a0 EL own p l e R s m args below meth c vm T' h' (cells + 1) (slots + cs.length) ∧ Keep h h' [x] ∧ Str Z h' x cs ∧
      ∀ target, Steps p.tables e below (T'.setTop { g with pc := g.pc + 3, stack := rest }) target → Steps p.tables e below (T.setTop g) target := by
  obtain ⟨z, OS, hz⟩ := cmp
  obtain ⟨v, T', h', L, W', ⟨rfl, hL, hK, q1, q2, t, kb, -, -, -, q3, q4⟩, st⟩ := own_specB W hx (y := ⟨"java/lang/String", "<init>", "([C)V"⟩) (Q := fun v h' L => StrChars.Road.QV Z x N (cs.map fun c => c.toInt8.toInt32) h Z.heap.size v h' L) (kc := 1) (ks := cs.length) (ws := [x]) rfl w1 w2 w4 (by decide)
    (fun s' hZ' => StrChars.Road.backV hZ' hws wi hfr W.sz E V C K (OS.ext W.old) hz rfl hN l0 l2 hp rfl hf hlo)
    (fun v h' L q => ⟨q.2.1, q.2.2.1⟩) (allS Sf all0) (allS hfr all0) hce hsl hg hsize (a := x) (argsL := [.ref b]) (rest := rest) (lenOf (d := "([C)V") (ps := [.array .char]) (r := none) (by decide +kernel) rfl) hs rfl hW hd
  exact ⟨T', h', W', hK, ⟨q1, q2, hp, t, kb, q3, hN ▸ q4⟩, st⟩
theorem own_slen (W : Wk Z a0 EL own p l e R s m args below meth c vm T h cells slots) (hx : p.tables.exec = Jvm.exec) (hln : ∀ d ∈ StrChars.Road.wordsLen, d.before a0 Z = true) {index kI : Nat} (w1 : (Cond.methodLink own index ⟨"java/lang/String", "length", "()I"⟩).before a0 Z = true) (w2 : (Cond.declares ⟨"java/lang/String", "length", "()I"⟩).before a0 Z = true) (w5 : (Cond.selects "java/lang/String" ⟨"java/lang/String", "length", "()I"⟩ ⟨"java/lang/String", "length", "()I"⟩).before a0 Z = true) (w6 : (Cond.instanceMethod ⟨"java/lang/String", "length", "()I"⟩).before a0 Z = true) (wi : (Cond.instantiable "java/lang/String" kI).before a0 Z = true)
    {x : Addr} {cs : List Int32} (S : Str Z h x cs) (cmp : ∃ z : Int32, Sta Z Z.heap "java/lang/String" "COMPACT_STRINGS" "Z" (.int z) ∧ ¬ z = 0) (l2 : cs.length ≤ 4000) {Wd : Nat} (hf : 2 ≤ R.frames) (hlo : Wd + 25 ≤ R.locals) (hce : cells + 0 ≤ R.cells) (hsl : slots + 0 ≤ R.slots)
    {g : JFrame} (hg : g.method = m) (hsize : g.locals.size = c.maxLocals) {rest : List Value} (hs : g.stack = .ref x :: rest) (hW : 2 * g.monitorRoom + (rest.map fun v => v.category).sum ≤ Wd) (hd : decode c.code g.pc = .ok (.invokevirtual index, 3)) :
    ∃ T' : State, Wk Z a0 EL own p l e R s m args below meth c vm T' h cells slots ∧
      ∀ target, Steps p.tables e below (T'.setTop { g with pc := g.pc + 3, stack := .int (Int32.ofNat cs.length) :: rest }) target → Steps p.tables e below (T.setTop g) target := by
  obtain ⟨z, OS, hz⟩ := cmp
  obtain ⟨E, C, hp, t, kb, V, K⟩ := S
  obtain ⟨v, T', h', L, W', ⟨rfl, -, rfl⟩, st⟩ := own_virtB W hx (y := ⟨"java/lang/String", "length", "()I"⟩) (z := ⟨"java/lang/String", "length", "()I"⟩) (Q := fun v h' L => v = some (.int (Int32.ofNat cs.length)) ∧ L = [] ∧ h' = h) (kc := 0) (ks := 0) (ws := []) w1 w2 w5 w6 (by decide) (own_nf W w5) E
    (fun s' hZ' => StrChars.Road.lenW hZ' hln wi E V C K (StrChars.Road.codOf rfl (fun c hc => (hp c hc).2)) (own_ups hp) (OS.ext W.old) hz l2 hf hlo)
    (fun v h' L q => by obtain ⟨-, rfl, rfl⟩ := q; exact ⟨Fr.nil _, Keep.refl _ _⟩) all0 all0 hce hsl hg hsize (argsL := []) (rest := rest) (lenOf (d := "()I") (ps := []) (r := some .int) (by decide +kernel) rfl) hs rfl hW hd
  exact ⟨T', W', st⟩
theorem own_sch (W : Wk Z a0 EL own p l e R s m args below meth c vm T h cells slots) (hx : p.tables.exec = Jvm.exec) (hln : ∀ d ∈ StrChars.Road.wordsChN, d.before a0 Z = true) {index kI : Nat} (w1 : (Cond.methodLink own index ⟨"java/lang/String", "charAt", "(I)C"⟩).before a0 Z = true) (w2 : (Cond.declares ⟨"java/lang/String", "charAt", "(I)C"⟩).before a0 Z = true) (w5 : (Cond.selects "java/lang/String" ⟨"java/lang/String", "charAt", "(I)C"⟩ ⟨"java/lang/String", "charAt", "(I)C"⟩).before a0 Z = true) (w6 : (Cond.instanceMethod ⟨"java/lang/String", "charAt", "(I)C"⟩).before a0 Z = true) (wi : (Cond.instantiable "java/lang/String" kI).before a0 Z = true)
    {x : Addr} {cs : List Int32} (S : Str Z h x cs) (cmp : ∃ z : Int32, Sta Z Z.heap "java/lang/String" "COMPACT_STRINGS" "Z" (.int z) ∧ ¬ z = 0) (sfm : ∃ z : Value, Sta Z Z.heap "jdk/internal/util/Preconditions" "SIOOBE_FORMATTER" "Ljava/util/function/BiFunction;" z ∧ z.isRef = true) (l2 : cs.length ≤ 4000) {i : Nat} {j : Int32} (hi : i < cs.length) (hj : j = Int32.ofNat i) {Wd : Nat} (hf : 4 ≤ R.frames) (hlo : Wd + 53 ≤ R.locals) (hce : cells + 0 ≤ R.cells) (hsl : slots + 0 ≤ R.slots)
    {g : JFrame} (hg : g.method = m) (hsize : g.locals.size = c.maxLocals) {rest : List Value} (hs : g.stack = .int j :: .ref x :: rest) (hW : 2 * g.monitorRoom + (rest.map fun v => v.category).sum ≤ Wd) (hd : decode c.code g.pc = .ok (.invokevirtual index, 3)) :
    ∃ T' : State, Wk Z a0 EL own p l e R s m args below meth c vm T' h cells slots ∧
      ∀ target, Steps p.tables e below (T'.setTop { g with pc := g.pc + 3, stack := .int (cs.getD i 0) :: rest }) target → Steps p.tables e below (T.setTop g) target := by
  obtain ⟨z, OS, hz⟩ := cmp
  obtain ⟨fm, OF, hfm⟩ := sfm
  obtain ⟨E, C, hp, t, kb, V, K⟩ := S
  obtain ⟨v, T', h', L, W', ⟨rfl, -, rfl⟩, st⟩ := own_virtB W hx (y := ⟨"java/lang/String", "charAt", "(I)C"⟩) (z := ⟨"java/lang/String", "charAt", "(I)C"⟩) (Q := fun v h' L => v = some (.int (cs.getD i 0)) ∧ L = [] ∧ h' = h) (kc := 0) (ks := 0) (ws := []) w1 w2 w5 w6 (by decide) (own_nf W w5) E
    (fun s' hZ' => StrChars.Road.chN hZ' hln wi E V C K (StrChars.Road.codOf rfl (fun c hc => (hp c hc).2)) (own_ups hp) (OS.ext W.old) hz (OF.ext W.old) hfm l2 hi hj hf hlo)
    (fun v h' L q => by obtain ⟨-, rfl, rfl⟩ := q; exact ⟨Fr.nil _, Keep.refl _ _⟩) all0 all0 hce hsl hg hsize (argsL := [.int j]) (rest := rest) (lenOf (d := "(I)C") (ps := [.int]) (r := some .char) (by decide +kernel) rfl) hs rfl hW hd
  exact ⟨T', W', st⟩
theorem own_semp (W : Wk Z a0 EL own p l e R s m args below meth c vm T h cells slots) (hx : p.tables.exec = Jvm.exec) (hln : ∀ d ∈ StrChars.Road.wordsEmp, d.before a0 Z = true) {index kI : Nat} (w1 : (Cond.methodLink own index ⟨"java/lang/String", "isEmpty", "()Z"⟩).before a0 Z = true) (w2 : (Cond.declares ⟨"java/lang/String", "isEmpty", "()Z"⟩).before a0 Z = true) (w5 : (Cond.selects "java/lang/String" ⟨"java/lang/String", "isEmpty", "()Z"⟩ ⟨"java/lang/String", "isEmpty", "()Z"⟩).before a0 Z = true) (w6 : (Cond.instanceMethod ⟨"java/lang/String", "isEmpty", "()Z"⟩).before a0 Z = true) (wi : (Cond.instantiable "java/lang/String" kI).before a0 Z = true)
    {x : Addr} {cs : List Int32} (S : Str Z h x cs) (l2 : cs.length ≤ 4000) {Wd : Nat} (hf : 1 ≤ R.frames) (hlo : Wd + 12 ≤ R.locals) (hce : cells + 0 ≤ R.cells) (hsl : slots + 0 ≤ R.slots)
    {g : JFrame} (hg : g.method = m) (hsize : g.locals.size = c.maxLocals) {rest : List Value} (hs : g.stack = .ref x :: rest) (hW : 2 * g.monitorRoom + (rest.map fun v => v.category).sum ≤ Wd) (hd : decode c.code g.pc = .ok (.invokevirtual index, 3)) :
    ∃ T' : State, Wk Z a0 EL own p l e R s m args below meth c vm T' h cells slots ∧
      ∀ target, Steps p.tables e below (T'.setTop { g with pc := g.pc + 3, stack := .int (if cs.length = 0 then 1 else 0) :: rest }) target → Steps p.tables e below (T.setTop g) target := by
  obtain ⟨E, C, hp, t, kb, V, K⟩ := S
  obtain ⟨v, T', h', L, W', ⟨rfl, -, rfl⟩, st⟩ := own_virtB W hx (y := ⟨"java/lang/String", "isEmpty", "()Z"⟩) (z := ⟨"java/lang/String", "isEmpty", "()Z"⟩) (Q := fun v h' L => v = some (.int (if cs.length = 0 then 1 else 0)) ∧ L = [] ∧ h' = h) (kc := 0) (ks := 0) (ws := []) w1 w2 w5 w6 (by decide) (own_nf W w5) E
    (fun s' hZ' => StrChars.Road.empW hZ' hln wi E V C K (StrChars.Road.codOf rfl (fun c hc => (hp c hc).2)) (own_ups hp) l2 hf hlo)
    (fun v h' L q => by obtain ⟨-, rfl, rfl⟩ := q; exact ⟨Fr.nil _, Keep.refl _ _⟩) all0 all0 hce hsl hg hsize (argsL := []) (rest := rest) (lenOf (d := "()Z") (ps := []) (r := some .boolean) (by decide +kernel) rfl) hs rfl hW hd
  exact ⟨T', W', st⟩
theorem own_seq (W : Wk Z a0 EL own p l e R s m args below meth c vm T h cells slots) (hx : p.tables.exec = Jvm.exec) (hln : ∀ d ∈ StrChars.Road.wordsEq, d.before a0 Z = true) {index kI : Nat} (w1 : (Cond.methodLink own index ⟨"java/lang/String", "equals", "(Ljava/lang/Object;)Z"⟩).before a0 Z = true) (w2 : (Cond.declares ⟨"java/lang/String", "equals", "(Ljava/lang/Object;)Z"⟩).before a0 Z = true) (w5 : (Cond.selects "java/lang/String" ⟨"java/lang/String", "equals", "(Ljava/lang/Object;)Z"⟩ ⟨"java/lang/String", "equals", "(Ljava/lang/Object;)Z"⟩).before a0 Z = true) (w6 : (Cond.instanceMethod ⟨"java/lang/String", "equals", "(Ljava/lang/Object;)Z"⟩).before a0 Z = true) (wi : (Cond.instantiable "java/lang/String" kI).before a0 Z = true)
    {x y : Addr} {cs ds : List Int32} (S : Str Z h x cs) (S' : Str Z h y ds) (cmp : ∃ z : Int32, Sta Z Z.heap "java/lang/String" "COMPACT_STRINGS" "Z" (.int z) ∧ ¬ z = 0) (l2 : cs.length ≤ 4000) (l3 : ds.length ≤ 4000) {Wd : Nat} (hf : 2 ≤ R.frames) (hlo : Wd + 28 ≤ R.locals) (hce : cells + 0 ≤ R.cells) (hsl : slots + 0 ≤ R.slots)
    {g : JFrame} (hg : g.method = m) (hsize : g.locals.size = c.maxLocals) {rest : List Value} (hs : g.stack = .ref y :: .ref x :: rest) (hW : 2 * g.monitorRoom + (rest.map fun v => v.category).sum ≤ Wd) (hd : decode c.code g.pc = .ok (.invokevirtual index, 3)) :
    ∃ (b : Int32) (T' : State), ((b = 1 ∧ cs = ds) ∨ (b = 0 ∧ ¬ cs = ds)) ∧ Wk Z a0 EL own p l e R s m args below meth c vm T' h cells slots ∧
      ∀ target, Steps p.tables e below (T'.setTop { g with pc := g.pc + 3, stack := .int b :: rest }) target → Steps p.tables e below (T.setTop g) target := by
  obtain ⟨z, OS, hz⟩ := cmp
  obtain ⟨E, C, hp, t, kb, V, K⟩ := S
  obtain ⟨E', C', hp', t', kb', V', K'⟩ := S'
  obtain ⟨v, T', h', L, W', ⟨hv, -, rfl⟩, st⟩ := own_virtB W hx (y := ⟨"java/lang/String", "equals", "(Ljava/lang/Object;)Z"⟩) (z := ⟨"java/lang/String", "equals", "(Ljava/lang/Object;)Z"⟩) (Q := fun v h' L => ((v = some (.int 1) ∧ cs = ds) ∨ (v = some (.int 0) ∧ ¬ cs = ds)) ∧ L = [] ∧ h' = h) (kc := 0) (ks := 0) (ws := []) w1 w2 w5 w6 (by decide) (own_nf W w5) E
    (fun s' hZ' => StrChars.Road.eqW hZ' hln wi E V C K (StrChars.Road.codOf rfl (fun c hc => (hp c hc).2)) (own_ups hp) l2 E' V' C' K' (StrChars.Road.codOf rfl (fun c hc => (hp' c hc).2)) (own_ups hp') l3 (OS.ext W.old) hz hf hlo)
    (fun v h' L q => by obtain ⟨-, rfl, rfl⟩ := q; exact ⟨Fr.nil _, Keep.refl _ _⟩) all0 all0 hce hsl hg hsize (argsL := [.ref y]) (rest := rest) (lenOf (d := "(Ljava/lang/Object;)Z") (ps := [.object "java/lang/Object"]) (r := some .boolean) (by decide +kernel) rfl) hs rfl hW hd
  rcases hv with ⟨rfl, q⟩ | ⟨rfl, q⟩
  · exact ⟨1, T', Or.inl ⟨rfl, q⟩, W', st⟩
  · exact ⟨0, T', Or.inr ⟨rfl, q⟩, W', st⟩
end OwnStr
theorem own_al0 {α : Type} {P : α → Prop} : ∀ x ∈ ([] : List α), P x := fun _ q => nomatch q
theorem own_alS {α : Type} {P : α → Prop} {y : α} {L : List α} (q : P y) (r : ∀ x ∈ L, P x) : ∀ x ∈ y :: L, P x := fun x z => (List.mem_cons.mp z).elim (fun u => u ▸ q) (r x)
theorem own_c255 (x : Int32) : ¬ ((x &&& (255 : Int32)).toUInt32.toUInt16.toUInt32.toInt32) < 0 ∧ ¬ (255 : Int32) < ((x &&& (255 : Int32)).toUInt32.toUInt16.toUInt32.toInt32) := by
  have t : ∀ k : Fin 256, ¬ ((Int32.ofNat k.val).toUInt32.toUInt16.toUInt32.toInt32) < 0 ∧ ¬ (255 : Int32) < ((Int32.ofNat k.val).toUInt32.toUInt16.toUInt32.toInt32) := by decide +kernel
  have h : (x &&& 255).toBitVec.toNat < 256 := by
    simp only [Int32.toBitVec_and, BitVec.toNat_and]
    exact Nat.lt_succ_of_le Nat.and_le_right
  have e : (x &&& 255) = Int32.ofNat (x &&& 255).toBitVec.toNat := by
    apply Int32.toBitVec_inj.mp
    show _ = BitVec.ofNat 32 _
    rw [BitVec.ofNat_toNat]; simp
  rw [e]
  exact t ⟨_, h⟩
theorem own_bz {b : Int32} {P Q : Prop} (h : (b = 1 ∧ P) ∨ (b = 0 ∧ Q)) : narrow .boolean (.int b) = .int b ∧ fits .boolean (.int b) = true := by rcases h with ⟨rfl, -⟩ | ⟨rfl, -⟩ <;> exact ⟨rfl, by decide⟩
theorem own_oft {n : Nat} (h : n < 2147483648) : (Int32.ofNat n).toInt = n := Int32.toInt_ofNat_small h
theorem own_ltn {i n : Nat} (hi : i < 2147483648) (hn : n < 2147483648) : Int32.ofNat i < Int32.ofNat n ↔ i < n := by rw [Int32.lt_iff_toInt_lt, own_oft hi, own_oft hn]; omega
theorem own_inc (i : Nat) : Int32.ofNat i + (1 : Int32) = Int32.ofNat (i + 1) := by
  apply Int32.toBitVec_inj.mp
  show BitVec.ofNat 32 i + BitVec.ofNat 32 1 = BitVec.ofNat 32 (i + 1)
  rw [← BitVec.ofNat_add]
theorem own_gd {cs : List Int32} {P : Int32 → Prop} (h : ∀ c ∈ cs, P c) {i : Nat} (hi : i < cs.length) : P (cs.getD i 0) := by
  rw [List.getD_eq_getElem?_getD, List.getElem?_eq_getElem hi]; exact h _ (List.getElem_mem _)
theorem own_mask (x : Int32) : 0 ≤ (x &&& (2147483647 : Int32)).toInt := by
  have h : (x &&& 2147483647).toBitVec.toNat ≤ 2147483647 := by
    simp only [Int32.toBitVec_and, BitVec.toNat_and]
    exact Nat.and_le_right
  show 0 ≤ (x &&& 2147483647).toBitVec.toInt
  rw [BitVec.toInt_eq_toNat_cond]; split <;> omega
theorem own_modk (x k : Int32) (h : 0 < k.toInt) : 0 ≤ ((x &&& (2147483647 : Int32)) % k).toInt ∧ ((x &&& (2147483647 : Int32)) % k).toInt < k.toInt := by
  rw [Int32.toInt_mod]
  exact ⟨Int.tmod_nonneg _ (own_mask x), Int.tmod_lt_of_pos _ h⟩
theorem own_b8 (x : Int32) : (x.toInt8.toInt32).toInt8.toInt32 = x.toInt8.toInt32 := by simp
theorem own_narc (x : Int32) : narrow .char (.int x.toUInt32.toUInt16.toUInt32.toInt32) = .int x.toUInt32.toUInt16.toUInt32.toInt32 := by simp only [narrow, UInt32.toUInt32_toInt32, UInt16.toUInt16_toUInt32]
theorem own_pr {c : Int32} (h : ¬ c < (33 : Int32) ∧ ¬ (126 : Int32) < c) : ¬ c < 0 ∧ ¬ (255 : Int32) < c := by
  have e1 : (0 : Int32).toInt = 0 := rfl
  have e2 : (255 : Int32).toInt = 255 := rfl
  have e3 : (33 : Int32).toInt = 33 := rfl
  have e4 : (126 : Int32).toInt = 126 := rfl
  simp only [Int32.lt_iff_toInt_lt, e1, e2, e3, e4] at h ⊢; omega
theorem own_allowed (x : Int32) : ¬ (((33 : Int32) + ((x &&& (2147483647 : Int32)) % (94 : Int32))).toUInt32.toUInt16.toUInt32.toInt32) < (33 : Int32) ∧ ¬ (126 : Int32) < (((33 : Int32) + ((x &&& (2147483647 : Int32)) % (94 : Int32))).toUInt32.toUInt16.toUInt32.toInt32) := by
  obtain ⟨h1, h2⟩ := own_modk x 94 (by decide)
  generalize (x &&& (2147483647 : Int32)) % (94 : Int32) = z at h1 h2
  have e0 : (0 : Int32).toInt = 0 := rfl
  have e9 : (94 : Int32).toInt = 94 := rfl
  have e3 : (33 : Int32).toInt = 33 := rfl
  have e4 : (126 : Int32).toInt = 126 := rfl
  have e5 : (65535 : Int32).toInt = 65535 := rfl
  rw [e9] at h2
  have es : ((33 : Int32) + z).toInt = 33 + z.toInt := by
    rw [Int32.toInt_add, e3]; exact Int.bmod_eq_of_le (by omega) (by omega)
  have ec := own_nc (x := (33 : Int32) + z) (by simp only [Int32.lt_iff_toInt_lt, es, e0, e5]; omega)
  have ec' : ((33 : Int32) + z).toUInt32.toUInt16.toUInt32.toInt32 = (33 : Int32) + z := ec
  rw [ec']
  simp only [Int32.lt_iff_toInt_lt, es, e3, e4]; omega
theorem own_and_nat (x : Int32) (k : Nat) (hk : k < 2147483648) : ∃ j : Nat, j ≤ k ∧ (x &&& Int32.ofNat k) = Int32.ofNat j := by
  refine ⟨(x &&& Int32.ofNat k).toBitVec.toNat, ?_, ?_⟩
  · simp only [Int32.toBitVec_and, BitVec.toNat_and]
    refine Nat.le_trans Nat.and_le_right ?_
    show (BitVec.ofNat 32 k).toNat ≤ k
    rw [BitVec.toNat_ofNat]; exact Nat.mod_le _ _
  · apply Int32.toBitVec_inj.mp
    show _ = BitVec.ofNat 32 _
    rw [BitVec.ofNat_toNat]; simp
theorem own_n4 (x : Int32) : (1 : Int32) + (x &&& (3 : Int32)) = (1 : Int32) ∨ (1 : Int32) + (x &&& (3 : Int32)) = (2 : Int32) ∨ (1 : Int32) + (x &&& (3 : Int32)) = (3 : Int32) ∨ (1 : Int32) + (x &&& (3 : Int32)) = (4 : Int32) := by
  obtain ⟨j, hj, e⟩ := own_and_nat x 3 (by decide)
  have e' : (x &&& (3 : Int32)) = Int32.ofNat j := e
  rw [e']
  have : j = 0 ∨ j = 1 ∨ j = 2 ∨ j = 3 := by omega
  rcases this with rfl | rfl | rfl | rfl <;> decide
theorem own_cl {n : Nat} (h : n < 2147483648) : (Int32.ofNat n).toNatClampNeg = n := by
  show (Int32.ofNat n).toInt.toNat = n
  rw [own_oft h]; rfl
theorem own_addn (a b : Nat) : Int32.ofNat a + Int32.ofNat b = Int32.ofNat (a + b) := by
  apply Int32.toBitVec_inj.mp
  show BitVec.ofNat 32 a + BitVec.ofNat 32 b = BitVec.ofNat 32 (a + b)
  rw [← BitVec.ofNat_add]
theorem own_subn {a b : Nat} (h : b ≤ a) : Int32.ofNat a - Int32.ofNat b = Int32.ofNat (a - b) := by
  have q := own_addn (a - b) b
  rw [Nat.sub_add_cancel h] at q
  rw [← q, Int32.add_sub_cancel]
theorem own_nn {n : Nat} (h : n < 2147483648) : ¬ Int32.ofNat n < 0 := fun q => absurd ((own_ltn (n := 0) h (by decide)).mp q) (Nat.not_lt_zero _)
theorem own_eqn {i n : Nat} (hi : i < 2147483648) (hn : n < 2147483648) : Int32.ofNat i = Int32.ofNat n ↔ i = n := ⟨fun q => by have r := congrArg Int32.toInt q; rw [own_oft hi, own_oft hn] at r; omega, fun q => q ▸ rfl⟩
theorem own_inb {i n : Nat} (h : i < n) (hn : n < 2147483648) : ¬ Int32.ofNat i < 0 ∧ Int32.ofNat i < Int32.ofNat n := ⟨own_nn (by omega), (own_ltn (by omega) hn).mpr h⟩
theorem own_minx {a b : Nat} (h1 : b ≤ a) (h2 : a ≤ 4000) (k : ¬ Int32.ofNat b < Int32.ofNat a) : some (Value.int (Int32.ofNat a)) = some (Value.int (Int32.ofNat b)) := by
  have q : ¬ b < a := fun r => k ((own_ltn (by omega) (by omega)).mpr r)
  rw [show a = b by omega]
theorem own_rg (bs : List Int32) (lo n : Nat) (d : Value) (h : lo + n ≤ bs.length) : ((List.range n).map fun i => (bs.map Value.int).getD (lo + i) d) = ((bs.drop lo).take n).map Value.int := by
  apply List.ext_getElem
  · simp; omega
  · intro i h1 h2
    have hi : i < n := by simpa using h1
    simp only [List.getElem_map, List.getElem_range, List.getElem_take, List.getElem_drop, List.getD_eq_getElem?_getD]
    rw [List.getElem?_eq_getElem (by simp; omega)]
    simp
theorem own_cpz (us : List Value) (n : Nat) (d : Value) : (([] : List Value) ++ List.replicate n d).take 0 ++ us ++ ([] ++ List.replicate n d).drop (0 + n) = us := by simp
theorem own_more {Z : State} {a0 : Array Value} {EL : List (String × Nat)} {own : String} {p : Program} {l : Launch} {e : Env} {R : Room} {s : State} {m : MethodId} {args : Array Value} {below : List Frame} {meth : Method} {c : Code} {vm : Vm} {T : State} {h : Heap} {cells slots cells' slots' : Nat} (W : Wk Z a0 EL own p l e R s m args below meth c vm T h cells slots) (h1 : cells ≤ cells') (h2 : slots ≤ slots') : Wk Z a0 EL own p l e R s m args below meth c vm T h cells' slots' := by
  obtain ⟨locs, k, X, q⟩ := W
  exact ⟨locs, k, X.more h1 h2, q⟩
theorem own_whole {Z : State} {h : Heap} {a : Addr} {cs : List Int32} {lo hi : Nat} (h1 : lo = 0) (h2 : hi = cs.length) (S : Str Z h a cs) : Str Z h a ((cs.drop lo).take (hi - lo)) := by subst h1; subst h2; simpa using S
theorem own_subS {Z : State} {h : Heap} {u : Addr} {ku : ClassId} {cs : List Int32} {lo hi : Nat} (V : Arv Z h u ku .byte (Int32.ofNat (hi - lo)) ((((cs.map fun c => c.toInt8.toInt32).drop lo).take (hi - lo)).map Value.int) (.int (0 : Int32))) (h2 : hi ≤ cs.length) : Arv Z h u ku .byte (Int32.ofNat ((cs.drop lo).take (hi - lo)).length) (((((cs.drop lo).take (hi - lo)).map fun c => c.toInt8.toInt32)).map Value.int) (.int 0) := by
  have e : ((cs.drop lo).take (hi - lo)).length = hi - lo := by simp; omega
  rw [e, List.map_take, List.map_drop]; exact V
def Bld (Z : State) (h : Heap) (b t : Addr) (kt : ClassId) (cap : Nat) (ds : List Int32) : Prop := Exa Z h b "java/lang/StringBuilder" ∧ Fld Z h b "java/lang/AbstractStringBuilder" "value" "[B" (.ref t) ∧ Fld Z h b "java/lang/AbstractStringBuilder" "coder" "B" (.int (0 : Int32)) ∧ Fld Z h b "java/lang/AbstractStringBuilder" "count" "I" (.int (Int32.ofNat ds.length)) ∧ Arv Z h t kt .byte (Int32.ofNat cap) (ds.map Value.int) (.int (0 : Int32))
theorem Bld.ext {Z : State} {h h' : Heap} {b t : Addr} {kt : ClassId} {cap : Nat} {ds : List Int32} (B : Bld Z h b t kt cap ds) (X : Ext h h') : Bld Z h' b t kt cap ds := ⟨B.1.ext X, B.2.1.ext X, B.2.2.1.ext X, B.2.2.2.1.ext X, B.2.2.2.2.ext X⟩
theorem own_cnt1 {Z : State} {h : Heap} {b : Addr} {ds : List Int32} {x : Int32} (F : Fld Z h b "java/lang/AbstractStringBuilder" "count" "I" (.int (Int32.ofNat (ds.length + 1)))) : Fld Z h b "java/lang/AbstractStringBuilder" "count" "I" (.int (Int32.ofNat (ds ++ [x]).length)) := by rw [List.length_append]; exact F
theorem own_setl (ds : List Int32) (x : Int32) (d : Value) : (ds.map Value.int ++ List.replicate 1 d).set ds.length (.int x) = (ds ++ [x]).map Value.int := by
  rw [List.set_append]; simp
theorem own_shr0 (x : Int32) : x >>> ((0 : Int32) &&& 31) = x := by
  have e : ((0 : Int32) &&& 31) = 0 := by decide
  rw [e]; simp
theorem own_sle {n cap : Nat} (h : n ≤ cap) (hc : cap < 2147483648) : ¬ (0 : Int32) < Int32.ofNat n - Int32.ofNat cap := by
  rw [Int32.lt_iff_toInt_lt, Int32.toInt_sub, own_oft hc, own_oft (by omega), Int.bmod_eq_of_le (by omega) (by omega)]
  have e : (0 : Int32).toInt = 0 := rfl
  rw [e]; omega
def Ows (c : Int32) : Prop := c = (32 : Int32) ∨ c = (9 : Int32)
def put0 (c : Int32) : List Int32 := [c]
def put1 (c : Int32) : List Int32 := if c = 34 ∨ c = 92 then [92, c] else [c]
def enc : List Int32 → List Int32
  | [] => []
  | k :: ks => put1 k ++ enc ks
def Lay (cs : List Int32) (i0 j0 : Nat) : Prop := i0 < j0 ∧ j0 ≤ cs.length ∧ cs.length ≤ 12 ∧ (∀ i, i < i0 → Ows (cs.getD i 0)) ∧ ¬ Ows (cs.getD i0 0) ∧ (∀ i, j0 ≤ i → i < cs.length → Ows (cs.getD i 0)) ∧ ¬ Ows (cs.getD (j0 - 1) 0)
theorem own_ws0 {b : Int32} {P : Prop} (h : (b = 1 ∧ P) ∨ (b = 0 ∧ ¬ P)) (q : ¬ P) : b = (0 : Int32) := h.elim (fun z => absurd z.2 q) And.left
theorem own_ws1 {b : Int32} {P : Prop} (h : (b = 1 ∧ P) ∨ (b = 0 ∧ ¬ P)) (q : P) : ¬ b = (0 : Int32) := h.elim (fun z r => absurd (z.1.symm.trans r) (by decide)) (fun z => absurd q z.2)
theorem own_dec {j : Nat} (h : 1 ≤ j) : Int32.ofNat j + (-1 : Int32) = Int32.ofNat (j - 1) := by
  have q := own_addn (j - 1) 1
  rw [Nat.sub_add_cancel h] at q
  have r : Int32.ofNat (j - 1) + Int32.ofNat 1 + (-1 : Int32) = Int32.ofNat (j - 1) := by
    rw [Int32.add_assoc, show Int32.ofNat 1 + (-1 : Int32) = 0 from by decide, Int32.add_zero]
  rw [← q]; exact r
theorem own_len1 (L : List Int32) (x : Int32) : Int32.ofNat L.length + (1 : Int32) = Int32.ofNat (L ++ [x]).length := by rw [own_inc, List.length_append]; rfl
theorem own_put0 {c : Int32} (L : List Int32) : L ++ [c] = L ++ put0 c := rfl
theorem own_put1y {c : Int32} (L : List Int32) (h : c = 34 ∨ c = 92) : (L ++ [(92 : Int32)]) ++ [c] = L ++ put1 c := by unfold put1; rw [if_pos h]; simp
theorem own_put1n {c : Int32} (L : List Int32) (h : ¬ c = 34) (h' : ¬ c = 92) : L ++ [c] = L ++ put1 c := by unfold put1; rw [if_neg (fun q => q.elim h h')]
theorem own_encq {k : Int32} {r : List Int32} (h : k = 34 ∨ k = 92) : enc (k :: r) ++ [34] = 92 :: k :: (enc r ++ [34]) := by simp only [enc, put1]; rw [if_pos h]; rfl
theorem own_encp {k : Int32} {r : List Int32} (h : ¬ (k = 34 ∨ k = 92)) : enc (k :: r) ++ [34] = k :: (enc r ++ [34]) := by simp only [enc, put1]; rw [if_neg h]; rfl
theorem own_put0l (c : Int32) : (put0 c).length = 1 := rfl
theorem own_put1l (c : Int32) : 1 ≤ (put1 c).length ∧ (put1 c).length ≤ 2 := by unfold put1; split <;> simp
theorem own_encle : ∀ ks : List Int32, ks.length ≤ (enc ks).length
  | [] => Nat.le_refl _
  | k :: ks => by have q := own_encle ks; have r := own_put1l k; simp only [enc, List.length_append, List.length_cons]; omega
theorem own_encge : ∀ ks : List Int32, (enc ks).length ≤ 2 * ks.length
  | [] => Nat.le_refl _
  | k :: ks => by have q := own_encge ks; have r := own_put1l k; simp only [enc, List.length_append, List.length_cons]; omega
theorem own_dropc {cs : List Int32} {i : Nat} {k : Int32} {r : List Int32} (h : cs.drop i = k :: r) : i < cs.length ∧ cs.getD i 0 = k ∧ cs.drop (i + 1) = r := by
  have hi : i < cs.length := by
    have q := congrArg List.length h
    simp at q; omega
  rw [List.drop_eq_getElem_cons hi] at h
  have h1 := (List.cons.inj h)
  exact ⟨hi, by rw [List.getD_eq_getElem?_getD, List.getElem?_eq_getElem hi]; exact h1.1, h1.2⟩
theorem own_dropl {cs : List Int32} {i : Nat} {k : Int32} (h : cs.drop i = [k]) : i = cs.length - 1 := by
  have q := congrArg List.length h
  simp at q; omega
theorem own_bldS {Z : State} {h : Heap} {b t : Addr} {kt : ClassId} {cap : Nat} {d : List Int32} {k : Int32} (B : Bld Z h b t kt cap ((d.map fun c => c.toInt8.toInt32) ++ [k.toInt8.toInt32])) : Bld Z h b t kt cap ((d ++ [k]).map fun c => c.toInt8.toInt32) := by rw [List.map_append]; exact B
theorem own_mkS {Z : State} {h : Heap} {x u : Addr} {ku : ClassId} {d ks : List Int32} (A : Exa Z h x "java/lang/String") (Fc : Fld Z h x "java/lang/String" "coder" "B" (.int (0 : Int32))) (hp : ∀ c ∈ ks, ¬ c < 0 ∧ ¬ (255 : Int32) < c) (Fv : Fld Z h x "java/lang/String" "value" "[B" (.ref u)) (V : Arv Z h u ku .byte (Int32.ofNat (d.map fun c => c.toInt8.toInt32).length) ((d.map fun c => c.toInt8.toInt32).map Value.int) (.int (0 : Int32))) (e : d = ks) : Str Z h x ks := by
  subst e
  rw [List.length_map] at V
  exact ⟨A, Fc, hp, u, ku, Fv, V⟩
theorem own_wsr {c : Int32} (h : Ows c) : ¬ c < 0 ∧ ¬ (255 : Int32) < c := by rcases h with rfl | rfl <;> decide
theorem own_k3 (x : Int32) : (1 : Int32) + ((x &&& (2147483647 : Int32)) % (3 : Int32)) = (1 : Int32) ∨ (1 : Int32) + ((x &&& (2147483647 : Int32)) % (3 : Int32)) = (2 : Int32) ∨ (1 : Int32) + ((x &&& (2147483647 : Int32)) % (3 : Int32)) = (3 : Int32) := by
  obtain ⟨h1, h2⟩ := own_modk x 3 (by decide)
  generalize (x &&& (2147483647 : Int32)) % (3 : Int32) = z at h1 h2
  have e : (3 : Int32).toInt = 3 := rfl
  rw [e] at h2
  have : z = 0 ∨ z = 1 ∨ z = 2 := by
    have q : z.toInt = 0 ∨ z.toInt = 1 ∨ z.toInt = 2 := by omega
    rcases q with q | q | q
    · exact Or.inl (Int32.toInt_inj.mp q)
    · exact Or.inr (Or.inl (Int32.toInt_inj.mp q))
    · exact Or.inr (Or.inr (Int32.toInt_inj.mp q))
  rcases this with rfl | rfl | rfl <;> decide
theorem own_and255 (x : Int32) : 0 ≤ (x &&& (255 : Int32)).toInt := by
  obtain ⟨j, hj, e⟩ := own_and_nat x 255 (by decide)
  have e' : (x &&& (255 : Int32)) = Int32.ofNat j := e
  rw [e', own_oft (by omega)]; omega
theorem own_m3 (x : Int32) (h : 0 ≤ x.toInt) : x % (3 : Int32) = (0 : Int32) ∨ x % (3 : Int32) = (1 : Int32) ∨ x % (3 : Int32) = (2 : Int32) := by
  have e : (3 : Int32).toInt = 3 := rfl
  have h1 : 0 ≤ (x % (3 : Int32)).toInt := by rw [Int32.toInt_mod]; exact Int.tmod_nonneg _ h
  have h2 : (x % (3 : Int32)).toInt < 3 := by rw [Int32.toInt_mod, e]; exact Int.tmod_lt_of_pos _ (by decide)
  generalize x % (3 : Int32) = z at h1 h2
  have q : z.toInt = 0 ∨ z.toInt = 1 ∨ z.toInt = 2 := by omega
  rcases q with q | q | q
  · exact Or.inl (Int32.toInt_inj.mp q)
  · exact Or.inr (Or.inl (Int32.toInt_inj.mp q))
  · exact Or.inr (Or.inr (Int32.toInt_inj.mp q))
theorem own_keys {kv c0 c1 c2 : Int32} {ks : List Int32} {P : Int32 → Prop} (h : (kv = (1 : Int32) ∧ ks = [c0]) ∨ (kv = (2 : Int32) ∧ ks = [c0, c1]) ∨ (kv = (3 : Int32) ∧ ks = [c0, c1, c2])) (q0 : P c0) (q1 : P c1) (q2 : P c2) : ∀ c ∈ ks, P c := by
  rcases h with ⟨-, rfl⟩ | ⟨-, rfl⟩ | ⟨-, rfl⟩
  · exact own_alS q0 own_al0
  · exact own_alS q0 (own_alS q1 own_al0)
  · exact own_alS q0 (own_alS q1 (own_alS q2 own_al0))
theorem own_kl {kv c0 c1 c2 : Int32} {ks : List Int32} (h : (kv = (1 : Int32) ∧ ks = [c0]) ∨ (kv = (2 : Int32) ∧ ks = [c0, c1]) ∨ (kv = (3 : Int32) ∧ ks = [c0, c1, c2])) : 0 < ks.length ∧ ks.length ≤ 3 := by
  rcases h with ⟨-, rfl⟩ | ⟨-, rfl⟩ | ⟨-, rfl⟩ <;> simp
theorem own_bodyl {body ks : List Int32} (h : (body = ks ∧ ¬ ks.getD 0 0 = 34) ∨ body = 34 :: (enc ks ++ [34])) (h0 : 0 < ks.length) (h3 : ks.length ≤ 3) : 0 < body.length ∧ body.length ≤ 8 := by
  rcases h with ⟨rfl, -⟩ | rfl
  · omega
  · have q := own_encge ks
    simp; omega
theorem own_encm : ∀ {ks : List Int32} {c : Int32}, c ∈ enc ks → c = 92 ∨ c ∈ ks
  | k :: ks, c, h => by
    simp only [enc, List.mem_append] at h
    rcases h with h | h
    · unfold put1 at h
      split at h
      · simp at h; rcases h with h | h
        · exact Or.inl h
        · exact Or.inr (by simp [h])
      · simp at h; exact Or.inr (by simp [h])
    · rcases own_encm h with r | r
      · exact Or.inl r
      · exact Or.inr (List.mem_cons_of_mem _ r)
theorem own_bm {body ks : List Int32} (hb : (body = ks ∧ ¬ ks.getD 0 0 = 34) ∨ body = 34 :: (enc ks ++ [34])) (hk : ∀ c ∈ ks, ¬ c < (33 : Int32) ∧ ¬ (126 : Int32) < c) : ∀ c ∈ body, ¬ c < (33 : Int32) ∧ ¬ (126 : Int32) < c := by
  intro c hc
  rcases hb with ⟨rfl, -⟩ | rfl
  · exact hk c hc
  · rcases List.mem_cons.mp hc with rfl | h
    · decide
    · rcases List.mem_append.mp h with h | h
      · rcases own_encm h with rfl | r
        · decide
        · exact hk c r
      · simp at h; subst h; decide
theorem own_allb {w1 w2 body ks : List Int32} (h1 : ∀ c ∈ w1, Ows c) (h2 : ∀ c ∈ w2, Ows c) (hk : ∀ c ∈ ks, ¬ c < (33 : Int32) ∧ ¬ (126 : Int32) < c) (hb : (body = ks ∧ ¬ ks.getD 0 0 = 34) ∨ body = 34 :: (enc ks ++ [34])) : ∀ c ∈ w1 ++ body ++ w2, ¬ c < 0 ∧ ¬ (255 : Int32) < c := by
  intro c hc
  rcases List.mem_append.mp hc with h | h
  · rcases List.mem_append.mp h with h | h
    · exact own_wsr (h1 c h)
    · exact own_pr (own_bm hb hk c h)
  · exact own_wsr (h2 c h)
theorem own_now {c : Int32} (h : ¬ c < (33 : Int32) ∧ ¬ (126 : Int32) < c) : ¬ Ows c := by
  rintro (rfl | rfl)
  · exact h.1 (by decide)
  · exact h.1 (by decide)
theorem own_gm {L : List Int32} {i : Nat} (h : i < L.length) : L.getD i 0 ∈ L := by
  rw [List.getD_eq_getElem?_getD, List.getElem?_eq_getElem h]; exact List.getElem_mem _
theorem own_lay {w1 w2 body ks : List Int32} (h1 : ∀ c ∈ w1, Ows c) (h2 : ∀ c ∈ w2, Ows c) (hb : (body = ks ∧ ¬ ks.getD 0 0 = 34) ∨ body = 34 :: (enc ks ++ [34])) (hk : ∀ c ∈ ks, ¬ c < (33 : Int32) ∧ ¬ (126 : Int32) < c) (k0 : 0 < ks.length) (hl : (w1 ++ body ++ w2).length ≤ 12) : Lay (w1 ++ body ++ w2) w1.length (w1.length + body.length) := by
  have b0 : 0 < body.length := by
    rcases hb with ⟨rfl, -⟩ | rfl
    · exact k0
    · simp
  have hm := own_bm hb hk
  have L1 : ∀ i, i < w1.length → (w1 ++ body ++ w2).getD i 0 = w1.getD i 0 := fun i hi => by
    simp only [List.getD_eq_getElem?_getD]
    rw [List.getElem?_append_left (by simp; omega), List.getElem?_append_left hi]
  have L2 : ∀ i, i < body.length → (w1 ++ body ++ w2).getD (w1.length + i) 0 = body.getD i 0 := fun i hi => by
    simp only [List.getD_eq_getElem?_getD]
    rw [List.getElem?_append_left (by simp; omega), List.getElem?_append_right (by omega), Nat.add_sub_cancel_left]
  have L3 : ∀ i, i < w2.length → (w1 ++ body ++ w2).getD (w1.length + body.length + i) 0 = w2.getD i 0 := fun i hi => by
    simp only [List.getD_eq_getElem?_getD]
    rw [List.getElem?_append_right (by simp)]
    simp
  refine ⟨by omega, by simp, hl, ?_, ?_, ?_, ?_⟩
  · intro i hi; rw [L1 i hi]; exact h1 _ (own_gm hi)
  · have q := L2 0 b0
    rw [Nat.add_zero] at q
    rw [q]; exact own_now (hm _ (own_gm b0))
  · intro i hi hi2
    have hi3 : i - (w1.length + body.length) < w2.length := by simp only [List.length_append] at hi2; omega
    have q := L3 _ hi3
    rw [Nat.add_sub_cancel' hi] at q
    rw [q]; exact h2 _ (own_gm hi3)
  · have q := L2 (body.length - 1) (by omega)
    rw [show w1.length + (body.length - 1) = w1.length + body.length - 1 by omega] at q
    rw [q]; exact own_now (hm _ (own_gm (by omega)))
theorem own_mid (w1 body w2 : List Int32) : ((w1 ++ body ++ w2).drop w1.length).take (w1.length + body.length - w1.length) = body := by
  rw [Nat.add_sub_cancel_left, List.append_assoc, List.drop_left, List.take_left]
theorem own_b1r {b : Int32} {cs : List Int32} (h : (b = 1 ∧ cs = cs) ∨ (b = 0 ∧ ¬ cs = cs)) : some (Value.int b) = some (Value.int 1) := h.elim (fun z => by rw [z.1]) (fun z => absurd rfl z.2)
abbrev vZ : Value := .int (0 : Int32)
abbrev vI (x : Int32) : Slot := .val (.int x)
abbrev vR (x : Addr) : Slot := .val (.ref x)
abbrev ltN (x y : Nat) : Prop := x < y
def own_EL : List (String × Nat) := []
def Cx (Z : State) (a0 : Array Value) : Prop := (∀ d ∈ tables_1, d.before a0 Z = true) ∧ EW Z a0 own_EL ∧ (∃ z : Int32, Sta Z Z.heap "java/lang/String" "COMPACT_STRINGS" "Z" (.int z) ∧ ¬ z = 0) ∧ (∃ z : Value, Sta Z Z.heap "jdk/internal/util/Preconditions" "SIOOBE_FORMATTER" "Ljava/util/function/BiFunction;" z ∧ z.isRef = true)
theorem Cx.hw {Z : State} {a0 : Array Value} (C : Cx Z a0) : (∀ d ∈ tables_1, d.before a0 Z = true) := C.1
theorem Cx.ew {Z : State} {a0 : Array Value} (C : Cx Z a0) : EW Z a0 own_EL := C.2.1
theorem Cx.cs {Z : State} {a0 : Array Value} (C : Cx Z a0) : (∃ z : Int32, Sta Z Z.heap "java/lang/String" "COMPACT_STRINGS" "Z" (.int z) ∧ ¬ z = 0) := C.2.2.1
theorem Cx.sf {Z : State} {a0 : Array Value} (C : Cx Z a0) : (∃ z : Value, Sta Z Z.heap "jdk/internal/util/Preconditions" "SIOOBE_FORMATTER" "Ljava/util/function/BiFunction;" z ∧ z.isRef = true) := C.2.2.2
theorem own_ws {Z : State} {a0 : Array Value} (C : Cx Z a0) : ∀ d ∈ StrChars.Road.words, d.before a0 Z = true := fun d hd => C.1 d ((by decide +kernel : ∀ d ∈ StrChars.Road.words, d ∈ tables_1) d hd)
theorem own_wln {Z : State} {a0 : Array Value} (C : Cx Z a0) : ∀ d ∈ StrChars.Road.wordsLen, d.before a0 Z = true := fun d hd => C.1 d ((by decide +kernel : ∀ d ∈ StrChars.Road.wordsLen, d ∈ tables_1) d hd)
theorem own_wch {Z : State} {a0 : Array Value} (C : Cx Z a0) : ∀ d ∈ StrChars.Road.wordsChN, d.before a0 Z = true := fun d hd => C.1 d ((by decide +kernel : ∀ d ∈ StrChars.Road.wordsChN, d ∈ tables_1) d hd)
theorem own_wem {Z : State} {a0 : Array Value} (C : Cx Z a0) : ∀ d ∈ StrChars.Road.wordsEmp, d.before a0 Z = true := fun d hd => C.1 d ((by decide +kernel : ∀ d ∈ StrChars.Road.wordsEmp, d ∈ tables_1) d hd)
theorem own_weq {Z : State} {a0 : Array Value} (C : Cx Z a0) : ∀ d ∈ StrChars.Road.wordsEq, d.before a0 Z = true := fun d hd => C.1 d ((by decide +kernel : ∀ d ∈ StrChars.Road.wordsEq, d ∈ tables_1) d hd)
theorem own_wS {Z : State} {a0 : Array Value} (C : Cx Z a0) : ∀ d ∈ Bundle.stringAtoms, d.before a0 Z = true := fun d hd => C.1 d ((by decide +kernel : ∀ d ∈ Bundle.stringAtoms, d ∈ tables_1) d hd)
section OwnWords
variable {Z : State} {a0 : Array Value}
theorem w0 (C : Cx Z a0) : (Jvm.Cond.constant "com/example/inchworm/inchworm/core/IdempotencyKeyParseHeaderPinLaw" (7 : Nat) (2147483647 : Int32)).before a0 Z = true := C.1 _ (List.mem_of_getElem? (i := 0) rfl)
theorem w1 (C : Cx Z a0) : (Jvm.Cond.methodLink "com/example/inchworm/inchworm/core/IdempotencyKeyParseHeaderPinLaw" (8 : Nat) ({ cls := "com/example/inchworm/inchworm/core/IdempotencyKeyParseHeaderPinLaw", name := "keyChar", desc := "(I)C" } : Jvm.MethodName)).before a0 Z = true := C.1 _ (List.mem_of_getElem? (i := 1) rfl)
theorem w2 (C : Cx Z a0) : (Jvm.Cond.static ({ cls := "com/example/inchworm/inchworm/core/IdempotencyKeyParseHeaderPinLaw", name := "keyChar", desc := "(I)C" } : Jvm.MethodName)).before a0 Z = true := C.1 _ (List.mem_of_getElem? (i := 2) rfl)
theorem w3 (C : Cx Z a0) : (Jvm.Cond.initialized "com/example/inchworm/inchworm/core/IdempotencyKeyParseHeaderPinLaw").before a0 Z = true := C.1 _ (List.mem_of_getElem? (i := 3) rfl)
theorem w4 (C : Cx Z a0) : (Jvm.Cond.code ({ cls := "com/example/inchworm/inchworm/core/IdempotencyKeyParseHeaderPinLaw", name := "keyChar", desc := "(I)C" } : Jvm.MethodName) method_3_code (1 : Nat) (Option.some Jvm.ClassFile.FieldType.char)).before a0 Z = true := C.1 _ (List.mem_of_getElem? (i := 4) rfl)
theorem w5 (C : Cx Z a0) : (Jvm.Cond.arrayClass Jvm.ClassFile.FieldType.char).before a0 Z = true := C.1 _ (List.mem_of_getElem? (i := 5) rfl)
theorem w6 (C : Cx Z a0) : (Jvm.Cond.methodLink "com/example/inchworm/inchworm/core/IdempotencyKeyParseHeaderPinLaw" (18 : Nat) ({ cls := "com/example/inchworm/inchworm/core/IdempotencyKeyParseHeaderPinLaw", name := "put", desc := "([CICZ)I" } : Jvm.MethodName)).before a0 Z = true := C.1 _ (List.mem_of_getElem? (i := 6) rfl)
theorem w7 (C : Cx Z a0) : (Jvm.Cond.static ({ cls := "com/example/inchworm/inchworm/core/IdempotencyKeyParseHeaderPinLaw", name := "put", desc := "([CICZ)I" } : Jvm.MethodName)).before a0 Z = true := C.1 _ (List.mem_of_getElem? (i := 7) rfl)
theorem w8 (C : Cx Z a0) : (Jvm.Cond.code ({ cls := "com/example/inchworm/inchworm/core/IdempotencyKeyParseHeaderPinLaw", name := "put", desc := "([CICZ)I" } : Jvm.MethodName) method_5_code (5 : Nat) (Option.some Jvm.ClassFile.FieldType.int)).before a0 Z = true := C.1 _ (List.mem_of_getElem? (i := 8) rfl)
theorem w9 (C : Cx Z a0) : (Jvm.Cond.methodLink "com/example/inchworm/inchworm/core/IdempotencyKeyParseHeaderPinLaw" (22 : Nat) ({ cls := "com/example/inchworm/inchworm/core/IdempotencyKeyParseHeaderPinLaw", name := "take", desc := "([CI)Ljava/lang/String;" } : Jvm.MethodName)).before a0 Z = true := C.1 _ (List.mem_of_getElem? (i := 9) rfl)
theorem w10 (C : Cx Z a0) : (Jvm.Cond.static ({ cls := "com/example/inchworm/inchworm/core/IdempotencyKeyParseHeaderPinLaw", name := "take", desc := "([CI)Ljava/lang/String;" } : Jvm.MethodName)).before a0 Z = true := C.1 _ (List.mem_of_getElem? (i := 10) rfl)
theorem w11 (C : Cx Z a0) : (Jvm.Cond.code ({ cls := "com/example/inchworm/inchworm/core/IdempotencyKeyParseHeaderPinLaw", name := "take", desc := "([CI)Ljava/lang/String;" } : Jvm.MethodName) method_6_code (2 : Nat) (Option.some (Jvm.ClassFile.FieldType.object "java/lang/String"))).before a0 Z = true := C.1 _ (List.mem_of_getElem? (i := 11) rfl)
theorem w12 (C : Cx Z a0) : (Jvm.Cond.classLink "com/example/inchworm/inchworm/core/IdempotencyKeyParseHeaderPinLaw" (27 : Nat) "java/lang/String").before a0 Z = true := C.1 _ (List.mem_of_getElem? (i := 12) rfl)
theorem w13 (C : Cx Z a0) : (Jvm.Cond.instantiable "java/lang/String" (4 : Nat)).before a0 Z = true := C.1 _ (List.mem_of_getElem? (i := 13) rfl)
theorem w14 (C : Cx Z a0) : (Jvm.Cond.initialized "java/lang/String").before a0 Z = true := C.1 _ (List.mem_of_getElem? (i := 14) rfl)
theorem w15 (C : Cx Z a0) : (Jvm.Cond.methodLink "com/example/inchworm/inchworm/core/IdempotencyKeyParseHeaderPinLaw" (32 : Nat) ({ cls := "java/lang/String", name := "<init>", desc := "([C)V" } : Jvm.MethodName)).before a0 Z = true := C.1 _ (List.mem_of_getElem? (i := 15) rfl)
theorem w16 (C : Cx Z a0) : (Jvm.Cond.instanceMethod ({ cls := "java/lang/String", name := "<init>", desc := "([C)V" } : Jvm.MethodName)).before a0 Z = true := C.1 _ (List.mem_of_getElem? (i := 16) rfl)
theorem w17 (C : Cx Z a0) : (Jvm.Cond.code ({ cls := "java/lang/String", name := "<init>", desc := "([C)V" } : Jvm.MethodName) jdk_42_method_3_code (2 : Nat) (Option.none : Option Jvm.ClassFile.FieldType)).before a0 Z = true := C.1 _ (List.mem_of_getElem? (i := 17) rfl)
theorem w22 (C : Cx Z a0) : (Jvm.Cond.methodLink "java/lang/String" (1 : Nat) ({ cls := "java/lang/Object", name := "<init>", desc := "()V" } : Jvm.MethodName)).before a0 Z = true := C.1 _ (List.mem_of_getElem? (i := 22) rfl)
theorem w23 (C : Cx Z a0) : (Jvm.Cond.instanceMethod ({ cls := "java/lang/Object", name := "<init>", desc := "()V" } : Jvm.MethodName)).before a0 Z = true := C.1 _ (List.mem_of_getElem? (i := 23) rfl)
theorem w24 (C : Cx Z a0) : (Jvm.Cond.code ({ cls := "java/lang/Object", name := "<init>", desc := "()V" } : Jvm.MethodName) object_method_1_code (1 : Nat) (Option.none : Option Jvm.ClassFile.FieldType)).before a0 Z = true := C.1 _ (List.mem_of_getElem? (i := 24) rfl)
theorem w25 (C : Cx Z a0) : (Jvm.Cond.fieldLink "java/lang/String" (38 : Nat) "java/lang/String" "COMPACT_STRINGS" "Z").before a0 Z = true := C.1 _ (List.mem_of_getElem? (i := 25) rfl)
theorem w30 (C : Cx Z a0) : (Jvm.Cond.arrayClass Jvm.ClassFile.FieldType.byte).before a0 Z = true := C.1 _ (List.mem_of_getElem? (i := 30) rfl)
theorem w37 (C : Cx Z a0) : (Jvm.Cond.fieldLink "java/lang/String" (15 : Nat) "java/lang/String" "coder" "B").before a0 Z = true := C.1 _ (List.mem_of_getElem? (i := 37) rfl)
theorem w38 (C : Cx Z a0) : (Jvm.Cond.laysFinal "java/lang/String" "java/lang/String" "coder" "B").before a0 Z = true := C.1 _ (List.mem_of_getElem? (i := 38) rfl)
theorem w39 (C : Cx Z a0) : (Jvm.Cond.fieldLink "java/lang/String" (9 : Nat) "java/lang/String" "value" "[B").before a0 Z = true := C.1 _ (List.mem_of_getElem? (i := 39) rfl)
theorem w40 (C : Cx Z a0) : (Jvm.Cond.laysFinal "java/lang/String" "java/lang/String" "value" "[B").before a0 Z = true := C.1 _ (List.mem_of_getElem? (i := 40) rfl)
theorem w41 (C : Cx Z a0) : (Jvm.Cond.methodLink "com/example/inchworm/inchworm/core/IdempotencyKeyParseHeaderPinLaw" (26 : Nat) ({ cls := "java/lang/String", name := "valueOf", desc := "(C)Ljava/lang/String;" } : Jvm.MethodName)).before a0 Z = true := C.1 _ (List.mem_of_getElem? (i := 41) rfl)
theorem w42 (C : Cx Z a0) : (Jvm.Cond.static ({ cls := "java/lang/String", name := "valueOf", desc := "(C)Ljava/lang/String;" } : Jvm.MethodName)).before a0 Z = true := C.1 _ (List.mem_of_getElem? (i := 42) rfl)
theorem w43 (C : Cx Z a0) : (Jvm.Cond.code ({ cls := "java/lang/String", name := "valueOf", desc := "(C)Ljava/lang/String;" } : Jvm.MethodName) jdk_42_method_139_code (1 : Nat) (Option.some (Jvm.ClassFile.FieldType.object "java/lang/String"))).before a0 Z = true := C.1 _ (List.mem_of_getElem? (i := 43) rfl)
theorem w44 (C : Cx Z a0) : (Jvm.Cond.methodLink "java/lang/String" (1015 : Nat) ({ cls := "java/lang/StringLatin1", name := "canEncode", desc := "(C)Z" } : Jvm.MethodName)).before a0 Z = true := C.1 _ (List.mem_of_getElem? (i := 44) rfl)
theorem w45 (C : Cx Z a0) : (Jvm.Cond.static ({ cls := "java/lang/StringLatin1", name := "canEncode", desc := "(C)Z" } : Jvm.MethodName)).before a0 Z = true := C.1 _ (List.mem_of_getElem? (i := 45) rfl)
theorem w46 (C : Cx Z a0) : (Jvm.Cond.initialized "java/lang/StringLatin1").before a0 Z = true := C.1 _ (List.mem_of_getElem? (i := 46) rfl)
theorem w47 (C : Cx Z a0) : (Jvm.Cond.code ({ cls := "java/lang/StringLatin1", name := "canEncode", desc := "(C)Z" } : Jvm.MethodName) jdk_43_method_3_code (1 : Nat) (Option.some Jvm.ClassFile.FieldType.boolean)).before a0 Z = true := C.1 _ (List.mem_of_getElem? (i := 47) rfl)
theorem w48 (C : Cx Z a0) : (Jvm.Cond.classLink "java/lang/String" (10 : Nat) "java/lang/String").before a0 Z = true := C.1 _ (List.mem_of_getElem? (i := 48) rfl)
theorem w49 (C : Cx Z a0) : (Jvm.Cond.methodLink "java/lang/String" (1018 : Nat) ({ cls := "java/lang/StringLatin1", name := "toBytes", desc := "(C)[B" } : Jvm.MethodName)).before a0 Z = true := C.1 _ (List.mem_of_getElem? (i := 49) rfl)
theorem w50 (C : Cx Z a0) : (Jvm.Cond.static ({ cls := "java/lang/StringLatin1", name := "toBytes", desc := "(C)[B" } : Jvm.MethodName)).before a0 Z = true := C.1 _ (List.mem_of_getElem? (i := 50) rfl)
theorem w51 (C : Cx Z a0) : (Jvm.Cond.code ({ cls := "java/lang/StringLatin1", name := "toBytes", desc := "(C)[B" } : Jvm.MethodName) jdk_43_method_46_code (1 : Nat) (Option.some (Jvm.ClassFile.FieldType.array Jvm.ClassFile.FieldType.byte))).before a0 Z = true := C.1 _ (List.mem_of_getElem? (i := 51) rfl)
theorem w52 (C : Cx Z a0) : (Jvm.Cond.methodLink "java/lang/String" (209 : Nat) ({ cls := "java/lang/String", name := "<init>", desc := "([BB)V" } : Jvm.MethodName)).before a0 Z = true := C.1 _ (List.mem_of_getElem? (i := 52) rfl)
theorem w53 (C : Cx Z a0) : (Jvm.Cond.instanceMethod ({ cls := "java/lang/String", name := "<init>", desc := "([BB)V" } : Jvm.MethodName)).before a0 Z = true := C.1 _ (List.mem_of_getElem? (i := 53) rfl)
theorem w54 (C : Cx Z a0) : (Jvm.Cond.code ({ cls := "java/lang/String", name := "<init>", desc := "([BB)V" } : Jvm.MethodName) jdk_42_method_151_code (3 : Nat) (Option.none : Option Jvm.ClassFile.FieldType)).before a0 Z = true := C.1 _ (List.mem_of_getElem? (i := 54) rfl)
theorem w55 (C : Cx Z a0) : (Jvm.Cond.methodLink "com/example/inchworm/inchworm/core/IdempotencyKeyParseHeaderPinLaw" (35 : Nat) ({ cls := "com/example/inchworm/inchworm/core/IdempotencyKey", name := "parseHeader", desc := "(Ljava/lang/String;)Lcom/example/inchworm/inchworm/core/IdempotencyKey;" } : Jvm.MethodName)).before a0 Z = true := C.1 _ (List.mem_of_getElem? (i := 55) rfl)
theorem w56 (C : Cx Z a0) : (Jvm.Cond.static ({ cls := "com/example/inchworm/inchworm/core/IdempotencyKey", name := "parseHeader", desc := "(Ljava/lang/String;)Lcom/example/inchworm/inchworm/core/IdempotencyKey;" } : Jvm.MethodName)).before a0 Z = true := C.1 _ (List.mem_of_getElem? (i := 56) rfl)
theorem w57 (C : Cx Z a0) : (Jvm.Cond.initialized "com/example/inchworm/inchworm/core/IdempotencyKey").before a0 Z = true := C.1 _ (List.mem_of_getElem? (i := 57) rfl)
theorem w58 (C : Cx Z a0) : (Jvm.Cond.code ({ cls := "com/example/inchworm/inchworm/core/IdempotencyKey", name := "parseHeader", desc := "(Ljava/lang/String;)Lcom/example/inchworm/inchworm/core/IdempotencyKey;" } : Jvm.MethodName) prog_18_method_3_code (3 : Nat) (Option.some (Jvm.ClassFile.FieldType.object "com/example/inchworm/inchworm/core/IdempotencyKey"))).before a0 Z = true := C.1 _ (List.mem_of_getElem? (i := 58) rfl)
theorem w59 (C : Cx Z a0) : (Jvm.Cond.stringLink "com/example/inchworm/inchworm/core/IdempotencyKey" (54 : Nat) "fieldValue").before a0 Z = true := C.1 _ (List.mem_of_getElem? (i := 59) rfl)
theorem w62 (C : Cx Z a0) : (Jvm.Cond.methodLink "com/example/inchworm/inchworm/core/IdempotencyKey" (15 : Nat) ({ cls := "java/util/Objects", name := "requireNonNull", desc := "(Ljava/lang/Object;Ljava/lang/String;)Ljava/lang/Object;" } : Jvm.MethodName)).before a0 Z = true := C.1 _ (List.mem_of_getElem? (i := 62) rfl)
theorem w63 (C : Cx Z a0) : (Jvm.Cond.static ({ cls := "java/util/Objects", name := "requireNonNull", desc := "(Ljava/lang/Object;Ljava/lang/String;)Ljava/lang/Object;" } : Jvm.MethodName)).before a0 Z = true := C.1 _ (List.mem_of_getElem? (i := 63) rfl)
theorem w64 (C : Cx Z a0) : (Jvm.Cond.initialized "java/util/Objects").before a0 Z = true := C.1 _ (List.mem_of_getElem? (i := 64) rfl)
theorem w65 (C : Cx Z a0) : (Jvm.Cond.code ({ cls := "java/util/Objects", name := "requireNonNull", desc := "(Ljava/lang/Object;Ljava/lang/String;)Ljava/lang/Object;" } : Jvm.MethodName) jdk_31_method_11_code (2 : Nat) (Option.some (Jvm.ClassFile.FieldType.object "java/lang/Object"))).before a0 Z = true := C.1 _ (List.mem_of_getElem? (i := 65) rfl)
theorem w66 (C : Cx Z a0) : (Jvm.Cond.methodLink "com/example/inchworm/inchworm/core/IdempotencyKey" (56 : Nat) ({ cls := "com/example/inchworm/inchworm/core/IdempotencyKey", name := "stripSurroundingWhitespace", desc := "(Ljava/lang/String;)Ljava/lang/String;" } : Jvm.MethodName)).before a0 Z = true := C.1 _ (List.mem_of_getElem? (i := 66) rfl)
theorem w67 (C : Cx Z a0) : (Jvm.Cond.static ({ cls := "com/example/inchworm/inchworm/core/IdempotencyKey", name := "stripSurroundingWhitespace", desc := "(Ljava/lang/String;)Ljava/lang/String;" } : Jvm.MethodName)).before a0 Z = true := C.1 _ (List.mem_of_getElem? (i := 67) rfl)
theorem w68 (C : Cx Z a0) : (Jvm.Cond.code ({ cls := "com/example/inchworm/inchworm/core/IdempotencyKey", name := "stripSurroundingWhitespace", desc := "(Ljava/lang/String;)Ljava/lang/String;" } : Jvm.MethodName) prog_18_method_9_code (3 : Nat) (Option.some (Jvm.ClassFile.FieldType.object "java/lang/String"))).before a0 Z = true := C.1 _ (List.mem_of_getElem? (i := 68) rfl)
theorem w69 (C : Cx Z a0) : (Jvm.Cond.methodLink "com/example/inchworm/inchworm/core/IdempotencyKey" (34 : Nat) ({ cls := "java/lang/String", name := "length", desc := "()I" } : Jvm.MethodName)).before a0 Z = true := C.1 _ (List.mem_of_getElem? (i := 69) rfl)
theorem w70 (C : Cx Z a0) : (Jvm.Cond.declares ({ cls := "java/lang/String", name := "length", desc := "()I" } : Jvm.MethodName)).before a0 Z = true := C.1 _ (List.mem_of_getElem? (i := 70) rfl)
theorem w71 (C : Cx Z a0) : (Jvm.Cond.instanceMethod ({ cls := "java/lang/String", name := "length", desc := "()I" } : Jvm.MethodName)).before a0 Z = true := C.1 _ (List.mem_of_getElem? (i := 71) rfl)
theorem w72 (C : Cx Z a0) : (Jvm.Cond.selects "java/lang/String" ({ cls := "java/lang/String", name := "length", desc := "()I" } : Jvm.MethodName) ({ cls := "java/lang/String", name := "length", desc := "()I" } : Jvm.MethodName)).before a0 Z = true := C.1 _ (List.mem_of_getElem? (i := 72) rfl)
theorem w79 (C : Cx Z a0) : (Jvm.Cond.methodLink "com/example/inchworm/inchworm/core/IdempotencyKey" (42 : Nat) ({ cls := "java/lang/String", name := "charAt", desc := "(I)C" } : Jvm.MethodName)).before a0 Z = true := C.1 _ (List.mem_of_getElem? (i := 79) rfl)
theorem w80 (C : Cx Z a0) : (Jvm.Cond.declares ({ cls := "java/lang/String", name := "charAt", desc := "(I)C" } : Jvm.MethodName)).before a0 Z = true := C.1 _ (List.mem_of_getElem? (i := 80) rfl)
theorem w81 (C : Cx Z a0) : (Jvm.Cond.instanceMethod ({ cls := "java/lang/String", name := "charAt", desc := "(I)C" } : Jvm.MethodName)).before a0 Z = true := C.1 _ (List.mem_of_getElem? (i := 81) rfl)
theorem w82 (C : Cx Z a0) : (Jvm.Cond.selects "java/lang/String" ({ cls := "java/lang/String", name := "charAt", desc := "(I)C" } : Jvm.MethodName) ({ cls := "java/lang/String", name := "charAt", desc := "(I)C" } : Jvm.MethodName)).before a0 Z = true := C.1 _ (List.mem_of_getElem? (i := 82) rfl)
theorem w84 (C : Cx Z a0) : (Jvm.Cond.methodLink "java/lang/String" (492 : Nat) ({ cls := "java/lang/String", name := "isLatin1", desc := "()Z" } : Jvm.MethodName)).before a0 Z = true := C.1 _ (List.mem_of_getElem? (i := 84) rfl)
theorem w85 (C : Cx Z a0) : (Jvm.Cond.declares ({ cls := "java/lang/String", name := "isLatin1", desc := "()Z" } : Jvm.MethodName)).before a0 Z = true := C.1 _ (List.mem_of_getElem? (i := 85) rfl)
theorem w86 (C : Cx Z a0) : (Jvm.Cond.instanceMethod ({ cls := "java/lang/String", name := "isLatin1", desc := "()Z" } : Jvm.MethodName)).before a0 Z = true := C.1 _ (List.mem_of_getElem? (i := 86) rfl)
theorem w87 (C : Cx Z a0) : (Jvm.Cond.selects "java/lang/String" ({ cls := "java/lang/String", name := "isLatin1", desc := "()Z" } : Jvm.MethodName) ({ cls := "java/lang/String", name := "isLatin1", desc := "()Z" } : Jvm.MethodName)).before a0 Z = true := C.1 _ (List.mem_of_getElem? (i := 87) rfl)
theorem w88 (C : Cx Z a0) : (Jvm.Cond.code ({ cls := "java/lang/String", name := "isLatin1", desc := "()Z" } : Jvm.MethodName) jdk_42_method_154_code (1 : Nat) (Option.some Jvm.ClassFile.FieldType.boolean)).before a0 Z = true := C.1 _ (List.mem_of_getElem? (i := 88) rfl)
theorem w95 (C : Cx Z a0) : (Jvm.Cond.fieldLink "java/lang/String" (1053 : Nat) "jdk/internal/util/Preconditions" "SIOOBE_FORMATTER" "Ljava/util/function/BiFunction;").before a0 Z = true := C.1 _ (List.mem_of_getElem? (i := 95) rfl)
theorem w96 (C : Cx Z a0) : (Jvm.Cond.initialized "jdk/internal/util/Preconditions").before a0 Z = true := C.1 _ (List.mem_of_getElem? (i := 96) rfl)
theorem w100 (C : Cx Z a0) : (Jvm.Cond.methodLink "com/example/inchworm/inchworm/core/IdempotencyKey" (87 : Nat) ({ cls := "com/example/inchworm/inchworm/core/IdempotencyKey", name := "isOptionalWhitespace", desc := "(C)Z" } : Jvm.MethodName)).before a0 Z = true := C.1 _ (List.mem_of_getElem? (i := 100) rfl)
theorem w101 (C : Cx Z a0) : (Jvm.Cond.static ({ cls := "com/example/inchworm/inchworm/core/IdempotencyKey", name := "isOptionalWhitespace", desc := "(C)Z" } : Jvm.MethodName)).before a0 Z = true := C.1 _ (List.mem_of_getElem? (i := 101) rfl)
theorem w102 (C : Cx Z a0) : (Jvm.Cond.code ({ cls := "com/example/inchworm/inchworm/core/IdempotencyKey", name := "isOptionalWhitespace", desc := "(C)Z" } : Jvm.MethodName) prog_18_method_10_code (1 : Nat) (Option.some Jvm.ClassFile.FieldType.boolean)).before a0 Z = true := C.1 _ (List.mem_of_getElem? (i := 102) rfl)
theorem w103 (C : Cx Z a0) : (Jvm.Cond.methodLink "com/example/inchworm/inchworm/core/IdempotencyKey" (91 : Nat) ({ cls := "java/lang/String", name := "substring", desc := "(II)Ljava/lang/String;" } : Jvm.MethodName)).before a0 Z = true := C.1 _ (List.mem_of_getElem? (i := 103) rfl)
theorem w104 (C : Cx Z a0) : (Jvm.Cond.declares ({ cls := "java/lang/String", name := "substring", desc := "(II)Ljava/lang/String;" } : Jvm.MethodName)).before a0 Z = true := C.1 _ (List.mem_of_getElem? (i := 104) rfl)
theorem w105 (C : Cx Z a0) : (Jvm.Cond.instanceMethod ({ cls := "java/lang/String", name := "substring", desc := "(II)Ljava/lang/String;" } : Jvm.MethodName)).before a0 Z = true := C.1 _ (List.mem_of_getElem? (i := 105) rfl)
theorem w106 (C : Cx Z a0) : (Jvm.Cond.selects "java/lang/String" ({ cls := "java/lang/String", name := "substring", desc := "(II)Ljava/lang/String;" } : Jvm.MethodName) ({ cls := "java/lang/String", name := "substring", desc := "(II)Ljava/lang/String;" } : Jvm.MethodName)).before a0 Z = true := C.1 _ (List.mem_of_getElem? (i := 106) rfl)
theorem w107 (C : Cx Z a0) : (Jvm.Cond.code ({ cls := "java/lang/String", name := "substring", desc := "(II)Ljava/lang/String;" } : Jvm.MethodName) jdk_42_method_92_code (5 : Nat) (Option.some (Jvm.ClassFile.FieldType.object "java/lang/String"))).before a0 Z = true := C.1 _ (List.mem_of_getElem? (i := 107) rfl)
theorem w108 (C : Cx Z a0) : (Jvm.Cond.methodLink "java/lang/String" (505 : Nat) ({ cls := "java/lang/String", name := "length", desc := "()I" } : Jvm.MethodName)).before a0 Z = true := C.1 _ (List.mem_of_getElem? (i := 108) rfl)
theorem w109 (C : Cx Z a0) : (Jvm.Cond.methodLink "java/lang/String" (521 : Nat) ({ cls := "java/lang/String", name := "checkBoundsBeginEnd", desc := "(III)V" } : Jvm.MethodName)).before a0 Z = true := C.1 _ (List.mem_of_getElem? (i := 109) rfl)
theorem w110 (C : Cx Z a0) : (Jvm.Cond.static ({ cls := "java/lang/String", name := "checkBoundsBeginEnd", desc := "(III)V" } : Jvm.MethodName)).before a0 Z = true := C.1 _ (List.mem_of_getElem? (i := 110) rfl)
theorem w111 (C : Cx Z a0) : (Jvm.Cond.code ({ cls := "java/lang/String", name := "checkBoundsBeginEnd", desc := "(III)V" } : Jvm.MethodName) jdk_42_method_158_code (3 : Nat) (Option.none : Option Jvm.ClassFile.FieldType)).before a0 Z = true := C.1 _ (List.mem_of_getElem? (i := 111) rfl)
theorem w112 (C : Cx Z a0) : (Jvm.Cond.methodLink "java/lang/String" (1062 : Nat) ({ cls := "jdk/internal/util/Preconditions", name := "checkFromToIndex", desc := "(IIILjava/util/function/BiFunction;)I" } : Jvm.MethodName)).before a0 Z = true := C.1 _ (List.mem_of_getElem? (i := 112) rfl)
theorem w113 (C : Cx Z a0) : (Jvm.Cond.static ({ cls := "jdk/internal/util/Preconditions", name := "checkFromToIndex", desc := "(IIILjava/util/function/BiFunction;)I" } : Jvm.MethodName)).before a0 Z = true := C.1 _ (List.mem_of_getElem? (i := 113) rfl)
theorem w114 (C : Cx Z a0) : (Jvm.Cond.code ({ cls := "jdk/internal/util/Preconditions", name := "checkFromToIndex", desc := "(IIILjava/util/function/BiFunction;)I" } : Jvm.MethodName) jdk_41_method_12_code (4 : Nat) (Option.some Jvm.ClassFile.FieldType.int)).before a0 Z = true := C.1 _ (List.mem_of_getElem? (i := 114) rfl)
theorem w115 (C : Cx Z a0) : (Jvm.Cond.methodLink "com/example/inchworm/inchworm/core/IdempotencyKey" (21 : Nat) ({ cls := "java/lang/String", name := "isEmpty", desc := "()Z" } : Jvm.MethodName)).before a0 Z = true := C.1 _ (List.mem_of_getElem? (i := 115) rfl)
theorem w116 (C : Cx Z a0) : (Jvm.Cond.declares ({ cls := "java/lang/String", name := "isEmpty", desc := "()Z" } : Jvm.MethodName)).before a0 Z = true := C.1 _ (List.mem_of_getElem? (i := 116) rfl)
theorem w117 (C : Cx Z a0) : (Jvm.Cond.instanceMethod ({ cls := "java/lang/String", name := "isEmpty", desc := "()Z" } : Jvm.MethodName)).before a0 Z = true := C.1 _ (List.mem_of_getElem? (i := 117) rfl)
theorem w118 (C : Cx Z a0) : (Jvm.Cond.selects "java/lang/String" ({ cls := "java/lang/String", name := "isEmpty", desc := "()Z" } : Jvm.MethodName) ({ cls := "java/lang/String", name := "isEmpty", desc := "()Z" } : Jvm.MethodName)).before a0 Z = true := C.1 _ (List.mem_of_getElem? (i := 118) rfl)
theorem w120 (C : Cx Z a0) : (Jvm.Cond.methodLink "com/example/inchworm/inchworm/core/IdempotencyKey" (63 : Nat) ({ cls := "com/example/inchworm/inchworm/core/IdempotencyKey", name := "of", desc := "(Ljava/lang/String;)Lcom/example/inchworm/inchworm/core/IdempotencyKey;" } : Jvm.MethodName)).before a0 Z = true := C.1 _ (List.mem_of_getElem? (i := 120) rfl)
theorem w121 (C : Cx Z a0) : (Jvm.Cond.static ({ cls := "com/example/inchworm/inchworm/core/IdempotencyKey", name := "of", desc := "(Ljava/lang/String;)Lcom/example/inchworm/inchworm/core/IdempotencyKey;" } : Jvm.MethodName)).before a0 Z = true := C.1 _ (List.mem_of_getElem? (i := 121) rfl)
theorem w122 (C : Cx Z a0) : (Jvm.Cond.code ({ cls := "com/example/inchworm/inchworm/core/IdempotencyKey", name := "of", desc := "(Ljava/lang/String;)Lcom/example/inchworm/inchworm/core/IdempotencyKey;" } : Jvm.MethodName) prog_18_method_2_code (3 : Nat) (Option.some (Jvm.ClassFile.FieldType.object "com/example/inchworm/inchworm/core/IdempotencyKey"))).before a0 Z = true := C.1 _ (List.mem_of_getElem? (i := 122) rfl)
theorem w123 (C : Cx Z a0) : (Jvm.Cond.stringLink "com/example/inchworm/inchworm/core/IdempotencyKey" (13 : Nat) "key").before a0 Z = true := C.1 _ (List.mem_of_getElem? (i := 123) rfl)
theorem w124 (C : Cx Z a0) : (Jvm.Cond.classLink "com/example/inchworm/inchworm/core/IdempotencyKey" (8 : Nat) "com/example/inchworm/inchworm/core/IdempotencyKey").before a0 Z = true := C.1 _ (List.mem_of_getElem? (i := 124) rfl)
theorem w125 (C : Cx Z a0) : (Jvm.Cond.instantiable "com/example/inchworm/inchworm/core/IdempotencyKey" (1 : Nat)).before a0 Z = true := C.1 _ (List.mem_of_getElem? (i := 125) rfl)
theorem w126 (C : Cx Z a0) : (Jvm.Cond.methodLink "com/example/inchworm/inchworm/core/IdempotencyKey" (53 : Nat) ({ cls := "com/example/inchworm/inchworm/core/IdempotencyKey", name := "<init>", desc := "(Ljava/lang/String;)V" } : Jvm.MethodName)).before a0 Z = true := C.1 _ (List.mem_of_getElem? (i := 126) rfl)
theorem w127 (C : Cx Z a0) : (Jvm.Cond.instanceMethod ({ cls := "com/example/inchworm/inchworm/core/IdempotencyKey", name := "<init>", desc := "(Ljava/lang/String;)V" } : Jvm.MethodName)).before a0 Z = true := C.1 _ (List.mem_of_getElem? (i := 127) rfl)
theorem w128 (C : Cx Z a0) : (Jvm.Cond.code ({ cls := "com/example/inchworm/inchworm/core/IdempotencyKey", name := "<init>", desc := "(Ljava/lang/String;)V" } : Jvm.MethodName) prog_18_method_1_code (2 : Nat) (Option.none : Option Jvm.ClassFile.FieldType)).before a0 Z = true := C.1 _ (List.mem_of_getElem? (i := 128) rfl)
theorem w129 (C : Cx Z a0) : (Jvm.Cond.methodLink "com/example/inchworm/inchworm/core/IdempotencyKey" (1 : Nat) ({ cls := "java/lang/Object", name := "<init>", desc := "()V" } : Jvm.MethodName)).before a0 Z = true := C.1 _ (List.mem_of_getElem? (i := 129) rfl)
theorem w130 (C : Cx Z a0) : (Jvm.Cond.fieldLink "com/example/inchworm/inchworm/core/IdempotencyKey" (7 : Nat) "com/example/inchworm/inchworm/core/IdempotencyKey" "value" "Ljava/lang/String;").before a0 Z = true := C.1 _ (List.mem_of_getElem? (i := 130) rfl)
theorem w131 (C : Cx Z a0) : (Jvm.Cond.laysFinal "com/example/inchworm/inchworm/core/IdempotencyKey" "com/example/inchworm/inchworm/core/IdempotencyKey" "value" "Ljava/lang/String;").before a0 Z = true := C.1 _ (List.mem_of_getElem? (i := 131) rfl)
theorem w132 (C : Cx Z a0) : (Jvm.Cond.methodLink "com/example/inchworm/inchworm/core/IdempotencyKeyParseHeaderPinLaw" (41 : Nat) ({ cls := "com/example/inchworm/inchworm/core/IdempotencyKey", name := "value", desc := "()Ljava/lang/String;" } : Jvm.MethodName)).before a0 Z = true := C.1 _ (List.mem_of_getElem? (i := 132) rfl)
theorem w133 (C : Cx Z a0) : (Jvm.Cond.declares ({ cls := "com/example/inchworm/inchworm/core/IdempotencyKey", name := "value", desc := "()Ljava/lang/String;" } : Jvm.MethodName)).before a0 Z = true := C.1 _ (List.mem_of_getElem? (i := 133) rfl)
theorem w134 (C : Cx Z a0) : (Jvm.Cond.instanceMethod ({ cls := "com/example/inchworm/inchworm/core/IdempotencyKey", name := "value", desc := "()Ljava/lang/String;" } : Jvm.MethodName)).before a0 Z = true := C.1 _ (List.mem_of_getElem? (i := 134) rfl)
theorem w135 (C : Cx Z a0) : (Jvm.Cond.selects "com/example/inchworm/inchworm/core/IdempotencyKey" ({ cls := "com/example/inchworm/inchworm/core/IdempotencyKey", name := "value", desc := "()Ljava/lang/String;" } : Jvm.MethodName) ({ cls := "com/example/inchworm/inchworm/core/IdempotencyKey", name := "value", desc := "()Ljava/lang/String;" } : Jvm.MethodName)).before a0 Z = true := C.1 _ (List.mem_of_getElem? (i := 135) rfl)
theorem w136 (C : Cx Z a0) : (Jvm.Cond.code ({ cls := "com/example/inchworm/inchworm/core/IdempotencyKey", name := "value", desc := "()Ljava/lang/String;" } : Jvm.MethodName) prog_18_method_4_code (1 : Nat) (Option.some (Jvm.ClassFile.FieldType.object "java/lang/String"))).before a0 Z = true := C.1 _ (List.mem_of_getElem? (i := 136) rfl)
theorem w137 (C : Cx Z a0) : (Jvm.Cond.methodLink "com/example/inchworm/inchworm/core/IdempotencyKeyParseHeaderPinLaw" (45 : Nat) ({ cls := "java/lang/String", name := "equals", desc := "(Ljava/lang/Object;)Z" } : Jvm.MethodName)).before a0 Z = true := C.1 _ (List.mem_of_getElem? (i := 137) rfl)
theorem w138 (C : Cx Z a0) : (Jvm.Cond.declares ({ cls := "java/lang/String", name := "equals", desc := "(Ljava/lang/Object;)Z" } : Jvm.MethodName)).before a0 Z = true := C.1 _ (List.mem_of_getElem? (i := 138) rfl)
theorem w139 (C : Cx Z a0) : (Jvm.Cond.instanceMethod ({ cls := "java/lang/String", name := "equals", desc := "(Ljava/lang/Object;)Z" } : Jvm.MethodName)).before a0 Z = true := C.1 _ (List.mem_of_getElem? (i := 139) rfl)
theorem w140 (C : Cx Z a0) : (Jvm.Cond.selects "java/lang/String" ({ cls := "java/lang/String", name := "equals", desc := "(Ljava/lang/Object;)Z" } : Jvm.MethodName) ({ cls := "java/lang/String", name := "equals", desc := "(Ljava/lang/Object;)Z" } : Jvm.MethodName)).before a0 Z = true := C.1 _ (List.mem_of_getElem? (i := 140) rfl)
theorem w141 (C : Cx Z a0) : (Jvm.Cond.code ({ cls := "java/lang/String", name := "equals", desc := "(Ljava/lang/Object;)Z" } : Jvm.MethodName) jdk_42_method_66_code (3 : Nat) (Option.some Jvm.ClassFile.FieldType.boolean)).before a0 Z = true := C.1 _ (List.mem_of_getElem? (i := 141) rfl)
theorem w145 (C : Cx Z a0) : (Jvm.Cond.methodLink "com/example/inchworm/inchworm/core/IdempotencyKeyParseHeaderPinLaw" (14 : Nat) ({ cls := "com/example/inchworm/inchworm/core/IdempotencyKeyParseHeaderPinLaw", name := "wsChar", desc := "(II)C" } : Jvm.MethodName)).before a0 Z = true := C.1 _ (List.mem_of_getElem? (i := 145) rfl)
theorem w146 (C : Cx Z a0) : (Jvm.Cond.static ({ cls := "com/example/inchworm/inchworm/core/IdempotencyKeyParseHeaderPinLaw", name := "wsChar", desc := "(II)C" } : Jvm.MethodName)).before a0 Z = true := C.1 _ (List.mem_of_getElem? (i := 146) rfl)
theorem w147 (C : Cx Z a0) : (Jvm.Cond.code ({ cls := "com/example/inchworm/inchworm/core/IdempotencyKeyParseHeaderPinLaw", name := "wsChar", desc := "(II)C" } : Jvm.MethodName) method_4_code (2 : Nat) (Option.some Jvm.ClassFile.FieldType.char)).before a0 Z = true := C.1 _ (List.mem_of_getElem? (i := 147) rfl)
theorem w148 (C : Cx Z a0) : (Jvm.Cond.methodLink "java/lang/String" (685 : Nat) ({ cls := "java/lang/StringLatin1", name := "newString", desc := "([BII)Ljava/lang/String;" } : Jvm.MethodName)).before a0 Z = true := C.1 _ (List.mem_of_getElem? (i := 148) rfl)
theorem w149 (C : Cx Z a0) : (Jvm.Cond.static ({ cls := "java/lang/StringLatin1", name := "newString", desc := "([BII)Ljava/lang/String;" } : Jvm.MethodName)).before a0 Z = true := C.1 _ (List.mem_of_getElem? (i := 149) rfl)
theorem w150 (C : Cx Z a0) : (Jvm.Cond.code ({ cls := "java/lang/StringLatin1", name := "newString", desc := "([BII)Ljava/lang/String;" } : Jvm.MethodName) jdk_43_method_47_code (3 : Nat) (Option.some (Jvm.ClassFile.FieldType.object "java/lang/String"))).before a0 Z = true := C.1 _ (List.mem_of_getElem? (i := 150) rfl)
theorem w151 (C : Cx Z a0) : (Jvm.Cond.classLink "java/lang/StringLatin1" (1 : Nat) "java/lang/String").before a0 Z = true := C.1 _ (List.mem_of_getElem? (i := 151) rfl)
theorem w152 (C : Cx Z a0) : (Jvm.Cond.methodLink "java/lang/StringLatin1" (232 : Nat) ({ cls := "java/util/Arrays", name := "copyOfRange", desc := "([BII)[B" } : Jvm.MethodName)).before a0 Z = true := C.1 _ (List.mem_of_getElem? (i := 152) rfl)
theorem w153 (C : Cx Z a0) : (Jvm.Cond.static ({ cls := "java/util/Arrays", name := "copyOfRange", desc := "([BII)[B" } : Jvm.MethodName)).before a0 Z = true := C.1 _ (List.mem_of_getElem? (i := 153) rfl)
theorem w154 (C : Cx Z a0) : (Jvm.Cond.initialized "java/util/Arrays").before a0 Z = true := C.1 _ (List.mem_of_getElem? (i := 154) rfl)
theorem w155 (C : Cx Z a0) : (Jvm.Cond.code ({ cls := "java/util/Arrays", name := "copyOfRange", desc := "([BII)[B" } : Jvm.MethodName) jdk_65_method_132_code (3 : Nat) (Option.some (Jvm.ClassFile.FieldType.array Jvm.ClassFile.FieldType.byte))).before a0 Z = true := C.1 _ (List.mem_of_getElem? (i := 155) rfl)
theorem w156 (C : Cx Z a0) : (Jvm.Cond.methodLink "java/util/Arrays" (339 : Nat) ({ cls := "java/util/Arrays", name := "copyOfRangeByte", desc := "([BII)[B" } : Jvm.MethodName)).before a0 Z = true := C.1 _ (List.mem_of_getElem? (i := 156) rfl)
theorem w157 (C : Cx Z a0) : (Jvm.Cond.static ({ cls := "java/util/Arrays", name := "copyOfRangeByte", desc := "([BII)[B" } : Jvm.MethodName)).before a0 Z = true := C.1 _ (List.mem_of_getElem? (i := 157) rfl)
theorem w158 (C : Cx Z a0) : (Jvm.Cond.code ({ cls := "java/util/Arrays", name := "copyOfRangeByte", desc := "([BII)[B" } : Jvm.MethodName) jdk_65_method_133_code (5 : Nat) (Option.some (Jvm.ClassFile.FieldType.array Jvm.ClassFile.FieldType.byte))).before a0 Z = true := C.1 _ (List.mem_of_getElem? (i := 158) rfl)
theorem w159 (C : Cx Z a0) : (Jvm.Cond.methodLink "java/util/Arrays" (343 : Nat) ({ cls := "java/util/Arrays", name := "checkLength", desc := "(II)V" } : Jvm.MethodName)).before a0 Z = true := C.1 _ (List.mem_of_getElem? (i := 159) rfl)
theorem w160 (C : Cx Z a0) : (Jvm.Cond.static ({ cls := "java/util/Arrays", name := "checkLength", desc := "(II)V" } : Jvm.MethodName)).before a0 Z = true := C.1 _ (List.mem_of_getElem? (i := 160) rfl)
theorem w161 (C : Cx Z a0) : (Jvm.Cond.code ({ cls := "java/util/Arrays", name := "checkLength", desc := "(II)V" } : Jvm.MethodName) jdk_65_method_131_code (2 : Nat) (Option.none : Option Jvm.ClassFile.FieldType)).before a0 Z = true := C.1 _ (List.mem_of_getElem? (i := 161) rfl)
theorem w162 (C : Cx Z a0) : (Jvm.Cond.methodLink "java/util/Arrays" (304 : Nat) ({ cls := "java/lang/Math", name := "min", desc := "(II)I" } : Jvm.MethodName)).before a0 Z = true := C.1 _ (List.mem_of_getElem? (i := 162) rfl)
theorem w163 (C : Cx Z a0) : (Jvm.Cond.static ({ cls := "java/lang/Math", name := "min", desc := "(II)I" } : Jvm.MethodName)).before a0 Z = true := C.1 _ (List.mem_of_getElem? (i := 163) rfl)
theorem w164 (C : Cx Z a0) : (Jvm.Cond.initialized "java/lang/Math").before a0 Z = true := C.1 _ (List.mem_of_getElem? (i := 164) rfl)
theorem w165 (C : Cx Z a0) : (Jvm.Cond.code ({ cls := "java/lang/Math", name := "min", desc := "(II)I" } : Jvm.MethodName) jdk_29_method_69_code (2 : Nat) (Option.some Jvm.ClassFile.FieldType.int)).before a0 Z = true := C.1 _ (List.mem_of_getElem? (i := 165) rfl)
theorem w166 (C : Cx Z a0) : (Jvm.Cond.methodLink "java/util/Arrays" (150 : Nat) ({ cls := "java/lang/System", name := "arraycopy", desc := "(Ljava/lang/Object;ILjava/lang/Object;II)V" } : Jvm.MethodName)).before a0 Z = true := C.1 _ (List.mem_of_getElem? (i := 166) rfl)
theorem w167 (C : Cx Z a0) : (Jvm.Cond.static ({ cls := "java/lang/System", name := "arraycopy", desc := "(Ljava/lang/Object;ILjava/lang/Object;II)V" } : Jvm.MethodName)).before a0 Z = true := C.1 _ (List.mem_of_getElem? (i := 167) rfl)
theorem w168 (C : Cx Z a0) : (Jvm.Cond.initialized "java/lang/System").before a0 Z = true := C.1 _ (List.mem_of_getElem? (i := 168) rfl)
theorem w169 (C : Cx Z a0) : (Jvm.Cond.native ({ cls := "java/lang/System", name := "arraycopy", desc := "(Ljava/lang/Object;ILjava/lang/Object;II)V" } : Jvm.MethodName)).before a0 Z = true := C.1 _ (List.mem_of_getElem? (i := 169) rfl)
theorem w170 (C : Cx Z a0) : (Jvm.Cond.methodLink "java/lang/StringLatin1" (112 : Nat) ({ cls := "java/lang/String", name := "<init>", desc := "([BB)V" } : Jvm.MethodName)).before a0 Z = true := C.1 _ (List.mem_of_getElem? (i := 170) rfl)
theorem w171 (C : Cx Z a0) : (Jvm.Cond.methodLink "com/example/inchworm/inchworm/core/IdempotencyKey" (60 : Nat) ({ cls := "com/example/inchworm/inchworm/core/IdempotencyKey", name := "unquote", desc := "(Ljava/lang/String;)Ljava/lang/String;" } : Jvm.MethodName)).before a0 Z = true := C.1 _ (List.mem_of_getElem? (i := 171) rfl)
theorem w172 (C : Cx Z a0) : (Jvm.Cond.static ({ cls := "com/example/inchworm/inchworm/core/IdempotencyKey", name := "unquote", desc := "(Ljava/lang/String;)Ljava/lang/String;" } : Jvm.MethodName)).before a0 Z = true := C.1 _ (List.mem_of_getElem? (i := 172) rfl)
theorem w173 (C : Cx Z a0) : (Jvm.Cond.code ({ cls := "com/example/inchworm/inchworm/core/IdempotencyKey", name := "unquote", desc := "(Ljava/lang/String;)Ljava/lang/String;" } : Jvm.MethodName) prog_18_method_11_code (5 : Nat) (Option.some (Jvm.ClassFile.FieldType.object "java/lang/String"))).before a0 Z = true := C.1 _ (List.mem_of_getElem? (i := 173) rfl)
theorem w174 (C : Cx Z a0) : (Jvm.Cond.classLink "com/example/inchworm/inchworm/core/IdempotencyKey" (67 : Nat) "java/lang/StringBuilder").before a0 Z = true := C.1 _ (List.mem_of_getElem? (i := 174) rfl)
theorem w175 (C : Cx Z a0) : (Jvm.Cond.instantiable "java/lang/StringBuilder" (4 : Nat)).before a0 Z = true := C.1 _ (List.mem_of_getElem? (i := 175) rfl)
theorem w176 (C : Cx Z a0) : (Jvm.Cond.initialized "java/lang/StringBuilder").before a0 Z = true := C.1 _ (List.mem_of_getElem? (i := 176) rfl)
theorem w177 (C : Cx Z a0) : (Jvm.Cond.methodLink "com/example/inchworm/inchworm/core/IdempotencyKey" (69 : Nat) ({ cls := "java/lang/StringBuilder", name := "<init>", desc := "(I)V" } : Jvm.MethodName)).before a0 Z = true := C.1 _ (List.mem_of_getElem? (i := 177) rfl)
theorem w178 (C : Cx Z a0) : (Jvm.Cond.instanceMethod ({ cls := "java/lang/StringBuilder", name := "<init>", desc := "(I)V" } : Jvm.MethodName)).before a0 Z = true := C.1 _ (List.mem_of_getElem? (i := 178) rfl)
theorem w179 (C : Cx Z a0) : (Jvm.Cond.code ({ cls := "java/lang/StringBuilder", name := "<init>", desc := "(I)V" } : Jvm.MethodName) jdk_67_method_2_code (2 : Nat) (Option.none : Option Jvm.ClassFile.FieldType)).before a0 Z = true := C.1 _ (List.mem_of_getElem? (i := 179) rfl)
theorem w180 (C : Cx Z a0) : (Jvm.Cond.methodLink "java/lang/StringBuilder" (1 : Nat) ({ cls := "java/lang/AbstractStringBuilder", name := "<init>", desc := "(I)V" } : Jvm.MethodName)).before a0 Z = true := C.1 _ (List.mem_of_getElem? (i := 180) rfl)
theorem w181 (C : Cx Z a0) : (Jvm.Cond.instanceMethod ({ cls := "java/lang/AbstractStringBuilder", name := "<init>", desc := "(I)V" } : Jvm.MethodName)).before a0 Z = true := C.1 _ (List.mem_of_getElem? (i := 181) rfl)
theorem w184 (C : Cx Z a0) : (Jvm.Cond.initialized "java/lang/AbstractStringBuilder").before a0 Z = true := C.1 _ (List.mem_of_getElem? (i := 184) rfl)
theorem w185 (C : Cx Z a0) : (Jvm.Cond.code ({ cls := "java/lang/AbstractStringBuilder", name := "<init>", desc := "(I)V" } : Jvm.MethodName) jdk_68_method_2_code (2 : Nat) (Option.none : Option Jvm.ClassFile.FieldType)).before a0 Z = true := C.1 _ (List.mem_of_getElem? (i := 185) rfl)
theorem w186 (C : Cx Z a0) : (Jvm.Cond.methodLink "java/lang/AbstractStringBuilder" (3 : Nat) ({ cls := "java/lang/Object", name := "<init>", desc := "()V" } : Jvm.MethodName)).before a0 Z = true := C.1 _ (List.mem_of_getElem? (i := 186) rfl)
theorem w187 (C : Cx Z a0) : (Jvm.Cond.fieldLink "java/lang/AbstractStringBuilder" (18 : Nat) "java/lang/String" "COMPACT_STRINGS" "Z").before a0 Z = true := C.1 _ (List.mem_of_getElem? (i := 187) rfl)
theorem w188 (C : Cx Z a0) : (Jvm.Cond.fieldLink "java/lang/AbstractStringBuilder" (15 : Nat) "java/lang/AbstractStringBuilder" "value" "[B").before a0 Z = true := C.1 _ (List.mem_of_getElem? (i := 188) rfl)
theorem w189 (C : Cx Z a0) : (Jvm.Cond.lays "java/lang/StringBuilder" "java/lang/AbstractStringBuilder" "value" "[B").before a0 Z = true := C.1 _ (List.mem_of_getElem? (i := 189) rfl)
theorem w190 (C : Cx Z a0) : (Jvm.Cond.fieldLink "java/lang/AbstractStringBuilder" (22 : Nat) "java/lang/AbstractStringBuilder" "coder" "B").before a0 Z = true := C.1 _ (List.mem_of_getElem? (i := 190) rfl)
theorem w191 (C : Cx Z a0) : (Jvm.Cond.lays "java/lang/StringBuilder" "java/lang/AbstractStringBuilder" "coder" "B").before a0 Z = true := C.1 _ (List.mem_of_getElem? (i := 191) rfl)
theorem w192 (C : Cx Z a0) : (Jvm.Cond.methodLink "com/example/inchworm/inchworm/core/IdempotencyKey" (72 : Nat) ({ cls := "java/lang/StringBuilder", name := "append", desc := "(C)Ljava/lang/StringBuilder;" } : Jvm.MethodName)).before a0 Z = true := C.1 _ (List.mem_of_getElem? (i := 192) rfl)
theorem w193 (C : Cx Z a0) : (Jvm.Cond.declares ({ cls := "java/lang/StringBuilder", name := "append", desc := "(C)Ljava/lang/StringBuilder;" } : Jvm.MethodName)).before a0 Z = true := C.1 _ (List.mem_of_getElem? (i := 193) rfl)
theorem w194 (C : Cx Z a0) : (Jvm.Cond.instanceMethod ({ cls := "java/lang/StringBuilder", name := "append", desc := "(C)Ljava/lang/StringBuilder;" } : Jvm.MethodName)).before a0 Z = true := C.1 _ (List.mem_of_getElem? (i := 194) rfl)
theorem w195 (C : Cx Z a0) : (Jvm.Cond.selects "java/lang/StringBuilder" ({ cls := "java/lang/StringBuilder", name := "append", desc := "(C)Ljava/lang/StringBuilder;" } : Jvm.MethodName) ({ cls := "java/lang/StringBuilder", name := "append", desc := "(C)Ljava/lang/StringBuilder;" } : Jvm.MethodName)).before a0 Z = true := C.1 _ (List.mem_of_getElem? (i := 195) rfl)
theorem w196 (C : Cx Z a0) : (Jvm.Cond.code ({ cls := "java/lang/StringBuilder", name := "append", desc := "(C)Ljava/lang/StringBuilder;" } : Jvm.MethodName) jdk_67_method_14_code (2 : Nat) (Option.some (Jvm.ClassFile.FieldType.object "java/lang/StringBuilder"))).before a0 Z = true := C.1 _ (List.mem_of_getElem? (i := 196) rfl)
theorem w197 (C : Cx Z a0) : (Jvm.Cond.methodLink "java/lang/StringBuilder" (50 : Nat) ({ cls := "java/lang/AbstractStringBuilder", name := "append", desc := "(C)Ljava/lang/AbstractStringBuilder;" } : Jvm.MethodName)).before a0 Z = true := C.1 _ (List.mem_of_getElem? (i := 197) rfl)
theorem w198 (C : Cx Z a0) : (Jvm.Cond.instanceMethod ({ cls := "java/lang/AbstractStringBuilder", name := "append", desc := "(C)Ljava/lang/AbstractStringBuilder;" } : Jvm.MethodName)).before a0 Z = true := C.1 _ (List.mem_of_getElem? (i := 198) rfl)
theorem w199 (C : Cx Z a0) : (Jvm.Cond.superclass "java/lang/StringBuilder" "java/lang/AbstractStringBuilder").before a0 Z = true := C.1 _ (List.mem_of_getElem? (i := 199) rfl)
theorem w200 (C : Cx Z a0) : (Jvm.Cond.declares ({ cls := "java/lang/AbstractStringBuilder", name := "append", desc := "(C)Ljava/lang/AbstractStringBuilder;" } : Jvm.MethodName)).before a0 Z = true := C.1 _ (List.mem_of_getElem? (i := 200) rfl)
theorem w201 (C : Cx Z a0) : (Jvm.Cond.code ({ cls := "java/lang/AbstractStringBuilder", name := "append", desc := "(C)Ljava/lang/AbstractStringBuilder;" } : Jvm.MethodName) jdk_68_method_31_code (2 : Nat) (Option.some (Jvm.ClassFile.FieldType.object "java/lang/AbstractStringBuilder"))).before a0 Z = true := C.1 _ (List.mem_of_getElem? (i := 201) rfl)
theorem w202 (C : Cx Z a0) : (Jvm.Cond.fieldLink "java/lang/AbstractStringBuilder" (79 : Nat) "java/lang/AbstractStringBuilder" "count" "I").before a0 Z = true := C.1 _ (List.mem_of_getElem? (i := 202) rfl)
theorem w203 (C : Cx Z a0) : (Jvm.Cond.lays "java/lang/StringBuilder" "java/lang/AbstractStringBuilder" "count" "I").before a0 Z = true := C.1 _ (List.mem_of_getElem? (i := 203) rfl)
theorem w204 (C : Cx Z a0) : (Jvm.Cond.methodLink "java/lang/AbstractStringBuilder" (100 : Nat) ({ cls := "java/lang/AbstractStringBuilder", name := "ensureCapacityInternal", desc := "(I)V" } : Jvm.MethodName)).before a0 Z = true := C.1 _ (List.mem_of_getElem? (i := 204) rfl)
theorem w205 (C : Cx Z a0) : (Jvm.Cond.instanceMethod ({ cls := "java/lang/AbstractStringBuilder", name := "ensureCapacityInternal", desc := "(I)V" } : Jvm.MethodName)).before a0 Z = true := C.1 _ (List.mem_of_getElem? (i := 205) rfl)
theorem w207 (C : Cx Z a0) : (Jvm.Cond.selects "java/lang/StringBuilder" ({ cls := "java/lang/AbstractStringBuilder", name := "ensureCapacityInternal", desc := "(I)V" } : Jvm.MethodName) ({ cls := "java/lang/AbstractStringBuilder", name := "ensureCapacityInternal", desc := "(I)V" } : Jvm.MethodName)).before a0 Z = true := C.1 _ (List.mem_of_getElem? (i := 207) rfl)
theorem w208 (C : Cx Z a0) : (Jvm.Cond.code ({ cls := "java/lang/AbstractStringBuilder", name := "ensureCapacityInternal", desc := "(I)V" } : Jvm.MethodName) jdk_68_method_9_code (3 : Nat) (Option.none : Option Jvm.ClassFile.FieldType)).before a0 Z = true := C.1 _ (List.mem_of_getElem? (i := 208) rfl)
theorem w209 (C : Cx Z a0) : (Jvm.Cond.methodLink "java/lang/AbstractStringBuilder" (83 : Nat) ({ cls := "java/lang/AbstractStringBuilder", name := "isLatin1", desc := "()Z" } : Jvm.MethodName)).before a0 Z = true := C.1 _ (List.mem_of_getElem? (i := 209) rfl)
theorem w210 (C : Cx Z a0) : (Jvm.Cond.declares ({ cls := "java/lang/AbstractStringBuilder", name := "isLatin1", desc := "()Z" } : Jvm.MethodName)).before a0 Z = true := C.1 _ (List.mem_of_getElem? (i := 210) rfl)
theorem w211 (C : Cx Z a0) : (Jvm.Cond.instanceMethod ({ cls := "java/lang/AbstractStringBuilder", name := "isLatin1", desc := "()Z" } : Jvm.MethodName)).before a0 Z = true := C.1 _ (List.mem_of_getElem? (i := 211) rfl)
theorem w212 (C : Cx Z a0) : (Jvm.Cond.selects "java/lang/StringBuilder" ({ cls := "java/lang/AbstractStringBuilder", name := "isLatin1", desc := "()Z" } : Jvm.MethodName) ({ cls := "java/lang/AbstractStringBuilder", name := "isLatin1", desc := "()Z" } : Jvm.MethodName)).before a0 Z = true := C.1 _ (List.mem_of_getElem? (i := 212) rfl)
theorem w213 (C : Cx Z a0) : (Jvm.Cond.code ({ cls := "java/lang/AbstractStringBuilder", name := "isLatin1", desc := "()Z" } : Jvm.MethodName) jdk_68_method_68_code (1 : Nat) (Option.some Jvm.ClassFile.FieldType.boolean)).before a0 Z = true := C.1 _ (List.mem_of_getElem? (i := 213) rfl)
theorem w214 (C : Cx Z a0) : (Jvm.Cond.methodLink "java/lang/AbstractStringBuilder" (191 : Nat) ({ cls := "java/lang/StringLatin1", name := "canEncode", desc := "(C)Z" } : Jvm.MethodName)).before a0 Z = true := C.1 _ (List.mem_of_getElem? (i := 214) rfl)
theorem w215 (C : Cx Z a0) : (Jvm.Cond.methodLink "com/example/inchworm/inchworm/core/IdempotencyKey" (76 : Nat) ({ cls := "java/lang/StringBuilder", name := "toString", desc := "()Ljava/lang/String;" } : Jvm.MethodName)).before a0 Z = true := C.1 _ (List.mem_of_getElem? (i := 215) rfl)
theorem w216 (C : Cx Z a0) : (Jvm.Cond.declares ({ cls := "java/lang/StringBuilder", name := "toString", desc := "()Ljava/lang/String;" } : Jvm.MethodName)).before a0 Z = true := C.1 _ (List.mem_of_getElem? (i := 216) rfl)
theorem w217 (C : Cx Z a0) : (Jvm.Cond.instanceMethod ({ cls := "java/lang/StringBuilder", name := "toString", desc := "()Ljava/lang/String;" } : Jvm.MethodName)).before a0 Z = true := C.1 _ (List.mem_of_getElem? (i := 217) rfl)
theorem w218 (C : Cx Z a0) : (Jvm.Cond.selects "java/lang/StringBuilder" ({ cls := "java/lang/StringBuilder", name := "toString", desc := "()Ljava/lang/String;" } : Jvm.MethodName) ({ cls := "java/lang/StringBuilder", name := "toString", desc := "()Ljava/lang/String;" } : Jvm.MethodName)).before a0 Z = true := C.1 _ (List.mem_of_getElem? (i := 218) rfl)
theorem w219 (C : Cx Z a0) : (Jvm.Cond.code ({ cls := "java/lang/StringBuilder", name := "toString", desc := "()Ljava/lang/String;" } : Jvm.MethodName) jdk_67_method_42_code (1 : Nat) (Option.some (Jvm.ClassFile.FieldType.object "java/lang/String"))).before a0 Z = true := C.1 _ (List.mem_of_getElem? (i := 219) rfl)
theorem w220 (C : Cx Z a0) : (Jvm.Cond.classLink "java/lang/StringBuilder" (18 : Nat) "java/lang/String").before a0 Z = true := C.1 _ (List.mem_of_getElem? (i := 220) rfl)
theorem w221 (C : Cx Z a0) : (Jvm.Cond.methodLink "java/lang/StringBuilder" (137 : Nat) ({ cls := "java/lang/String", name := "<init>", desc := "(Ljava/lang/StringBuilder;)V" } : Jvm.MethodName)).before a0 Z = true := C.1 _ (List.mem_of_getElem? (i := 221) rfl)
theorem w222 (C : Cx Z a0) : (Jvm.Cond.instanceMethod ({ cls := "java/lang/String", name := "<init>", desc := "(Ljava/lang/StringBuilder;)V" } : Jvm.MethodName)).before a0 Z = true := C.1 _ (List.mem_of_getElem? (i := 222) rfl)
theorem w223 (C : Cx Z a0) : (Jvm.Cond.code ({ cls := "java/lang/String", name := "<init>", desc := "(Ljava/lang/StringBuilder;)V" } : Jvm.MethodName) jdk_42_method_53_code (2 : Nat) (Option.none : Option Jvm.ClassFile.FieldType)).before a0 Z = true := C.1 _ (List.mem_of_getElem? (i := 223) rfl)
theorem w224 (C : Cx Z a0) : (Jvm.Cond.methodLink "java/lang/String" (489 : Nat) ({ cls := "java/lang/String", name := "<init>", desc := "(Ljava/lang/AbstractStringBuilder;Ljava/lang/Void;)V" } : Jvm.MethodName)).before a0 Z = true := C.1 _ (List.mem_of_getElem? (i := 224) rfl)
theorem w225 (C : Cx Z a0) : (Jvm.Cond.instanceMethod ({ cls := "java/lang/String", name := "<init>", desc := "(Ljava/lang/AbstractStringBuilder;Ljava/lang/Void;)V" } : Jvm.MethodName)).before a0 Z = true := C.1 _ (List.mem_of_getElem? (i := 225) rfl)
theorem w226 (C : Cx Z a0) : (Jvm.Cond.code ({ cls := "java/lang/String", name := "<init>", desc := "(Ljava/lang/AbstractStringBuilder;Ljava/lang/Void;)V" } : Jvm.MethodName) jdk_42_method_150_code (5 : Nat) (Option.none : Option Jvm.ClassFile.FieldType)).before a0 Z = true := C.1 _ (List.mem_of_getElem? (i := 226) rfl)
theorem w227 (C : Cx Z a0) : (Jvm.Cond.methodLink "java/lang/String" (552 : Nat) ({ cls := "java/lang/AbstractStringBuilder", name := "getValue", desc := "()[B" } : Jvm.MethodName)).before a0 Z = true := C.1 _ (List.mem_of_getElem? (i := 227) rfl)
theorem w228 (C : Cx Z a0) : (Jvm.Cond.declares ({ cls := "java/lang/AbstractStringBuilder", name := "getValue", desc := "()[B" } : Jvm.MethodName)).before a0 Z = true := C.1 _ (List.mem_of_getElem? (i := 228) rfl)
theorem w229 (C : Cx Z a0) : (Jvm.Cond.instanceMethod ({ cls := "java/lang/AbstractStringBuilder", name := "getValue", desc := "()[B" } : Jvm.MethodName)).before a0 Z = true := C.1 _ (List.mem_of_getElem? (i := 229) rfl)
theorem w230 (C : Cx Z a0) : (Jvm.Cond.selects "java/lang/StringBuilder" ({ cls := "java/lang/AbstractStringBuilder", name := "getValue", desc := "()[B" } : Jvm.MethodName) ({ cls := "java/lang/AbstractStringBuilder", name := "getValue", desc := "()[B" } : Jvm.MethodName)).before a0 Z = true := C.1 _ (List.mem_of_getElem? (i := 230) rfl)
theorem w231 (C : Cx Z a0) : (Jvm.Cond.code ({ cls := "java/lang/AbstractStringBuilder", name := "getValue", desc := "()[B" } : Jvm.MethodName) jdk_68_method_64_code (1 : Nat) (Option.some (Jvm.ClassFile.FieldType.array Jvm.ClassFile.FieldType.byte))).before a0 Z = true := C.1 _ (List.mem_of_getElem? (i := 231) rfl)
theorem w232 (C : Cx Z a0) : (Jvm.Cond.methodLink "java/lang/String" (549 : Nat) ({ cls := "java/lang/AbstractStringBuilder", name := "length", desc := "()I" } : Jvm.MethodName)).before a0 Z = true := C.1 _ (List.mem_of_getElem? (i := 232) rfl)
theorem w233 (C : Cx Z a0) : (Jvm.Cond.declares ({ cls := "java/lang/AbstractStringBuilder", name := "length", desc := "()I" } : Jvm.MethodName)).before a0 Z = true := C.1 _ (List.mem_of_getElem? (i := 233) rfl)
theorem w234 (C : Cx Z a0) : (Jvm.Cond.instanceMethod ({ cls := "java/lang/AbstractStringBuilder", name := "length", desc := "()I" } : Jvm.MethodName)).before a0 Z = true := C.1 _ (List.mem_of_getElem? (i := 234) rfl)
theorem w235 (C : Cx Z a0) : (Jvm.Cond.selects "java/lang/StringBuilder" ({ cls := "java/lang/AbstractStringBuilder", name := "length", desc := "()I" } : Jvm.MethodName) ({ cls := "java/lang/StringBuilder", name := "length", desc := "()I" } : Jvm.MethodName)).before a0 Z = true := C.1 _ (List.mem_of_getElem? (i := 235) rfl)
theorem w236 (C : Cx Z a0) : (Jvm.Cond.instanceMethod ({ cls := "java/lang/StringBuilder", name := "length", desc := "()I" } : Jvm.MethodName)).before a0 Z = true := C.1 _ (List.mem_of_getElem? (i := 236) rfl)
theorem w237 (C : Cx Z a0) : (Jvm.Cond.code ({ cls := "java/lang/StringBuilder", name := "length", desc := "()I" } : Jvm.MethodName) jdk_67_method_93_code (1 : Nat) (Option.some Jvm.ClassFile.FieldType.int)).before a0 Z = true := C.1 _ (List.mem_of_getElem? (i := 237) rfl)
theorem w238 (C : Cx Z a0) : (Jvm.Cond.methodLink "java/lang/StringBuilder" (343 : Nat) ({ cls := "java/lang/AbstractStringBuilder", name := "length", desc := "()I" } : Jvm.MethodName)).before a0 Z = true := C.1 _ (List.mem_of_getElem? (i := 238) rfl)
theorem w239 (C : Cx Z a0) : (Jvm.Cond.code ({ cls := "java/lang/AbstractStringBuilder", name := "length", desc := "()I" } : Jvm.MethodName) jdk_68_method_6_code (1 : Nat) (Option.some Jvm.ClassFile.FieldType.int)).before a0 Z = true := C.1 _ (List.mem_of_getElem? (i := 239) rfl)
theorem w240 (C : Cx Z a0) : (Jvm.Cond.methodLink "java/lang/String" (1047 : Nat) ({ cls := "java/lang/AbstractStringBuilder", name := "isLatin1", desc := "()Z" } : Jvm.MethodName)).before a0 Z = true := C.1 _ (List.mem_of_getElem? (i := 240) rfl)
theorem w241 (C : Cx Z a0) : (Jvm.Cond.methodLink "java/lang/String" (54 : Nat) ({ cls := "java/util/Arrays", name := "copyOfRange", desc := "([BII)[B" } : Jvm.MethodName)).before a0 Z = true := C.1 _ (List.mem_of_getElem? (i := 241) rfl)
end OwnWords
theorem d0_0 : decode jdk_43_method_3_code 0 = .ok (.iload_n 0, 1) := by decide +kernel
theorem d0_1 : decode jdk_43_method_3_code 1 = .ok (.sipush 255, 3) := by decide +kernel
theorem d0_12 : decode jdk_43_method_3_code 12 = .ok (.ireturn, 1) := by decide +kernel
theorem d0_4 : decode jdk_43_method_3_code 4 = .ok (.if_icmp .gt 7, 3) := by decide +kernel
theorem d0_7 : decode jdk_43_method_3_code 7 = .ok (.iconst 1, 1) := by decide +kernel
theorem d0_8 : decode jdk_43_method_3_code 8 = .ok (.goto 4, 3) := by decide +kernel
theorem d10_0 : decode jdk_41_method_12_code 0 = .ok (.iload_n 0, 1) := by decide +kernel
theorem d10_1 : decode jdk_41_method_12_code 1 = .ok (.ifCond .lt 13, 3) := by decide +kernel
theorem d10_10 : decode jdk_41_method_12_code 10 = .ok (.iload_n 2, 1) := by decide +kernel
theorem d10_11 : decode jdk_41_method_12_code 11 = .ok (.if_icmp .le 11, 3) := by decide +kernel
theorem d10_22 : decode jdk_41_method_12_code 22 = .ok (.iload_n 0, 1) := by decide +kernel
theorem d10_23 : decode jdk_41_method_12_code 23 = .ok (.ireturn, 1) := by decide +kernel
theorem d10_4 : decode jdk_41_method_12_code 4 = .ok (.iload_n 0, 1) := by decide +kernel
theorem d10_5 : decode jdk_41_method_12_code 5 = .ok (.iload_n 1, 1) := by decide +kernel
theorem d10_6 : decode jdk_41_method_12_code 6 = .ok (.if_icmp .gt 8, 3) := by decide +kernel
theorem d10_9 : decode jdk_41_method_12_code 9 = .ok (.iload_n 1, 1) := by decide +kernel
theorem d11_0 : decode jdk_42_method_158_code 0 = .ok (.iload_n 0, 1) := by decide +kernel
theorem d11_1 : decode jdk_42_method_158_code 1 = .ok (.iload_n 1, 1) := by decide +kernel
theorem d11_10 : decode jdk_42_method_158_code 10 = .ok (.return_, 1) := by decide +kernel
theorem d11_2 : decode jdk_42_method_158_code 2 = .ok (.iload_n 2, 1) := by decide +kernel
theorem d11_3 : decode jdk_42_method_158_code 3 = .ok (.getstatic 1053, 3) := by decide +kernel
theorem d11_6 : decode jdk_42_method_158_code 6 = .ok (.invokestatic 1062, 3) := by decide +kernel
theorem d11_9 : decode jdk_42_method_158_code 9 = .ok (.pop, 1) := by decide +kernel
theorem d12_0 : decode jdk_43_method_47_code 0 = .ok (.iload_n 2, 1) := by decide +kernel
theorem d12_1 : decode jdk_43_method_47_code 1 = .ok (.ifCond .ne 6, 3) := by decide +kernel
theorem d12_10 : decode jdk_43_method_47_code 10 = .ok (.dup, 1) := by decide +kernel
theorem d12_11 : decode jdk_43_method_47_code 11 = .ok (.aload_n 0, 1) := by decide +kernel
theorem d12_12 : decode jdk_43_method_47_code 12 = .ok (.iload_n 1, 1) := by decide +kernel
theorem d12_13 : decode jdk_43_method_47_code 13 = .ok (.iload_n 1, 1) := by decide +kernel
theorem d12_14 : decode jdk_43_method_47_code 14 = .ok (.iload_n 2, 1) := by decide +kernel
theorem d12_15 : decode jdk_43_method_47_code 15 = .ok (.iadd, 1) := by decide +kernel
theorem d12_16 : decode jdk_43_method_47_code 16 = .ok (.invokestatic 232, 3) := by decide +kernel
theorem d12_19 : decode jdk_43_method_47_code 19 = .ok (.iconst 0, 1) := by decide +kernel
theorem d12_20 : decode jdk_43_method_47_code 20 = .ok (.invokespecial 112, 3) := by decide +kernel
theorem d12_23 : decode jdk_43_method_47_code 23 = .ok (.areturn, 1) := by decide +kernel
theorem d12_7 : decode jdk_43_method_47_code 7 = .ok (.new 1, 3) := by decide +kernel
theorem d13_0 : decode jdk_42_method_92_code 0 = .ok (.aload_n 0, 1) := by decide +kernel
theorem d13_1 : decode jdk_42_method_92_code 1 = .ok (.invokevirtual 505, 3) := by decide +kernel
theorem d13_11 : decode jdk_42_method_92_code 11 = .ok (.iload_n 1, 1) := by decide +kernel
theorem d13_12 : decode jdk_42_method_92_code 12 = .ok (.ifCond .ne 10, 3) := by decide +kernel
theorem d13_15 : decode jdk_42_method_92_code 15 = .ok (.iload_n 2, 1) := by decide +kernel
theorem d13_16 : decode jdk_42_method_92_code 16 = .ok (.iload_n 3, 1) := by decide +kernel
theorem d13_17 : decode jdk_42_method_92_code 17 = .ok (.if_icmp .ne 5, 3) := by decide +kernel
theorem d13_20 : decode jdk_42_method_92_code 20 = .ok (.aload_n 0, 1) := by decide +kernel
theorem d13_21 : decode jdk_42_method_92_code 21 = .ok (.areturn, 1) := by decide +kernel
theorem d13_22 : decode jdk_42_method_92_code 22 = .ok (.iload_n 2, 1) := by decide +kernel
theorem d13_23 : decode jdk_42_method_92_code 23 = .ok (.iload_n 1, 1) := by decide +kernel
theorem d13_24 : decode jdk_42_method_92_code 24 = .ok (.isub, 1) := by decide +kernel
theorem d13_25 : decode jdk_42_method_92_code 25 = .ok (.istore 4, 2) := by decide +kernel
theorem d13_27 : decode jdk_42_method_92_code 27 = .ok (.aload_n 0, 1) := by decide +kernel
theorem d13_28 : decode jdk_42_method_92_code 28 = .ok (.invokevirtual 492, 3) := by decide +kernel
theorem d13_31 : decode jdk_42_method_92_code 31 = .ok (.ifCond .eq 16, 3) := by decide +kernel
theorem d13_34 : decode jdk_42_method_92_code 34 = .ok (.aload_n 0, 1) := by decide +kernel
theorem d13_35 : decode jdk_42_method_92_code 35 = .ok (.getfield 9, 3) := by decide +kernel
theorem d13_38 : decode jdk_42_method_92_code 38 = .ok (.iload_n 1, 1) := by decide +kernel
theorem d13_39 : decode jdk_42_method_92_code 39 = .ok (.iload 4, 2) := by decide +kernel
theorem d13_4 : decode jdk_42_method_92_code 4 = .ok (.istore_n 3, 1) := by decide +kernel
theorem d13_41 : decode jdk_42_method_92_code 41 = .ok (.invokestatic 685, 3) := by decide +kernel
theorem d13_44 : decode jdk_42_method_92_code 44 = .ok (.goto 13, 3) := by decide +kernel
theorem d13_5 : decode jdk_42_method_92_code 5 = .ok (.iload_n 1, 1) := by decide +kernel
theorem d13_57 : decode jdk_42_method_92_code 57 = .ok (.areturn, 1) := by decide +kernel
theorem d13_6 : decode jdk_42_method_92_code 6 = .ok (.iload_n 2, 1) := by decide +kernel
theorem d13_7 : decode jdk_42_method_92_code 7 = .ok (.iload_n 3, 1) := by decide +kernel
theorem d13_8 : decode jdk_42_method_92_code 8 = .ok (.invokestatic 521, 3) := by decide +kernel
theorem d14_0 : decode jdk_68_method_2_code 0 = .ok (.aload_n 0, 1) := by decide +kernel
theorem d14_1 : decode jdk_68_method_2_code 1 = .ok (.invokespecial 3, 3) := by decide +kernel
theorem d14_10 : decode jdk_68_method_2_code 10 = .ok (.aload_n 0, 1) := by decide +kernel
theorem d14_11 : decode jdk_68_method_2_code 11 = .ok (.iload_n 1, 1) := by decide +kernel
theorem d14_12 : decode jdk_68_method_2_code 12 = .ok (.newarray .byte, 2) := by decide +kernel
theorem d14_14 : decode jdk_68_method_2_code 14 = .ok (.putfield 15, 3) := by decide +kernel
theorem d14_17 : decode jdk_68_method_2_code 17 = .ok (.aload_n 0, 1) := by decide +kernel
theorem d14_18 : decode jdk_68_method_2_code 18 = .ok (.iconst 0, 1) := by decide +kernel
theorem d14_19 : decode jdk_68_method_2_code 19 = .ok (.putfield 22, 3) := by decide +kernel
theorem d14_22 : decode jdk_68_method_2_code 22 = .ok (.goto 16, 3) := by decide +kernel
theorem d14_38 : decode jdk_68_method_2_code 38 = .ok (.return_, 1) := by decide +kernel
theorem d14_4 : decode jdk_68_method_2_code 4 = .ok (.getstatic 18, 3) := by decide +kernel
theorem d14_7 : decode jdk_68_method_2_code 7 = .ok (.ifCond .eq 18, 3) := by decide +kernel
theorem d15_0 : decode jdk_67_method_2_code 0 = .ok (.aload_n 0, 1) := by decide +kernel
theorem d15_1 : decode jdk_67_method_2_code 1 = .ok (.iload_n 1, 1) := by decide +kernel
theorem d15_2 : decode jdk_67_method_2_code 2 = .ok (.invokespecial 1, 3) := by decide +kernel
theorem d15_5 : decode jdk_67_method_2_code 5 = .ok (.return_, 1) := by decide +kernel
theorem d16_0 : decode jdk_68_method_68_code 0 = .ok (.getstatic 18, 3) := by decide +kernel
theorem d16_10 : decode jdk_68_method_68_code 10 = .ok (.ifCond .ne 7, 3) := by decide +kernel
theorem d16_13 : decode jdk_68_method_68_code 13 = .ok (.iconst 1, 1) := by decide +kernel
theorem d16_14 : decode jdk_68_method_68_code 14 = .ok (.goto 4, 3) := by decide +kernel
theorem d16_18 : decode jdk_68_method_68_code 18 = .ok (.ireturn, 1) := by decide +kernel
theorem d16_3 : decode jdk_68_method_68_code 3 = .ok (.ifCond .eq 14, 3) := by decide +kernel
theorem d16_6 : decode jdk_68_method_68_code 6 = .ok (.aload_n 0, 1) := by decide +kernel
theorem d16_7 : decode jdk_68_method_68_code 7 = .ok (.getfield 22, 3) := by decide +kernel
theorem d17_0 : decode jdk_68_method_9_code 0 = .ok (.aload_n 0, 1) := by decide +kernel
theorem d17_1 : decode jdk_68_method_9_code 1 = .ok (.getfield 15, 3) := by decide +kernel
theorem d17_10 : decode jdk_68_method_9_code 10 = .ok (.istore_n 2, 1) := by decide +kernel
theorem d17_11 : decode jdk_68_method_9_code 11 = .ok (.iload_n 1, 1) := by decide +kernel
theorem d17_12 : decode jdk_68_method_9_code 12 = .ok (.iload_n 2, 1) := by decide +kernel
theorem d17_13 : decode jdk_68_method_9_code 13 = .ok (.isub, 1) := by decide +kernel
theorem d17_14 : decode jdk_68_method_9_code 14 = .ok (.ifCond .le 24, 3) := by decide +kernel
theorem d17_38 : decode jdk_68_method_9_code 38 = .ok (.return_, 1) := by decide +kernel
theorem d17_4 : decode jdk_68_method_9_code 4 = .ok (.arraylength, 1) := by decide +kernel
theorem d17_5 : decode jdk_68_method_9_code 5 = .ok (.aload_n 0, 1) := by decide +kernel
theorem d17_6 : decode jdk_68_method_9_code 6 = .ok (.getfield 22, 3) := by decide +kernel
theorem d17_9 : decode jdk_68_method_9_code 9 = .ok (.ishr, 1) := by decide +kernel
theorem d18_0 : decode jdk_68_method_31_code 0 = .ok (.aload_n 0, 1) := by decide +kernel
theorem d18_1 : decode jdk_68_method_31_code 1 = .ok (.aload_n 0, 1) := by decide +kernel
theorem d18_10 : decode jdk_68_method_31_code 10 = .ok (.aload_n 0, 1) := by decide +kernel
theorem d18_11 : decode jdk_68_method_31_code 11 = .ok (.invokevirtual 83, 3) := by decide +kernel
theorem d18_14 : decode jdk_68_method_31_code 14 = .ok (.ifCond .eq 31, 3) := by decide +kernel
theorem d18_17 : decode jdk_68_method_31_code 17 = .ok (.iload_n 1, 1) := by decide +kernel
theorem d18_18 : decode jdk_68_method_31_code 18 = .ok (.invokestatic 191, 3) := by decide +kernel
theorem d18_2 : decode jdk_68_method_31_code 2 = .ok (.getfield 79, 3) := by decide +kernel
theorem d18_21 : decode jdk_68_method_31_code 21 = .ok (.ifCond .eq 24, 3) := by decide +kernel
theorem d18_24 : decode jdk_68_method_31_code 24 = .ok (.aload_n 0, 1) := by decide +kernel
theorem d18_25 : decode jdk_68_method_31_code 25 = .ok (.getfield 15, 3) := by decide +kernel
theorem d18_28 : decode jdk_68_method_31_code 28 = .ok (.aload_n 0, 1) := by decide +kernel
theorem d18_29 : decode jdk_68_method_31_code 29 = .ok (.dup, 1) := by decide +kernel
theorem d18_30 : decode jdk_68_method_31_code 30 = .ok (.getfield 79, 3) := by decide +kernel
theorem d18_33 : decode jdk_68_method_31_code 33 = .ok (.dup_x1, 1) := by decide +kernel
theorem d18_34 : decode jdk_68_method_31_code 34 = .ok (.iconst 1, 1) := by decide +kernel
theorem d18_35 : decode jdk_68_method_31_code 35 = .ok (.iadd, 1) := by decide +kernel
theorem d18_36 : decode jdk_68_method_31_code 36 = .ok (.putfield 79, 3) := by decide +kernel
theorem d18_39 : decode jdk_68_method_31_code 39 = .ok (.iload_n 1, 1) := by decide +kernel
theorem d18_40 : decode jdk_68_method_31_code 40 = .ok (.i2b, 1) := by decide +kernel
theorem d18_41 : decode jdk_68_method_31_code 41 = .ok (.bastore, 1) := by decide +kernel
theorem d18_42 : decode jdk_68_method_31_code 42 = .ok (.goto 33, 3) := by decide +kernel
theorem d18_5 : decode jdk_68_method_31_code 5 = .ok (.iconst 1, 1) := by decide +kernel
theorem d18_6 : decode jdk_68_method_31_code 6 = .ok (.iadd, 1) := by decide +kernel
theorem d18_7 : decode jdk_68_method_31_code 7 = .ok (.invokevirtual 100, 3) := by decide +kernel
theorem d18_75 : decode jdk_68_method_31_code 75 = .ok (.aload_n 0, 1) := by decide +kernel
theorem d18_76 : decode jdk_68_method_31_code 76 = .ok (.areturn, 1) := by decide +kernel
theorem d19_0 : decode jdk_67_method_14_code 0 = .ok (.aload_n 0, 1) := by decide +kernel
theorem d19_1 : decode jdk_67_method_14_code 1 = .ok (.iload_n 1, 1) := by decide +kernel
theorem d19_2 : decode jdk_67_method_14_code 2 = .ok (.invokespecial 50, 3) := by decide +kernel
theorem d19_5 : decode jdk_67_method_14_code 5 = .ok (.pop, 1) := by decide +kernel
theorem d19_6 : decode jdk_67_method_14_code 6 = .ok (.aload_n 0, 1) := by decide +kernel
theorem d19_7 : decode jdk_67_method_14_code 7 = .ok (.areturn, 1) := by decide +kernel
theorem d1_0 : decode jdk_43_method_46_code 0 = .ok (.iconst 1, 1) := by decide +kernel
theorem d1_1 : decode jdk_43_method_46_code 1 = .ok (.newarray .byte, 2) := by decide +kernel
theorem d1_3 : decode jdk_43_method_46_code 3 = .ok (.dup, 1) := by decide +kernel
theorem d1_4 : decode jdk_43_method_46_code 4 = .ok (.iconst 0, 1) := by decide +kernel
theorem d1_5 : decode jdk_43_method_46_code 5 = .ok (.iload_n 0, 1) := by decide +kernel
theorem d1_6 : decode jdk_43_method_46_code 6 = .ok (.i2b, 1) := by decide +kernel
theorem d1_7 : decode jdk_43_method_46_code 7 = .ok (.bastore, 1) := by decide +kernel
theorem d1_8 : decode jdk_43_method_46_code 8 = .ok (.areturn, 1) := by decide +kernel
theorem d20_0 : decode jdk_68_method_64_code 0 = .ok (.aload_n 0, 1) := by decide +kernel
theorem d20_1 : decode jdk_68_method_64_code 1 = .ok (.getfield 15, 3) := by decide +kernel
theorem d20_4 : decode jdk_68_method_64_code 4 = .ok (.areturn, 1) := by decide +kernel
theorem d21_0 : decode jdk_68_method_6_code 0 = .ok (.aload_n 0, 1) := by decide +kernel
theorem d21_1 : decode jdk_68_method_6_code 1 = .ok (.getfield 79, 3) := by decide +kernel
theorem d21_4 : decode jdk_68_method_6_code 4 = .ok (.ireturn, 1) := by decide +kernel
theorem d22_0 : decode jdk_67_method_93_code 0 = .ok (.aload_n 0, 1) := by decide +kernel
theorem d22_1 : decode jdk_67_method_93_code 1 = .ok (.invokespecial 343, 3) := by decide +kernel
theorem d22_4 : decode jdk_67_method_93_code 4 = .ok (.ireturn, 1) := by decide +kernel
theorem d23_0 : decode jdk_42_method_150_code 0 = .ok (.aload_n 0, 1) := by decide +kernel
theorem d23_1 : decode jdk_42_method_150_code 1 = .ok (.invokespecial 1, 3) := by decide +kernel
theorem d23_10 : decode jdk_42_method_150_code 10 = .ok (.invokevirtual 549, 3) := by decide +kernel
theorem d23_13 : decode jdk_42_method_150_code 13 = .ok (.istore 4, 2) := by decide +kernel
theorem d23_15 : decode jdk_42_method_150_code 15 = .ok (.aload_n 1, 1) := by decide +kernel
theorem d23_16 : decode jdk_42_method_150_code 16 = .ok (.invokevirtual 1047, 3) := by decide +kernel
theorem d23_19 : decode jdk_42_method_150_code 19 = .ok (.ifCond .eq 22, 3) := by decide +kernel
theorem d23_22 : decode jdk_42_method_150_code 22 = .ok (.aload_n 0, 1) := by decide +kernel
theorem d23_23 : decode jdk_42_method_150_code 23 = .ok (.iconst 0, 1) := by decide +kernel
theorem d23_24 : decode jdk_42_method_150_code 24 = .ok (.putfield 15, 3) := by decide +kernel
theorem d23_27 : decode jdk_42_method_150_code 27 = .ok (.aload_n 0, 1) := by decide +kernel
theorem d23_28 : decode jdk_42_method_150_code 28 = .ok (.aload_n 3, 1) := by decide +kernel
theorem d23_29 : decode jdk_42_method_150_code 29 = .ok (.iconst 0, 1) := by decide +kernel
theorem d23_30 : decode jdk_42_method_150_code 30 = .ok (.iload 4, 2) := by decide +kernel
theorem d23_32 : decode jdk_42_method_150_code 32 = .ok (.invokestatic 54, 3) := by decide +kernel
theorem d23_35 : decode jdk_42_method_150_code 35 = .ok (.putfield 9, 3) := by decide +kernel
theorem d23_38 : decode jdk_42_method_150_code 38 = .ok (.goto 59, 3) := by decide +kernel
theorem d23_4 : decode jdk_42_method_150_code 4 = .ok (.aload_n 1, 1) := by decide +kernel
theorem d23_5 : decode jdk_42_method_150_code 5 = .ok (.invokevirtual 552, 3) := by decide +kernel
theorem d23_8 : decode jdk_42_method_150_code 8 = .ok (.astore_n 3, 1) := by decide +kernel
theorem d23_9 : decode jdk_42_method_150_code 9 = .ok (.aload_n 1, 1) := by decide +kernel
theorem d23_97 : decode jdk_42_method_150_code 97 = .ok (.return_, 1) := by decide +kernel
theorem d24_0 : decode jdk_42_method_53_code 0 = .ok (.aload_n 0, 1) := by decide +kernel
theorem d24_1 : decode jdk_42_method_53_code 1 = .ok (.aload_n 1, 1) := by decide +kernel
theorem d24_2 : decode jdk_42_method_53_code 2 = .ok (.aconst_null, 1) := by decide +kernel
theorem d24_3 : decode jdk_42_method_53_code 3 = .ok (.invokespecial 489, 3) := by decide +kernel
theorem d24_6 : decode jdk_42_method_53_code 6 = .ok (.return_, 1) := by decide +kernel
theorem d25_0 : decode jdk_67_method_42_code 0 = .ok (.new 18, 3) := by decide +kernel
theorem d25_3 : decode jdk_67_method_42_code 3 = .ok (.dup, 1) := by decide +kernel
theorem d25_4 : decode jdk_67_method_42_code 4 = .ok (.aload_n 0, 1) := by decide +kernel
theorem d25_5 : decode jdk_67_method_42_code 5 = .ok (.invokespecial 137, 3) := by decide +kernel
theorem d25_8 : decode jdk_67_method_42_code 8 = .ok (.areturn, 1) := by decide +kernel
theorem d26_0 : decode prog_18_method_1_code 0 = .ok (.aload_n 0, 1) := by decide +kernel
theorem d26_1 : decode prog_18_method_1_code 1 = .ok (.invokespecial 1, 3) := by decide +kernel
theorem d26_4 : decode prog_18_method_1_code 4 = .ok (.aload_n 0, 1) := by decide +kernel
theorem d26_5 : decode prog_18_method_1_code 5 = .ok (.aload_n 1, 1) := by decide +kernel
theorem d26_6 : decode prog_18_method_1_code 6 = .ok (.putfield 7, 3) := by decide +kernel
theorem d26_9 : decode prog_18_method_1_code 9 = .ok (.return_, 1) := by decide +kernel
theorem d27_0 : decode prog_18_method_4_code 0 = .ok (.aload_n 0, 1) := by decide +kernel
theorem d27_1 : decode prog_18_method_4_code 1 = .ok (.getfield 7, 3) := by decide +kernel
theorem d27_4 : decode prog_18_method_4_code 4 = .ok (.areturn, 1) := by decide +kernel
theorem d28_0 : decode jdk_31_method_11_code 0 = .ok (.aload_n 0, 1) := by decide +kernel
theorem d28_1 : decode jdk_31_method_11_code 1 = .ok (.ifnonnull 12, 3) := by decide +kernel
theorem d28_13 : decode jdk_31_method_11_code 13 = .ok (.aload_n 0, 1) := by decide +kernel
theorem d28_14 : decode jdk_31_method_11_code 14 = .ok (.areturn, 1) := by decide +kernel
theorem d29_0 : decode prog_18_method_2_code 0 = .ok (.aload_n 0, 1) := by decide +kernel
theorem d29_1 : decode prog_18_method_2_code 1 = .ok (.ldc 13, 2) := by decide +kernel
theorem d29_100 : decode prog_18_method_2_code 100 = .ok (.goto (-47), 3) := by decide +kernel
theorem d29_103 : decode prog_18_method_2_code 103 = .ok (.new 8, 3) := by decide +kernel
theorem d29_106 : decode prog_18_method_2_code 106 = .ok (.dup, 1) := by decide +kernel
theorem d29_107 : decode prog_18_method_2_code 107 = .ok (.aload_n 0, 1) := by decide +kernel
theorem d29_108 : decode prog_18_method_2_code 108 = .ok (.invokespecial 53, 3) := by decide +kernel
theorem d29_11 : decode prog_18_method_2_code 11 = .ok (.ifCond .eq 13, 3) := by decide +kernel
theorem d29_111 : decode prog_18_method_2_code 111 = .ok (.areturn, 1) := by decide +kernel
theorem d29_24 : decode prog_18_method_2_code 24 = .ok (.aload_n 0, 1) := by decide +kernel
theorem d29_25 : decode prog_18_method_2_code 25 = .ok (.invokevirtual 34, 3) := by decide +kernel
theorem d29_28 : decode prog_18_method_2_code 28 = .ok (.sipush 255, 3) := by decide +kernel
theorem d29_3 : decode prog_18_method_2_code 3 = .ok (.invokestatic 15, 3) := by decide +kernel
theorem d29_31 : decode prog_18_method_2_code 31 = .ok (.if_icmp .le 20, 3) := by decide +kernel
theorem d29_51 : decode prog_18_method_2_code 51 = .ok (.iconst 0, 1) := by decide +kernel
theorem d29_52 : decode prog_18_method_2_code 52 = .ok (.istore_n 1, 1) := by decide +kernel
theorem d29_53 : decode prog_18_method_2_code 53 = .ok (.iload_n 1, 1) := by decide +kernel
theorem d29_54 : decode prog_18_method_2_code 54 = .ok (.aload_n 0, 1) := by decide +kernel
theorem d29_55 : decode prog_18_method_2_code 55 = .ok (.invokevirtual 34, 3) := by decide +kernel
theorem d29_58 : decode prog_18_method_2_code 58 = .ok (.if_icmp .ge 45, 3) := by decide +kernel
theorem d29_6 : decode prog_18_method_2_code 6 = .ok (.pop, 1) := by decide +kernel
theorem d29_61 : decode prog_18_method_2_code 61 = .ok (.aload_n 0, 1) := by decide +kernel
theorem d29_62 : decode prog_18_method_2_code 62 = .ok (.iload_n 1, 1) := by decide +kernel
theorem d29_63 : decode prog_18_method_2_code 63 = .ok (.invokevirtual 42, 3) := by decide +kernel
theorem d29_66 : decode prog_18_method_2_code 66 = .ok (.istore_n 2, 1) := by decide +kernel
theorem d29_67 : decode prog_18_method_2_code 67 = .ok (.iload_n 2, 1) := by decide +kernel
theorem d29_68 : decode prog_18_method_2_code 68 = .ok (.bipush 33, 2) := by decide +kernel
theorem d29_7 : decode prog_18_method_2_code 7 = .ok (.aload_n 0, 1) := by decide +kernel
theorem d29_70 : decode prog_18_method_2_code 70 = .ok (.if_icmp .lt 9, 3) := by decide +kernel
theorem d29_73 : decode prog_18_method_2_code 73 = .ok (.iload_n 2, 1) := by decide +kernel
theorem d29_74 : decode prog_18_method_2_code 74 = .ok (.bipush 126, 2) := by decide +kernel
theorem d29_76 : decode prog_18_method_2_code 76 = .ok (.if_icmp .le 21, 3) := by decide +kernel
theorem d29_8 : decode prog_18_method_2_code 8 = .ok (.invokevirtual 21, 3) := by decide +kernel
theorem d29_97 : decode prog_18_method_2_code 97 = .ok (.iinc 1 1, 3) := by decide +kernel
theorem d2_0 : decode jdk_42_method_151_code 0 = .ok (.aload_n 0, 1) := by decide +kernel
theorem d2_1 : decode jdk_42_method_151_code 1 = .ok (.invokespecial 1, 3) := by decide +kernel
theorem d2_10 : decode jdk_42_method_151_code 10 = .ok (.iload_n 2, 1) := by decide +kernel
theorem d2_11 : decode jdk_42_method_151_code 11 = .ok (.putfield 15, 3) := by decide +kernel
theorem d2_14 : decode jdk_42_method_151_code 14 = .ok (.return_, 1) := by decide +kernel
theorem d2_4 : decode jdk_42_method_151_code 4 = .ok (.aload_n 0, 1) := by decide +kernel
theorem d2_5 : decode jdk_42_method_151_code 5 = .ok (.aload_n 1, 1) := by decide +kernel
theorem d2_6 : decode jdk_42_method_151_code 6 = .ok (.putfield 9, 3) := by decide +kernel
theorem d2_9 : decode jdk_42_method_151_code 9 = .ok (.aload_n 0, 1) := by decide +kernel
theorem d30_0 : decode method_3_code 0 = .ok (.bipush 33, 2) := by decide +kernel
theorem d30_10 : decode method_3_code 10 = .ok (.i2c, 1) := by decide +kernel
theorem d30_11 : decode method_3_code 11 = .ok (.ireturn, 1) := by decide +kernel
theorem d30_2 : decode method_3_code 2 = .ok (.iload_n 0, 1) := by decide +kernel
theorem d30_3 : decode method_3_code 3 = .ok (.ldc 7, 2) := by decide +kernel
theorem d30_5 : decode method_3_code 5 = .ok (.iand, 1) := by decide +kernel
theorem d30_6 : decode method_3_code 6 = .ok (.bipush 94, 2) := by decide +kernel
theorem d30_8 : decode method_3_code 8 = .ok (.irem, 1) := by decide +kernel
theorem d30_9 : decode method_3_code 9 = .ok (.iadd, 1) := by decide +kernel
theorem d31_0 : decode prog_18_method_10_code 0 = .ok (.iload_n 0, 1) := by decide +kernel
theorem d31_1 : decode prog_18_method_10_code 1 = .ok (.bipush 32, 2) := by decide +kernel
theorem d31_12 : decode prog_18_method_10_code 12 = .ok (.iconst 1, 1) := by decide +kernel
theorem d31_13 : decode prog_18_method_10_code 13 = .ok (.goto 4, 3) := by decide +kernel
theorem d31_16 : decode prog_18_method_10_code 16 = .ok (.iconst 0, 1) := by decide +kernel
theorem d31_17 : decode prog_18_method_10_code 17 = .ok (.ireturn, 1) := by decide +kernel
theorem d31_3 : decode prog_18_method_10_code 3 = .ok (.if_icmp .eq 9, 3) := by decide +kernel
theorem d31_6 : decode prog_18_method_10_code 6 = .ok (.iload_n 0, 1) := by decide +kernel
theorem d31_7 : decode prog_18_method_10_code 7 = .ok (.bipush 9, 2) := by decide +kernel
theorem d31_9 : decode prog_18_method_10_code 9 = .ok (.if_icmp .ne 7, 3) := by decide +kernel
theorem d32_0 : decode prog_18_method_9_code 0 = .ok (.iconst 0, 1) := by decide +kernel
theorem d32_1 : decode prog_18_method_9_code 1 = .ok (.istore_n 1, 1) := by decide +kernel
theorem d32_12 : decode prog_18_method_9_code 12 = .ok (.aload_n 0, 1) := by decide +kernel
theorem d32_13 : decode prog_18_method_9_code 13 = .ok (.iload_n 1, 1) := by decide +kernel
theorem d32_14 : decode prog_18_method_9_code 14 = .ok (.invokevirtual 42, 3) := by decide +kernel
theorem d32_17 : decode prog_18_method_9_code 17 = .ok (.invokestatic 87, 3) := by decide +kernel
theorem d32_2 : decode prog_18_method_9_code 2 = .ok (.aload_n 0, 1) := by decide +kernel
theorem d32_20 : decode prog_18_method_9_code 20 = .ok (.ifCond .eq 9, 3) := by decide +kernel
theorem d32_23 : decode prog_18_method_9_code 23 = .ok (.iinc 1 1, 3) := by decide +kernel
theorem d32_26 : decode prog_18_method_9_code 26 = .ok (.goto (-19), 3) := by decide +kernel
theorem d32_29 : decode prog_18_method_9_code 29 = .ok (.iload_n 2, 1) := by decide +kernel
theorem d32_3 : decode prog_18_method_9_code 3 = .ok (.invokevirtual 34, 3) := by decide +kernel
theorem d32_30 : decode prog_18_method_9_code 30 = .ok (.iload_n 1, 1) := by decide +kernel
theorem d32_31 : decode prog_18_method_9_code 31 = .ok (.if_icmp .le 22, 3) := by decide +kernel
theorem d32_34 : decode prog_18_method_9_code 34 = .ok (.aload_n 0, 1) := by decide +kernel
theorem d32_35 : decode prog_18_method_9_code 35 = .ok (.iload_n 2, 1) := by decide +kernel
theorem d32_36 : decode prog_18_method_9_code 36 = .ok (.iconst 1, 1) := by decide +kernel
theorem d32_37 : decode prog_18_method_9_code 37 = .ok (.isub, 1) := by decide +kernel
theorem d32_38 : decode prog_18_method_9_code 38 = .ok (.invokevirtual 42, 3) := by decide +kernel
theorem d32_41 : decode prog_18_method_9_code 41 = .ok (.invokestatic 87, 3) := by decide +kernel
theorem d32_44 : decode prog_18_method_9_code 44 = .ok (.ifCond .eq 9, 3) := by decide +kernel
theorem d32_47 : decode prog_18_method_9_code 47 = .ok (.iinc 2 (-1), 3) := by decide +kernel
theorem d32_50 : decode prog_18_method_9_code 50 = .ok (.goto (-21), 3) := by decide +kernel
theorem d32_53 : decode prog_18_method_9_code 53 = .ok (.aload_n 0, 1) := by decide +kernel
theorem d32_54 : decode prog_18_method_9_code 54 = .ok (.iload_n 1, 1) := by decide +kernel
theorem d32_55 : decode prog_18_method_9_code 55 = .ok (.iload_n 2, 1) := by decide +kernel
theorem d32_56 : decode prog_18_method_9_code 56 = .ok (.invokevirtual 91, 3) := by decide +kernel
theorem d32_59 : decode prog_18_method_9_code 59 = .ok (.areturn, 1) := by decide +kernel
theorem d32_6 : decode prog_18_method_9_code 6 = .ok (.istore_n 2, 1) := by decide +kernel
theorem d32_7 : decode prog_18_method_9_code 7 = .ok (.iload_n 1, 1) := by decide +kernel
theorem d32_8 : decode prog_18_method_9_code 8 = .ok (.iload_n 2, 1) := by decide +kernel
theorem d32_9 : decode prog_18_method_9_code 9 = .ok (.if_icmp .ge 20, 3) := by decide +kernel
theorem d33_0 : decode prog_18_method_11_code 0 = .ok (.new 67, 3) := by decide +kernel
theorem d33_101 : decode prog_18_method_11_code 101 = .ok (.iload 4, 2) := by decide +kernel
theorem d33_103 : decode prog_18_method_11_code 103 = .ok (.bipush 92, 2) := by decide +kernel
theorem d33_105 : decode prog_18_method_11_code 105 = .ok (.if_icmp .eq 13, 3) := by decide +kernel
theorem d33_11 : decode prog_18_method_11_code 11 = .ok (.astore_n 1, 1) := by decide +kernel
theorem d33_118 : decode prog_18_method_11_code 118 = .ok (.aload_n 1, 1) := by decide +kernel
theorem d33_119 : decode prog_18_method_11_code 119 = .ok (.iload 4, 2) := by decide +kernel
theorem d33_12 : decode prog_18_method_11_code 12 = .ok (.iconst 1, 1) := by decide +kernel
theorem d33_121 : decode prog_18_method_11_code 121 = .ok (.invokevirtual 72, 3) := by decide +kernel
theorem d33_124 : decode prog_18_method_11_code 124 = .ok (.pop, 1) := by decide +kernel
theorem d33_125 : decode prog_18_method_11_code 125 = .ok (.iinc 2 2, 3) := by decide +kernel
theorem d33_128 : decode prog_18_method_11_code 128 = .ok (.goto 12, 3) := by decide +kernel
theorem d33_13 : decode prog_18_method_11_code 13 = .ok (.istore_n 2, 1) := by decide +kernel
theorem d33_131 : decode prog_18_method_11_code 131 = .ok (.aload_n 1, 1) := by decide +kernel
theorem d33_132 : decode prog_18_method_11_code 132 = .ok (.iload_n 3, 1) := by decide +kernel
theorem d33_133 : decode prog_18_method_11_code 133 = .ok (.invokevirtual 72, 3) := by decide +kernel
theorem d33_136 : decode prog_18_method_11_code 136 = .ok (.pop, 1) := by decide +kernel
theorem d33_137 : decode prog_18_method_11_code 137 = .ok (.iinc 2 1, 3) := by decide +kernel
theorem d33_14 : decode prog_18_method_11_code 14 = .ok (.iload_n 2, 1) := by decide +kernel
theorem d33_140 : decode prog_18_method_11_code 140 = .ok (.goto (-126), 3) := by decide +kernel
theorem d33_15 : decode prog_18_method_11_code 15 = .ok (.aload_n 0, 1) := by decide +kernel
theorem d33_16 : decode prog_18_method_11_code 16 = .ok (.invokevirtual 34, 3) := by decide +kernel
theorem d33_19 : decode prog_18_method_11_code 19 = .ok (.if_icmp .ge 124, 3) := by decide +kernel
theorem d33_22 : decode prog_18_method_11_code 22 = .ok (.aload_n 0, 1) := by decide +kernel
theorem d33_23 : decode prog_18_method_11_code 23 = .ok (.iload_n 2, 1) := by decide +kernel
theorem d33_24 : decode prog_18_method_11_code 24 = .ok (.invokevirtual 42, 3) := by decide +kernel
theorem d33_27 : decode prog_18_method_11_code 27 = .ok (.istore_n 3, 1) := by decide +kernel
theorem d33_28 : decode prog_18_method_11_code 28 = .ok (.iload_n 3, 1) := by decide +kernel
theorem d33_29 : decode prog_18_method_11_code 29 = .ok (.bipush 34, 2) := by decide +kernel
theorem d33_3 : decode prog_18_method_11_code 3 = .ok (.dup, 1) := by decide +kernel
theorem d33_31 : decode prog_18_method_11_code 31 = .ok (.if_icmp .ne 28, 3) := by decide +kernel
theorem d33_34 : decode prog_18_method_11_code 34 = .ok (.iload_n 2, 1) := by decide +kernel
theorem d33_35 : decode prog_18_method_11_code 35 = .ok (.aload_n 0, 1) := by decide +kernel
theorem d33_36 : decode prog_18_method_11_code 36 = .ok (.invokevirtual 34, 3) := by decide +kernel
theorem d33_39 : decode prog_18_method_11_code 39 = .ok (.iconst 1, 1) := by decide +kernel
theorem d33_4 : decode prog_18_method_11_code 4 = .ok (.aload_n 0, 1) := by decide +kernel
theorem d33_40 : decode prog_18_method_11_code 40 = .ok (.isub, 1) := by decide +kernel
theorem d33_41 : decode prog_18_method_11_code 41 = .ok (.if_icmp .eq 13, 3) := by decide +kernel
theorem d33_5 : decode prog_18_method_11_code 5 = .ok (.invokevirtual 34, 3) := by decide +kernel
theorem d33_54 : decode prog_18_method_11_code 54 = .ok (.aload_n 1, 1) := by decide +kernel
theorem d33_55 : decode prog_18_method_11_code 55 = .ok (.invokevirtual 76, 3) := by decide +kernel
theorem d33_58 : decode prog_18_method_11_code 58 = .ok (.areturn, 1) := by decide +kernel
theorem d33_59 : decode prog_18_method_11_code 59 = .ok (.iload_n 3, 1) := by decide +kernel
theorem d33_60 : decode prog_18_method_11_code 60 = .ok (.bipush 92, 2) := by decide +kernel
theorem d33_62 : decode prog_18_method_11_code 62 = .ok (.if_icmp .ne 69, 3) := by decide +kernel
theorem d33_65 : decode prog_18_method_11_code 65 = .ok (.iload_n 2, 1) := by decide +kernel
theorem d33_66 : decode prog_18_method_11_code 66 = .ok (.iconst 1, 1) := by decide +kernel
theorem d33_67 : decode prog_18_method_11_code 67 = .ok (.iadd, 1) := by decide +kernel
theorem d33_68 : decode prog_18_method_11_code 68 = .ok (.aload_n 0, 1) := by decide +kernel
theorem d33_69 : decode prog_18_method_11_code 69 = .ok (.invokevirtual 34, 3) := by decide +kernel
theorem d33_72 : decode prog_18_method_11_code 72 = .ok (.if_icmp .ne 13, 3) := by decide +kernel
theorem d33_8 : decode prog_18_method_11_code 8 = .ok (.invokespecial 69, 3) := by decide +kernel
theorem d33_85 : decode prog_18_method_11_code 85 = .ok (.aload_n 0, 1) := by decide +kernel
theorem d33_86 : decode prog_18_method_11_code 86 = .ok (.iload_n 2, 1) := by decide +kernel
theorem d33_87 : decode prog_18_method_11_code 87 = .ok (.iconst 1, 1) := by decide +kernel
theorem d33_88 : decode prog_18_method_11_code 88 = .ok (.iadd, 1) := by decide +kernel
theorem d33_89 : decode prog_18_method_11_code 89 = .ok (.invokevirtual 42, 3) := by decide +kernel
theorem d33_92 : decode prog_18_method_11_code 92 = .ok (.istore 4, 2) := by decide +kernel
theorem d33_94 : decode prog_18_method_11_code 94 = .ok (.iload 4, 2) := by decide +kernel
theorem d33_96 : decode prog_18_method_11_code 96 = .ok (.bipush 34, 2) := by decide +kernel
theorem d33_98 : decode prog_18_method_11_code 98 = .ok (.if_icmp .eq 20, 3) := by decide +kernel
theorem d34_0 : decode prog_18_method_3_code 0 = .ok (.aload_n 0, 1) := by decide +kernel
theorem d34_1 : decode prog_18_method_3_code 1 = .ok (.ldc 54, 2) := by decide +kernel
theorem d34_11 : decode prog_18_method_3_code 11 = .ok (.astore_n 1, 1) := by decide +kernel
theorem d34_12 : decode prog_18_method_3_code 12 = .ok (.aload_n 1, 1) := by decide +kernel
theorem d34_13 : decode prog_18_method_3_code 13 = .ok (.invokevirtual 21, 3) := by decide +kernel
theorem d34_16 : decode prog_18_method_3_code 16 = .ok (.ifCond .ne 21, 3) := by decide +kernel
theorem d34_19 : decode prog_18_method_3_code 19 = .ok (.aload_n 1, 1) := by decide +kernel
theorem d34_20 : decode prog_18_method_3_code 20 = .ok (.iconst 0, 1) := by decide +kernel
theorem d34_21 : decode prog_18_method_3_code 21 = .ok (.invokevirtual 42, 3) := by decide +kernel
theorem d34_24 : decode prog_18_method_3_code 24 = .ok (.bipush 34, 2) := by decide +kernel
theorem d34_26 : decode prog_18_method_3_code 26 = .ok (.if_icmp .ne 11, 3) := by decide +kernel
theorem d34_29 : decode prog_18_method_3_code 29 = .ok (.aload_n 1, 1) := by decide +kernel
theorem d34_3 : decode prog_18_method_3_code 3 = .ok (.invokestatic 15, 3) := by decide +kernel
theorem d34_30 : decode prog_18_method_3_code 30 = .ok (.invokestatic 60, 3) := by decide +kernel
theorem d34_33 : decode prog_18_method_3_code 33 = .ok (.astore_n 2, 1) := by decide +kernel
theorem d34_34 : decode prog_18_method_3_code 34 = .ok (.goto 5, 3) := by decide +kernel
theorem d34_37 : decode prog_18_method_3_code 37 = .ok (.aload_n 1, 1) := by decide +kernel
theorem d34_38 : decode prog_18_method_3_code 38 = .ok (.astore_n 2, 1) := by decide +kernel
theorem d34_39 : decode prog_18_method_3_code 39 = .ok (.aload_n 2, 1) := by decide +kernel
theorem d34_40 : decode prog_18_method_3_code 40 = .ok (.invokestatic 63, 3) := by decide +kernel
theorem d34_43 : decode prog_18_method_3_code 43 = .ok (.areturn, 1) := by decide +kernel
theorem d34_6 : decode prog_18_method_3_code 6 = .ok (.pop, 1) := by decide +kernel
theorem d34_7 : decode prog_18_method_3_code 7 = .ok (.aload_n 0, 1) := by decide +kernel
theorem d34_8 : decode prog_18_method_3_code 8 = .ok (.invokestatic 56, 3) := by decide +kernel
theorem d35_0 : decode method_4_code 0 = .ok (.iload_n 0, 1) := by decide +kernel
theorem d35_1 : decode method_4_code 1 = .ok (.iload_n 1, 1) := by decide +kernel
theorem d35_10 : decode method_4_code 10 = .ok (.goto 5, 3) := by decide +kernel
theorem d35_13 : decode method_4_code 13 = .ok (.bipush 32, 2) := by decide +kernel
theorem d35_15 : decode method_4_code 15 = .ok (.ireturn, 1) := by decide +kernel
theorem d35_2 : decode method_4_code 2 = .ok (.iushr, 1) := by decide +kernel
theorem d35_3 : decode method_4_code 3 = .ok (.iconst 1, 1) := by decide +kernel
theorem d35_4 : decode method_4_code 4 = .ok (.iand, 1) := by decide +kernel
theorem d35_5 : decode method_4_code 5 = .ok (.ifCond .eq 8, 3) := by decide +kernel
theorem d35_8 : decode method_4_code 8 = .ok (.bipush 9, 2) := by decide +kernel
theorem d36_0 : decode method_5_code 0 = .ok (.iload_n 1, 1) := by decide +kernel
theorem d36_1 : decode method_5_code 1 = .ok (.istore 4, 2) := by decide +kernel
theorem d36_10 : decode method_5_code 10 = .ok (.if_icmp .eq 9, 3) := by decide +kernel
theorem d36_13 : decode method_5_code 13 = .ok (.iload_n 2, 1) := by decide +kernel
theorem d36_14 : decode method_5_code 14 = .ok (.bipush 92, 2) := by decide +kernel
theorem d36_16 : decode method_5_code 16 = .ok (.if_icmp .ne 15, 3) := by decide +kernel
theorem d36_19 : decode method_5_code 19 = .ok (.aload_n 0, 1) := by decide +kernel
theorem d36_20 : decode method_5_code 20 = .ok (.iload 4, 2) := by decide +kernel
theorem d36_22 : decode method_5_code 22 = .ok (.bipush 92, 2) := by decide +kernel
theorem d36_24 : decode method_5_code 24 = .ok (.castore, 1) := by decide +kernel
theorem d36_25 : decode method_5_code 25 = .ok (.iload 4, 2) := by decide +kernel
theorem d36_27 : decode method_5_code 27 = .ok (.iconst 1, 1) := by decide +kernel
theorem d36_28 : decode method_5_code 28 = .ok (.iadd, 1) := by decide +kernel
theorem d36_29 : decode method_5_code 29 = .ok (.istore 4, 2) := by decide +kernel
theorem d36_3 : decode method_5_code 3 = .ok (.iload_n 3, 1) := by decide +kernel
theorem d36_31 : decode method_5_code 31 = .ok (.aload_n 0, 1) := by decide +kernel
theorem d36_32 : decode method_5_code 32 = .ok (.iload 4, 2) := by decide +kernel
theorem d36_34 : decode method_5_code 34 = .ok (.iload_n 2, 1) := by decide +kernel
theorem d36_35 : decode method_5_code 35 = .ok (.castore, 1) := by decide +kernel
theorem d36_36 : decode method_5_code 36 = .ok (.iload 4, 2) := by decide +kernel
theorem d36_38 : decode method_5_code 38 = .ok (.iconst 1, 1) := by decide +kernel
theorem d36_39 : decode method_5_code 39 = .ok (.iadd, 1) := by decide +kernel
theorem d36_4 : decode method_5_code 4 = .ok (.ifCond .eq 27, 3) := by decide +kernel
theorem d36_40 : decode method_5_code 40 = .ok (.ireturn, 1) := by decide +kernel
theorem d36_7 : decode method_5_code 7 = .ok (.iload_n 2, 1) := by decide +kernel
theorem d36_8 : decode method_5_code 8 = .ok (.bipush 34, 2) := by decide +kernel
theorem d37_0 : decode method_6_code 0 = .ok (.iload_n 1, 1) := by decide +kernel
theorem d37_1 : decode method_6_code 1 = .ok (.iconst 1, 1) := by decide +kernel
theorem d37_10 : decode method_6_code 10 = .ok (.newarray .char, 2) := by decide +kernel
theorem d37_100 : decode method_6_code 100 = .ok (.caload, 1) := by decide +kernel
theorem d37_101 : decode method_6_code 101 = .ok (.castore, 1) := by decide +kernel
theorem d37_102 : decode method_6_code 102 = .ok (.dup, 1) := by decide +kernel
theorem d37_103 : decode method_6_code 103 = .ok (.iconst 1, 1) := by decide +kernel
theorem d37_104 : decode method_6_code 104 = .ok (.aload_n 0, 1) := by decide +kernel
theorem d37_105 : decode method_6_code 105 = .ok (.iconst 1, 1) := by decide +kernel
theorem d37_106 : decode method_6_code 106 = .ok (.caload, 1) := by decide +kernel
theorem d37_107 : decode method_6_code 107 = .ok (.castore, 1) := by decide +kernel
theorem d37_108 : decode method_6_code 108 = .ok (.dup, 1) := by decide +kernel
theorem d37_109 : decode method_6_code 109 = .ok (.iconst 2, 1) := by decide +kernel
theorem d37_110 : decode method_6_code 110 = .ok (.aload_n 0, 1) := by decide +kernel
theorem d37_111 : decode method_6_code 111 = .ok (.iconst 2, 1) := by decide +kernel
theorem d37_112 : decode method_6_code 112 = .ok (.caload, 1) := by decide +kernel
theorem d37_113 : decode method_6_code 113 = .ok (.castore, 1) := by decide +kernel
theorem d37_114 : decode method_6_code 114 = .ok (.dup, 1) := by decide +kernel
theorem d37_115 : decode method_6_code 115 = .ok (.iconst 3, 1) := by decide +kernel
theorem d37_116 : decode method_6_code 116 = .ok (.aload_n 0, 1) := by decide +kernel
theorem d37_117 : decode method_6_code 117 = .ok (.iconst 3, 1) := by decide +kernel
theorem d37_118 : decode method_6_code 118 = .ok (.caload, 1) := by decide +kernel
theorem d37_119 : decode method_6_code 119 = .ok (.castore, 1) := by decide +kernel
theorem d37_12 : decode method_6_code 12 = .ok (.dup, 1) := by decide +kernel
theorem d37_120 : decode method_6_code 120 = .ok (.invokespecial 32, 3) := by decide +kernel
theorem d37_123 : decode method_6_code 123 = .ok (.areturn, 1) := by decide +kernel
theorem d37_124 : decode method_6_code 124 = .ok (.iload_n 1, 1) := by decide +kernel
theorem d37_125 : decode method_6_code 125 = .ok (.iconst 5, 1) := by decide +kernel
theorem d37_126 : decode method_6_code 126 = .ok (.if_icmp .ne 44, 3) := by decide +kernel
theorem d37_129 : decode method_6_code 129 = .ok (.new 27, 3) := by decide +kernel
theorem d37_13 : decode method_6_code 13 = .ok (.iconst 0, 1) := by decide +kernel
theorem d37_132 : decode method_6_code 132 = .ok (.dup, 1) := by decide +kernel
theorem d37_133 : decode method_6_code 133 = .ok (.iconst 5, 1) := by decide +kernel
theorem d37_134 : decode method_6_code 134 = .ok (.newarray .char, 2) := by decide +kernel
theorem d37_136 : decode method_6_code 136 = .ok (.dup, 1) := by decide +kernel
theorem d37_137 : decode method_6_code 137 = .ok (.iconst 0, 1) := by decide +kernel
theorem d37_138 : decode method_6_code 138 = .ok (.aload_n 0, 1) := by decide +kernel
theorem d37_139 : decode method_6_code 139 = .ok (.iconst 0, 1) := by decide +kernel
theorem d37_14 : decode method_6_code 14 = .ok (.aload_n 0, 1) := by decide +kernel
theorem d37_140 : decode method_6_code 140 = .ok (.caload, 1) := by decide +kernel
theorem d37_141 : decode method_6_code 141 = .ok (.castore, 1) := by decide +kernel
theorem d37_142 : decode method_6_code 142 = .ok (.dup, 1) := by decide +kernel
theorem d37_143 : decode method_6_code 143 = .ok (.iconst 1, 1) := by decide +kernel
theorem d37_144 : decode method_6_code 144 = .ok (.aload_n 0, 1) := by decide +kernel
theorem d37_145 : decode method_6_code 145 = .ok (.iconst 1, 1) := by decide +kernel
theorem d37_146 : decode method_6_code 146 = .ok (.caload, 1) := by decide +kernel
theorem d37_147 : decode method_6_code 147 = .ok (.castore, 1) := by decide +kernel
theorem d37_148 : decode method_6_code 148 = .ok (.dup, 1) := by decide +kernel
theorem d37_149 : decode method_6_code 149 = .ok (.iconst 2, 1) := by decide +kernel
theorem d37_15 : decode method_6_code 15 = .ok (.iconst 0, 1) := by decide +kernel
theorem d37_150 : decode method_6_code 150 = .ok (.aload_n 0, 1) := by decide +kernel
theorem d37_151 : decode method_6_code 151 = .ok (.iconst 2, 1) := by decide +kernel
theorem d37_152 : decode method_6_code 152 = .ok (.caload, 1) := by decide +kernel
theorem d37_153 : decode method_6_code 153 = .ok (.castore, 1) := by decide +kernel
theorem d37_154 : decode method_6_code 154 = .ok (.dup, 1) := by decide +kernel
theorem d37_155 : decode method_6_code 155 = .ok (.iconst 3, 1) := by decide +kernel
theorem d37_156 : decode method_6_code 156 = .ok (.aload_n 0, 1) := by decide +kernel
theorem d37_157 : decode method_6_code 157 = .ok (.iconst 3, 1) := by decide +kernel
theorem d37_158 : decode method_6_code 158 = .ok (.caload, 1) := by decide +kernel
theorem d37_159 : decode method_6_code 159 = .ok (.castore, 1) := by decide +kernel
theorem d37_16 : decode method_6_code 16 = .ok (.caload, 1) := by decide +kernel
theorem d37_160 : decode method_6_code 160 = .ok (.dup, 1) := by decide +kernel
theorem d37_161 : decode method_6_code 161 = .ok (.iconst 4, 1) := by decide +kernel
theorem d37_162 : decode method_6_code 162 = .ok (.aload_n 0, 1) := by decide +kernel
theorem d37_163 : decode method_6_code 163 = .ok (.iconst 4, 1) := by decide +kernel
theorem d37_164 : decode method_6_code 164 = .ok (.caload, 1) := by decide +kernel
theorem d37_165 : decode method_6_code 165 = .ok (.castore, 1) := by decide +kernel
theorem d37_166 : decode method_6_code 166 = .ok (.invokespecial 32, 3) := by decide +kernel
theorem d37_169 : decode method_6_code 169 = .ok (.areturn, 1) := by decide +kernel
theorem d37_17 : decode method_6_code 17 = .ok (.castore, 1) := by decide +kernel
theorem d37_170 : decode method_6_code 170 = .ok (.iload_n 1, 1) := by decide +kernel
theorem d37_171 : decode method_6_code 171 = .ok (.bipush 6, 2) := by decide +kernel
theorem d37_173 : decode method_6_code 173 = .ok (.if_icmp .ne 51, 3) := by decide +kernel
theorem d37_176 : decode method_6_code 176 = .ok (.new 27, 3) := by decide +kernel
theorem d37_179 : decode method_6_code 179 = .ok (.dup, 1) := by decide +kernel
theorem d37_18 : decode method_6_code 18 = .ok (.invokespecial 32, 3) := by decide +kernel
theorem d37_180 : decode method_6_code 180 = .ok (.bipush 6, 2) := by decide +kernel
theorem d37_182 : decode method_6_code 182 = .ok (.newarray .char, 2) := by decide +kernel
theorem d37_184 : decode method_6_code 184 = .ok (.dup, 1) := by decide +kernel
theorem d37_185 : decode method_6_code 185 = .ok (.iconst 0, 1) := by decide +kernel
theorem d37_186 : decode method_6_code 186 = .ok (.aload_n 0, 1) := by decide +kernel
theorem d37_187 : decode method_6_code 187 = .ok (.iconst 0, 1) := by decide +kernel
theorem d37_188 : decode method_6_code 188 = .ok (.caload, 1) := by decide +kernel
theorem d37_189 : decode method_6_code 189 = .ok (.castore, 1) := by decide +kernel
theorem d37_190 : decode method_6_code 190 = .ok (.dup, 1) := by decide +kernel
theorem d37_191 : decode method_6_code 191 = .ok (.iconst 1, 1) := by decide +kernel
theorem d37_192 : decode method_6_code 192 = .ok (.aload_n 0, 1) := by decide +kernel
theorem d37_193 : decode method_6_code 193 = .ok (.iconst 1, 1) := by decide +kernel
theorem d37_194 : decode method_6_code 194 = .ok (.caload, 1) := by decide +kernel
theorem d37_195 : decode method_6_code 195 = .ok (.castore, 1) := by decide +kernel
theorem d37_196 : decode method_6_code 196 = .ok (.dup, 1) := by decide +kernel
theorem d37_197 : decode method_6_code 197 = .ok (.iconst 2, 1) := by decide +kernel
theorem d37_198 : decode method_6_code 198 = .ok (.aload_n 0, 1) := by decide +kernel
theorem d37_199 : decode method_6_code 199 = .ok (.iconst 2, 1) := by decide +kernel
theorem d37_2 : decode method_6_code 2 = .ok (.if_icmp .ne 20, 3) := by decide +kernel
theorem d37_200 : decode method_6_code 200 = .ok (.caload, 1) := by decide +kernel
theorem d37_201 : decode method_6_code 201 = .ok (.castore, 1) := by decide +kernel
theorem d37_202 : decode method_6_code 202 = .ok (.dup, 1) := by decide +kernel
theorem d37_203 : decode method_6_code 203 = .ok (.iconst 3, 1) := by decide +kernel
theorem d37_204 : decode method_6_code 204 = .ok (.aload_n 0, 1) := by decide +kernel
theorem d37_205 : decode method_6_code 205 = .ok (.iconst 3, 1) := by decide +kernel
theorem d37_206 : decode method_6_code 206 = .ok (.caload, 1) := by decide +kernel
theorem d37_207 : decode method_6_code 207 = .ok (.castore, 1) := by decide +kernel
theorem d37_208 : decode method_6_code 208 = .ok (.dup, 1) := by decide +kernel
theorem d37_209 : decode method_6_code 209 = .ok (.iconst 4, 1) := by decide +kernel
theorem d37_21 : decode method_6_code 21 = .ok (.areturn, 1) := by decide +kernel
theorem d37_210 : decode method_6_code 210 = .ok (.aload_n 0, 1) := by decide +kernel
theorem d37_211 : decode method_6_code 211 = .ok (.iconst 4, 1) := by decide +kernel
theorem d37_212 : decode method_6_code 212 = .ok (.caload, 1) := by decide +kernel
theorem d37_213 : decode method_6_code 213 = .ok (.castore, 1) := by decide +kernel
theorem d37_214 : decode method_6_code 214 = .ok (.dup, 1) := by decide +kernel
theorem d37_215 : decode method_6_code 215 = .ok (.iconst 5, 1) := by decide +kernel
theorem d37_216 : decode method_6_code 216 = .ok (.aload_n 0, 1) := by decide +kernel
theorem d37_217 : decode method_6_code 217 = .ok (.iconst 5, 1) := by decide +kernel
theorem d37_218 : decode method_6_code 218 = .ok (.caload, 1) := by decide +kernel
theorem d37_219 : decode method_6_code 219 = .ok (.castore, 1) := by decide +kernel
theorem d37_22 : decode method_6_code 22 = .ok (.iload_n 1, 1) := by decide +kernel
theorem d37_220 : decode method_6_code 220 = .ok (.invokespecial 32, 3) := by decide +kernel
theorem d37_223 : decode method_6_code 223 = .ok (.areturn, 1) := by decide +kernel
theorem d37_224 : decode method_6_code 224 = .ok (.iload_n 1, 1) := by decide +kernel
theorem d37_225 : decode method_6_code 225 = .ok (.bipush 7, 2) := by decide +kernel
theorem d37_227 : decode method_6_code 227 = .ok (.if_icmp .ne 59, 3) := by decide +kernel
theorem d37_23 : decode method_6_code 23 = .ok (.iconst 2, 1) := by decide +kernel
theorem d37_230 : decode method_6_code 230 = .ok (.new 27, 3) := by decide +kernel
theorem d37_233 : decode method_6_code 233 = .ok (.dup, 1) := by decide +kernel
theorem d37_234 : decode method_6_code 234 = .ok (.bipush 7, 2) := by decide +kernel
theorem d37_236 : decode method_6_code 236 = .ok (.newarray .char, 2) := by decide +kernel
theorem d37_238 : decode method_6_code 238 = .ok (.dup, 1) := by decide +kernel
theorem d37_239 : decode method_6_code 239 = .ok (.iconst 0, 1) := by decide +kernel
theorem d37_24 : decode method_6_code 24 = .ok (.if_icmp .ne 26, 3) := by decide +kernel
theorem d37_240 : decode method_6_code 240 = .ok (.aload_n 0, 1) := by decide +kernel
theorem d37_241 : decode method_6_code 241 = .ok (.iconst 0, 1) := by decide +kernel
theorem d37_242 : decode method_6_code 242 = .ok (.caload, 1) := by decide +kernel
theorem d37_243 : decode method_6_code 243 = .ok (.castore, 1) := by decide +kernel
theorem d37_244 : decode method_6_code 244 = .ok (.dup, 1) := by decide +kernel
theorem d37_245 : decode method_6_code 245 = .ok (.iconst 1, 1) := by decide +kernel
theorem d37_246 : decode method_6_code 246 = .ok (.aload_n 0, 1) := by decide +kernel
theorem d37_247 : decode method_6_code 247 = .ok (.iconst 1, 1) := by decide +kernel
theorem d37_248 : decode method_6_code 248 = .ok (.caload, 1) := by decide +kernel
theorem d37_249 : decode method_6_code 249 = .ok (.castore, 1) := by decide +kernel
theorem d37_250 : decode method_6_code 250 = .ok (.dup, 1) := by decide +kernel
theorem d37_251 : decode method_6_code 251 = .ok (.iconst 2, 1) := by decide +kernel
theorem d37_252 : decode method_6_code 252 = .ok (.aload_n 0, 1) := by decide +kernel
theorem d37_253 : decode method_6_code 253 = .ok (.iconst 2, 1) := by decide +kernel
theorem d37_254 : decode method_6_code 254 = .ok (.caload, 1) := by decide +kernel
theorem d37_255 : decode method_6_code 255 = .ok (.castore, 1) := by decide +kernel
theorem d37_256 : decode method_6_code 256 = .ok (.dup, 1) := by decide +kernel
theorem d37_257 : decode method_6_code 257 = .ok (.iconst 3, 1) := by decide +kernel
theorem d37_258 : decode method_6_code 258 = .ok (.aload_n 0, 1) := by decide +kernel
theorem d37_259 : decode method_6_code 259 = .ok (.iconst 3, 1) := by decide +kernel
theorem d37_260 : decode method_6_code 260 = .ok (.caload, 1) := by decide +kernel
theorem d37_261 : decode method_6_code 261 = .ok (.castore, 1) := by decide +kernel
theorem d37_262 : decode method_6_code 262 = .ok (.dup, 1) := by decide +kernel
theorem d37_263 : decode method_6_code 263 = .ok (.iconst 4, 1) := by decide +kernel
theorem d37_264 : decode method_6_code 264 = .ok (.aload_n 0, 1) := by decide +kernel
theorem d37_265 : decode method_6_code 265 = .ok (.iconst 4, 1) := by decide +kernel
theorem d37_266 : decode method_6_code 266 = .ok (.caload, 1) := by decide +kernel
theorem d37_267 : decode method_6_code 267 = .ok (.castore, 1) := by decide +kernel
theorem d37_268 : decode method_6_code 268 = .ok (.dup, 1) := by decide +kernel
theorem d37_269 : decode method_6_code 269 = .ok (.iconst 5, 1) := by decide +kernel
theorem d37_27 : decode method_6_code 27 = .ok (.new 27, 3) := by decide +kernel
theorem d37_270 : decode method_6_code 270 = .ok (.aload_n 0, 1) := by decide +kernel
theorem d37_271 : decode method_6_code 271 = .ok (.iconst 5, 1) := by decide +kernel
theorem d37_272 : decode method_6_code 272 = .ok (.caload, 1) := by decide +kernel
theorem d37_273 : decode method_6_code 273 = .ok (.castore, 1) := by decide +kernel
theorem d37_274 : decode method_6_code 274 = .ok (.dup, 1) := by decide +kernel
theorem d37_275 : decode method_6_code 275 = .ok (.bipush 6, 2) := by decide +kernel
theorem d37_277 : decode method_6_code 277 = .ok (.aload_n 0, 1) := by decide +kernel
theorem d37_278 : decode method_6_code 278 = .ok (.bipush 6, 2) := by decide +kernel
theorem d37_280 : decode method_6_code 280 = .ok (.caload, 1) := by decide +kernel
theorem d37_281 : decode method_6_code 281 = .ok (.castore, 1) := by decide +kernel
theorem d37_282 : decode method_6_code 282 = .ok (.invokespecial 32, 3) := by decide +kernel
theorem d37_285 : decode method_6_code 285 = .ok (.areturn, 1) := by decide +kernel
theorem d37_286 : decode method_6_code 286 = .ok (.iload_n 1, 1) := by decide +kernel
theorem d37_287 : decode method_6_code 287 = .ok (.bipush 8, 2) := by decide +kernel
theorem d37_289 : decode method_6_code 289 = .ok (.if_icmp .ne 67, 3) := by decide +kernel
theorem d37_292 : decode method_6_code 292 = .ok (.new 27, 3) := by decide +kernel
theorem d37_295 : decode method_6_code 295 = .ok (.dup, 1) := by decide +kernel
theorem d37_296 : decode method_6_code 296 = .ok (.bipush 8, 2) := by decide +kernel
theorem d37_298 : decode method_6_code 298 = .ok (.newarray .char, 2) := by decide +kernel
theorem d37_30 : decode method_6_code 30 = .ok (.dup, 1) := by decide +kernel
theorem d37_300 : decode method_6_code 300 = .ok (.dup, 1) := by decide +kernel
theorem d37_301 : decode method_6_code 301 = .ok (.iconst 0, 1) := by decide +kernel
theorem d37_302 : decode method_6_code 302 = .ok (.aload_n 0, 1) := by decide +kernel
theorem d37_303 : decode method_6_code 303 = .ok (.iconst 0, 1) := by decide +kernel
theorem d37_304 : decode method_6_code 304 = .ok (.caload, 1) := by decide +kernel
theorem d37_305 : decode method_6_code 305 = .ok (.castore, 1) := by decide +kernel
theorem d37_306 : decode method_6_code 306 = .ok (.dup, 1) := by decide +kernel
theorem d37_307 : decode method_6_code 307 = .ok (.iconst 1, 1) := by decide +kernel
theorem d37_308 : decode method_6_code 308 = .ok (.aload_n 0, 1) := by decide +kernel
theorem d37_309 : decode method_6_code 309 = .ok (.iconst 1, 1) := by decide +kernel
theorem d37_31 : decode method_6_code 31 = .ok (.iconst 2, 1) := by decide +kernel
theorem d37_310 : decode method_6_code 310 = .ok (.caload, 1) := by decide +kernel
theorem d37_311 : decode method_6_code 311 = .ok (.castore, 1) := by decide +kernel
theorem d37_312 : decode method_6_code 312 = .ok (.dup, 1) := by decide +kernel
theorem d37_313 : decode method_6_code 313 = .ok (.iconst 2, 1) := by decide +kernel
theorem d37_314 : decode method_6_code 314 = .ok (.aload_n 0, 1) := by decide +kernel
theorem d37_315 : decode method_6_code 315 = .ok (.iconst 2, 1) := by decide +kernel
theorem d37_316 : decode method_6_code 316 = .ok (.caload, 1) := by decide +kernel
theorem d37_317 : decode method_6_code 317 = .ok (.castore, 1) := by decide +kernel
theorem d37_318 : decode method_6_code 318 = .ok (.dup, 1) := by decide +kernel
theorem d37_319 : decode method_6_code 319 = .ok (.iconst 3, 1) := by decide +kernel
theorem d37_32 : decode method_6_code 32 = .ok (.newarray .char, 2) := by decide +kernel
theorem d37_320 : decode method_6_code 320 = .ok (.aload_n 0, 1) := by decide +kernel
theorem d37_321 : decode method_6_code 321 = .ok (.iconst 3, 1) := by decide +kernel
theorem d37_322 : decode method_6_code 322 = .ok (.caload, 1) := by decide +kernel
theorem d37_323 : decode method_6_code 323 = .ok (.castore, 1) := by decide +kernel
theorem d37_324 : decode method_6_code 324 = .ok (.dup, 1) := by decide +kernel
theorem d37_325 : decode method_6_code 325 = .ok (.iconst 4, 1) := by decide +kernel
theorem d37_326 : decode method_6_code 326 = .ok (.aload_n 0, 1) := by decide +kernel
theorem d37_327 : decode method_6_code 327 = .ok (.iconst 4, 1) := by decide +kernel
theorem d37_328 : decode method_6_code 328 = .ok (.caload, 1) := by decide +kernel
theorem d37_329 : decode method_6_code 329 = .ok (.castore, 1) := by decide +kernel
theorem d37_330 : decode method_6_code 330 = .ok (.dup, 1) := by decide +kernel
theorem d37_331 : decode method_6_code 331 = .ok (.iconst 5, 1) := by decide +kernel
theorem d37_332 : decode method_6_code 332 = .ok (.aload_n 0, 1) := by decide +kernel
theorem d37_333 : decode method_6_code 333 = .ok (.iconst 5, 1) := by decide +kernel
theorem d37_334 : decode method_6_code 334 = .ok (.caload, 1) := by decide +kernel
theorem d37_335 : decode method_6_code 335 = .ok (.castore, 1) := by decide +kernel
theorem d37_336 : decode method_6_code 336 = .ok (.dup, 1) := by decide +kernel
theorem d37_337 : decode method_6_code 337 = .ok (.bipush 6, 2) := by decide +kernel
theorem d37_339 : decode method_6_code 339 = .ok (.aload_n 0, 1) := by decide +kernel
theorem d37_34 : decode method_6_code 34 = .ok (.dup, 1) := by decide +kernel
theorem d37_340 : decode method_6_code 340 = .ok (.bipush 6, 2) := by decide +kernel
theorem d37_342 : decode method_6_code 342 = .ok (.caload, 1) := by decide +kernel
theorem d37_343 : decode method_6_code 343 = .ok (.castore, 1) := by decide +kernel
theorem d37_344 : decode method_6_code 344 = .ok (.dup, 1) := by decide +kernel
theorem d37_345 : decode method_6_code 345 = .ok (.bipush 7, 2) := by decide +kernel
theorem d37_347 : decode method_6_code 347 = .ok (.aload_n 0, 1) := by decide +kernel
theorem d37_348 : decode method_6_code 348 = .ok (.bipush 7, 2) := by decide +kernel
theorem d37_35 : decode method_6_code 35 = .ok (.iconst 0, 1) := by decide +kernel
theorem d37_350 : decode method_6_code 350 = .ok (.caload, 1) := by decide +kernel
theorem d37_351 : decode method_6_code 351 = .ok (.castore, 1) := by decide +kernel
theorem d37_352 : decode method_6_code 352 = .ok (.invokespecial 32, 3) := by decide +kernel
theorem d37_355 : decode method_6_code 355 = .ok (.areturn, 1) := by decide +kernel
theorem d37_356 : decode method_6_code 356 = .ok (.iload_n 1, 1) := by decide +kernel
theorem d37_357 : decode method_6_code 357 = .ok (.bipush 9, 2) := by decide +kernel
theorem d37_359 : decode method_6_code 359 = .ok (.if_icmp .ne 75, 3) := by decide +kernel
theorem d37_36 : decode method_6_code 36 = .ok (.aload_n 0, 1) := by decide +kernel
theorem d37_362 : decode method_6_code 362 = .ok (.new 27, 3) := by decide +kernel
theorem d37_365 : decode method_6_code 365 = .ok (.dup, 1) := by decide +kernel
theorem d37_366 : decode method_6_code 366 = .ok (.bipush 9, 2) := by decide +kernel
theorem d37_368 : decode method_6_code 368 = .ok (.newarray .char, 2) := by decide +kernel
theorem d37_37 : decode method_6_code 37 = .ok (.iconst 0, 1) := by decide +kernel
theorem d37_370 : decode method_6_code 370 = .ok (.dup, 1) := by decide +kernel
theorem d37_371 : decode method_6_code 371 = .ok (.iconst 0, 1) := by decide +kernel
theorem d37_372 : decode method_6_code 372 = .ok (.aload_n 0, 1) := by decide +kernel
theorem d37_373 : decode method_6_code 373 = .ok (.iconst 0, 1) := by decide +kernel
theorem d37_374 : decode method_6_code 374 = .ok (.caload, 1) := by decide +kernel
theorem d37_375 : decode method_6_code 375 = .ok (.castore, 1) := by decide +kernel
theorem d37_376 : decode method_6_code 376 = .ok (.dup, 1) := by decide +kernel
theorem d37_377 : decode method_6_code 377 = .ok (.iconst 1, 1) := by decide +kernel
theorem d37_378 : decode method_6_code 378 = .ok (.aload_n 0, 1) := by decide +kernel
theorem d37_379 : decode method_6_code 379 = .ok (.iconst 1, 1) := by decide +kernel
theorem d37_38 : decode method_6_code 38 = .ok (.caload, 1) := by decide +kernel
theorem d37_380 : decode method_6_code 380 = .ok (.caload, 1) := by decide +kernel
theorem d37_381 : decode method_6_code 381 = .ok (.castore, 1) := by decide +kernel
theorem d37_382 : decode method_6_code 382 = .ok (.dup, 1) := by decide +kernel
theorem d37_383 : decode method_6_code 383 = .ok (.iconst 2, 1) := by decide +kernel
theorem d37_384 : decode method_6_code 384 = .ok (.aload_n 0, 1) := by decide +kernel
theorem d37_385 : decode method_6_code 385 = .ok (.iconst 2, 1) := by decide +kernel
theorem d37_386 : decode method_6_code 386 = .ok (.caload, 1) := by decide +kernel
theorem d37_387 : decode method_6_code 387 = .ok (.castore, 1) := by decide +kernel
theorem d37_388 : decode method_6_code 388 = .ok (.dup, 1) := by decide +kernel
theorem d37_389 : decode method_6_code 389 = .ok (.iconst 3, 1) := by decide +kernel
theorem d37_39 : decode method_6_code 39 = .ok (.castore, 1) := by decide +kernel
theorem d37_390 : decode method_6_code 390 = .ok (.aload_n 0, 1) := by decide +kernel
theorem d37_391 : decode method_6_code 391 = .ok (.iconst 3, 1) := by decide +kernel
theorem d37_392 : decode method_6_code 392 = .ok (.caload, 1) := by decide +kernel
theorem d37_393 : decode method_6_code 393 = .ok (.castore, 1) := by decide +kernel
theorem d37_394 : decode method_6_code 394 = .ok (.dup, 1) := by decide +kernel
theorem d37_395 : decode method_6_code 395 = .ok (.iconst 4, 1) := by decide +kernel
theorem d37_396 : decode method_6_code 396 = .ok (.aload_n 0, 1) := by decide +kernel
theorem d37_397 : decode method_6_code 397 = .ok (.iconst 4, 1) := by decide +kernel
theorem d37_398 : decode method_6_code 398 = .ok (.caload, 1) := by decide +kernel
theorem d37_399 : decode method_6_code 399 = .ok (.castore, 1) := by decide +kernel
theorem d37_40 : decode method_6_code 40 = .ok (.dup, 1) := by decide +kernel
theorem d37_400 : decode method_6_code 400 = .ok (.dup, 1) := by decide +kernel
theorem d37_401 : decode method_6_code 401 = .ok (.iconst 5, 1) := by decide +kernel
theorem d37_402 : decode method_6_code 402 = .ok (.aload_n 0, 1) := by decide +kernel
theorem d37_403 : decode method_6_code 403 = .ok (.iconst 5, 1) := by decide +kernel
theorem d37_404 : decode method_6_code 404 = .ok (.caload, 1) := by decide +kernel
theorem d37_405 : decode method_6_code 405 = .ok (.castore, 1) := by decide +kernel
theorem d37_406 : decode method_6_code 406 = .ok (.dup, 1) := by decide +kernel
theorem d37_407 : decode method_6_code 407 = .ok (.bipush 6, 2) := by decide +kernel
theorem d37_409 : decode method_6_code 409 = .ok (.aload_n 0, 1) := by decide +kernel
theorem d37_41 : decode method_6_code 41 = .ok (.iconst 1, 1) := by decide +kernel
theorem d37_410 : decode method_6_code 410 = .ok (.bipush 6, 2) := by decide +kernel
theorem d37_412 : decode method_6_code 412 = .ok (.caload, 1) := by decide +kernel
theorem d37_413 : decode method_6_code 413 = .ok (.castore, 1) := by decide +kernel
theorem d37_414 : decode method_6_code 414 = .ok (.dup, 1) := by decide +kernel
theorem d37_415 : decode method_6_code 415 = .ok (.bipush 7, 2) := by decide +kernel
theorem d37_417 : decode method_6_code 417 = .ok (.aload_n 0, 1) := by decide +kernel
theorem d37_418 : decode method_6_code 418 = .ok (.bipush 7, 2) := by decide +kernel
theorem d37_42 : decode method_6_code 42 = .ok (.aload_n 0, 1) := by decide +kernel
theorem d37_420 : decode method_6_code 420 = .ok (.caload, 1) := by decide +kernel
theorem d37_421 : decode method_6_code 421 = .ok (.castore, 1) := by decide +kernel
theorem d37_422 : decode method_6_code 422 = .ok (.dup, 1) := by decide +kernel
theorem d37_423 : decode method_6_code 423 = .ok (.bipush 8, 2) := by decide +kernel
theorem d37_425 : decode method_6_code 425 = .ok (.aload_n 0, 1) := by decide +kernel
theorem d37_426 : decode method_6_code 426 = .ok (.bipush 8, 2) := by decide +kernel
theorem d37_428 : decode method_6_code 428 = .ok (.caload, 1) := by decide +kernel
theorem d37_429 : decode method_6_code 429 = .ok (.castore, 1) := by decide +kernel
theorem d37_43 : decode method_6_code 43 = .ok (.iconst 1, 1) := by decide +kernel
theorem d37_430 : decode method_6_code 430 = .ok (.invokespecial 32, 3) := by decide +kernel
theorem d37_433 : decode method_6_code 433 = .ok (.areturn, 1) := by decide +kernel
theorem d37_434 : decode method_6_code 434 = .ok (.iload_n 1, 1) := by decide +kernel
theorem d37_435 : decode method_6_code 435 = .ok (.bipush 10, 2) := by decide +kernel
theorem d37_437 : decode method_6_code 437 = .ok (.if_icmp .ne 83, 3) := by decide +kernel
theorem d37_44 : decode method_6_code 44 = .ok (.caload, 1) := by decide +kernel
theorem d37_440 : decode method_6_code 440 = .ok (.new 27, 3) := by decide +kernel
theorem d37_443 : decode method_6_code 443 = .ok (.dup, 1) := by decide +kernel
theorem d37_444 : decode method_6_code 444 = .ok (.bipush 10, 2) := by decide +kernel
theorem d37_446 : decode method_6_code 446 = .ok (.newarray .char, 2) := by decide +kernel
theorem d37_448 : decode method_6_code 448 = .ok (.dup, 1) := by decide +kernel
theorem d37_449 : decode method_6_code 449 = .ok (.iconst 0, 1) := by decide +kernel
theorem d37_45 : decode method_6_code 45 = .ok (.castore, 1) := by decide +kernel
theorem d37_450 : decode method_6_code 450 = .ok (.aload_n 0, 1) := by decide +kernel
theorem d37_451 : decode method_6_code 451 = .ok (.iconst 0, 1) := by decide +kernel
theorem d37_452 : decode method_6_code 452 = .ok (.caload, 1) := by decide +kernel
theorem d37_453 : decode method_6_code 453 = .ok (.castore, 1) := by decide +kernel
theorem d37_454 : decode method_6_code 454 = .ok (.dup, 1) := by decide +kernel
theorem d37_455 : decode method_6_code 455 = .ok (.iconst 1, 1) := by decide +kernel
theorem d37_456 : decode method_6_code 456 = .ok (.aload_n 0, 1) := by decide +kernel
theorem d37_457 : decode method_6_code 457 = .ok (.iconst 1, 1) := by decide +kernel
theorem d37_458 : decode method_6_code 458 = .ok (.caload, 1) := by decide +kernel
theorem d37_459 : decode method_6_code 459 = .ok (.castore, 1) := by decide +kernel
theorem d37_46 : decode method_6_code 46 = .ok (.invokespecial 32, 3) := by decide +kernel
theorem d37_460 : decode method_6_code 460 = .ok (.dup, 1) := by decide +kernel
theorem d37_461 : decode method_6_code 461 = .ok (.iconst 2, 1) := by decide +kernel
theorem d37_462 : decode method_6_code 462 = .ok (.aload_n 0, 1) := by decide +kernel
theorem d37_463 : decode method_6_code 463 = .ok (.iconst 2, 1) := by decide +kernel
theorem d37_464 : decode method_6_code 464 = .ok (.caload, 1) := by decide +kernel
theorem d37_465 : decode method_6_code 465 = .ok (.castore, 1) := by decide +kernel
theorem d37_466 : decode method_6_code 466 = .ok (.dup, 1) := by decide +kernel
theorem d37_467 : decode method_6_code 467 = .ok (.iconst 3, 1) := by decide +kernel
theorem d37_468 : decode method_6_code 468 = .ok (.aload_n 0, 1) := by decide +kernel
theorem d37_469 : decode method_6_code 469 = .ok (.iconst 3, 1) := by decide +kernel
theorem d37_470 : decode method_6_code 470 = .ok (.caload, 1) := by decide +kernel
theorem d37_471 : decode method_6_code 471 = .ok (.castore, 1) := by decide +kernel
theorem d37_472 : decode method_6_code 472 = .ok (.dup, 1) := by decide +kernel
theorem d37_473 : decode method_6_code 473 = .ok (.iconst 4, 1) := by decide +kernel
theorem d37_474 : decode method_6_code 474 = .ok (.aload_n 0, 1) := by decide +kernel
theorem d37_475 : decode method_6_code 475 = .ok (.iconst 4, 1) := by decide +kernel
theorem d37_476 : decode method_6_code 476 = .ok (.caload, 1) := by decide +kernel
theorem d37_477 : decode method_6_code 477 = .ok (.castore, 1) := by decide +kernel
theorem d37_478 : decode method_6_code 478 = .ok (.dup, 1) := by decide +kernel
theorem d37_479 : decode method_6_code 479 = .ok (.iconst 5, 1) := by decide +kernel
theorem d37_480 : decode method_6_code 480 = .ok (.aload_n 0, 1) := by decide +kernel
theorem d37_481 : decode method_6_code 481 = .ok (.iconst 5, 1) := by decide +kernel
theorem d37_482 : decode method_6_code 482 = .ok (.caload, 1) := by decide +kernel
theorem d37_483 : decode method_6_code 483 = .ok (.castore, 1) := by decide +kernel
theorem d37_484 : decode method_6_code 484 = .ok (.dup, 1) := by decide +kernel
theorem d37_485 : decode method_6_code 485 = .ok (.bipush 6, 2) := by decide +kernel
theorem d37_487 : decode method_6_code 487 = .ok (.aload_n 0, 1) := by decide +kernel
theorem d37_488 : decode method_6_code 488 = .ok (.bipush 6, 2) := by decide +kernel
theorem d37_49 : decode method_6_code 49 = .ok (.areturn, 1) := by decide +kernel
theorem d37_490 : decode method_6_code 490 = .ok (.caload, 1) := by decide +kernel
theorem d37_491 : decode method_6_code 491 = .ok (.castore, 1) := by decide +kernel
theorem d37_492 : decode method_6_code 492 = .ok (.dup, 1) := by decide +kernel
theorem d37_493 : decode method_6_code 493 = .ok (.bipush 7, 2) := by decide +kernel
theorem d37_495 : decode method_6_code 495 = .ok (.aload_n 0, 1) := by decide +kernel
theorem d37_496 : decode method_6_code 496 = .ok (.bipush 7, 2) := by decide +kernel
theorem d37_498 : decode method_6_code 498 = .ok (.caload, 1) := by decide +kernel
theorem d37_499 : decode method_6_code 499 = .ok (.castore, 1) := by decide +kernel
theorem d37_5 : decode method_6_code 5 = .ok (.new 27, 3) := by decide +kernel
theorem d37_50 : decode method_6_code 50 = .ok (.iload_n 1, 1) := by decide +kernel
theorem d37_500 : decode method_6_code 500 = .ok (.dup, 1) := by decide +kernel
theorem d37_501 : decode method_6_code 501 = .ok (.bipush 8, 2) := by decide +kernel
theorem d37_503 : decode method_6_code 503 = .ok (.aload_n 0, 1) := by decide +kernel
theorem d37_504 : decode method_6_code 504 = .ok (.bipush 8, 2) := by decide +kernel
theorem d37_506 : decode method_6_code 506 = .ok (.caload, 1) := by decide +kernel
theorem d37_507 : decode method_6_code 507 = .ok (.castore, 1) := by decide +kernel
theorem d37_508 : decode method_6_code 508 = .ok (.dup, 1) := by decide +kernel
theorem d37_509 : decode method_6_code 509 = .ok (.bipush 9, 2) := by decide +kernel
theorem d37_51 : decode method_6_code 51 = .ok (.iconst 3, 1) := by decide +kernel
theorem d37_511 : decode method_6_code 511 = .ok (.aload_n 0, 1) := by decide +kernel
theorem d37_512 : decode method_6_code 512 = .ok (.bipush 9, 2) := by decide +kernel
theorem d37_514 : decode method_6_code 514 = .ok (.caload, 1) := by decide +kernel
theorem d37_515 : decode method_6_code 515 = .ok (.castore, 1) := by decide +kernel
theorem d37_516 : decode method_6_code 516 = .ok (.invokespecial 32, 3) := by decide +kernel
theorem d37_519 : decode method_6_code 519 = .ok (.areturn, 1) := by decide +kernel
theorem d37_52 : decode method_6_code 52 = .ok (.if_icmp .ne 32, 3) := by decide +kernel
theorem d37_520 : decode method_6_code 520 = .ok (.iload_n 1, 1) := by decide +kernel
theorem d37_521 : decode method_6_code 521 = .ok (.bipush 11, 2) := by decide +kernel
theorem d37_523 : decode method_6_code 523 = .ok (.if_icmp .ne 91, 3) := by decide +kernel
theorem d37_526 : decode method_6_code 526 = .ok (.new 27, 3) := by decide +kernel
theorem d37_529 : decode method_6_code 529 = .ok (.dup, 1) := by decide +kernel
theorem d37_530 : decode method_6_code 530 = .ok (.bipush 11, 2) := by decide +kernel
theorem d37_532 : decode method_6_code 532 = .ok (.newarray .char, 2) := by decide +kernel
theorem d37_534 : decode method_6_code 534 = .ok (.dup, 1) := by decide +kernel
theorem d37_535 : decode method_6_code 535 = .ok (.iconst 0, 1) := by decide +kernel
theorem d37_536 : decode method_6_code 536 = .ok (.aload_n 0, 1) := by decide +kernel
theorem d37_537 : decode method_6_code 537 = .ok (.iconst 0, 1) := by decide +kernel
theorem d37_538 : decode method_6_code 538 = .ok (.caload, 1) := by decide +kernel
theorem d37_539 : decode method_6_code 539 = .ok (.castore, 1) := by decide +kernel
theorem d37_540 : decode method_6_code 540 = .ok (.dup, 1) := by decide +kernel
theorem d37_541 : decode method_6_code 541 = .ok (.iconst 1, 1) := by decide +kernel
theorem d37_542 : decode method_6_code 542 = .ok (.aload_n 0, 1) := by decide +kernel
theorem d37_543 : decode method_6_code 543 = .ok (.iconst 1, 1) := by decide +kernel
theorem d37_544 : decode method_6_code 544 = .ok (.caload, 1) := by decide +kernel
theorem d37_545 : decode method_6_code 545 = .ok (.castore, 1) := by decide +kernel
theorem d37_546 : decode method_6_code 546 = .ok (.dup, 1) := by decide +kernel
theorem d37_547 : decode method_6_code 547 = .ok (.iconst 2, 1) := by decide +kernel
theorem d37_548 : decode method_6_code 548 = .ok (.aload_n 0, 1) := by decide +kernel
theorem d37_549 : decode method_6_code 549 = .ok (.iconst 2, 1) := by decide +kernel
theorem d37_55 : decode method_6_code 55 = .ok (.new 27, 3) := by decide +kernel
theorem d37_550 : decode method_6_code 550 = .ok (.caload, 1) := by decide +kernel
theorem d37_551 : decode method_6_code 551 = .ok (.castore, 1) := by decide +kernel
theorem d37_552 : decode method_6_code 552 = .ok (.dup, 1) := by decide +kernel
theorem d37_553 : decode method_6_code 553 = .ok (.iconst 3, 1) := by decide +kernel
theorem d37_554 : decode method_6_code 554 = .ok (.aload_n 0, 1) := by decide +kernel
theorem d37_555 : decode method_6_code 555 = .ok (.iconst 3, 1) := by decide +kernel
theorem d37_556 : decode method_6_code 556 = .ok (.caload, 1) := by decide +kernel
theorem d37_557 : decode method_6_code 557 = .ok (.castore, 1) := by decide +kernel
theorem d37_558 : decode method_6_code 558 = .ok (.dup, 1) := by decide +kernel
theorem d37_559 : decode method_6_code 559 = .ok (.iconst 4, 1) := by decide +kernel
theorem d37_560 : decode method_6_code 560 = .ok (.aload_n 0, 1) := by decide +kernel
theorem d37_561 : decode method_6_code 561 = .ok (.iconst 4, 1) := by decide +kernel
theorem d37_562 : decode method_6_code 562 = .ok (.caload, 1) := by decide +kernel
theorem d37_563 : decode method_6_code 563 = .ok (.castore, 1) := by decide +kernel
theorem d37_564 : decode method_6_code 564 = .ok (.dup, 1) := by decide +kernel
theorem d37_565 : decode method_6_code 565 = .ok (.iconst 5, 1) := by decide +kernel
theorem d37_566 : decode method_6_code 566 = .ok (.aload_n 0, 1) := by decide +kernel
theorem d37_567 : decode method_6_code 567 = .ok (.iconst 5, 1) := by decide +kernel
theorem d37_568 : decode method_6_code 568 = .ok (.caload, 1) := by decide +kernel
theorem d37_569 : decode method_6_code 569 = .ok (.castore, 1) := by decide +kernel
theorem d37_570 : decode method_6_code 570 = .ok (.dup, 1) := by decide +kernel
theorem d37_571 : decode method_6_code 571 = .ok (.bipush 6, 2) := by decide +kernel
theorem d37_573 : decode method_6_code 573 = .ok (.aload_n 0, 1) := by decide +kernel
theorem d37_574 : decode method_6_code 574 = .ok (.bipush 6, 2) := by decide +kernel
theorem d37_576 : decode method_6_code 576 = .ok (.caload, 1) := by decide +kernel
theorem d37_577 : decode method_6_code 577 = .ok (.castore, 1) := by decide +kernel
theorem d37_578 : decode method_6_code 578 = .ok (.dup, 1) := by decide +kernel
theorem d37_579 : decode method_6_code 579 = .ok (.bipush 7, 2) := by decide +kernel
theorem d37_58 : decode method_6_code 58 = .ok (.dup, 1) := by decide +kernel
theorem d37_581 : decode method_6_code 581 = .ok (.aload_n 0, 1) := by decide +kernel
theorem d37_582 : decode method_6_code 582 = .ok (.bipush 7, 2) := by decide +kernel
theorem d37_584 : decode method_6_code 584 = .ok (.caload, 1) := by decide +kernel
theorem d37_585 : decode method_6_code 585 = .ok (.castore, 1) := by decide +kernel
theorem d37_586 : decode method_6_code 586 = .ok (.dup, 1) := by decide +kernel
theorem d37_587 : decode method_6_code 587 = .ok (.bipush 8, 2) := by decide +kernel
theorem d37_589 : decode method_6_code 589 = .ok (.aload_n 0, 1) := by decide +kernel
theorem d37_59 : decode method_6_code 59 = .ok (.iconst 3, 1) := by decide +kernel
theorem d37_590 : decode method_6_code 590 = .ok (.bipush 8, 2) := by decide +kernel
theorem d37_592 : decode method_6_code 592 = .ok (.caload, 1) := by decide +kernel
theorem d37_593 : decode method_6_code 593 = .ok (.castore, 1) := by decide +kernel
theorem d37_594 : decode method_6_code 594 = .ok (.dup, 1) := by decide +kernel
theorem d37_595 : decode method_6_code 595 = .ok (.bipush 9, 2) := by decide +kernel
theorem d37_597 : decode method_6_code 597 = .ok (.aload_n 0, 1) := by decide +kernel
theorem d37_598 : decode method_6_code 598 = .ok (.bipush 9, 2) := by decide +kernel
theorem d37_60 : decode method_6_code 60 = .ok (.newarray .char, 2) := by decide +kernel
theorem d37_600 : decode method_6_code 600 = .ok (.caload, 1) := by decide +kernel
theorem d37_601 : decode method_6_code 601 = .ok (.castore, 1) := by decide +kernel
theorem d37_602 : decode method_6_code 602 = .ok (.dup, 1) := by decide +kernel
theorem d37_603 : decode method_6_code 603 = .ok (.bipush 10, 2) := by decide +kernel
theorem d37_605 : decode method_6_code 605 = .ok (.aload_n 0, 1) := by decide +kernel
theorem d37_606 : decode method_6_code 606 = .ok (.bipush 10, 2) := by decide +kernel
theorem d37_608 : decode method_6_code 608 = .ok (.caload, 1) := by decide +kernel
theorem d37_609 : decode method_6_code 609 = .ok (.castore, 1) := by decide +kernel
theorem d37_610 : decode method_6_code 610 = .ok (.invokespecial 32, 3) := by decide +kernel
theorem d37_613 : decode method_6_code 613 = .ok (.areturn, 1) := by decide +kernel
theorem d37_614 : decode method_6_code 614 = .ok (.new 27, 3) := by decide +kernel
theorem d37_617 : decode method_6_code 617 = .ok (.dup, 1) := by decide +kernel
theorem d37_618 : decode method_6_code 618 = .ok (.aload_n 0, 1) := by decide +kernel
theorem d37_619 : decode method_6_code 619 = .ok (.invokespecial 32, 3) := by decide +kernel
theorem d37_62 : decode method_6_code 62 = .ok (.dup, 1) := by decide +kernel
theorem d37_622 : decode method_6_code 622 = .ok (.areturn, 1) := by decide +kernel
theorem d37_63 : decode method_6_code 63 = .ok (.iconst 0, 1) := by decide +kernel
theorem d37_64 : decode method_6_code 64 = .ok (.aload_n 0, 1) := by decide +kernel
theorem d37_65 : decode method_6_code 65 = .ok (.iconst 0, 1) := by decide +kernel
theorem d37_66 : decode method_6_code 66 = .ok (.caload, 1) := by decide +kernel
theorem d37_67 : decode method_6_code 67 = .ok (.castore, 1) := by decide +kernel
theorem d37_68 : decode method_6_code 68 = .ok (.dup, 1) := by decide +kernel
theorem d37_69 : decode method_6_code 69 = .ok (.iconst 1, 1) := by decide +kernel
theorem d37_70 : decode method_6_code 70 = .ok (.aload_n 0, 1) := by decide +kernel
theorem d37_71 : decode method_6_code 71 = .ok (.iconst 1, 1) := by decide +kernel
theorem d37_72 : decode method_6_code 72 = .ok (.caload, 1) := by decide +kernel
theorem d37_73 : decode method_6_code 73 = .ok (.castore, 1) := by decide +kernel
theorem d37_74 : decode method_6_code 74 = .ok (.dup, 1) := by decide +kernel
theorem d37_75 : decode method_6_code 75 = .ok (.iconst 2, 1) := by decide +kernel
theorem d37_76 : decode method_6_code 76 = .ok (.aload_n 0, 1) := by decide +kernel
theorem d37_77 : decode method_6_code 77 = .ok (.iconst 2, 1) := by decide +kernel
theorem d37_78 : decode method_6_code 78 = .ok (.caload, 1) := by decide +kernel
theorem d37_79 : decode method_6_code 79 = .ok (.castore, 1) := by decide +kernel
theorem d37_8 : decode method_6_code 8 = .ok (.dup, 1) := by decide +kernel
theorem d37_80 : decode method_6_code 80 = .ok (.invokespecial 32, 3) := by decide +kernel
theorem d37_83 : decode method_6_code 83 = .ok (.areturn, 1) := by decide +kernel
theorem d37_84 : decode method_6_code 84 = .ok (.iload_n 1, 1) := by decide +kernel
theorem d37_85 : decode method_6_code 85 = .ok (.iconst 4, 1) := by decide +kernel
theorem d37_86 : decode method_6_code 86 = .ok (.if_icmp .ne 38, 3) := by decide +kernel
theorem d37_89 : decode method_6_code 89 = .ok (.new 27, 3) := by decide +kernel
theorem d37_9 : decode method_6_code 9 = .ok (.iconst 1, 1) := by decide +kernel
theorem d37_92 : decode method_6_code 92 = .ok (.dup, 1) := by decide +kernel
theorem d37_93 : decode method_6_code 93 = .ok (.iconst 4, 1) := by decide +kernel
theorem d37_94 : decode method_6_code 94 = .ok (.newarray .char, 2) := by decide +kernel
theorem d37_96 : decode method_6_code 96 = .ok (.dup, 1) := by decide +kernel
theorem d37_97 : decode method_6_code 97 = .ok (.iconst 0, 1) := by decide +kernel
theorem d37_98 : decode method_6_code 98 = .ok (.aload_n 0, 1) := by decide +kernel
theorem d37_99 : decode method_6_code 99 = .ok (.iconst 0, 1) := by decide +kernel
theorem d3_0 : decode jdk_42_method_139_code 0 = .ok (.getstatic 38, 3) := by decide +kernel
theorem d3_10 : decode jdk_42_method_139_code 10 = .ok (.ifCond .eq 16, 3) := by decide +kernel
theorem d3_13 : decode jdk_42_method_139_code 13 = .ok (.new 10, 3) := by decide +kernel
theorem d3_16 : decode jdk_42_method_139_code 16 = .ok (.dup, 1) := by decide +kernel
theorem d3_17 : decode jdk_42_method_139_code 17 = .ok (.iload_n 0, 1) := by decide +kernel
theorem d3_18 : decode jdk_42_method_139_code 18 = .ok (.invokestatic 1018, 3) := by decide +kernel
theorem d3_21 : decode jdk_42_method_139_code 21 = .ok (.iconst 0, 1) := by decide +kernel
theorem d3_22 : decode jdk_42_method_139_code 22 = .ok (.invokespecial 209, 3) := by decide +kernel
theorem d3_25 : decode jdk_42_method_139_code 25 = .ok (.areturn, 1) := by decide +kernel
theorem d3_3 : decode jdk_42_method_139_code 3 = .ok (.ifCond .eq 23, 3) := by decide +kernel
theorem d3_6 : decode jdk_42_method_139_code 6 = .ok (.iload_n 0, 1) := by decide +kernel
theorem d3_7 : decode jdk_42_method_139_code 7 = .ok (.invokestatic 1015, 3) := by decide +kernel
theorem d4_0 : decode jdk_42_method_66_code 0 = .ok (.aload_n 0, 1) := by decide +kernel
theorem d4_1 : decode jdk_42_method_66_code 1 = .ok (.aload_n 1, 1) := by decide +kernel
theorem d4_2 : decode jdk_42_method_66_code 2 = .ok (.if_acmp .ne 5, 3) := by decide +kernel
theorem d4_5 : decode jdk_42_method_66_code 5 = .ok (.iconst 1, 1) := by decide +kernel
theorem d4_6 : decode jdk_42_method_66_code 6 = .ok (.ireturn, 1) := by decide +kernel
theorem d5_0 : decode jdk_65_method_131_code 0 = .ok (.iload_n 1, 1) := by decide +kernel
theorem d5_1 : decode jdk_65_method_131_code 1 = .ok (.iload_n 0, 1) := by decide +kernel
theorem d5_2 : decode jdk_65_method_131_code 2 = .ok (.if_icmp .ge 35, 3) := by decide +kernel
theorem d5_37 : decode jdk_65_method_131_code 37 = .ok (.return_, 1) := by decide +kernel
theorem d6_0 : decode jdk_29_method_69_code 0 = .ok (.iload_n 0, 1) := by decide +kernel
theorem d6_1 : decode jdk_29_method_69_code 1 = .ok (.iload_n 1, 1) := by decide +kernel
theorem d6_10 : decode jdk_29_method_69_code 10 = .ok (.ireturn, 1) := by decide +kernel
theorem d6_2 : decode jdk_29_method_69_code 2 = .ok (.if_icmp .gt 7, 3) := by decide +kernel
theorem d6_5 : decode jdk_29_method_69_code 5 = .ok (.iload_n 0, 1) := by decide +kernel
theorem d6_6 : decode jdk_29_method_69_code 6 = .ok (.goto 4, 3) := by decide +kernel
theorem d6_9 : decode jdk_29_method_69_code 9 = .ok (.iload_n 1, 1) := by decide +kernel
theorem d7_0 : decode jdk_65_method_133_code 0 = .ok (.iload_n 1, 1) := by decide +kernel
theorem d7_1 : decode jdk_65_method_133_code 1 = .ok (.iload_n 2, 1) := by decide +kernel
theorem d7_10 : decode jdk_65_method_133_code 10 = .ok (.newarray .byte, 2) := by decide +kernel
theorem d7_12 : decode jdk_65_method_133_code 12 = .ok (.astore 4, 2) := by decide +kernel
theorem d7_14 : decode jdk_65_method_133_code 14 = .ok (.aload_n 0, 1) := by decide +kernel
theorem d7_15 : decode jdk_65_method_133_code 15 = .ok (.iload_n 1, 1) := by decide +kernel
theorem d7_16 : decode jdk_65_method_133_code 16 = .ok (.aload 4, 2) := by decide +kernel
theorem d7_18 : decode jdk_65_method_133_code 18 = .ok (.iconst 0, 1) := by decide +kernel
theorem d7_19 : decode jdk_65_method_133_code 19 = .ok (.aload_n 0, 1) := by decide +kernel
theorem d7_2 : decode jdk_65_method_133_code 2 = .ok (.invokestatic 343, 3) := by decide +kernel
theorem d7_20 : decode jdk_65_method_133_code 20 = .ok (.arraylength, 1) := by decide +kernel
theorem d7_21 : decode jdk_65_method_133_code 21 = .ok (.iload_n 1, 1) := by decide +kernel
theorem d7_22 : decode jdk_65_method_133_code 22 = .ok (.isub, 1) := by decide +kernel
theorem d7_23 : decode jdk_65_method_133_code 23 = .ok (.iload_n 3, 1) := by decide +kernel
theorem d7_24 : decode jdk_65_method_133_code 24 = .ok (.invokestatic 304, 3) := by decide +kernel
theorem d7_27 : decode jdk_65_method_133_code 27 = .ok (.invokestatic 150, 3) := by decide +kernel
theorem d7_30 : decode jdk_65_method_133_code 30 = .ok (.aload 4, 2) := by decide +kernel
theorem d7_32 : decode jdk_65_method_133_code 32 = .ok (.areturn, 1) := by decide +kernel
theorem d7_5 : decode jdk_65_method_133_code 5 = .ok (.iload_n 2, 1) := by decide +kernel
theorem d7_6 : decode jdk_65_method_133_code 6 = .ok (.iload_n 1, 1) := by decide +kernel
theorem d7_7 : decode jdk_65_method_133_code 7 = .ok (.isub, 1) := by decide +kernel
theorem d7_8 : decode jdk_65_method_133_code 8 = .ok (.istore_n 3, 1) := by decide +kernel
theorem d7_9 : decode jdk_65_method_133_code 9 = .ok (.iload_n 3, 1) := by decide +kernel
theorem d8_0 : decode jdk_65_method_132_code 0 = .ok (.iload_n 1, 1) := by decide +kernel
theorem d8_1 : decode jdk_65_method_132_code 1 = .ok (.ifCond .ne 9, 3) := by decide +kernel
theorem d8_10 : decode jdk_65_method_132_code 10 = .ok (.aload_n 0, 1) := by decide +kernel
theorem d8_11 : decode jdk_65_method_132_code 11 = .ok (.iload_n 1, 1) := by decide +kernel
theorem d8_12 : decode jdk_65_method_132_code 12 = .ok (.iload_n 2, 1) := by decide +kernel
theorem d8_13 : decode jdk_65_method_132_code 13 = .ok (.invokestatic 339, 3) := by decide +kernel
theorem d8_16 : decode jdk_65_method_132_code 16 = .ok (.areturn, 1) := by decide +kernel
theorem d8_4 : decode jdk_65_method_132_code 4 = .ok (.iload_n 2, 1) := by decide +kernel
theorem d8_5 : decode jdk_65_method_132_code 5 = .ok (.aload_n 0, 1) := by decide +kernel
theorem d8_6 : decode jdk_65_method_132_code 6 = .ok (.arraylength, 1) := by decide +kernel
theorem d8_7 : decode jdk_65_method_132_code 7 = .ok (.if_icmp .eq 10, 3) := by decide +kernel
theorem d9_0 : decode jdk_42_method_154_code 0 = .ok (.getstatic 38, 3) := by decide +kernel
theorem d9_10 : decode jdk_42_method_154_code 10 = .ok (.ifCond .ne 7, 3) := by decide +kernel
theorem d9_13 : decode jdk_42_method_154_code 13 = .ok (.iconst 1, 1) := by decide +kernel
theorem d9_14 : decode jdk_42_method_154_code 14 = .ok (.goto 4, 3) := by decide +kernel
theorem d9_18 : decode jdk_42_method_154_code 18 = .ok (.ireturn, 1) := by decide +kernel
theorem d9_3 : decode jdk_42_method_154_code 3 = .ok (.ifCond .eq 14, 3) := by decide +kernel
theorem d9_6 : decode jdk_42_method_154_code 6 = .ok (.aload_n 0, 1) := by decide +kernel
theorem d9_7 : decode jdk_42_method_154_code 7 = .ok (.getfield 15, 3) := by decide +kernel
theorem pd_0 : parseMethodDescriptor "(C)Z" = some ⟨[.char], some .boolean⟩ := by decide +kernel
theorem pd_1 : parseMethodDescriptor "(C)[B" = some ⟨[.char], some (.array .byte)⟩ := by decide +kernel
theorem pd_2 : parseMethodDescriptor "([BB)V" = some ⟨[(.array .byte), .byte], none⟩ := by decide +kernel
theorem pd_3 : parseMethodDescriptor "(II)V" = some ⟨[.int, .int], none⟩ := by decide +kernel
theorem pd_4 : parseMethodDescriptor "(II)I" = some ⟨[.int, .int], some .int⟩ := by decide +kernel
theorem pd_5 : parseMethodDescriptor "([BII)[B" = some ⟨[(.array .byte), .int, .int], some (.array .byte)⟩ := by decide +kernel
theorem pd_6 : parseMethodDescriptor "(IIILjava/util/function/BiFunction;)I" = some ⟨[.int, .int, .int, (.object "java/util/function/BiFunction")], some .int⟩ := by decide +kernel
theorem pd_7 : parseMethodDescriptor "(III)V" = some ⟨[.int, .int, .int], none⟩ := by decide +kernel
theorem pd_8 : parseMethodDescriptor "()Z" = some ⟨[], some .boolean⟩ := by decide +kernel
theorem pd_9 : parseMethodDescriptor "([BII)Ljava/lang/String;" = some ⟨[(.array .byte), .int, .int], some (.object "java/lang/String")⟩ := by decide +kernel
theorem pd_10 : parseMethodDescriptor "(I)V" = some ⟨[.int], none⟩ := by decide +kernel
theorem pd_11 : parseMethodDescriptor "(C)Ljava/lang/AbstractStringBuilder;" = some ⟨[.char], some (.object "java/lang/AbstractStringBuilder")⟩ := by decide +kernel
theorem pd_12 : parseMethodDescriptor "()I" = some ⟨[], some .int⟩ := by decide +kernel
theorem pd_13 : parseMethodDescriptor "()[B" = some ⟨[], some (.array .byte)⟩ := by decide +kernel
theorem pd_14 : parseMethodDescriptor "(Ljava/lang/AbstractStringBuilder;Ljava/lang/Void;)V" = some ⟨[(.object "java/lang/AbstractStringBuilder"), (.object "java/lang/Void")], none⟩ := by decide +kernel
theorem pd_15 : parseMethodDescriptor "(Ljava/lang/StringBuilder;)V" = some ⟨[(.object "java/lang/StringBuilder")], none⟩ := by decide +kernel
theorem pd_16 : parseMethodDescriptor "(Ljava/lang/Object;Ljava/lang/String;)Ljava/lang/Object;" = some ⟨[(.object "java/lang/Object"), (.object "java/lang/String")], some (.object "java/lang/Object")⟩ := by decide +kernel
theorem pd_17 : parseMethodDescriptor "(Ljava/lang/String;)V" = some ⟨[(.object "java/lang/String")], none⟩ := by decide +kernel
theorem pd_18 : parseMethodDescriptor "(II)Ljava/lang/String;" = some ⟨[.int, .int], some (.object "java/lang/String")⟩ := by decide +kernel
theorem pd_19 : parseMethodDescriptor "()Ljava/lang/String;" = some ⟨[], some (.object "java/lang/String")⟩ := by decide +kernel
theorem pd_20 : parseMethodDescriptor "(C)Ljava/lang/StringBuilder;" = some ⟨[.char], some (.object "java/lang/StringBuilder")⟩ := by decide +kernel
theorem pd_21 : parseMethodDescriptor "(Ljava/lang/String;)Ljava/lang/String;" = some ⟨[(.object "java/lang/String")], some (.object "java/lang/String")⟩ := by decide +kernel
theorem pd_22 : parseMethodDescriptor "(Ljava/lang/String;)Lcom/example/inchworm/inchworm/core/IdempotencyKey;" = some ⟨[(.object "java/lang/String")], some (.object "com/example/inchworm/inchworm/core/IdempotencyKey")⟩ := by decide +kernel
theorem pd_23 : parseMethodDescriptor "(I)C" = some ⟨[.int], some .char⟩ := by decide +kernel
theorem pd_24 : parseMethodDescriptor "([CI)Ljava/lang/String;" = some ⟨[(.array .char), .int], some (.object "java/lang/String")⟩ := by decide +kernel
theorem pd_25 : parseMethodDescriptor "(C)Ljava/lang/String;" = some ⟨[.char], some (.object "java/lang/String")⟩ := by decide +kernel
theorem pd_26 : parseMethodDescriptor "(II)C" = some ⟨[.int, .int], some .char⟩ := by decide +kernel
theorem pd_27 : parseMethodDescriptor "([CICZ)I" = some ⟨[(.array .char), .int, .char, .boolean], some .int⟩ := by decide +kernel
theorem pn_0 : plainName "java/lang/StringLatin1" = true := by first | (simp [plainName, overriddenIn]; done) | decide +kernel
theorem pn_1 : plainName "java/lang/String" = true := by first | (simp [plainName, overriddenIn]; done) | decide +kernel
theorem pn_2 : plainName "java/util/Arrays" = true := by first | (simp [plainName, overriddenIn]; done) | decide +kernel
theorem pn_3 : plainName "jdk/internal/util/Preconditions" = true := by first | (simp [plainName, overriddenIn]; done) | decide +kernel
theorem pn_4 : plainName "java/lang/AbstractStringBuilder" = true := by first | (simp [plainName, overriddenIn]; done) | decide +kernel
theorem pn_5 : plainName "java/lang/StringBuilder" = true := by first | (simp [plainName, overriddenIn]; done) | decide +kernel
theorem pn_6 : plainName "com/example/inchworm/inchworm/core/IdempotencyKey" = true := by first | (simp [plainName, overriddenIn]; done) | decide +kernel
theorem pn_7 : plainName "java/util/Objects" = true := by first | (simp [plainName, overriddenIn]; done) | decide +kernel
theorem pn_8 : plainName "com/example/inchworm/inchworm/core/IdempotencyKeyParseHeaderPinLaw" = true := by first | (simp [plainName, overriddenIn]; done) | decide +kernel
set_option maxRecDepth 65536 in
set_option maxHeartbeats 40000000 in
theorem rm_canenc {l : Launch} {Z : State} {a0 : Array Value} (C : Cx Z a0) (h0 : Heap) (c1 : Int32) (hc1 : ¬ c1 < 0 ∧ ¬ (255 : Int32) < c1) :
    Ct l Z a0 own_EL (⟨"java/lang/StringLatin1", "canEncode", "(C)Z"⟩ : MethodName) jdk_43_method_3_code 1 (Option.some Jvm.ClassFile.FieldType.boolean) [] ({ frames := 0, cells := 0, slots := 0, locals := 0 } : Room) #[(.int c1)] h0 [] (fun v h so => v = some (.int 1) ∧ h0 = h) := by
  refine own_enter (plainFor_of_name pn_0) C.ew (F0 := fun m => mkF m 0 #[vI c1] []) (fun m => by first | (simp [entryFrame, mkF, argsToLocals, Value.category]; done) | rfl) ?_
  intro p e s m below meth c s₁ G hx hby hml hret hnm W0 S0 go fin
  have z0 : Z.heap.size ≤ h0.size := W0.sz
  show G s₁ (mkF m 0 #[vI c1] [])
  refine go (g' := (mkF m 12 #[vI c1] [(.int (1 : Int32))])) (fun _ k => XS.iloadN W0.here hx rfl (hb hby d0_0) rfl (XS.sipush W0.here hx rfl (hb hby d0_1) (XS.icmpNo W0.here hx rfl (hb hby d0_4) rfl (flt hc1.2).2.2.1 (XS.iconst W0.here hx rfl (hb hby d0_7) (XS.goto W0.here hx rfl (pc0 := 8) (pc' := 12) rfl (hb hby d0_8) (by decide) (by decide) k))))) ?_
  exact fin (v := some (.int (1 : Int32))) (so := []) W0 (nle rfl) (nle rfl) (⟨rfl, rfl⟩) (fun _ q => nomatch q) (fun q => nomatch q) (own_retI W0 hx hret (by decide) rfl (hb hby d0_12))
set_option maxRecDepth 65536 in
set_option maxHeartbeats 40000000 in
theorem rm_tob {l : Launch} {Z : State} {a0 : Array Value} (C : Cx Z a0) (h0 : Heap) (c1 : Int32) :
    Ct l Z a0 own_EL (⟨"java/lang/StringLatin1", "toBytes", "(C)[B"⟩ : MethodName) jdk_43_method_46_code 1 (Option.some (Jvm.ClassFile.FieldType.array Jvm.ClassFile.FieldType.byte)) [] ({ frames := 0, cells := 1, slots := 1, locals := 0 } : Room) #[(.int c1)] h0 [] (fun v h so => ∃ (x : Addr) (k : ClassId), v = some (.ref x) ∧ Ext h0 h ∧ h0.size ≤ x ∧ Arv Z h x k .byte (1 : Int32) [(.int c1.toInt8.toInt32)] vZ) := by
  refine own_enter (plainFor_of_name pn_0) C.ew (F0 := fun m => mkF m 0 #[vI c1] []) (fun m => by first | (simp [entryFrame, mkF, argsToLocals, Value.category]; done) | rfl) ?_
  intro p e s m below meth c s₁ G hx hby hml hret hnm W0 S0 go fin
  have z0 : Z.heap.size ≤ h0.size := W0.sz
  show G s₁ (mkF m 0 #[vI c1] [])
  refine go (g' := (mkF m 1 #[vI c1] [(.int (1 : Int32))])) (fun _ k => XS.iconst W0.here hx rfl (hb hby d1_0) k) ?_
  obtain ⟨x1, T1, h1, k1, g1, W1, E1, A1, st1⟩ := own_newP W0 hx (aty := .byte) (w30 C) (g := (mkF m 1 #[vI c1] [(.int (1 : Int32))])) rfl (hb hby d1_1) rfl (by decide) (cap := 1) (by decide) (nle rfl) (nle rfl) (nle rfl)
  have z2 : h0.size ≤ h1.size := E1.1
  have l1 : ltN x1 h1.size := A1.lt
  have V1 : Arv Z h1 x1 k1 .byte (1 : Int32) [vZ] vZ := A1.pad (pad_rep [] vZ 1)
  refine go (g' := (mkF m 3 #[vI c1] [(.ref x1)])) (st1) ?_
  refine go (g' := (mkF m 7 #[vI c1] [(.int (c1.toInt8.toInt32)), vZ, (.ref x1), (.ref x1)])) (fun _ k => XS.dup W1.here hx rfl (hb hby d1_3) rfl rfl (XS.iconst W1.here hx rfl (hb hby d1_4) (XS.iloadN W1.here hx rfl (hb hby d1_5) rfl (XS.i2b W1.here hx rfl (hb hby d1_6) rfl k)))) ?_
  have X4 : Ext h0 h1 := own_xt (own_xr h0) E1
  obtain ⟨T3, h3, W3, R3, V3, st3⟩ := own_stB W1 hx V1 (by omega) (own_safeB W0 X4 (by omega)) (j := (0 : Int32)) (i := 0) ⟨by decide, by decide⟩ rfl (nle rfl) (g := (mkF m 7 #[vI c1] [(.int (c1.toInt8.toInt32)), vZ, (.ref x1), (.ref x1)])) rfl rfl (hb hby d1_7)
  have z5 : h3.size = h1.size := R3.size
  have U3 : Arv Z h3 x1 k1 .byte (1 : Int32) [(.int (c1.toInt8.toInt32).toInt8.toInt32)] vZ := V3
  refine go (g' := (mkF m 8 #[vI c1] [(.ref x1)])) (st3) ?_
  have q6 : Arv Z h3 x1 k1 .byte (1 : Int32) [(.int c1.toInt8.toInt32)] vZ := own_b8 c1 ▸ U3
  have X7 : Ext h0 h3 := own_xw X4 R3 (by omega)
  exact fin (v := some (.ref x1)) (so := []) W3 (nle rfl) (nle rfl) (⟨_, _, rfl, X7, by omega, q6⟩) (fun _ q => nomatch q) (fun q => nomatch q) (own_retA W3 hx hret rfl rfl rfl (hb hby d1_8))
set_option maxRecDepth 65536 in
set_option maxHeartbeats 40000000 in
theorem rm_sinit {l : Launch} {Z : State} {a0 : Array Value} (C : Cx Z a0) (h0 : Heap) (x b : Addr) (Ex : Exa Z h0 x "java/lang/String") (Fv : Fld Z h0 x "java/lang/String" "value" "[B" .null) (Fc : Fld Z h0 x "java/lang/String" "coder" "B" vZ) (nx : Z.heap.size ≤ x) :
    Ct l Z a0 own_EL (⟨"java/lang/String", "<init>", "([BB)V"⟩ : MethodName) jdk_42_method_151_code 3 (Option.none : Option Jvm.ClassFile.FieldType) [] ({ frames := 1, cells := 0, slots := 0, locals := 12 } : Room) #[(.ref x), (.ref b), vZ] h0 [x] (fun v h so => v = none ∧ Keep h0 h [x] ∧ Exa Z h x "java/lang/String" ∧ Fld Z h x "java/lang/String" "value" "[B" (.ref b) ∧ Fld Z h x "java/lang/String" "coder" "B" vZ) := by
  refine own_enter (plainFor_of_name pn_1) C.ew (F0 := fun m => mkF m 0 #[vR x, vR b, .val vZ] []) (fun m => by first | (simp [entryFrame, mkF, argsToLocals, Value.category]; done) | rfl) ?_
  intro p e s m below meth c s₁ G hx hby hml hret hnm W0 S0 go fin
  have z0 : Z.heap.size ≤ h0.size := W0.sz
  show G s₁ (mkF m 0 #[vR x, vR b, .val vZ] [])
  have lx : ltN x h0.size := Ex.lt
  refine go (g' := (mkF m 1 #[vR x, vR b, .val vZ] [(.ref x)])) (fun _ k => XS.aloadN W0.here hx rfl (hb hby d2_0) rfl rfl k) ?_
  obtain ⟨T1, W1, st1⟩ := own_initO W0 hx (w22 C) (w23 C) (w24 C) (g := (mkF m 1 #[vR x, vR b, .val vZ] [(.ref x)])) rfl (by rw [hml]; rfl) rfl (hb hby d2_1) (nle rfl) (Wd := 0) (nle rfl) (nle rfl)
  refine go (g' := (mkF m 4 #[vR x, vR b, .val vZ] [])) (st1) ?_
  refine go (g' := (mkF m 6 #[vR x, vR b, .val vZ] [(.ref b), (.ref x)])) (fun _ k => XS.aloadN W1.here hx rfl (hb hby d2_4) rfl rfl (XS.aloadN W1.here hx rfl (hb hby d2_5) rfl rfl k)) ?_
  obtain ⟨T2, h2, W2, R2, F2, st2⟩ := own_put W1 hx (host := "") (Or.inl (w39 C)) Via.refl Fv Ex (Or.inr ⟨(w40 C), rfl, hnm⟩) (w13 C) (ty := (.array .byte)) (by decide) rfl rfl (S0 _ (List.mem_of_getElem? (i := 0) rfl)) (by omega) (g := (mkF m 6 #[vR x, vR b, .val vZ] [(.ref b), (.ref x)])) rfl rfl (hb hby d2_6)
  have z3 : h2.size = h0.size := R2.size
  have f4 : Exa Z h2 x "java/lang/String" := Ex.wr R2
  have f5 : Fld Z h2 x "java/lang/String" "coder" "B" vZ := Fc.other R2 (Or.inr (slot_ne (Or.inr (w38 C)) (Or.inr (w40 C)) (by decide) (t := .byte) (t' := (.array .byte)) (by decide) (by decide)))
  have S2 : Safe Z own_EL s.vm h2 x := Safe.wr R2 (S0 _ (List.mem_of_getElem? (i := 0) rfl)) W1.ch (S0 _ (List.mem_of_getElem? (i := 0) rfl))
  refine go (g' := (mkF m 9 #[vR x, vR b, .val vZ] [])) (st2) ?_
  refine go (g' := (mkF m 11 #[vR x, vR b, .val vZ] [vZ, (.ref x)])) (fun _ k => XS.aloadN W2.here hx rfl (hb hby d2_9) rfl rfl (XS.iloadN W2.here hx rfl (hb hby d2_10) rfl k)) ?_
  obtain ⟨T6, h6, W6, R6, F6, st6⟩ := own_put W2 hx (host := "") (Or.inl (w37 C)) Via.refl f5 f4 (Or.inr ⟨(w38 C), rfl, hnm⟩) (w13 C) (ty := .byte) (by decide) rfl (by decide) S2 (by omega) (g := (mkF m 11 #[vR x, vR b, .val vZ] [vZ, (.ref x)])) rfl rfl (hb hby d2_11)
  have z7 : h6.size = h2.size := R6.size
  have f8 : Exa Z h6 x "java/lang/String" := f4.wr R6
  have f9 : Fld Z h6 x "java/lang/String" "value" "[B" (.ref b) := F2.other R6 (Or.inr (slot_ne (Or.inr (w40 C)) (Or.inr (w38 C)) (by decide) (t := (.array .byte)) (t' := .byte) (by decide) (by decide)))
  have S6 : Safe Z own_EL s.vm h6 x := Safe.wr R6 S2 W2.ch S2
  refine go (g' := (mkF m 14 #[vR x, vR b, .val vZ] [])) (st6) ?_
  have KK10 : Keep h0 h6 [x] := (((Keep.refl h0 [x]).wr R2 (Or.inl (List.mem_of_getElem? (i := 0) rfl))).wr R6 (Or.inl (List.mem_of_getElem? (i := 0) rfl)))
  exact fin (v := none) (so := []) W6 (nle rfl) (nle rfl) (⟨rfl, KK10, f8, f9, F6⟩) (fun _ q => nomatch q) (fun _ => rfl) (own_retV W6 hx hret (hb hby d2_14))
set_option maxRecDepth 65536 in
set_option maxHeartbeats 40000000 in
theorem rm_valof {l : Launch} {Z : State} {a0 : Array Value} (C : Cx Z a0) (h0 : Heap) (c1 : Int32) (hc1 : ¬ c1 < 0 ∧ ¬ (255 : Int32) < c1) :
    Ct l Z a0 own_EL (⟨"java/lang/String", "valueOf", "(C)Ljava/lang/String;"⟩ : MethodName) jdk_42_method_139_code 1 (Option.some (Jvm.ClassFile.FieldType.object "java/lang/String")) [] ({ frames := 2, cells := 2, slots := 5, locals := 27 } : Room) #[(.int c1)] h0 [] (fun v h so => ∃ x : Addr, v = some (.ref x) ∧ Ext h0 h ∧ h0.size ≤ x ∧ Str Z h x [c1]) := by
  refine own_enter (plainFor_of_name pn_1) C.ew (F0 := fun m => mkF m 0 #[vI c1] []) (fun m => by first | (simp [entryFrame, mkF, argsToLocals, Value.category]; done) | rfl) ?_
  intro p e s m below meth c s₁ G hx hby hml hret hnm W0 S0 go fin
  have z0 : Z.heap.size ≤ h0.size := W0.sz
  show G s₁ (mkF m 0 #[vI c1] [])
  obtain ⟨gCS, OCS, nCS⟩ := C.cs
  obtain ⟨T1, W1, st1⟩ := own_getS W0 hx (host := "") (Or.inl (w25 C)) Via.refl OCS (g := (mkF m 0 #[vI c1] [])) rfl (hb hby d3_0)
  refine go (g' := (mkF m 3 #[vI c1] [(.int gCS)])) (st1) ?_
  refine go (g' := (mkF m 7 #[vI c1] [(.int c1)])) (fun _ k => XS.ifNo W1.here hx rfl (hb hby d3_3) rfl ((if0 _ _).trans (feq nCS).1) (XS.iloadN W1.here hx rfl (hb hby d3_6) rfl k)) ?_
  obtain ⟨v2, so2, vm2, T2, h2, W2, C2, q2, hso2, st2⟩ := own_static W1 hx (y := (⟨"java/lang/StringLatin1", "canEncode", "(C)Z"⟩ : MethodName)) (w44 C) (w45 C) (w46 C) (w47 C) (by decide) (rm_canenc C h0 c1 hc1) (fun _ q => nomatch q) (Wd := 0) (nle rfl) (nle rfl) (nle rfl) (nle rfl) (g := (mkF m 7 #[vI c1] [(.int c1)])) rfl (by rw [hml]; rfl) (argsL := [(.int c1)]) (rest := []) (lenOf pd_0 rfl) rfl rfl (nle rfl) (hb hby d3_7)
  obtain ⟨rfl, rfl⟩ := q2
  refine go (g' := (mkF m 10 #[vI c1] [(.int (1 : Int32))])) (st2) ?_
  refine go (g' := (mkF m 13 #[vI c1] [])) (fun _ k => XS.ifNo W2.here hx rfl (hb hby d3_10) rfl ((if0 _ _).trans (feq ((by decide) : ¬ ((1 : Int32) = (0 : Int32)))).1) k) ?_
  obtain ⟨x3, T3, h3, g3, W3, E3, A3, D3, U3, st3⟩ := own_new W2 hx (w48 C) (w13 C) (w14 C) (g := (mkF m 13 #[vI c1] [])) rfl (hb hby d3_13) (nle rfl) (nle rfl)
  have z4 : h0.size ≤ h3.size := E3.1
  have l3 : ltN x3 h3.size := A3.lt
  have F3_coder : Fld Z h3 x3 "java/lang/String" "coder" "B" vZ := D3 (Or.inr (w38 C)) (ty := .byte) (by decide)
  have F3_value : Fld Z h3 x3 "java/lang/String" "value" "[B" .null := D3 (Or.inr (w40 C)) (ty := (.array .byte)) (by decide)
  refine go (g' := (mkF m 16 #[vI c1] [(.ref x3)])) (st3) ?_
  refine go (g' := (mkF m 18 #[vI c1] [(.int c1), (.ref x3), (.ref x3)])) (fun _ k => XS.dup W3.here hx rfl (hb hby d3_16) rfl rfl (XS.iloadN W3.here hx rfl (hb hby d3_17) rfl k)) ?_
  have X6 : Ext h0 h3 := own_xt (own_xr h0) E3
  obtain ⟨v5, so5, vm5, T5, h5, W5, C5, q5, hso5, st5⟩ := own_static W3 hx (y := (⟨"java/lang/StringLatin1", "toBytes", "(C)[B"⟩ : MethodName)) (w49 C) (w50 C) (w46 C) (w51 C) (by decide) (rm_tob C h3 c1) (fun _ q => nomatch q) (Wd := 2) (nle rfl) (nle rfl) (nle rfl) (nle rfl) (g := (mkF m 18 #[vI c1] [(.int c1), (.ref x3), (.ref x3)])) rfl (by rw [hml]; rfl) (argsL := [(.int c1)]) (rest := [(.ref x3), (.ref x3)]) (lenOf pd_1 rfl) rfl rfl (nle rfl) (hb hby d3_18)
  obtain ⟨x5, k5, rfl, E5, g5, V5⟩ := q5
  have z7 : h3.size ≤ h5.size := E5.1
  have S5_x3 : Safe Z own_EL vm5 h5 x3 := C5.safe (olt (by omega)) (own_safeB W2 X6 (by omega))
  refine go (g' := (mkF m 21 #[vI c1] [(.ref x5), (.ref x3), (.ref x3)])) (st5) ?_
  refine go (g' := (mkF m 22 #[vI c1] [vZ, (.ref x5), (.ref x3), (.ref x3)])) (fun _ k => XS.iconst W5.here hx rfl (hb hby d3_21) k) ?_
  have X9 : Ext h3 h5 := own_xt (own_xr h3) E5
  have f10 : Exa Z h5 x3 "java/lang/String" := A3.ext X9
  have f11 : Fld Z h5 x3 "java/lang/String" "value" "[B" .null := F3_value.ext X9
  have f12 : Fld Z h5 x3 "java/lang/String" "coder" "B" vZ := F3_coder.ext X9
  obtain ⟨v8, so8, vm8, T8, h8, W8, C8, q8, hso8, st8⟩ := own_special W5 hx (y := (⟨"java/lang/String", "<init>", "([BB)V"⟩ : MethodName)) rfl (w52 C) (w53 C) (w14 C) (w54 C) (by decide) (rm_sinit C h5 x3 x5 f10 f11 f12 (by omega)) (allS S5_x3 all0) (Wd := 1) (nle rfl) (nle rfl) (nle rfl) (nle rfl) (g := (mkF m 22 #[vI c1] [vZ, (.ref x5), (.ref x3), (.ref x3)])) rfl (by rw [hml]; rfl) (a := x3) (argsL := [(.ref x5), vZ]) (rest := [(.ref x3)]) (lenOf pd_2 rfl) rfl rfl (nle rfl) (hb hby d3_22)
  obtain ⟨rfl, K8, E8, F8, G8⟩ := q8
  have z13 : h5.size ≤ h8.size := K8.1
  have S8_x3 : Safe Z own_EL vm8 h8 x3 := C8.safe (olt (by omega)) S5_x3
  refine go (g' := (mkF m 25 #[vI c1] [(.ref x3)])) (st8) ?_
  have X14 : Ext h0 h5 := own_xt X6 E5
  have X15 : Ext h0 h8 := own_xk X14 K8 (allS (by omega) all0)
  have l17 : ltN x5 h5.size := V5.lt
  have f16 : Arv Z h8 x5 k5 .byte (1 : Int32) [(.int c1.toInt8.toInt32)] vZ := V5.keep K8 (ninS (one (by omega)) nin0)
  exact fin (v := some (.ref x3)) (so := []) W8 (nle rfl) (nle rfl) (⟨_, rfl, X15, by omega, E8, G8, own_alS hc1 own_al0, _, _, F8, f16⟩) (fun _ q => nomatch q) (fun q => nomatch q) (own_retA W8 hx hret rfl rfl rfl (hb hby d3_25))
set_option maxRecDepth 65536 in
set_option maxHeartbeats 40000000 in
theorem rm_eqsame {l : Launch} {Z : State} {a0 : Array Value} (C : Cx Z a0) (h0 : Heap) (x : Addr) :
    Ct l Z a0 own_EL (⟨"java/lang/String", "equals", "(Ljava/lang/Object;)Z"⟩ : MethodName) jdk_42_method_66_code 3 (Option.some Jvm.ClassFile.FieldType.boolean) [] ({ frames := 0, cells := 0, slots := 0, locals := 0 } : Room) #[(.ref x), (.ref x)] h0 [] (fun v h so => v = some (.int 1) ∧ h0 = h) := by
  refine own_enter (plainFor_of_name pn_1) C.ew (F0 := fun m => mkF m 0 #[vR x, vR x, .unset] []) (fun m => by first | (simp [entryFrame, mkF, argsToLocals, Value.category]; done) | rfl) ?_
  intro p e s m below meth c s₁ G hx hby hml hret hnm W0 S0 go fin
  have z0 : Z.heap.size ≤ h0.size := W0.sz
  show G s₁ (mkF m 0 #[vR x, vR x, .unset] [])
  refine go (g' := (mkF m 2 #[vR x, vR x, .unset] [(.ref x), (.ref x)])) (fun _ k => XS.aloadN W0.here hx rfl (hb hby d4_0) rfl rfl (XS.aloadN W0.here hx rfl (hb hby d4_1) rfl rfl k)) ?_
  refine go (g' := (mkF m 5 #[vR x, vR x, .unset] [])) (own_acmp W0 hx (g := (mkF m 2 #[vR x, vR x, .unset] [(.ref x), (.ref x)])) rfl rfl rfl (pc0 := 2) (pc' := 5) (same := true) rfl (hb hby d4_2) rfl (decide_eq_true rfl) (by decide) (by decide)) ?_
  refine go (g' := (mkF m 6 #[vR x, vR x, .unset] [(.int (1 : Int32))])) (fun _ k => XS.iconst W0.here hx rfl (hb hby d4_5) k) ?_
  exact fin (v := some (.int (1 : Int32))) (so := []) W0 (nle rfl) (nle rfl) (⟨rfl, rfl⟩) (fun _ q => nomatch q) (fun q => nomatch q) (own_retI W0 hx hret (by decide) rfl (hb hby d4_6))
set_option maxRecDepth 65536 in
set_option maxHeartbeats 40000000 in
theorem rm_chk {l : Launch} {Z : State} {a0 : Array Value} (C : Cx Z a0) (h0 : Heap) (lo hi : Nat) (h1 : lo ≤ hi) (h2 : hi ≤ 4000) :
    Ct l Z a0 own_EL (⟨"java/util/Arrays", "checkLength", "(II)V"⟩ : MethodName) jdk_65_method_131_code 2 (Option.none : Option Jvm.ClassFile.FieldType) [] ({ frames := 0, cells := 0, slots := 0, locals := 0 } : Room) #[(.int (Int32.ofNat lo)), (.int (Int32.ofNat hi))] h0 [] (fun v h so => v = none ∧ h0 = h) := by
  refine own_enter (plainFor_of_name pn_2) C.ew (F0 := fun m => mkF m 0 #[vI (Int32.ofNat lo), vI (Int32.ofNat hi)] []) (fun m => by first | (simp [entryFrame, mkF, argsToLocals, Value.category]; done) | rfl) ?_
  intro p e s m below meth c s₁ G hx hby hml hret hnm W0 S0 go fin
  have z0 : Z.heap.size ≤ h0.size := W0.sz
  show G s₁ (mkF m 0 #[vI (Int32.ofNat lo), vI (Int32.ofNat hi)] [])
  refine go (g' := (mkF m 37 #[vI (Int32.ofNat lo), vI (Int32.ofNat hi)] [])) (fun _ k => XS.iloadN W0.here hx rfl (hb hby d5_0) rfl (XS.iloadN W0.here hx rfl (hb hby d5_1) rfl (XS.icmpYes W0.here hx rfl (pc0 := 2) (pc' := 37) rfl (hb hby d5_2) rfl (flt (fun q => absurd ((own_ltn (by omega) (by omega)).mp q) (by omega))).2.1 (by decide) (by decide) k))) ?_
  exact fin (v := none) (so := []) W0 (nle rfl) (nle rfl) (⟨rfl, rfl⟩) (fun _ q => nomatch q) (fun _ => rfl) (own_retV W0 hx hret (hb hby d5_37))
set_option maxRecDepth 65536 in
set_option maxHeartbeats 40000000 in
theorem rm_min {l : Launch} {Z : State} {a0 : Array Value} (C : Cx Z a0) (h0 : Heap) (a b : Nat) (h1 : b ≤ a) (h2 : a ≤ 4000) :
    Ct l Z a0 own_EL (⟨"java/lang/Math", "min", "(II)I"⟩ : MethodName) jdk_29_method_69_code 2 (Option.some Jvm.ClassFile.FieldType.int) [] ({ frames := 0, cells := 0, slots := 0, locals := 0 } : Room) #[(.int (Int32.ofNat a)), (.int (Int32.ofNat b))] h0 [] (fun v h so => v = some (.int (Int32.ofNat b)) ∧ h0 = h) := by
  refine own_enter (Jvm.Free.JP.mathPlain rfl (by decide +kernel)) C.ew (F0 := fun m => mkF m 0 #[vI (Int32.ofNat a), vI (Int32.ofNat b)] []) (fun m => by first | (simp [entryFrame, mkF, argsToLocals, Value.category]; done) | rfl) ?_
  intro p e s m below meth c s₁ G hx hby hml hret hnm W0 S0 go fin
  have z0 : Z.heap.size ≤ h0.size := W0.sz
  show G s₁ (mkF m 0 #[vI (Int32.ofNat a), vI (Int32.ofNat b)] [])
  refine go (g' := (mkF m 2 #[vI (Int32.ofNat a), vI (Int32.ofNat b)] [(.int (Int32.ofNat b)), (.int (Int32.ofNat a))])) (fun _ k => XS.iloadN W0.here hx rfl (hb hby d6_0) rfl (XS.iloadN W0.here hx rfl (hb hby d6_1) rfl k)) ?_
  by_cases kb1 : (Int32.ofNat b) < (Int32.ofNat a)
  · refine go (g' := (mkF m 10 #[vI (Int32.ofNat a), vI (Int32.ofNat b)] [(.int (Int32.ofNat b))])) (fun _ k => XS.icmpYes W0.here hx rfl (pc0 := 2) (pc' := 9) rfl (hb hby d6_2) rfl (tlt kb1).2.2.1 (by decide) (by decide) (XS.iloadN W0.here hx rfl (hb hby d6_9) rfl k)) ?_
    exact fin (v := some (.int (Int32.ofNat b))) (so := []) W0 (nle rfl) (nle rfl) (⟨rfl, rfl⟩) (fun _ q => nomatch q) (fun q => nomatch q) (own_retI W0 hx hret (by decide) rfl (hb hby d6_10))
  · refine go (g' := (mkF m 10 #[vI (Int32.ofNat a), vI (Int32.ofNat b)] [(.int (Int32.ofNat a))])) (fun _ k => XS.icmpNo W0.here hx rfl (hb hby d6_2) rfl (flt kb1).2.2.1 (XS.iloadN W0.here hx rfl (hb hby d6_5) rfl (XS.goto W0.here hx rfl (pc0 := 6) (pc' := 10) rfl (hb hby d6_6) (by decide) (by decide) k))) ?_
    exact fin (v := some (.int (Int32.ofNat a))) (so := []) W0 (nle rfl) (nle rfl) (⟨own_minx h1 h2 kb1, rfl⟩) (fun _ q => nomatch q) (fun q => nomatch q) (own_retI W0 hx hret (by decide) rfl (hb hby d6_10))
set_option maxRecDepth 65536 in
set_option maxHeartbeats 40000000 in
theorem rm_corb {l : Launch} {Z : State} {a0 : Array Value} (C : Cx Z a0) (h0 : Heap) (t : Addr) (kt : ClassId) (bs : List Int32) (cap lo hi : Nat) (l1 : lo < hi) (l2 : hi ≤ bs.length) (l3 : bs.length ≤ cap) (l4 : cap ≤ 12) (Vt : Arv Z h0 t kt .byte (Int32.ofNat cap) (bs.map Value.int) vZ) :
    Ct l Z a0 own_EL (⟨"java/util/Arrays", "copyOfRangeByte", "([BII)[B"⟩ : MethodName) jdk_65_method_133_code 5 (Option.some (Jvm.ClassFile.FieldType.array Jvm.ClassFile.FieldType.byte)) [] ({ frames := 1, cells := 1, slots := 12, locals := 30 } : Room) #[(.ref t), (.int (Int32.ofNat lo)), (.int (Int32.ofNat hi))] h0 [] (fun v h so => ∃ (x : Addr) (kx : ClassId), v = some (.ref x) ∧ Ext h0 h ∧ h0.size ≤ x ∧ Arv Z h x kx .byte (Int32.ofNat (hi - lo)) (((bs.drop lo).take (hi - lo)).map Value.int) vZ) := by
  refine own_enter (plainFor_of_name pn_2) C.ew (F0 := fun m => mkF m 0 #[vR t, vI (Int32.ofNat lo), vI (Int32.ofNat hi), .unset, .unset] []) (fun m => by first | (simp [entryFrame, mkF, argsToLocals, Value.category]; done) | rfl) ?_
  intro p e s m below meth c s₁ G hx hby hml hret hnm W0 S0 go fin
  have z0 : Z.heap.size ≤ h0.size := W0.sz
  show G s₁ (mkF m 0 #[vR t, vI (Int32.ofNat lo), vI (Int32.ofNat hi), .unset, .unset] [])
  refine go (g' := (mkF m 2 #[vR t, vI (Int32.ofNat lo), vI (Int32.ofNat hi), .unset, .unset] [(.int (Int32.ofNat hi)), (.int (Int32.ofNat lo))])) (fun _ k => XS.iloadN W0.here hx rfl (hb hby d7_0) rfl (XS.iloadN W0.here hx rfl (hb hby d7_1) rfl k)) ?_
  obtain ⟨v1, so1, vm1, T1, h1, W1, C1, q1, hso1, st1⟩ := own_static W0 hx (y := (⟨"java/util/Arrays", "checkLength", "(II)V"⟩ : MethodName)) (w159 C) (w160 C) (w154 C) (w161 C) (by decide) (rm_chk C h0 lo hi (by omega) (by omega)) (fun _ q => nomatch q) (Wd := 0) (nle rfl) (nle rfl) (nle rfl) (nle rfl) (g := (mkF m 2 #[vR t, vI (Int32.ofNat lo), vI (Int32.ofNat hi), .unset, .unset] [(.int (Int32.ofNat hi)), (.int (Int32.ofNat lo))])) rfl (by rw [hml]; rfl) (argsL := [(.int (Int32.ofNat lo)), (.int (Int32.ofNat hi))]) (rest := []) (lenOf pd_3 rfl) rfl rfl (nle rfl) (hb hby d7_2)
  obtain ⟨rfl, rfl⟩ := q1
  refine go (g' := (mkF m 5 #[vR t, vI (Int32.ofNat lo), vI (Int32.ofNat hi), .unset, .unset] [])) (st1) ?_
  refine go (g' := (mkF m 8 #[vR t, vI (Int32.ofNat lo), vI (Int32.ofNat hi), .unset, .unset] [(.int ((Int32.ofNat hi) - (Int32.ofNat lo)))])) (fun _ k => XS.iloadN W1.here hx rfl (hb hby d7_5) rfl (XS.iloadN W1.here hx rfl (hb hby d7_6) rfl (XS.isub W1.here hx rfl (hb hby d7_7) rfl k))) ?_
  rw [show ((Int32.ofNat hi) - (Int32.ofNat lo)) = (Int32.ofNat (hi - lo)) from own_subn (by omega)]
  refine go (g' := (mkF m 10 #[vR t, vI (Int32.ofNat lo), vI (Int32.ofNat hi), vI (Int32.ofNat (hi - lo)), .unset] [(.int (Int32.ofNat (hi - lo)))])) (fun _ k => XS.istoreN W1.here hx rfl (hb hby d7_8) rfl (l' := #[vR t, vI (Int32.ofNat lo), vI (Int32.ofNat hi), vI (Int32.ofNat (hi - lo)), .unset]) rfl (XS.iloadN W1.here hx rfl (hb hby d7_9) rfl k)) ?_
  obtain ⟨x2, T2, h2, k2, g2, W2, E2, A2, st2⟩ := own_newP W1 hx (aty := .byte) (w30 C) (g := (mkF m 10 #[vR t, vI (Int32.ofNat lo), vI (Int32.ofNat hi), vI (Int32.ofNat (hi - lo)), .unset] [(.int (Int32.ofNat (hi - lo)))])) rfl (hb hby d7_10) rfl (own_nn (by omega)) (cap := 12) (by rw [own_cl (by omega)]; omega) (nle rfl) (nle rfl) (nle rfl)
  have z3 : h0.size ≤ h2.size := E2.1
  have l2 : ltN x2 h2.size := A2.lt
  have V2 : Arv Z h2 x2 k2 .byte (Int32.ofNat (hi - lo)) [] vZ := A2
  refine go (g' := (mkF m 12 #[vR t, vI (Int32.ofNat lo), vI (Int32.ofNat hi), vI (Int32.ofNat (hi - lo)), .unset] [(.ref x2)])) (st2) ?_
  refine go (g' := (mkF m 20 #[vR t, vI (Int32.ofNat lo), vI (Int32.ofNat hi), vI (Int32.ofNat (hi - lo)), vR x2] [(.ref t), vZ, (.ref x2), (.int (Int32.ofNat lo)), (.ref t)])) (fun _ k => XS.astore W2.here hx rfl (hb hby d7_12) rfl rfl (l' := #[vR t, vI (Int32.ofNat lo), vI (Int32.ofNat hi), vI (Int32.ofNat (hi - lo)), vR x2]) rfl (XS.aloadN W2.here hx rfl (hb hby d7_14) rfl rfl (XS.iloadN W2.here hx rfl (hb hby d7_15) rfl (XS.aload W2.here hx rfl (hb hby d7_16) rfl rfl (XS.iconst W2.here hx rfl (hb hby d7_18) (XS.aloadN W2.here hx rfl (hb hby d7_19) rfl rfl k)))))) ?_
  have X4 : Ext h0 h2 := own_xt (own_xr h0) E2
  have f5 : Arv Z h2 t kt .byte (Int32.ofNat cap) (bs.map Value.int) vZ := Vt.ext X4
  refine go (g' := (mkF m 21 #[vR t, vI (Int32.ofNat lo), vI (Int32.ofNat hi), vI (Int32.ofNat (hi - lo)), vR x2] [(.int (Int32.ofNat cap)), vZ, (.ref x2), (.int (Int32.ofNat lo)), (.ref t)])) (own_alen W2 hx f5 (g := (mkF m 20 #[vR t, vI (Int32.ofNat lo), vI (Int32.ofNat hi), vI (Int32.ofNat (hi - lo)), vR x2] [(.ref t), vZ, (.ref x2), (.int (Int32.ofNat lo)), (.ref t)])) rfl rfl (hb hby d7_20)) ?_
  refine go (g' := (mkF m 23 #[vR t, vI (Int32.ofNat lo), vI (Int32.ofNat hi), vI (Int32.ofNat (hi - lo)), vR x2] [(.int ((Int32.ofNat cap) - (Int32.ofNat lo))), vZ, (.ref x2), (.int (Int32.ofNat lo)), (.ref t)])) (fun _ k => XS.iloadN W2.here hx rfl (hb hby d7_21) rfl (XS.isub W2.here hx rfl (hb hby d7_22) rfl k)) ?_
  rw [show ((Int32.ofNat cap) - (Int32.ofNat lo)) = (Int32.ofNat (cap - lo)) from own_subn (by omega)]
  refine go (g' := (mkF m 24 #[vR t, vI (Int32.ofNat lo), vI (Int32.ofNat hi), vI (Int32.ofNat (hi - lo)), vR x2] [(.int (Int32.ofNat (hi - lo))), (.int (Int32.ofNat (cap - lo))), vZ, (.ref x2), (.int (Int32.ofNat lo)), (.ref t)])) (fun _ k => XS.iloadN W2.here hx rfl (hb hby d7_23) rfl k) ?_
  obtain ⟨v6, so6, vm6, T6, h6, W6, C6, q6, hso6, st6⟩ := own_static W2 hx (y := (⟨"java/lang/Math", "min", "(II)I"⟩ : MethodName)) (w162 C) (w163 C) (w164 C) (w165 C) (by decide) (rm_min C h2 (cap - lo) (hi - lo) (by omega) (by omega)) (fun _ q => nomatch q) (Wd := 4) (nle rfl) (nle rfl) (nle rfl) (nle rfl) (g := (mkF m 24 #[vR t, vI (Int32.ofNat lo), vI (Int32.ofNat hi), vI (Int32.ofNat (hi - lo)), vR x2] [(.int (Int32.ofNat (hi - lo))), (.int (Int32.ofNat (cap - lo))), vZ, (.ref x2), (.int (Int32.ofNat lo)), (.ref t)])) rfl (by rw [hml]; rfl) (argsL := [(.int (Int32.ofNat (cap - lo))), (.int (Int32.ofNat (hi - lo)))]) (rest := [vZ, (.ref x2), (.int (Int32.ofNat lo)), (.ref t)]) (lenOf pd_4 rfl) rfl rfl (nle rfl) (hb hby d7_24)
  obtain ⟨rfl, rfl⟩ := q6
  have S6_x2 : Safe Z own_EL vm6 h2 x2 := C6.safe (olt (by omega)) (own_safeB W1 X4 (by omega))
  refine go (g' := (mkF m 27 #[vR t, vI (Int32.ofNat lo), vI (Int32.ofNat hi), vI (Int32.ofNat (hi - lo)), vR x2] [(.int (Int32.ofNat (hi - lo))), vZ, (.ref x2), (.int (Int32.ofNat lo)), (.ref t)])) (st6) ?_
  have P7 : Arv Z h2 x2 k2 .byte (Int32.ofNat (hi - lo)) ([] ++ List.replicate (hi - lo) vZ) vZ := V2.pad (pad_rep [] _ _)
  have e0 : (0 : Int32).toNatClampNeg = 0 := by decide
  have e1 : (Int32.ofNat lo).toNatClampNeg = lo := own_cl (by omega)
  have e2 : (Int32.ofNat (hi - lo)).toNatClampNeg = hi - lo := own_cl (by omega)
  have e3 : (Int32.ofNat cap).toNatClampNeg = cap := own_cl (by omega)
  obtain ⟨T7, h7, W7, K7, V7, st7⟩ := own_cp W6 hx (w166 C) (w169 C) (w167 C) (w168 C) f5 P7 rfl S6_x2 (sp := (Int32.ofNat lo)) (dp := (0 : Int32)) (nn := (Int32.ofNat (hi - lo))) (own_nn (by omega)) (by decide) (own_nn (by omega)) (by rw [e1, e2, e3]; omega) (by rw [e0, e2]; omega) (us := ((bs.drop lo).take (hi - lo)).map Value.int) (by rw [e1, e2]; exact (own_rg bs lo (hi - lo) _ (by omega)).symm) (by rw [e0, e2]; simp) (by omega) (g := (mkF m 27 #[vR t, vI (Int32.ofNat lo), vI (Int32.ofNat hi), vI (Int32.ofNat (hi - lo)), vR x2] [(.int (Int32.ofNat (hi - lo))), vZ, (.ref x2), (.int (Int32.ofNat lo)), (.ref t)])) rfl (by rw [hml]; rfl) rfl (hb hby d7_27) (nle rfl) (Wd := 0) (nle rfl) (nle rfl)
  have z8 : h2.size ≤ h7.size := K7.1
  have U7 : Arv Z h7 x2 k2 .byte (Int32.ofNat (hi - lo)) (((bs.drop lo).take (hi - lo)).map Value.int) vZ := by have q := V7; rw [e0, e2, own_cpz] at q; exact q
  refine go (g' := (mkF m 30 #[vR t, vI (Int32.ofNat lo), vI (Int32.ofNat hi), vI (Int32.ofNat (hi - lo)), vR x2] [])) (st7) ?_
  refine go (g' := (mkF m 32 #[vR t, vI (Int32.ofNat lo), vI (Int32.ofNat hi), vI (Int32.ofNat (hi - lo)), vR x2] [(.ref x2)])) (fun _ k => XS.aload W7.here hx rfl (hb hby d7_30) rfl rfl k) ?_
  have X9 : Ext h0 h7 := own_xk X4 K7 (allS (by omega) all0)
  exact fin (v := some (.ref x2)) (so := []) W7 (nle rfl) (nle rfl) (⟨_, _, rfl, X9, by omega, U7⟩) (fun _ q => nomatch q) (fun q => nomatch q) (own_retA W7 hx hret rfl rfl rfl (hb hby d7_32))
set_option maxRecDepth 65536 in
set_option maxHeartbeats 40000000 in
theorem rm_cor {l : Launch} {Z : State} {a0 : Array Value} (C : Cx Z a0) (h0 : Heap) (t : Addr) (kt : ClassId) (bs : List Int32) (cap lo hi : Nat) (l1 : lo < hi) (l2 : hi ≤ bs.length) (l3 : bs.length ≤ cap) (l4 : cap ≤ 12) (Vt : Arv Z h0 t kt .byte (Int32.ofNat cap) (bs.map Value.int) vZ) (l5 : ¬ (lo = 0 ∧ hi = cap)) :
    Ct l Z a0 own_EL (⟨"java/util/Arrays", "copyOfRange", "([BII)[B"⟩ : MethodName) jdk_65_method_132_code 3 (Option.some (Jvm.ClassFile.FieldType.array Jvm.ClassFile.FieldType.byte)) [] ({ frames := 2, cells := 1, slots := 12, locals := 46 } : Room) #[(.ref t), (.int (Int32.ofNat lo)), (.int (Int32.ofNat hi))] h0 [] (fun v h so => ∃ (x : Addr) (kx : ClassId), v = some (.ref x) ∧ Ext h0 h ∧ h0.size ≤ x ∧ Arv Z h x kx .byte (Int32.ofNat (hi - lo)) (((bs.drop lo).take (hi - lo)).map Value.int) vZ) := by
  refine own_enter (plainFor_of_name pn_2) C.ew (F0 := fun m => mkF m 0 #[vR t, vI (Int32.ofNat lo), vI (Int32.ofNat hi)] []) (fun m => by first | (simp [entryFrame, mkF, argsToLocals, Value.category]; done) | rfl) ?_
  intro p e s m below meth c s₁ G hx hby hml hret hnm W0 S0 go fin
  have z0 : Z.heap.size ≤ h0.size := W0.sz
  show G s₁ (mkF m 0 #[vR t, vI (Int32.ofNat lo), vI (Int32.ofNat hi)] [])
  refine go (g' := (mkF m 1 #[vR t, vI (Int32.ofNat lo), vI (Int32.ofNat hi)] [(.int (Int32.ofNat lo))])) (fun _ k => XS.iloadN W0.here hx rfl (hb hby d8_0) rfl k) ?_
  by_cases kb1 : (Int32.ofNat lo) = (0 : Int32)
  · refine go (g' := (mkF m 6 #[vR t, vI (Int32.ofNat lo), vI (Int32.ofNat hi)] [(.ref t), (.int (Int32.ofNat hi))])) (fun _ k => XS.ifNo W0.here hx rfl (hb hby d8_1) rfl ((if0 _ _).trans (teq kb1).2) (XS.iloadN W0.here hx rfl (hb hby d8_4) rfl (XS.aloadN W0.here hx rfl (hb hby d8_5) rfl rfl k))) ?_
    refine go (g' := (mkF m 7 #[vR t, vI (Int32.ofNat lo), vI (Int32.ofNat hi)] [(.int (Int32.ofNat cap)), (.int (Int32.ofNat hi))])) (own_alen W0 hx Vt (g := (mkF m 6 #[vR t, vI (Int32.ofNat lo), vI (Int32.ofNat hi)] [(.ref t), (.int (Int32.ofNat hi))])) rfl rfl (hb hby d8_6)) ?_
    refine go (g' := (mkF m 13 #[vR t, vI (Int32.ofNat lo), vI (Int32.ofNat hi)] [(.int (Int32.ofNat hi)), (.int (Int32.ofNat lo)), (.ref t)])) (fun _ k => XS.icmpNo W0.here hx rfl (hb hby d8_7) rfl (feq (fun q => l5 ⟨(own_eqn (n := 0) (by omega) (by omega)).mp kb1, (own_eqn (by omega) (by omega)).mp q⟩)).1 (XS.aloadN W0.here hx rfl (hb hby d8_10) rfl rfl (XS.iloadN W0.here hx rfl (hb hby d8_11) rfl (XS.iloadN W0.here hx rfl (hb hby d8_12) rfl k)))) ?_
    obtain ⟨v2, so2, vm2, T2, h2, W2, C2, q2, hso2, st2⟩ := own_static W0 hx (y := (⟨"java/util/Arrays", "copyOfRangeByte", "([BII)[B"⟩ : MethodName)) (w156 C) (w157 C) (w154 C) (w158 C) (by decide) (rm_corb C h0 t kt bs cap lo hi (by omega) (by omega) (by omega) (by omega) Vt) (fun _ q => nomatch q) (Wd := 0) (nle rfl) (nle rfl) (nle rfl) (nle rfl) (g := (mkF m 13 #[vR t, vI (Int32.ofNat lo), vI (Int32.ofNat hi)] [(.int (Int32.ofNat hi)), (.int (Int32.ofNat lo)), (.ref t)])) rfl (by rw [hml]; rfl) (argsL := [(.ref t), (.int (Int32.ofNat lo)), (.int (Int32.ofNat hi))]) (rest := []) (lenOf pd_5 rfl) rfl rfl (nle rfl) (hb hby d8_13)
    obtain ⟨x2, k2, rfl, E2, g2, V2⟩ := q2
    have z3 : h0.size ≤ h2.size := E2.1
    refine go (g' := (mkF m 16 #[vR t, vI (Int32.ofNat lo), vI (Int32.ofNat hi)] [(.ref x2)])) (st2) ?_
    have X4 : Ext h0 h2 := own_xt (own_xr h0) E2
    exact fin (v := some (.ref x2)) (so := []) W2 (nle rfl) (nle rfl) (⟨_, _, rfl, X4, by omega, V2⟩) (fun _ q => nomatch q) (fun q => nomatch q) (own_retA W2 hx hret rfl rfl rfl (hb hby d8_16))
  · refine go (g' := (mkF m 13 #[vR t, vI (Int32.ofNat lo), vI (Int32.ofNat hi)] [(.int (Int32.ofNat hi)), (.int (Int32.ofNat lo)), (.ref t)])) (fun _ k => XS.ifYes W0.here hx rfl (pc0 := 1) (pc' := 10) rfl (hb hby d8_1) rfl ((if0 _ _).trans (feq kb1).2) (by decide) (by decide) (XS.aloadN W0.here hx rfl (hb hby d8_10) rfl rfl (XS.iloadN W0.here hx rfl (hb hby d8_11) rfl (XS.iloadN W0.here hx rfl (hb hby d8_12) rfl k)))) ?_
    obtain ⟨v5, so5, vm5, T5, h5, W5, C5, q5, hso5, st5⟩ := own_static W0 hx (y := (⟨"java/util/Arrays", "copyOfRangeByte", "([BII)[B"⟩ : MethodName)) (w156 C) (w157 C) (w154 C) (w158 C) (by decide) (rm_corb C h0 t kt bs cap lo hi (by omega) (by omega) (by omega) (by omega) Vt) (fun _ q => nomatch q) (Wd := 0) (nle rfl) (nle rfl) (nle rfl) (nle rfl) (g := (mkF m 13 #[vR t, vI (Int32.ofNat lo), vI (Int32.ofNat hi)] [(.int (Int32.ofNat hi)), (.int (Int32.ofNat lo)), (.ref t)])) rfl (by rw [hml]; rfl) (argsL := [(.ref t), (.int (Int32.ofNat lo)), (.int (Int32.ofNat hi))]) (rest := []) (lenOf pd_5 rfl) rfl rfl (nle rfl) (hb hby d8_13)
    obtain ⟨x5, k5, rfl, E5, g5, V5⟩ := q5
    have z6 : h0.size ≤ h5.size := E5.1
    refine go (g' := (mkF m 16 #[vR t, vI (Int32.ofNat lo), vI (Int32.ofNat hi)] [(.ref x5)])) (st5) ?_
    have X7 : Ext h0 h5 := own_xt (own_xr h0) E5
    exact fin (v := some (.ref x5)) (so := []) W5 (nle rfl) (nle rfl) (⟨_, _, rfl, X7, by omega, V5⟩) (fun _ q => nomatch q) (fun q => nomatch q) (own_retA W5 hx hret rfl rfl rfl (hb hby d8_16))
set_option maxRecDepth 65536 in
set_option maxHeartbeats 40000000 in
theorem rm_sl1 {l : Launch} {Z : State} {a0 : Array Value} (C : Cx Z a0) (h0 : Heap) (a : Addr) (Fa : Fld Z h0 a "java/lang/String" "coder" "B" vZ) :
    Ct l Z a0 own_EL (⟨"java/lang/String", "isLatin1", "()Z"⟩ : MethodName) jdk_42_method_154_code 1 (Option.some Jvm.ClassFile.FieldType.boolean) [] ({ frames := 0, cells := 0, slots := 0, locals := 0 } : Room) #[(.ref a)] h0 [] (fun v h so => v = some (.int 1) ∧ h0 = h) := by
  refine own_enter (plainFor_of_name pn_1) C.ew (F0 := fun m => mkF m 0 #[vR a] []) (fun m => by first | (simp [entryFrame, mkF, argsToLocals, Value.category]; done) | rfl) ?_
  intro p e s m below meth c s₁ G hx hby hml hret hnm W0 S0 go fin
  have z0 : Z.heap.size ≤ h0.size := W0.sz
  show G s₁ (mkF m 0 #[vR a] [])
  obtain ⟨gCS, OCS, nCS⟩ := C.cs
  obtain ⟨T1, W1, st1⟩ := own_getS W0 hx (host := "") (Or.inl (w25 C)) Via.refl OCS (g := (mkF m 0 #[vR a] [])) rfl (hb hby d9_0)
  refine go (g' := (mkF m 3 #[vR a] [(.int gCS)])) (st1) ?_
  refine go (g' := (mkF m 7 #[vR a] [(.ref a)])) (fun _ k => XS.ifNo W1.here hx rfl (hb hby d9_3) rfl ((if0 _ _).trans (feq nCS).1) (XS.aloadN W1.here hx rfl (hb hby d9_6) rfl rfl k)) ?_
  obtain ⟨T2, W2, st2⟩ := own_get W1 hx (host := "") (Or.inl (w37 C)) Via.refl Fa (g := (mkF m 7 #[vR a] [(.ref a)])) rfl rfl (hb hby d9_7)
  refine go (g' := (mkF m 10 #[vR a] [vZ])) (st2) ?_
  refine go (g' := (mkF m 18 #[vR a] [(.int (1 : Int32))])) (fun _ k => XS.ifNo W2.here hx rfl (hb hby d9_10) rfl ((if0 _ _).trans (teq ((by decide) : (0 : Int32) = (0 : Int32))).2) (XS.iconst W2.here hx rfl (hb hby d9_13) (XS.goto W2.here hx rfl (pc0 := 14) (pc' := 18) rfl (hb hby d9_14) (by decide) (by decide) k))) ?_
  exact fin (v := some (.int (1 : Int32))) (so := []) W2 (nle rfl) (nle rfl) (⟨rfl, rfl⟩) (fun _ q => nomatch q) (fun q => nomatch q) (own_retI W2 hx hret (by decide) rfl (hb hby d9_18))
set_option maxRecDepth 65536 in
set_option maxHeartbeats 40000000 in
theorem rm_cft {l : Launch} {Z : State} {a0 : Array Value} (C : Cx Z a0) (h0 : Heap) (lo hi n : Nat) (h1 : lo ≤ hi) (h2 : hi ≤ n) (h3 : n ≤ 4000) (u : Value) (ru : u.isRef = true) :
    Ct l Z a0 own_EL (⟨"jdk/internal/util/Preconditions", "checkFromToIndex", "(IIILjava/util/function/BiFunction;)I"⟩ : MethodName) jdk_41_method_12_code 4 (Option.some Jvm.ClassFile.FieldType.int) [] ({ frames := 0, cells := 0, slots := 0, locals := 0 } : Room) #[(.int (Int32.ofNat lo)), (.int (Int32.ofNat hi)), (.int (Int32.ofNat n)), u] h0 [] (fun v h so => v = some (.int (Int32.ofNat lo)) ∧ h0 = h) := by
  refine own_enter (plainFor_of_name pn_3) C.ew (F0 := fun m => mkF m 0 #[vI (Int32.ofNat lo), vI (Int32.ofNat hi), vI (Int32.ofNat n), .val u] []) (fun m => by rcases ref_cases ru with rfl | ⟨_, rfl⟩ <;> rfl) ?_
  intro p e s m below meth c s₁ G hx hby hml hret hnm W0 S0 go fin
  have z0 : Z.heap.size ≤ h0.size := W0.sz
  show G s₁ (mkF m 0 #[vI (Int32.ofNat lo), vI (Int32.ofNat hi), vI (Int32.ofNat n), .val u] [])
  refine go (g' := (mkF m 22 #[vI (Int32.ofNat lo), vI (Int32.ofNat hi), vI (Int32.ofNat n), .val u] [])) (fun _ k => XS.iloadN W0.here hx rfl (hb hby d10_0) rfl (XS.ifNo W0.here hx rfl (hb hby d10_1) rfl ((if0 _ _).trans (flt (own_nn (by omega))).1) (XS.iloadN W0.here hx rfl (hb hby d10_4) rfl (XS.iloadN W0.here hx rfl (hb hby d10_5) rfl (XS.icmpNo W0.here hx rfl (hb hby d10_6) rfl (flt (fun q => absurd ((own_ltn (by omega) (by omega)).mp q) (by omega))).2.2.1 (XS.iloadN W0.here hx rfl (hb hby d10_9) rfl (XS.iloadN W0.here hx rfl (hb hby d10_10) rfl (XS.icmpYes W0.here hx rfl (pc0 := 11) (pc' := 22) rfl (hb hby d10_11) rfl (flt (fun q => absurd ((own_ltn (by omega) (by omega)).mp q) (by omega))).2.2.2 (by decide) (by decide) k)))))))) ?_
  refine go (g' := (mkF m 23 #[vI (Int32.ofNat lo), vI (Int32.ofNat hi), vI (Int32.ofNat n), .val u] [(.int (Int32.ofNat lo))])) (fun _ k => XS.iloadN W0.here hx rfl (hb hby d10_22) rfl k) ?_
  exact fin (v := some (.int (Int32.ofNat lo))) (so := []) W0 (nle rfl) (nle rfl) (⟨rfl, rfl⟩) (fun _ q => nomatch q) (fun q => nomatch q) (own_retI W0 hx hret (by decide) rfl (hb hby d10_23))
set_option maxRecDepth 65536 in
set_option maxHeartbeats 40000000 in
theorem rm_cbe {l : Launch} {Z : State} {a0 : Array Value} (C : Cx Z a0) (h0 : Heap) (lo hi n : Nat) (h1 : lo ≤ hi) (h2 : hi ≤ n) (h3 : n ≤ 4000) :
    Ct l Z a0 own_EL (⟨"java/lang/String", "checkBoundsBeginEnd", "(III)V"⟩ : MethodName) jdk_42_method_158_code 3 (Option.none : Option Jvm.ClassFile.FieldType) [] ({ frames := 1, cells := 0, slots := 0, locals := 15 } : Room) #[(.int (Int32.ofNat lo)), (.int (Int32.ofNat hi)), (.int (Int32.ofNat n))] h0 [] (fun v h so => v = none ∧ h0 = h) := by
  refine own_enter (plainFor_of_name pn_1) C.ew (F0 := fun m => mkF m 0 #[vI (Int32.ofNat lo), vI (Int32.ofNat hi), vI (Int32.ofNat n)] []) (fun m => by first | (simp [entryFrame, mkF, argsToLocals, Value.category]; done) | rfl) ?_
  intro p e s m below meth c s₁ G hx hby hml hret hnm W0 S0 go fin
  have z0 : Z.heap.size ≤ h0.size := W0.sz
  show G s₁ (mkF m 0 #[vI (Int32.ofNat lo), vI (Int32.ofNat hi), vI (Int32.ofNat n)] [])
  refine go (g' := (mkF m 3 #[vI (Int32.ofNat lo), vI (Int32.ofNat hi), vI (Int32.ofNat n)] [(.int (Int32.ofNat n)), (.int (Int32.ofNat hi)), (.int (Int32.ofNat lo))])) (fun _ k => XS.iloadN W0.here hx rfl (hb hby d11_0) rfl (XS.iloadN W0.here hx rfl (hb hby d11_1) rfl (XS.iloadN W0.here hx rfl (hb hby d11_2) rfl k))) ?_
  obtain ⟨gSF, OSF, nSF⟩ := C.sf
  obtain ⟨T1, W1, st1⟩ := own_getS W0 hx (host := "") (Or.inl (w95 C)) Via.refl OSF (g := (mkF m 3 #[vI (Int32.ofNat lo), vI (Int32.ofNat hi), vI (Int32.ofNat n)] [(.int (Int32.ofNat n)), (.int (Int32.ofNat hi)), (.int (Int32.ofNat lo))])) rfl (hb hby d11_3)
  refine go (g' := (mkF m 6 #[vI (Int32.ofNat lo), vI (Int32.ofNat hi), vI (Int32.ofNat n)] [gSF, (.int (Int32.ofNat n)), (.int (Int32.ofNat hi)), (.int (Int32.ofNat lo))])) (st1) ?_
  obtain ⟨v2, so2, vm2, T2, h2, W2, C2, q2, hso2, st2⟩ := own_static W1 hx (y := (⟨"jdk/internal/util/Preconditions", "checkFromToIndex", "(IIILjava/util/function/BiFunction;)I"⟩ : MethodName)) (w112 C) (w113 C) (w96 C) (w114 C) (by decide) (rm_cft C h0 lo hi n (by omega) (by omega) (by omega) gSF nSF) (fun _ q => nomatch q) (Wd := 0) (nle rfl) (nle rfl) (nle rfl) (nle rfl) (g := (mkF m 6 #[vI (Int32.ofNat lo), vI (Int32.ofNat hi), vI (Int32.ofNat n)] [gSF, (.int (Int32.ofNat n)), (.int (Int32.ofNat hi)), (.int (Int32.ofNat lo))])) rfl (by rw [hml]; rfl) (argsL := [(.int (Int32.ofNat lo)), (.int (Int32.ofNat hi)), (.int (Int32.ofNat n)), gSF]) (rest := []) (lenOf pd_6 rfl) rfl rfl (nle rfl) (hb hby d11_6)
  obtain ⟨rfl, rfl⟩ := q2
  refine go (g' := (mkF m 9 #[vI (Int32.ofNat lo), vI (Int32.ofNat hi), vI (Int32.ofNat n)] [(.int (Int32.ofNat lo))])) (st2) ?_
  refine go (g' := (mkF m 10 #[vI (Int32.ofNat lo), vI (Int32.ofNat hi), vI (Int32.ofNat n)] [])) (fun _ k => XS.pop W2.here hx rfl (hb hby d11_9) rfl rfl k) ?_
  exact fin (v := none) (so := []) W2 (nle rfl) (nle rfl) (⟨rfl, rfl⟩) (fun _ q => nomatch q) (fun _ => rfl) (own_retV W2 hx hret (hb hby d11_10))
set_option maxRecDepth 65536 in
set_option maxHeartbeats 40000000 in
theorem rm_nstr {l : Launch} {Z : State} {a0 : Array Value} (C : Cx Z a0) (h0 : Heap) (t : Addr) (kt : ClassId) (bs : List Int32) (lo n : Nat) (l1 : 0 < n) (l2 : lo + n ≤ bs.length) (l4 : bs.length ≤ 12) (l5 : ¬ (lo = 0 ∧ lo + n = bs.length)) (Vt : Arv Z h0 t kt .byte (Int32.ofNat bs.length) (bs.map Value.int) vZ) :
    Ct l Z a0 own_EL (⟨"java/lang/StringLatin1", "newString", "([BII)Ljava/lang/String;"⟩ : MethodName) jdk_43_method_47_code 3 (Option.some (Jvm.ClassFile.FieldType.object "java/lang/String")) [] ({ frames := 3, cells := 2, slots := 16, locals := 62 } : Room) #[(.ref t), (.int (Int32.ofNat lo)), (.int (Int32.ofNat n))] h0 [] (fun v h so => ∃ x : Addr, v = some (.ref x) ∧ Ext h0 h ∧ Exa Z h x "java/lang/String" ∧ Fld Z h x "java/lang/String" "coder" "B" vZ ∧ ∃ (u : Addr) (ku : ClassId), Fld Z h x "java/lang/String" "value" "[B" (.ref u) ∧ Arv Z h u ku .byte (Int32.ofNat n) (((bs.drop lo).take n).map Value.int) vZ) := by
  refine own_enter (plainFor_of_name pn_0) C.ew (F0 := fun m => mkF m 0 #[vR t, vI (Int32.ofNat lo), vI (Int32.ofNat n)] []) (fun m => by first | (simp [entryFrame, mkF, argsToLocals, Value.category]; done) | rfl) ?_
  intro p e s m below meth c s₁ G hx hby hml hret hnm W0 S0 go fin
  have z0 : Z.heap.size ≤ h0.size := W0.sz
  show G s₁ (mkF m 0 #[vR t, vI (Int32.ofNat lo), vI (Int32.ofNat n)] [])
  refine go (g' := (mkF m 7 #[vR t, vI (Int32.ofNat lo), vI (Int32.ofNat n)] [])) (fun _ k => XS.iloadN W0.here hx rfl (hb hby d12_0) rfl (XS.ifYes W0.here hx rfl (pc0 := 1) (pc' := 7) rfl (hb hby d12_1) rfl ((if0 _ _).trans (feq (fun q => absurd ((own_eqn (n := 0) (by omega) (by omega)).mp q) (by omega))).2) (by decide) (by decide) k)) ?_
  obtain ⟨x1, T1, h1, g1, W1, E1, A1, D1, U1, st1⟩ := own_new W0 hx (w151 C) (w13 C) (w14 C) (g := (mkF m 7 #[vR t, vI (Int32.ofNat lo), vI (Int32.ofNat n)] [])) rfl (hb hby d12_7) (nle rfl) (nle rfl)
  have z2 : h0.size ≤ h1.size := E1.1
  have l1 : ltN x1 h1.size := A1.lt
  have F1_coder : Fld Z h1 x1 "java/lang/String" "coder" "B" vZ := D1 (Or.inr (w38 C)) (ty := .byte) (by decide)
  have F1_value : Fld Z h1 x1 "java/lang/String" "value" "[B" .null := D1 (Or.inr (w40 C)) (ty := (.array .byte)) (by decide)
  refine go (g' := (mkF m 10 #[vR t, vI (Int32.ofNat lo), vI (Int32.ofNat n)] [(.ref x1)])) (st1) ?_
  refine go (g' := (mkF m 16 #[vR t, vI (Int32.ofNat lo), vI (Int32.ofNat n)] [(.int ((Int32.ofNat lo) + (Int32.ofNat n))), (.int (Int32.ofNat lo)), (.ref t), (.ref x1), (.ref x1)])) (fun _ k => XS.dup W1.here hx rfl (hb hby d12_10) rfl rfl (XS.aloadN W1.here hx rfl (hb hby d12_11) rfl rfl (XS.iloadN W1.here hx rfl (hb hby d12_12) rfl (XS.iloadN W1.here hx rfl (hb hby d12_13) rfl (XS.iloadN W1.here hx rfl (hb hby d12_14) rfl (XS.iadd W1.here hx rfl (hb hby d12_15) rfl k)))))) ?_
  rw [show ((Int32.ofNat lo) + (Int32.ofNat n)) = (Int32.ofNat (lo + n)) from own_addn lo n]
  have X4 : Ext h0 h1 := own_xt (own_xr h0) E1
  have f5 : Arv Z h1 t kt .byte (Int32.ofNat bs.length) (bs.map Value.int) vZ := Vt.ext X4
  obtain ⟨v3, so3, vm3, T3, h3, W3, C3, q3, hso3, st3⟩ := own_static W1 hx (y := (⟨"java/util/Arrays", "copyOfRange", "([BII)[B"⟩ : MethodName)) (w152 C) (w153 C) (w154 C) (w155 C) (by decide) (rm_cor C h1 t kt bs bs.length lo (lo + n) (by omega) (by omega) (by omega) (by omega) f5 l5) (fun _ q => nomatch q) (Wd := 2) (nle rfl) (nle rfl) (nle rfl) (nle rfl) (g := (mkF m 16 #[vR t, vI (Int32.ofNat lo), vI (Int32.ofNat n)] [(.int (Int32.ofNat (lo + n))), (.int (Int32.ofNat lo)), (.ref t), (.ref x1), (.ref x1)])) rfl (by rw [hml]; rfl) (argsL := [(.ref t), (.int (Int32.ofNat lo)), (.int (Int32.ofNat (lo + n)))]) (rest := [(.ref x1), (.ref x1)]) (lenOf pd_5 rfl) rfl rfl (nle rfl) (hb hby d12_16)
  obtain ⟨x3, k3, rfl, E3, g3, V3⟩ := q3
  have z6 : h1.size ≤ h3.size := E3.1
  have S3_x1 : Safe Z own_EL vm3 h3 x1 := C3.safe (olt (by omega)) (own_safeB W0 X4 (by omega))
  refine go (g' := (mkF m 19 #[vR t, vI (Int32.ofNat lo), vI (Int32.ofNat n)] [(.ref x3), (.ref x1), (.ref x1)])) (st3) ?_
  refine go (g' := (mkF m 20 #[vR t, vI (Int32.ofNat lo), vI (Int32.ofNat n)] [vZ, (.ref x3), (.ref x1), (.ref x1)])) (fun _ k => XS.iconst W3.here hx rfl (hb hby d12_19) k) ?_
  have X8 : Ext h1 h3 := own_xt (own_xr h1) E3
  have f9 : Exa Z h3 x1 "java/lang/String" := A1.ext X8
  have f10 : Fld Z h3 x1 "java/lang/String" "value" "[B" .null := F1_value.ext X8
  have f11 : Fld Z h3 x1 "java/lang/String" "coder" "B" vZ := F1_coder.ext X8
  obtain ⟨v7, so7, vm7, T7, h7, W7, C7, q7, hso7, st7⟩ := own_special W3 hx (y := (⟨"java/lang/String", "<init>", "([BB)V"⟩ : MethodName)) rfl (w170 C) (w53 C) (w14 C) (w54 C) (by decide) (rm_sinit C h3 x1 x3 f9 f10 f11 (by omega)) (allS S3_x1 all0) (Wd := 1) (nle rfl) (nle rfl) (nle rfl) (nle rfl) (g := (mkF m 20 #[vR t, vI (Int32.ofNat lo), vI (Int32.ofNat n)] [vZ, (.ref x3), (.ref x1), (.ref x1)])) rfl (by rw [hml]; rfl) (a := x1) (argsL := [(.ref x3), vZ]) (rest := [(.ref x1)]) (lenOf pd_2 rfl) rfl rfl (nle rfl) (hb hby d12_20)
  obtain ⟨rfl, K7, E7, F7, G7⟩ := q7
  have z12 : h3.size ≤ h7.size := K7.1
  have S7_x1 : Safe Z own_EL vm7 h7 x1 := C7.safe (olt (by omega)) S3_x1
  refine go (g' := (mkF m 23 #[vR t, vI (Int32.ofNat lo), vI (Int32.ofNat n)] [(.ref x1)])) (st7) ?_
  have l15 : ltN x3 h3.size := V3.lt
  have f14 : Arv Z h7 x3 k3 .byte (Int32.ofNat ((lo + n) - lo)) (((bs.drop lo).take ((lo + n) - lo)).map Value.int) vZ := V3.keep K7 (ninS (one (by omega)) nin0)
  have q13 := f14
  rw [Nat.add_sub_cancel_left] at q13
  have X16 : Ext h0 h3 := own_xt X4 E3
  have X17 : Ext h0 h7 := own_xk X16 K7 (allS (by omega) all0)
  exact fin (v := some (.ref x1)) (so := []) W7 (nle rfl) (nle rfl) (⟨_, rfl, X17, E7, G7, _, _, F7, q13⟩) (fun _ q => nomatch q) (fun q => nomatch q) (own_retA W7 hx hret rfl rfl rfl (hb hby d12_23))
set_option maxRecDepth 65536 in
set_option maxHeartbeats 40000000 in
theorem rm_substr {l : Launch} {Z : State} {a0 : Array Value} (C : Cx Z a0) (h0 : Heap) (a : Addr) (cs : List Int32) (Sa : Str Z h0 a cs) (lo hi : Nat) (l1 : lo < hi) (l2 : hi ≤ cs.length) (l3 : cs.length ≤ 12) :
    Ct l Z a0 own_EL (⟨"java/lang/String", "substring", "(II)Ljava/lang/String;"⟩ : MethodName) jdk_42_method_92_code 5 (Option.some (Jvm.ClassFile.FieldType.object "java/lang/String")) [] ({ frames := 4, cells := 2, slots := 16, locals := 76 } : Room) #[(.ref a), (.int (Int32.ofNat lo)), (.int (Int32.ofNat hi))] h0 [] (fun v h so => ∃ x : Addr, v = some (.ref x) ∧ Ext h0 h ∧ Str Z h x ((cs.drop lo).take (hi - lo))) := by
  refine own_enter (plainFor_of_name pn_1) C.ew (F0 := fun m => mkF m 0 #[vR a, vI (Int32.ofNat lo), vI (Int32.ofNat hi), .unset, .unset] []) (fun m => by first | (simp [entryFrame, mkF, argsToLocals, Value.category]; done) | rfl) ?_
  intro p e s m below meth c s₁ G hx hby hml hret hnm W0 S0 go fin
  have z0 : Z.heap.size ≤ h0.size := W0.sz
  show G s₁ (mkF m 0 #[vR a, vI (Int32.ofNat lo), vI (Int32.ofNat hi), .unset, .unset] [])
  have hl_cs : cs.length ≤ 4000 := by omega
  refine go (g' := (mkF m 1 #[vR a, vI (Int32.ofNat lo), vI (Int32.ofNat hi), .unset, .unset] [(.ref a)])) (fun _ k => XS.aloadN W0.here hx rfl (hb hby d13_0) rfl rfl k) ?_
  obtain ⟨T1, W1, st1⟩ := own_slen W0 hx (own_wln C) (w108 C) (w70 C) (w72 C) (w71 C) (w13 C) Sa C.cs hl_cs (Wd := 0) (nle rfl) (nle rfl) (nle rfl) (nle rfl) (g := (mkF m 1 #[vR a, vI (Int32.ofNat lo), vI (Int32.ofNat hi), .unset, .unset] [(.ref a)])) rfl (by rw [hml]; rfl) rfl (nle rfl) (hb hby d13_1)
  refine go (g' := (mkF m 4 #[vR a, vI (Int32.ofNat lo), vI (Int32.ofNat hi), .unset, .unset] [(.int (Int32.ofNat cs.length))])) (st1) ?_
  refine go (g' := (mkF m 8 #[vR a, vI (Int32.ofNat lo), vI (Int32.ofNat hi), vI (Int32.ofNat cs.length), .unset] [(.int (Int32.ofNat cs.length)), (.int (Int32.ofNat hi)), (.int (Int32.ofNat lo))])) (fun _ k => XS.istoreN W1.here hx rfl (hb hby d13_4) rfl (l' := #[vR a, vI (Int32.ofNat lo), vI (Int32.ofNat hi), vI (Int32.ofNat cs.length), .unset]) rfl (XS.iloadN W1.here hx rfl (hb hby d13_5) rfl (XS.iloadN W1.here hx rfl (hb hby d13_6) rfl (XS.iloadN W1.here hx rfl (hb hby d13_7) rfl k)))) ?_
  obtain ⟨v2, so2, vm2, T2, h2, W2, C2, q2, hso2, st2⟩ := own_static W1 hx (y := (⟨"java/lang/String", "checkBoundsBeginEnd", "(III)V"⟩ : MethodName)) (w109 C) (w110 C) (w14 C) (w111 C) (by decide) (rm_cbe C h0 lo hi cs.length (by omega) (by omega) (by omega)) (fun _ q => nomatch q) (Wd := 0) (nle rfl) (nle rfl) (nle rfl) (nle rfl) (g := (mkF m 8 #[vR a, vI (Int32.ofNat lo), vI (Int32.ofNat hi), vI (Int32.ofNat cs.length), .unset] [(.int (Int32.ofNat cs.length)), (.int (Int32.ofNat hi)), (.int (Int32.ofNat lo))])) rfl (by rw [hml]; rfl) (argsL := [(.int (Int32.ofNat lo)), (.int (Int32.ofNat hi)), (.int (Int32.ofNat cs.length))]) (rest := []) (lenOf pd_7 rfl) rfl rfl (nle rfl) (hb hby d13_8)
  obtain ⟨rfl, rfl⟩ := q2
  refine go (g' := (mkF m 11 #[vR a, vI (Int32.ofNat lo), vI (Int32.ofNat hi), vI (Int32.ofNat cs.length), .unset] [])) (st2) ?_
  refine go (g' := (mkF m 12 #[vR a, vI (Int32.ofNat lo), vI (Int32.ofNat hi), vI (Int32.ofNat cs.length), .unset] [(.int (Int32.ofNat lo))])) (fun _ k => XS.iloadN W2.here hx rfl (hb hby d13_11) rfl k) ?_
  by_cases kb3 : (Int32.ofNat lo) = (0 : Int32)
  · refine go (g' := (mkF m 17 #[vR a, vI (Int32.ofNat lo), vI (Int32.ofNat hi), vI (Int32.ofNat cs.length), .unset] [(.int (Int32.ofNat cs.length)), (.int (Int32.ofNat hi))])) (fun _ k => XS.ifNo W2.here hx rfl (hb hby d13_12) rfl ((if0 _ _).trans (teq kb3).2) (XS.iloadN W2.here hx rfl (hb hby d13_15) rfl (XS.iloadN W2.here hx rfl (hb hby d13_16) rfl k))) ?_
    by_cases kb4 : (Int32.ofNat hi) = (Int32.ofNat cs.length)
    · refine go (g' := (mkF m 21 #[vR a, vI (Int32.ofNat lo), vI (Int32.ofNat hi), vI (Int32.ofNat cs.length), .unset] [(.ref a)])) (fun _ k => XS.icmpNo W2.here hx rfl (hb hby d13_17) rfl (teq kb4).2 (XS.aloadN W2.here hx rfl (hb hby d13_20) rfl rfl k)) ?_
      exact fin (v := some (.ref a)) (so := []) W2 (nle rfl) (nle rfl) (⟨_, rfl, own_xr _, own_whole ((own_eqn (n := 0) (by omega) (by omega)).mp kb3) ((own_eqn (by omega) (by omega)).mp kb4) Sa⟩) (fun _ q => nomatch q) (fun q => nomatch q) (own_retA W2 hx hret rfl rfl rfl (hb hby d13_21))
    · refine go (g' := (mkF m 22 #[vR a, vI (Int32.ofNat lo), vI (Int32.ofNat hi), vI (Int32.ofNat cs.length), .unset] [])) (fun _ k => XS.icmpYes W2.here hx rfl (pc0 := 17) (pc' := 22) rfl (hb hby d13_17) rfl (feq kb4).2 (by decide) (by decide) k) ?_
      have nwh : ¬ (lo = 0 ∧ hi = cs.length) := fun q => kb4 (by rw [q.2])
      refine go (g' := (mkF m 25 #[vR a, vI (Int32.ofNat lo), vI (Int32.ofNat hi), vI (Int32.ofNat cs.length), .unset] [(.int ((Int32.ofNat hi) - (Int32.ofNat lo)))])) (fun _ k => XS.iloadN W2.here hx rfl (hb hby d13_22) rfl (XS.iloadN W2.here hx rfl (hb hby d13_23) rfl (XS.isub W2.here hx rfl (hb hby d13_24) rfl k))) ?_
      rw [show ((Int32.ofNat hi) - (Int32.ofNat lo)) = (Int32.ofNat (hi - lo)) from own_subn (by omega)]
      refine go (g' := (mkF m 27 #[vR a, vI (Int32.ofNat lo), vI (Int32.ofNat hi), vI (Int32.ofNat cs.length), vI (Int32.ofNat (hi - lo))] [])) (fun _ k => XS.istore W2.here hx rfl (hb hby d13_25) rfl (l' := #[vR a, vI (Int32.ofNat lo), vI (Int32.ofNat hi), vI (Int32.ofNat cs.length), vI (Int32.ofNat (hi - lo))]) rfl k) ?_
      obtain ⟨sE5, sC5, sP5, t5, k5, sV5, sK5⟩ := id Sa
      have sA5 : Arv Z h0 t5 k5 .byte (Int32.ofNat cs.length) ((cs.map fun c => c.toInt8.toInt32).map Value.int) vZ := sK5
      refine go (g' := (mkF m 28 #[vR a, vI (Int32.ofNat lo), vI (Int32.ofNat hi), vI (Int32.ofNat cs.length), vI (Int32.ofNat (hi - lo))] [(.ref a)])) (fun _ k => XS.aloadN W2.here hx rfl (hb hby d13_27) rfl rfl k) ?_
      obtain ⟨v6, so6, vm6, T6, h6, W6, C6, q6, hso6, st6⟩ := own_virtual W2 hx (y := (⟨"java/lang/String", "isLatin1", "()Z"⟩ : MethodName)) (z := (⟨"java/lang/String", "isLatin1", "()Z"⟩ : MethodName)) (w84 C) (w85 C) (w87 C) (w86 C) (w14 C) (w88 C) (by decide) (own_nf W2 (w87 C)) Sa.1 (rm_sl1 C h0 a sC5) (fun _ q => nomatch q) (Wd := 0) (nle rfl) (nle rfl) (nle rfl) (nle rfl) (g := (mkF m 28 #[vR a, vI (Int32.ofNat lo), vI (Int32.ofNat hi), vI (Int32.ofNat cs.length), vI (Int32.ofNat (hi - lo))] [(.ref a)])) rfl (by rw [hml]; rfl) (argsL := []) (rest := []) (lenOf pd_8 rfl) rfl rfl (nle rfl) (hb hby d13_28)
      obtain ⟨rfl, rfl⟩ := q6
      refine go (g' := (mkF m 31 #[vR a, vI (Int32.ofNat lo), vI (Int32.ofNat hi), vI (Int32.ofNat cs.length), vI (Int32.ofNat (hi - lo))] [(.int (1 : Int32))])) (st6) ?_
      refine go (g' := (mkF m 35 #[vR a, vI (Int32.ofNat lo), vI (Int32.ofNat hi), vI (Int32.ofNat cs.length), vI (Int32.ofNat (hi - lo))] [(.ref a)])) (fun _ k => XS.ifNo W6.here hx rfl (hb hby d13_31) rfl ((if0 _ _).trans (feq ((by decide) : ¬ ((1 : Int32) = (0 : Int32)))).1) (XS.aloadN W6.here hx rfl (hb hby d13_34) rfl rfl k)) ?_
      obtain ⟨T7, W7, st7⟩ := own_get W6 hx (host := "") (Or.inl (w39 C)) Via.refl sV5 (g := (mkF m 35 #[vR a, vI (Int32.ofNat lo), vI (Int32.ofNat hi), vI (Int32.ofNat cs.length), vI (Int32.ofNat (hi - lo))] [(.ref a)])) rfl rfl (hb hby d13_35)
      refine go (g' := (mkF m 38 #[vR a, vI (Int32.ofNat lo), vI (Int32.ofNat hi), vI (Int32.ofNat cs.length), vI (Int32.ofNat (hi - lo))] [(.ref t5)])) (st7) ?_
      refine go (g' := (mkF m 41 #[vR a, vI (Int32.ofNat lo), vI (Int32.ofNat hi), vI (Int32.ofNat cs.length), vI (Int32.ofNat (hi - lo))] [(.int (Int32.ofNat (hi - lo))), (.int (Int32.ofNat lo)), (.ref t5)])) (fun _ k => XS.iloadN W7.here hx rfl (hb hby d13_38) rfl (XS.iload W7.here hx rfl (hb hby d13_39) rfl k)) ?_
      obtain ⟨v8, so8, vm8, T8, h8, W8, C8, q8, hso8, st8⟩ := own_static W7 hx (y := (⟨"java/lang/StringLatin1", "newString", "([BII)Ljava/lang/String;"⟩ : MethodName)) (w148 C) (w149 C) (w46 C) (w150 C) (by decide) (rm_nstr C h0 t5 k5 (cs.map fun c => c.toInt8.toInt32) lo (hi - lo) (by omega) (by simp; omega) (by simp; omega) (by simp; omega) (by simpa using sA5)) (fun _ q => nomatch q) (Wd := 0) (nle rfl) (nle rfl) (nle rfl) (nle rfl) (g := (mkF m 41 #[vR a, vI (Int32.ofNat lo), vI (Int32.ofNat hi), vI (Int32.ofNat cs.length), vI (Int32.ofNat (hi - lo))] [(.int (Int32.ofNat (hi - lo))), (.int (Int32.ofNat lo)), (.ref t5)])) rfl (by rw [hml]; rfl) (argsL := [(.ref t5), (.int (Int32.ofNat lo)), (.int (Int32.ofNat (hi - lo)))]) (rest := []) (lenOf pd_9 rfl) rfl rfl (nle rfl) (hb hby d13_41)
      obtain ⟨x8, rfl, E8, A8, Fc8, u8, ku8, Fv8, V8⟩ := q8
      have z9 : h0.size ≤ h8.size := E8.1
      refine go (g' := (mkF m 44 #[vR a, vI (Int32.ofNat lo), vI (Int32.ofNat hi), vI (Int32.ofNat cs.length), vI (Int32.ofNat (hi - lo))] [(.ref x8)])) (st8) ?_
      refine go (g' := (mkF m 57 #[vR a, vI (Int32.ofNat lo), vI (Int32.ofNat hi), vI (Int32.ofNat cs.length), vI (Int32.ofNat (hi - lo))] [(.ref x8)])) (fun _ k => XS.goto W8.here hx rfl (pc0 := 44) (pc' := 57) rfl (hb hby d13_44) (by decide) (by decide) k) ?_
      have X10 : Ext h0 h8 := own_xt (own_xr h0) E8
      exact fin (v := some (.ref x8)) (so := []) W8 (nle rfl) (nle rfl) (⟨_, rfl, X10, A8, Fc8, (fun c hc => sP5 c (List.mem_of_mem_drop (List.mem_of_mem_take hc))), _, _, Fv8, own_subS V8 (by omega)⟩) (fun _ q => nomatch q) (fun q => nomatch q) (own_retA W8 hx hret rfl rfl rfl (hb hby d13_57))
  · refine go (g' := (mkF m 22 #[vR a, vI (Int32.ofNat lo), vI (Int32.ofNat hi), vI (Int32.ofNat cs.length), .unset] [])) (fun _ k => XS.ifYes W2.here hx rfl (pc0 := 12) (pc' := 22) rfl (hb hby d13_12) rfl ((if0 _ _).trans (feq kb3).2) (by decide) (by decide) k) ?_
    have nwh : ¬ (lo = 0 ∧ hi = cs.length) := fun q => kb3 (by rw [q.1]; rfl)
    refine go (g' := (mkF m 25 #[vR a, vI (Int32.ofNat lo), vI (Int32.ofNat hi), vI (Int32.ofNat cs.length), .unset] [(.int ((Int32.ofNat hi) - (Int32.ofNat lo)))])) (fun _ k => XS.iloadN W2.here hx rfl (hb hby d13_22) rfl (XS.iloadN W2.here hx rfl (hb hby d13_23) rfl (XS.isub W2.here hx rfl (hb hby d13_24) rfl k))) ?_
    rw [show ((Int32.ofNat hi) - (Int32.ofNat lo)) = (Int32.ofNat (hi - lo)) from own_subn (by omega)]
    refine go (g' := (mkF m 27 #[vR a, vI (Int32.ofNat lo), vI (Int32.ofNat hi), vI (Int32.ofNat cs.length), vI (Int32.ofNat (hi - lo))] [])) (fun _ k => XS.istore W2.here hx rfl (hb hby d13_25) rfl (l' := #[vR a, vI (Int32.ofNat lo), vI (Int32.ofNat hi), vI (Int32.ofNat cs.length), vI (Int32.ofNat (hi - lo))]) rfl k) ?_
    obtain ⟨sE11, sC11, sP11, t11, k11, sV11, sK11⟩ := id Sa
    have sA11 : Arv Z h0 t11 k11 .byte (Int32.ofNat cs.length) ((cs.map fun c => c.toInt8.toInt32).map Value.int) vZ := sK11
    refine go (g' := (mkF m 28 #[vR a, vI (Int32.ofNat lo), vI (Int32.ofNat hi), vI (Int32.ofNat cs.length), vI (Int32.ofNat (hi - lo))] [(.ref a)])) (fun _ k => XS.aloadN W2.here hx rfl (hb hby d13_27) rfl rfl k) ?_
    obtain ⟨v12, so12, vm12, T12, h12, W12, C12, q12, hso12, st12⟩ := own_virtual W2 hx (y := (⟨"java/lang/String", "isLatin1", "()Z"⟩ : MethodName)) (z := (⟨"java/lang/String", "isLatin1", "()Z"⟩ : MethodName)) (w84 C) (w85 C) (w87 C) (w86 C) (w14 C) (w88 C) (by decide) (own_nf W2 (w87 C)) Sa.1 (rm_sl1 C h0 a sC11) (fun _ q => nomatch q) (Wd := 0) (nle rfl) (nle rfl) (nle rfl) (nle rfl) (g := (mkF m 28 #[vR a, vI (Int32.ofNat lo), vI (Int32.ofNat hi), vI (Int32.ofNat cs.length), vI (Int32.ofNat (hi - lo))] [(.ref a)])) rfl (by rw [hml]; rfl) (argsL := []) (rest := []) (lenOf pd_8 rfl) rfl rfl (nle rfl) (hb hby d13_28)
    obtain ⟨rfl, rfl⟩ := q12
    refine go (g' := (mkF m 31 #[vR a, vI (Int32.ofNat lo), vI (Int32.ofNat hi), vI (Int32.ofNat cs.length), vI (Int32.ofNat (hi - lo))] [(.int (1 : Int32))])) (st12) ?_
    refine go (g' := (mkF m 35 #[vR a, vI (Int32.ofNat lo), vI (Int32.ofNat hi), vI (Int32.ofNat cs.length), vI (Int32.ofNat (hi - lo))] [(.ref a)])) (fun _ k => XS.ifNo W12.here hx rfl (hb hby d13_31) rfl ((if0 _ _).trans (feq ((by decide) : ¬ ((1 : Int32) = (0 : Int32)))).1) (XS.aloadN W12.here hx rfl (hb hby d13_34) rfl rfl k)) ?_
    obtain ⟨T13, W13, st13⟩ := own_get W12 hx (host := "") (Or.inl (w39 C)) Via.refl sV11 (g := (mkF m 35 #[vR a, vI (Int32.ofNat lo), vI (Int32.ofNat hi), vI (Int32.ofNat cs.length), vI (Int32.ofNat (hi - lo))] [(.ref a)])) rfl rfl (hb hby d13_35)
    refine go (g' := (mkF m 38 #[vR a, vI (Int32.ofNat lo), vI (Int32.ofNat hi), vI (Int32.ofNat cs.length), vI (Int32.ofNat (hi - lo))] [(.ref t11)])) (st13) ?_
    refine go (g' := (mkF m 41 #[vR a, vI (Int32.ofNat lo), vI (Int32.ofNat hi), vI (Int32.ofNat cs.length), vI (Int32.ofNat (hi - lo))] [(.int (Int32.ofNat (hi - lo))), (.int (Int32.ofNat lo)), (.ref t11)])) (fun _ k => XS.iloadN W13.here hx rfl (hb hby d13_38) rfl (XS.iload W13.here hx rfl (hb hby d13_39) rfl k)) ?_
    obtain ⟨v14, so14, vm14, T14, h14, W14, C14, q14, hso14, st14⟩ := own_static W13 hx (y := (⟨"java/lang/StringLatin1", "newString", "([BII)Ljava/lang/String;"⟩ : MethodName)) (w148 C) (w149 C) (w46 C) (w150 C) (by decide) (rm_nstr C h0 t11 k11 (cs.map fun c => c.toInt8.toInt32) lo (hi - lo) (by omega) (by simp; omega) (by simp; omega) (by simp; omega) (by simpa using sA11)) (fun _ q => nomatch q) (Wd := 0) (nle rfl) (nle rfl) (nle rfl) (nle rfl) (g := (mkF m 41 #[vR a, vI (Int32.ofNat lo), vI (Int32.ofNat hi), vI (Int32.ofNat cs.length), vI (Int32.ofNat (hi - lo))] [(.int (Int32.ofNat (hi - lo))), (.int (Int32.ofNat lo)), (.ref t11)])) rfl (by rw [hml]; rfl) (argsL := [(.ref t11), (.int (Int32.ofNat lo)), (.int (Int32.ofNat (hi - lo)))]) (rest := []) (lenOf pd_9 rfl) rfl rfl (nle rfl) (hb hby d13_41)
    obtain ⟨x14, rfl, E14, A14, Fc14, u14, ku14, Fv14, V14⟩ := q14
    have z15 : h0.size ≤ h14.size := E14.1
    refine go (g' := (mkF m 44 #[vR a, vI (Int32.ofNat lo), vI (Int32.ofNat hi), vI (Int32.ofNat cs.length), vI (Int32.ofNat (hi - lo))] [(.ref x14)])) (st14) ?_
    refine go (g' := (mkF m 57 #[vR a, vI (Int32.ofNat lo), vI (Int32.ofNat hi), vI (Int32.ofNat cs.length), vI (Int32.ofNat (hi - lo))] [(.ref x14)])) (fun _ k => XS.goto W14.here hx rfl (pc0 := 44) (pc' := 57) rfl (hb hby d13_44) (by decide) (by decide) k) ?_
    have X16 : Ext h0 h14 := own_xt (own_xr h0) E14
    exact fin (v := some (.ref x14)) (so := []) W14 (nle rfl) (nle rfl) (⟨_, rfl, X16, A14, Fc14, (fun c hc => sP11 c (List.mem_of_mem_drop (List.mem_of_mem_take hc))), _, _, Fv14, own_subS V14 (by omega)⟩) (fun _ q => nomatch q) (fun q => nomatch q) (own_retA W14 hx hret rfl rfl rfl (hb hby d13_57))
set_option maxRecDepth 65536 in
set_option maxHeartbeats 40000000 in
theorem rm_asbinit {l : Launch} {Z : State} {a0 : Array Value} (C : Cx Z a0) (h0 : Heap) (x : Addr) (cap : Nat) (l0 : cap ≤ 12) (Ex : Exa Z h0 x "java/lang/StringBuilder") (Fv : Fld Z h0 x "java/lang/AbstractStringBuilder" "value" "[B" .null) (Fc : Fld Z h0 x "java/lang/AbstractStringBuilder" "coder" "B" vZ) (Fn : Fld Z h0 x "java/lang/AbstractStringBuilder" "count" "I" vZ) (nx : Z.heap.size ≤ x) :
    Ct l Z a0 own_EL (⟨"java/lang/AbstractStringBuilder", "<init>", "(I)V"⟩ : MethodName) jdk_68_method_2_code 2 (Option.none : Option Jvm.ClassFile.FieldType) [] ({ frames := 1, cells := 1, slots := 12, locals := 12 } : Room) #[(.ref x), (.int (Int32.ofNat cap))] h0 [] (fun v h so => v = none ∧ Keep h0 h [x] ∧ ∃ (t : Addr) (kt : ClassId), so = [t] ∧ h0.size ≤ t ∧ Bld Z h x t kt cap []) := by
  refine own_enter (plainFor_of_name pn_4) C.ew (F0 := fun m => mkF m 0 #[vR x, vI (Int32.ofNat cap)] []) (fun m => by first | (simp [entryFrame, mkF, argsToLocals, Value.category]; done) | rfl) ?_
  intro p e s m below meth c s₁ G hx hby hml hret hnm W0 S0 go fin
  have z0 : Z.heap.size ≤ h0.size := W0.sz
  show G s₁ (mkF m 0 #[vR x, vI (Int32.ofNat cap)] [])
  have lx : ltN x h0.size := Ex.lt
  refine go (g' := (mkF m 1 #[vR x, vI (Int32.ofNat cap)] [(.ref x)])) (fun _ k => XS.aloadN W0.here hx rfl (hb hby d14_0) rfl rfl k) ?_
  obtain ⟨T1, W1, st1⟩ := own_initO W0 hx (w186 C) (w23 C) (w24 C) (g := (mkF m 1 #[vR x, vI (Int32.ofNat cap)] [(.ref x)])) rfl (by rw [hml]; rfl) rfl (hb hby d14_1) (nle rfl) (Wd := 0) (nle rfl) (nle rfl)
  refine go (g' := (mkF m 4 #[vR x, vI (Int32.ofNat cap)] [])) (st1) ?_
  obtain ⟨gCS, OCS, nCS⟩ := C.cs
  obtain ⟨T2, W2, st2⟩ := own_getS W1 hx (host := "") (Or.inl (w187 C)) Via.refl OCS (g := (mkF m 4 #[vR x, vI (Int32.ofNat cap)] [])) rfl (hb hby d14_4)
  refine go (g' := (mkF m 7 #[vR x, vI (Int32.ofNat cap)] [(.int gCS)])) (st2) ?_
  refine go (g' := (mkF m 12 #[vR x, vI (Int32.ofNat cap)] [(.int (Int32.ofNat cap)), (.ref x)])) (fun _ k => XS.ifNo W2.here hx rfl (hb hby d14_7) rfl ((if0 _ _).trans (feq nCS).1) (XS.aloadN W2.here hx rfl (hb hby d14_10) rfl rfl (XS.iloadN W2.here hx rfl (hb hby d14_11) rfl k))) ?_
  obtain ⟨x3, T3, h3, k3, g3, W3, E3, A3, st3⟩ := own_newP W2 hx (aty := .byte) (w30 C) (g := (mkF m 12 #[vR x, vI (Int32.ofNat cap)] [(.int (Int32.ofNat cap)), (.ref x)])) rfl (hb hby d14_12) rfl (own_nn (by omega)) (cap := 12) (by rw [own_cl (by omega)]; omega) (nle rfl) (nle rfl) (nle rfl)
  have z4 : h0.size ≤ h3.size := E3.1
  have l3 : ltN x3 h3.size := A3.lt
  have V3 : Arv Z h3 x3 k3 .byte (Int32.ofNat cap) [] vZ := A3
  refine go (g' := (mkF m 14 #[vR x, vI (Int32.ofNat cap)] [(.ref x3), (.ref x)])) (st3) ?_
  have X5 : Ext h0 h3 := own_xt (own_xr h0) E3
  have f6 : Fld Z h3 x "java/lang/AbstractStringBuilder" "value" "[B" .null := Fv.ext X5
  have f7 : Exa Z h3 x "java/lang/StringBuilder" := Ex.ext X5
  obtain ⟨T8, h8, W8, R8, F8, st8⟩ := own_put W3 hx (host := "") (Or.inl (w188 C)) Via.refl f6 f7 (Or.inl (w189 C)) (w175 C) (ty := (.array .byte)) (by decide) rfl rfl (own_safeE W3 f7 (by decide) (by decide)) (by omega) (g := (mkF m 14 #[vR x, vI (Int32.ofNat cap)] [(.ref x3), (.ref x)])) rfl rfl (hb hby d14_14)
  have f9 : Fld Z h3 x "java/lang/AbstractStringBuilder" "coder" "B" vZ := Fc.ext X5
  have f10 : Fld Z h3 x "java/lang/AbstractStringBuilder" "count" "I" vZ := Fn.ext X5
  have z11 : h8.size = h3.size := R8.size
  have f12 : Exa Z h8 x "java/lang/StringBuilder" := f7.wr R8
  have f13 : Fld Z h8 x "java/lang/AbstractStringBuilder" "coder" "B" vZ := f9.other R8 (Or.inr (slot_ne (Or.inl (w191 C)) (Or.inl (w189 C)) (by decide) (t := .byte) (t' := (.array .byte)) (by decide) (by decide)))
  have f14 : Fld Z h8 x "java/lang/AbstractStringBuilder" "count" "I" vZ := f10.other R8 (Or.inr (slot_ne (Or.inl (w203 C)) (Or.inl (w189 C)) (by decide) (t := .int) (t' := (.array .byte)) (by decide) (by decide)))
  have S8_x3 : Safe Z own_EL s.vm h8 x3 := Safe.wr R8 (own_safeE W3 f7 (by decide) (by decide)) W3.ch (own_safeB W2 X5 (by omega))
  refine go (g' := (mkF m 17 #[vR x, vI (Int32.ofNat cap)] [])) (st8) ?_
  refine go (g' := (mkF m 19 #[vR x, vI (Int32.ofNat cap)] [vZ, (.ref x)])) (fun _ k => XS.aloadN W8.here hx rfl (hb hby d14_17) rfl rfl (XS.iconst W8.here hx rfl (hb hby d14_18) k)) ?_
  obtain ⟨T15, h15, W15, R15, F15, st15⟩ := own_put W8 hx (host := "") (Or.inl (w190 C)) Via.refl f13 f12 (Or.inl (w191 C)) (w175 C) (ty := .byte) (by decide) rfl (by decide) (own_safeE W8 f12 (by decide) (by decide)) (by omega) (g := (mkF m 19 #[vR x, vI (Int32.ofNat cap)] [vZ, (.ref x)])) rfl rfl (hb hby d14_19)
  have z16 : h15.size = h8.size := R15.size
  have f17 : Exa Z h15 x "java/lang/StringBuilder" := f12.wr R15
  have f18 : Fld Z h15 x "java/lang/AbstractStringBuilder" "value" "[B" (.ref x3) := F8.other R15 (Or.inr (slot_ne (Or.inl (w189 C)) (Or.inl (w191 C)) (by decide) (t := (.array .byte)) (t' := .byte) (by decide) (by decide)))
  have f19 : Fld Z h15 x "java/lang/AbstractStringBuilder" "count" "I" vZ := f14.other R15 (Or.inr (slot_ne (Or.inl (w203 C)) (Or.inl (w191 C)) (by decide) (t := .int) (t' := .byte) (by decide) (by decide)))
  have S15_x3 : Safe Z own_EL s.vm h15 x3 := Safe.wr R15 (own_safeE W8 f12 (by decide) (by decide)) W8.ch S8_x3
  refine go (g' := (mkF m 22 #[vR x, vI (Int32.ofNat cap)] [])) (st15) ?_
  refine go (g' := (mkF m 38 #[vR x, vI (Int32.ofNat cap)] [])) (fun _ k => XS.goto W15.here hx rfl (pc0 := 22) (pc' := 38) rfl (hb hby d14_22) (by decide) (by decide) k) ?_
  have l21 : ltN x3 h3.size := V3.lt
  have f20 : Arv Z h8 x3 k3 .byte (Int32.ofNat cap) [] vZ := V3.other R8 (one (by omega))
  have l23 : ltN x3 h3.size := V3.lt
  have f22 : Arv Z h15 x3 k3 .byte (Int32.ofNat cap) [] vZ := f20.other R15 (one (by omega))
  have KK24 : Keep h0 h15 [x] := ((((Keep.refl h0 [x]).ext E3).wr R8 (Or.inl (List.mem_of_getElem? (i := 0) rfl))).wr R15 (Or.inl (List.mem_of_getElem? (i := 0) rfl)))
  exact fin (v := none) (so := [x3]) W15 (nle rfl) (nle rfl) (⟨rfl, KK24, x3, _, rfl, by omega, ⟨f17, f18, F15, f19, f22⟩⟩) (allS S15_x3 all0) (fun _ => rfl) (own_retV W15 hx hret (hb hby d14_38))
set_option maxRecDepth 65536 in
set_option maxHeartbeats 40000000 in
theorem rm_sbinit {l : Launch} {Z : State} {a0 : Array Value} (C : Cx Z a0) (h0 : Heap) (x : Addr) (cap : Nat) (l0 : cap ≤ 12) (Ex : Exa Z h0 x "java/lang/StringBuilder") (Fv : Fld Z h0 x "java/lang/AbstractStringBuilder" "value" "[B" .null) (Fc : Fld Z h0 x "java/lang/AbstractStringBuilder" "coder" "B" vZ) (Fn : Fld Z h0 x "java/lang/AbstractStringBuilder" "count" "I" vZ) (nx : Z.heap.size ≤ x) :
    Ct l Z a0 own_EL (⟨"java/lang/StringBuilder", "<init>", "(I)V"⟩ : MethodName) jdk_67_method_2_code 2 (Option.none : Option Jvm.ClassFile.FieldType) [] ({ frames := 2, cells := 1, slots := 12, locals := 25 } : Room) #[(.ref x), (.int (Int32.ofNat cap))] h0 [] (fun v h so => v = none ∧ Keep h0 h [x] ∧ ∃ (t : Addr) (kt : ClassId), so = [t] ∧ h0.size ≤ t ∧ Bld Z h x t kt cap []) := by
  refine own_enter (plainFor_of_name pn_5) C.ew (F0 := fun m => mkF m 0 #[vR x, vI (Int32.ofNat cap)] []) (fun m => by first | (simp [entryFrame, mkF, argsToLocals, Value.category]; done) | rfl) ?_
  intro p e s m below meth c s₁ G hx hby hml hret hnm W0 S0 go fin
  have z0 : Z.heap.size ≤ h0.size := W0.sz
  show G s₁ (mkF m 0 #[vR x, vI (Int32.ofNat cap)] [])
  have lx : ltN x h0.size := Ex.lt
  refine go (g' := (mkF m 2 #[vR x, vI (Int32.ofNat cap)] [(.int (Int32.ofNat cap)), (.ref x)])) (fun _ k => XS.aloadN W0.here hx rfl (hb hby d15_0) rfl rfl (XS.iloadN W0.here hx rfl (hb hby d15_1) rfl k)) ?_
  obtain ⟨v1, so1, vm1, T1, h1, W1, C1, q1, hso1, st1⟩ := own_special W0 hx (y := (⟨"java/lang/AbstractStringBuilder", "<init>", "(I)V"⟩ : MethodName)) rfl (w180 C) (w181 C) (w184 C) (w185 C) (by decide) (rm_asbinit C h0 x cap (by omega) Ex Fv Fc Fn (by omega)) (fun _ q => nomatch q) (Wd := 0) (nle rfl) (nle rfl) (nle rfl) (nle rfl) (g := (mkF m 2 #[vR x, vI (Int32.ofNat cap)] [(.int (Int32.ofNat cap)), (.ref x)])) rfl (by rw [hml]; rfl) (a := x) (argsL := [(.int (Int32.ofNat cap))]) (rest := []) (lenOf pd_10 rfl) rfl rfl (nle rfl) (hb hby d15_2)
  obtain ⟨rfl, K1, t1, k1, rfl, g1, B1⟩ := q1
  have z2 : h0.size ≤ h1.size := K1.1
  have lt1 : ltN t1 h1.size := B1.2.2.2.2.lt
  refine go (g' := (mkF m 5 #[vR x, vI (Int32.ofNat cap)] [])) (st1) ?_
  have KK3 : Keep h0 h1 [x] := ((Keep.refl h0 [x]).trans K1 (allS (Or.inl (List.mem_of_getElem? (i := 0) rfl)) all0))
  exact fin (v := none) (so := [t1]) W1 (nle rfl) (nle rfl) (⟨rfl, KK3, t1, _, rfl, by omega, B1⟩) (allS (hso1 _ (List.mem_of_getElem? (i := 0) rfl)) all0) (fun _ => rfl) (own_retV W1 hx hret (hb hby d15_5))
set_option maxRecDepth 65536 in
set_option maxHeartbeats 40000000 in
theorem rm_asbl1 {l : Launch} {Z : State} {a0 : Array Value} (C : Cx Z a0) (h0 : Heap) (b : Addr) (Fc : Fld Z h0 b "java/lang/AbstractStringBuilder" "coder" "B" vZ) :
    Ct l Z a0 own_EL (⟨"java/lang/AbstractStringBuilder", "isLatin1", "()Z"⟩ : MethodName) jdk_68_method_68_code 1 (Option.some Jvm.ClassFile.FieldType.boolean) [] ({ frames := 0, cells := 0, slots := 0, locals := 0 } : Room) #[(.ref b)] h0 [] (fun v h so => v = some (.int 1) ∧ h0 = h) := by
  refine own_enter (plainFor_of_name pn_4) C.ew (F0 := fun m => mkF m 0 #[vR b] []) (fun m => by first | (simp [entryFrame, mkF, argsToLocals, Value.category]; done) | rfl) ?_
  intro p e s m below meth c s₁ G hx hby hml hret hnm W0 S0 go fin
  have z0 : Z.heap.size ≤ h0.size := W0.sz
  show G s₁ (mkF m 0 #[vR b] [])
  obtain ⟨gCS, OCS, nCS⟩ := C.cs
  obtain ⟨T1, W1, st1⟩ := own_getS W0 hx (host := "") (Or.inl (w187 C)) Via.refl OCS (g := (mkF m 0 #[vR b] [])) rfl (hb hby d16_0)
  refine go (g' := (mkF m 3 #[vR b] [(.int gCS)])) (st1) ?_
  refine go (g' := (mkF m 7 #[vR b] [(.ref b)])) (fun _ k => XS.ifNo W1.here hx rfl (hb hby d16_3) rfl ((if0 _ _).trans (feq nCS).1) (XS.aloadN W1.here hx rfl (hb hby d16_6) rfl rfl k)) ?_
  obtain ⟨T2, W2, st2⟩ := own_get W1 hx (host := "") (Or.inl (w190 C)) Via.refl Fc (g := (mkF m 7 #[vR b] [(.ref b)])) rfl rfl (hb hby d16_7)
  refine go (g' := (mkF m 10 #[vR b] [vZ])) (st2) ?_
  refine go (g' := (mkF m 18 #[vR b] [(.int (1 : Int32))])) (fun _ k => XS.ifNo W2.here hx rfl (hb hby d16_10) rfl ((if0 _ _).trans (teq ((by decide) : (0 : Int32) = (0 : Int32))).2) (XS.iconst W2.here hx rfl (hb hby d16_13) (XS.goto W2.here hx rfl (pc0 := 14) (pc' := 18) rfl (hb hby d16_14) (by decide) (by decide) k))) ?_
  exact fin (v := some (.int (1 : Int32))) (so := []) W2 (nle rfl) (nle rfl) (⟨rfl, rfl⟩) (fun _ q => nomatch q) (fun q => nomatch q) (own_retI W2 hx hret (by decide) rfl (hb hby d16_18))
set_option maxRecDepth 65536 in
set_option maxHeartbeats 40000000 in
theorem rm_ens {l : Launch} {Z : State} {a0 : Array Value} (C : Cx Z a0) (h0 : Heap) (b t : Addr) (kt : ClassId) (vs : List Value) (cap n : Nat) (l1 : n ≤ cap) (l2 : cap ≤ 12) (Fv : Fld Z h0 b "java/lang/AbstractStringBuilder" "value" "[B" (.ref t)) (Fc : Fld Z h0 b "java/lang/AbstractStringBuilder" "coder" "B" vZ) (Vt : Arv Z h0 t kt .byte (Int32.ofNat cap) vs vZ) :
    Ct l Z a0 own_EL (⟨"java/lang/AbstractStringBuilder", "ensureCapacityInternal", "(I)V"⟩ : MethodName) jdk_68_method_9_code 3 (Option.none : Option Jvm.ClassFile.FieldType) [] ({ frames := 0, cells := 0, slots := 0, locals := 0 } : Room) #[(.ref b), (.int (Int32.ofNat n))] h0 [] (fun v h so => v = none ∧ h0 = h) := by
  refine own_enter (plainFor_of_name pn_4) C.ew (F0 := fun m => mkF m 0 #[vR b, vI (Int32.ofNat n), .unset] []) (fun m => by first | (simp [entryFrame, mkF, argsToLocals, Value.category]; done) | rfl) ?_
  intro p e s m below meth c s₁ G hx hby hml hret hnm W0 S0 go fin
  have z0 : Z.heap.size ≤ h0.size := W0.sz
  show G s₁ (mkF m 0 #[vR b, vI (Int32.ofNat n), .unset] [])
  refine go (g' := (mkF m 1 #[vR b, vI (Int32.ofNat n), .unset] [(.ref b)])) (fun _ k => XS.aloadN W0.here hx rfl (hb hby d17_0) rfl rfl k) ?_
  obtain ⟨T1, W1, st1⟩ := own_get W0 hx (host := "") (Or.inl (w188 C)) Via.refl Fv (g := (mkF m 1 #[vR b, vI (Int32.ofNat n), .unset] [(.ref b)])) rfl rfl (hb hby d17_1)
  refine go (g' := (mkF m 4 #[vR b, vI (Int32.ofNat n), .unset] [(.ref t)])) (st1) ?_
  refine go (g' := (mkF m 5 #[vR b, vI (Int32.ofNat n), .unset] [(.int (Int32.ofNat cap))])) (own_alen W1 hx Vt (g := (mkF m 4 #[vR b, vI (Int32.ofNat n), .unset] [(.ref t)])) rfl rfl (hb hby d17_4)) ?_
  refine go (g' := (mkF m 6 #[vR b, vI (Int32.ofNat n), .unset] [(.ref b), (.int (Int32.ofNat cap))])) (fun _ k => XS.aloadN W1.here hx rfl (hb hby d17_5) rfl rfl k) ?_
  obtain ⟨T2, W2, st2⟩ := own_get W1 hx (host := "") (Or.inl (w190 C)) Via.refl Fc (g := (mkF m 6 #[vR b, vI (Int32.ofNat n), .unset] [(.ref b), (.int (Int32.ofNat cap))])) rfl rfl (hb hby d17_6)
  refine go (g' := (mkF m 9 #[vR b, vI (Int32.ofNat n), .unset] [vZ, (.int (Int32.ofNat cap))])) (st2) ?_
  refine go (g' := (mkF m 10 #[vR b, vI (Int32.ofNat n), .unset] [(.int ((Int32.ofNat cap) >>> ((0 : Int32) &&& 31)))])) (fun _ k => XS.ishr W2.here hx rfl (hb hby d17_9) rfl k) ?_
  rw [show ((Int32.ofNat cap) >>> ((0 : Int32) &&& 31)) = (Int32.ofNat cap) from own_shr0 _]
  refine go (g' := (mkF m 38 #[vR b, vI (Int32.ofNat n), vI (Int32.ofNat cap)] [])) (fun _ k => XS.istoreN W2.here hx rfl (hb hby d17_10) rfl (l' := #[vR b, vI (Int32.ofNat n), vI (Int32.ofNat cap)]) rfl (XS.iloadN W2.here hx rfl (hb hby d17_11) rfl (XS.iloadN W2.here hx rfl (hb hby d17_12) rfl (XS.isub W2.here hx rfl (hb hby d17_13) rfl (XS.ifYes W2.here hx rfl (pc0 := 14) (pc' := 38) rfl (hb hby d17_14) rfl ((if0 _ _).trans (flt (own_sle l1 (by omega))).2.2.2) (by decide) (by decide) k))))) ?_
  exact fin (v := none) (so := []) W2 (nle rfl) (nle rfl) (⟨rfl, rfl⟩) (fun _ q => nomatch q) (fun _ => rfl) (own_retV W2 hx hret (hb hby d17_38))
set_option maxRecDepth 65536 in
set_option maxHeartbeats 40000000 in
theorem rm_asbappc {l : Launch} {Z : State} {a0 : Array Value} (C : Cx Z a0) (h0 : Heap) (b t : Addr) (kt : ClassId) (cap : Nat) (ds : List Int32) (c1 : Int32) (hc : ¬ c1 < 0 ∧ ¬ (255 : Int32) < c1) (l1 : ds.length < cap) (l2 : cap ≤ 12) (Bb : Bld Z h0 b t kt cap ds) (nb : Z.heap.size ≤ b) (nt : Z.heap.size ≤ t) :
    Ct l Z a0 own_EL (⟨"java/lang/AbstractStringBuilder", "append", "(C)Ljava/lang/AbstractStringBuilder;"⟩ : MethodName) jdk_68_method_31_code 2 (Option.some (Jvm.ClassFile.FieldType.object "java/lang/AbstractStringBuilder")) [] ({ frames := 1, cells := 0, slots := 0, locals := 14 } : Room) #[(.ref b), (.int c1)] h0 [t] (fun v h so => v = some (.ref b) ∧ Keep h0 h [b, t] ∧ Bld Z h b t kt cap (ds ++ [c1.toInt8.toInt32])) := by
  refine own_enter (plainFor_of_name pn_4) C.ew (F0 := fun m => mkF m 0 #[vR b, vI c1] []) (fun m => by first | (simp [entryFrame, mkF, argsToLocals, Value.category]; done) | rfl) ?_
  intro p e s m below meth c s₁ G hx hby hml hret hnm W0 S0 go fin
  have z0 : Z.heap.size ≤ h0.size := W0.sz
  show G s₁ (mkF m 0 #[vR b, vI c1] [])
  obtain ⟨Eb, Fv, Fc, Fn, Vt⟩ := id Bb
  have lt : ltN t h0.size := Vt.lt
  have lb : ltN b h0.size := Eb.lt
  have nbt : b ≠ t := Exa.neArv Eb Vt (w175 C)
  refine go (g' := (mkF m 2 #[vR b, vI c1] [(.ref b), (.ref b)])) (fun _ k => XS.aloadN W0.here hx rfl (hb hby d18_0) rfl rfl (XS.aloadN W0.here hx rfl (hb hby d18_1) rfl rfl k)) ?_
  obtain ⟨T1, W1, st1⟩ := own_get W0 hx (host := "") (Or.inl (w202 C)) Via.refl Fn (g := (mkF m 2 #[vR b, vI c1] [(.ref b), (.ref b)])) rfl rfl (hb hby d18_2)
  refine go (g' := (mkF m 5 #[vR b, vI c1] [(.int (Int32.ofNat ds.length)), (.ref b)])) (st1) ?_
  refine go (g' := (mkF m 7 #[vR b, vI c1] [(.int ((Int32.ofNat ds.length) + (1 : Int32))), (.ref b)])) (fun _ k => XS.iconst W1.here hx rfl (hb hby d18_5) (XS.iadd W1.here hx rfl (hb hby d18_6) rfl k)) ?_
  rw [show ((Int32.ofNat ds.length) + (1 : Int32)) = (Int32.ofNat (ds.length + 1)) from own_inc _]
  obtain ⟨v2, so2, vm2, T2, h2, W2, C2, q2, hso2, st2⟩ := own_virtual W1 hx (y := (⟨"java/lang/AbstractStringBuilder", "ensureCapacityInternal", "(I)V"⟩ : MethodName)) (z := (⟨"java/lang/AbstractStringBuilder", "ensureCapacityInternal", "(I)V"⟩ : MethodName)) (w204 C) (own_decl (w205 C) (w208 C)) (w207 C) (w205 C) (w184 C) (w208 C) (by decide) (own_nf W1 (w207 C)) Eb (rm_ens C h0 b t kt _ cap (ds.length + 1) (by omega) (by omega) Fv Fc Vt) (fun _ q => nomatch q) (Wd := 0) (nle rfl) (nle rfl) (nle rfl) (nle rfl) (g := (mkF m 7 #[vR b, vI c1] [(.int (Int32.ofNat (ds.length + 1))), (.ref b)])) rfl (by rw [hml]; rfl) (argsL := [(.int (Int32.ofNat (ds.length + 1)))]) (rest := []) (lenOf pd_10 rfl) rfl rfl (nle rfl) (hb hby d18_7)
  obtain ⟨rfl, rfl⟩ := q2
  have S2_t : Safe Z own_EL vm2 h0 t := C2.safe (olt (by omega)) (S0 _ (List.mem_of_getElem? (i := 0) rfl))
  refine go (g' := (mkF m 10 #[vR b, vI c1] [])) (st2) ?_
  refine go (g' := (mkF m 11 #[vR b, vI c1] [(.ref b)])) (fun _ k => XS.aloadN W2.here hx rfl (hb hby d18_10) rfl rfl k) ?_
  obtain ⟨v3, so3, vm3, T3, h3, W3, C3, q3, hso3, st3⟩ := own_virtual W2 hx (y := (⟨"java/lang/AbstractStringBuilder", "isLatin1", "()Z"⟩ : MethodName)) (z := (⟨"java/lang/AbstractStringBuilder", "isLatin1", "()Z"⟩ : MethodName)) (w209 C) (w210 C) (w212 C) (w211 C) (w184 C) (w213 C) (by decide) (own_nf W2 (w212 C)) Eb (rm_asbl1 C h0 b Fc) (fun _ q => nomatch q) (Wd := 0) (nle rfl) (nle rfl) (nle rfl) (nle rfl) (g := (mkF m 11 #[vR b, vI c1] [(.ref b)])) rfl (by rw [hml]; rfl) (argsL := []) (rest := []) (lenOf pd_8 rfl) rfl rfl (nle rfl) (hb hby d18_11)
  obtain ⟨rfl, rfl⟩ := q3
  have S3_t : Safe Z own_EL vm3 h0 t := C3.safe (olt (by omega)) S2_t
  refine go (g' := (mkF m 14 #[vR b, vI c1] [(.int (1 : Int32))])) (st3) ?_
  refine go (g' := (mkF m 18 #[vR b, vI c1] [(.int c1)])) (fun _ k => XS.ifNo W3.here hx rfl (hb hby d18_14) rfl ((if0 _ _).trans (feq ((by decide) : ¬ ((1 : Int32) = (0 : Int32)))).1) (XS.iloadN W3.here hx rfl (hb hby d18_17) rfl k)) ?_
  obtain ⟨v4, so4, vm4, T4, h4, W4, C4, q4, hso4, st4⟩ := own_static W3 hx (y := (⟨"java/lang/StringLatin1", "canEncode", "(C)Z"⟩ : MethodName)) (w214 C) (w45 C) (w46 C) (w47 C) (by decide) (rm_canenc C h0 c1 hc) (fun _ q => nomatch q) (Wd := 0) (nle rfl) (nle rfl) (nle rfl) (nle rfl) (g := (mkF m 18 #[vR b, vI c1] [(.int c1)])) rfl (by rw [hml]; rfl) (argsL := [(.int c1)]) (rest := []) (lenOf pd_0 rfl) rfl rfl (nle rfl) (hb hby d18_18)
  obtain ⟨rfl, rfl⟩ := q4
  have S4_t : Safe Z own_EL vm4 h0 t := C4.safe (olt (by omega)) S3_t
  refine go (g' := (mkF m 21 #[vR b, vI c1] [(.int (1 : Int32))])) (st4) ?_
  refine go (g' := (mkF m 25 #[vR b, vI c1] [(.ref b)])) (fun _ k => XS.ifNo W4.here hx rfl (hb hby d18_21) rfl ((if0 _ _).trans (feq ((by decide) : ¬ ((1 : Int32) = (0 : Int32)))).1) (XS.aloadN W4.here hx rfl (hb hby d18_24) rfl rfl k)) ?_
  obtain ⟨T5, W5, st5⟩ := own_get W4 hx (host := "") (Or.inl (w188 C)) Via.refl Fv (g := (mkF m 25 #[vR b, vI c1] [(.ref b)])) rfl rfl (hb hby d18_25)
  refine go (g' := (mkF m 28 #[vR b, vI c1] [(.ref t)])) (st5) ?_
  refine go (g' := (mkF m 30 #[vR b, vI c1] [(.ref b), (.ref b), (.ref t)])) (fun _ k => XS.aloadN W5.here hx rfl (hb hby d18_28) rfl rfl (XS.dup W5.here hx rfl (hb hby d18_29) rfl rfl k)) ?_
  obtain ⟨T6, W6, st6⟩ := own_get W5 hx (host := "") (Or.inl (w202 C)) Via.refl Fn (g := (mkF m 30 #[vR b, vI c1] [(.ref b), (.ref b), (.ref t)])) rfl rfl (hb hby d18_30)
  refine go (g' := (mkF m 33 #[vR b, vI c1] [(.int (Int32.ofNat ds.length)), (.ref b), (.ref t)])) (st6) ?_
  refine go (g' := (mkF m 36 #[vR b, vI c1] [(.int ((Int32.ofNat ds.length) + (1 : Int32))), (.ref b), (.int (Int32.ofNat ds.length)), (.ref t)])) (fun _ k => XS.dupX1 W6.here hx rfl (hb hby d18_33) rfl rfl rfl (XS.iconst W6.here hx rfl (hb hby d18_34) (XS.iadd W6.here hx rfl (hb hby d18_35) rfl k))) ?_
  rw [show ((Int32.ofNat ds.length) + (1 : Int32)) = (Int32.ofNat (ds.length + 1)) from own_inc _]
  obtain ⟨T7, h7, W7, R7, F7, st7⟩ := own_put W6 hx (host := "") (Or.inl (w202 C)) Via.refl Fn Eb (Or.inl (w203 C)) (w175 C) (ty := .int) (by decide) rfl rfl (own_safeE W6 Eb (by decide) (by decide)) (by omega) (g := (mkF m 36 #[vR b, vI c1] [(.int (Int32.ofNat (ds.length + 1))), (.ref b), (.int (Int32.ofNat ds.length)), (.ref t)])) rfl rfl (hb hby d18_36)
  have z8 : h7.size = h0.size := R7.size
  have f9 : Exa Z h7 b "java/lang/StringBuilder" := Eb.wr R7
  have f10 : Fld Z h7 b "java/lang/AbstractStringBuilder" "value" "[B" (.ref t) := Fv.other R7 (Or.inr (slot_ne (Or.inl (w189 C)) (Or.inl (w203 C)) (by decide) (t := (.array .byte)) (t' := .int) (by decide) (by decide)))
  have f11 : Fld Z h7 b "java/lang/AbstractStringBuilder" "coder" "B" vZ := Fc.other R7 (Or.inr (slot_ne (Or.inl (w191 C)) (Or.inl (w203 C)) (by decide) (t := .byte) (t' := .int) (by decide) (by decide)))
  have S7_t : Safe Z own_EL vm4 h7 t := Safe.wr R7 (own_safeE W6 Eb (by decide) (by decide)) W6.ch S4_t
  refine go (g' := (mkF m 39 #[vR b, vI c1] [(.int (Int32.ofNat ds.length)), (.ref t)])) (st7) ?_
  refine go (g' := (mkF m 41 #[vR b, vI c1] [(.int (c1.toInt8.toInt32)), (.int (Int32.ofNat ds.length)), (.ref t)])) (fun _ k => XS.iloadN W7.here hx rfl (hb hby d18_39) rfl (XS.i2b W7.here hx rfl (hb hby d18_40) rfl k)) ?_
  have f13 : Arv Z h7 t kt .byte (Int32.ofNat cap) (ds.map Value.int) vZ := Vt.other R7 (Ne.symm nbt)
  have P12 : Arv Z h7 t kt .byte (Int32.ofNat cap) (ds.map Value.int ++ List.replicate 1 vZ) vZ := f13.pad (pad_rep _ _ 1)
  obtain ⟨T12, h12, W12, R12, V12, st12⟩ := own_stB W7 hx P12 (by omega) S7_t (j := (Int32.ofNat ds.length)) (i := ds.length) (own_inb (by omega) (by omega)) (own_cl (by omega)) (by simp) (g := (mkF m 41 #[vR b, vI c1] [(.int (c1.toInt8.toInt32)), (.int (Int32.ofNat ds.length)), (.ref t)])) rfl rfl (hb hby d18_41)
  have z14 : h12.size = h7.size := R12.size
  have U12 : Arv Z h12 t kt .byte (Int32.ofNat cap) ((ds ++ [c1.toInt8.toInt32]).map Value.int) vZ := by have q := V12; rw [own_b8, own_setl] at q; exact q
  refine go (g' := (mkF m 42 #[vR b, vI c1] [])) (st12) ?_
  refine go (g' := (mkF m 76 #[vR b, vI c1] [(.ref b)])) (fun _ k => XS.goto W12.here hx rfl (pc0 := 42) (pc' := 75) rfl (hb hby d18_42) (by decide) (by decide) (XS.aloadN W12.here hx rfl (hb hby d18_75) rfl rfl k)) ?_
  have f15 : Exa Z h12 b "java/lang/StringBuilder" := f9.wr R12
  have f16 : Fld Z h12 b "java/lang/AbstractStringBuilder" "value" "[B" (.ref t) := f10.other R12 (Or.inl nbt)
  have f17 : Fld Z h12 b "java/lang/AbstractStringBuilder" "coder" "B" vZ := f11.other R12 (Or.inl nbt)
  have f18 : Fld Z h12 b "java/lang/AbstractStringBuilder" "count" "I" (.int (Int32.ofNat (ds.length + 1))) := F7.other R12 (Or.inl nbt)
  have KK19 : Keep h0 h12 [b, t] := (((Keep.refl h0 [b, t]).wr R7 (Or.inl (List.mem_of_getElem? (i := 0) rfl))).wr R12 (Or.inl (List.mem_of_getElem? (i := 1) rfl)))
  exact fin (v := some (.ref b)) (so := []) W12 (nle rfl) (nle rfl) (⟨rfl, KK19, f15, f16, f17, own_cnt1 f18, U12⟩) (fun _ q => nomatch q) (fun q => nomatch q) (own_retA W12 hx hret rfl rfl rfl (hb hby d18_76))
set_option maxRecDepth 65536 in
set_option maxHeartbeats 40000000 in
theorem rm_sbappc {l : Launch} {Z : State} {a0 : Array Value} (C : Cx Z a0) (h0 : Heap) (b t : Addr) (kt : ClassId) (cap : Nat) (ds : List Int32) (c1 : Int32) (hc : ¬ c1 < 0 ∧ ¬ (255 : Int32) < c1) (l1 : ds.length < cap) (l2 : cap ≤ 12) (Bb : Bld Z h0 b t kt cap ds) (nb : Z.heap.size ≤ b) (nt : Z.heap.size ≤ t) :
    Ct l Z a0 own_EL (⟨"java/lang/StringBuilder", "append", "(C)Ljava/lang/StringBuilder;"⟩ : MethodName) jdk_67_method_14_code 2 (Option.some (Jvm.ClassFile.FieldType.object "java/lang/StringBuilder")) [] ({ frames := 2, cells := 0, slots := 0, locals := 27 } : Room) #[(.ref b), (.int c1)] h0 [t] (fun v h so => v = some (.ref b) ∧ Keep h0 h [b, t] ∧ Bld Z h b t kt cap (ds ++ [c1.toInt8.toInt32])) := by
  refine own_enter (plainFor_of_name pn_5) C.ew (F0 := fun m => mkF m 0 #[vR b, vI c1] []) (fun m => by first | (simp [entryFrame, mkF, argsToLocals, Value.category]; done) | rfl) ?_
  intro p e s m below meth c s₁ G hx hby hml hret hnm W0 S0 go fin
  have z0 : Z.heap.size ≤ h0.size := W0.sz
  show G s₁ (mkF m 0 #[vR b, vI c1] [])
  obtain ⟨Eb, Fv, Fc, Fn, Vt⟩ := id Bb
  have lt : ltN t h0.size := Vt.lt
  have lb : ltN b h0.size := Eb.lt
  have nbt : b ≠ t := Exa.neArv Eb Vt (w175 C)
  refine go (g' := (mkF m 2 #[vR b, vI c1] [(.int c1), (.ref b)])) (fun _ k => XS.aloadN W0.here hx rfl (hb hby d19_0) rfl rfl (XS.iloadN W0.here hx rfl (hb hby d19_1) rfl k)) ?_
  obtain ⟨v1, so1, vm1, T1, h1, W1, C1, q1, hso1, st1⟩ := own_super W0 hx (y := (⟨"java/lang/AbstractStringBuilder", "append", "(C)Ljava/lang/AbstractStringBuilder;"⟩ : MethodName)) (w197 C) (own_sameM (y := (⟨"java/lang/AbstractStringBuilder", "append", "(C)Ljava/lang/AbstractStringBuilder;"⟩ : MethodName)) (w200 C) (w207 C) rfl (by decide)) (w198 C) (w199 C) (by decide) (w184 C) (w201 C) (Ins.self Eb) (rm_asbappc C h0 b t kt cap ds c1 hc (by omega) (by omega) Bb (by omega) (by omega)) (allS (S0 _ (List.mem_of_getElem? (i := 0) rfl)) all0) (Wd := 0) (nle rfl) (nle rfl) (nle rfl) (nle rfl) (g := (mkF m 2 #[vR b, vI c1] [(.int c1), (.ref b)])) rfl (by rw [hml]; rfl) (argsL := [(.int c1)]) (rest := []) (lenOf pd_11 rfl) rfl rfl (nle rfl) (hb hby d19_2)
  obtain ⟨rfl, K1, B1⟩ := q1
  have z2 : h0.size ≤ h1.size := K1.1
  have S1_t : Safe Z own_EL vm1 h1 t := C1.safe (olt (by omega)) (S0 _ (List.mem_of_getElem? (i := 0) rfl))
  refine go (g' := (mkF m 5 #[vR b, vI c1] [(.ref b)])) (st1) ?_
  refine go (g' := (mkF m 7 #[vR b, vI c1] [(.ref b)])) (fun _ k => XS.pop W1.here hx rfl (hb hby d19_5) rfl rfl (XS.aloadN W1.here hx rfl (hb hby d19_6) rfl rfl k)) ?_
  have KK3 : Keep h0 h1 [b, t] := ((Keep.refl h0 [b, t]).trans K1 (allS (Or.inl (List.mem_of_getElem? (i := 0) rfl)) (allS (Or.inl (List.mem_of_getElem? (i := 1) rfl)) all0)))
  exact fin (v := some (.ref b)) (so := []) W1 (nle rfl) (nle rfl) (⟨rfl, KK3, B1⟩) (fun _ q => nomatch q) (fun q => nomatch q) (own_retA W1 hx hret rfl rfl rfl (hb hby d19_7))
set_option maxRecDepth 65536 in
set_option maxHeartbeats 40000000 in
theorem rm_asb_getValue {l : Launch} {Z : State} {a0 : Array Value} (C : Cx Z a0) (h0 : Heap) (a : Addr) (u : Value) (ru : u.isRef = true) (Fa : Fld Z h0 a "java/lang/AbstractStringBuilder" "value" "[B" u) :
    Ct l Z a0 own_EL (⟨"java/lang/AbstractStringBuilder", "getValue", "()[B"⟩ : MethodName) jdk_68_method_64_code 1 (Option.some (Jvm.ClassFile.FieldType.array Jvm.ClassFile.FieldType.byte)) [] ({ frames := 0, cells := 0, slots := 0, locals := 0 } : Room) #[(.ref a)] h0 [] (fun v h so => v = some u ∧ h0 = h) := by
  refine own_enter (plainFor_of_name pn_4) C.ew (F0 := fun m => mkF m 0 #[vR a] []) (fun m => by first | (simp [entryFrame, mkF, argsToLocals, Value.category]; done) | rfl) ?_
  intro p e s m below meth c s₁ G hx hby hml hret hnm W0 S0 go fin
  have z0 : Z.heap.size ≤ h0.size := W0.sz
  show G s₁ (mkF m 0 #[vR a] [])
  refine go (g' := (mkF m 1 #[vR a] [(.ref a)])) (fun _ k => XS.aloadN W0.here hx rfl (hb hby d20_0) rfl rfl k) ?_
  obtain ⟨T1, W1, st1⟩ := own_get W0 hx (host := "") (Or.inl (w188 C)) Via.refl Fa (g := (mkF m 1 #[vR a] [(.ref a)])) rfl rfl (hb hby d20_1)
  refine go (g' := (mkF m 4 #[vR a] [u])) (st1) ?_
  exact fin (v := some u) (so := []) W1 (nle rfl) (nle rfl) (⟨rfl, rfl⟩) (fun _ q => nomatch q) (fun q => nomatch q) (own_retA W1 hx hret rfl ru (own_nrR ru rfl) (hb hby d20_4))
set_option maxRecDepth 65536 in
set_option maxHeartbeats 40000000 in
theorem rm_asb_length {l : Launch} {Z : State} {a0 : Array Value} (C : Cx Z a0) (h0 : Heap) (a : Addr) (u : Int32) (Fa : Fld Z h0 a "java/lang/AbstractStringBuilder" "count" "I" (.int u)) :
    Ct l Z a0 own_EL (⟨"java/lang/AbstractStringBuilder", "length", "()I"⟩ : MethodName) jdk_68_method_6_code 1 (Option.some Jvm.ClassFile.FieldType.int) [] ({ frames := 0, cells := 0, slots := 0, locals := 0 } : Room) #[(.ref a)] h0 [] (fun v h so => v = some (.int u) ∧ h0 = h) := by
  refine own_enter (plainFor_of_name pn_4) C.ew (F0 := fun m => mkF m 0 #[vR a] []) (fun m => by first | (simp [entryFrame, mkF, argsToLocals, Value.category]; done) | rfl) ?_
  intro p e s m below meth c s₁ G hx hby hml hret hnm W0 S0 go fin
  have z0 : Z.heap.size ≤ h0.size := W0.sz
  show G s₁ (mkF m 0 #[vR a] [])
  refine go (g' := (mkF m 1 #[vR a] [(.ref a)])) (fun _ k => XS.aloadN W0.here hx rfl (hb hby d21_0) rfl rfl k) ?_
  obtain ⟨T1, W1, st1⟩ := own_get W0 hx (host := "") (Or.inl (w202 C)) Via.refl Fa (g := (mkF m 1 #[vR a] [(.ref a)])) rfl rfl (hb hby d21_1)
  refine go (g' := (mkF m 4 #[vR a] [(.int u)])) (st1) ?_
  exact fin (v := some (.int u)) (so := []) W1 (nle rfl) (nle rfl) (⟨rfl, rfl⟩) (fun _ q => nomatch q) (fun q => nomatch q) (own_retI W1 hx hret (by decide) rfl (hb hby d21_4))
set_option maxRecDepth 65536 in
set_option maxHeartbeats 40000000 in
theorem rm_sblen {l : Launch} {Z : State} {a0 : Array Value} (C : Cx Z a0) (h0 : Heap) (b : Addr) (u : Int32) (Eb : Exa Z h0 b "java/lang/StringBuilder") (Fn : Fld Z h0 b "java/lang/AbstractStringBuilder" "count" "I" (.int u)) :
    Ct l Z a0 own_EL (⟨"java/lang/StringBuilder", "length", "()I"⟩ : MethodName) jdk_67_method_93_code 1 (Option.some Jvm.ClassFile.FieldType.int) [] ({ frames := 1, cells := 0, slots := 0, locals := 12 } : Room) #[(.ref b)] h0 [] (fun v h so => v = some (.int u) ∧ h0 = h) := by
  refine own_enter (plainFor_of_name pn_5) C.ew (F0 := fun m => mkF m 0 #[vR b] []) (fun m => by first | (simp [entryFrame, mkF, argsToLocals, Value.category]; done) | rfl) ?_
  intro p e s m below meth c s₁ G hx hby hml hret hnm W0 S0 go fin
  have z0 : Z.heap.size ≤ h0.size := W0.sz
  show G s₁ (mkF m 0 #[vR b] [])
  refine go (g' := (mkF m 1 #[vR b] [(.ref b)])) (fun _ k => XS.aloadN W0.here hx rfl (hb hby d22_0) rfl rfl k) ?_
  obtain ⟨v1, so1, vm1, T1, h1, W1, C1, q1, hso1, st1⟩ := own_super W0 hx (y := (⟨"java/lang/AbstractStringBuilder", "length", "()I"⟩ : MethodName)) (w238 C) (own_sameM (y := (⟨"java/lang/AbstractStringBuilder", "length", "()I"⟩ : MethodName)) (w233 C) (w207 C) rfl (by decide)) (w234 C) (w199 C) (by decide) (w184 C) (w239 C) (Ins.self Eb) (rm_asb_length C h0 b u Fn) (fun _ q => nomatch q) (Wd := 0) (nle rfl) (nle rfl) (nle rfl) (nle rfl) (g := (mkF m 1 #[vR b] [(.ref b)])) rfl (by rw [hml]; rfl) (argsL := []) (rest := []) (lenOf pd_12 rfl) rfl rfl (nle rfl) (hb hby d22_1)
  obtain ⟨rfl, rfl⟩ := q1
  refine go (g' := (mkF m 4 #[vR b] [(.int u)])) (st1) ?_
  exact fin (v := some (.int u)) (so := []) W1 (nle rfl) (nle rfl) (⟨rfl, rfl⟩) (fun _ q => nomatch q) (fun q => nomatch q) (own_retI W1 hx hret (by decide) rfl (hb hby d22_4))
set_option maxRecDepth 65536 in
set_option maxHeartbeats 40000000 in
theorem rm_sia {l : Launch} {Z : State} {a0 : Array Value} (C : Cx Z a0) (h0 : Heap) (x : Addr) (Ex : Exa Z h0 x "java/lang/String") (Xv : Fld Z h0 x "java/lang/String" "value" "[B" .null) (Xc : Fld Z h0 x "java/lang/String" "coder" "B" vZ) (nx : Z.heap.size ≤ x) (b t : Addr) (kt : ClassId) (cap : Nat) (ds : List Int32) (l0 : 0 < ds.length) (l1 : ds.length < cap) (l2 : cap ≤ 12) (Bb : Bld Z h0 b t kt cap ds) :
    Ct l Z a0 own_EL (⟨"java/lang/String", "<init>", "(Ljava/lang/AbstractStringBuilder;Ljava/lang/Void;)V"⟩ : MethodName) jdk_42_method_150_code 5 (Option.none : Option Jvm.ClassFile.FieldType) [] ({ frames := 3, cells := 1, slots := 12, locals := 61 } : Room) #[(.ref x), (.ref b), .null] h0 [x] (fun v h so => v = none ∧ Keep h0 h [x] ∧ Exa Z h x "java/lang/String" ∧ Fld Z h x "java/lang/String" "coder" "B" vZ ∧ ∃ (u : Addr) (ku : ClassId), Fld Z h x "java/lang/String" "value" "[B" (.ref u) ∧ Arv Z h u ku .byte (Int32.ofNat ds.length) (ds.map Value.int) vZ) := by
  refine own_enter (plainFor_of_name pn_1) C.ew (F0 := fun m => mkF m 0 #[vR x, vR b, .val .null, .unset, .unset] []) (fun m => by first | (simp [entryFrame, mkF, argsToLocals, Value.category]; done) | rfl) ?_
  intro p e s m below meth c s₁ G hx hby hml hret hnm W0 S0 go fin
  have z0 : Z.heap.size ≤ h0.size := W0.sz
  show G s₁ (mkF m 0 #[vR x, vR b, .val .null, .unset, .unset] [])
  have lx : ltN x h0.size := Ex.lt
  obtain ⟨Eb, Fv, Fc, Fn, Vt⟩ := id Bb
  have lt : ltN t h0.size := Vt.lt
  have lb : ltN b h0.size := Eb.lt
  have nbt : b ≠ t := Exa.neArv Eb Vt (w175 C)
  have nbx : b ≠ x := Exa.ne Eb Ex (by decide)
  have ntx : t ≠ x := Ne.symm (Exa.neArv Ex Vt (w13 C))
  refine go (g' := (mkF m 1 #[vR x, vR b, .val .null, .unset, .unset] [(.ref x)])) (fun _ k => XS.aloadN W0.here hx rfl (hb hby d23_0) rfl rfl k) ?_
  obtain ⟨T1, W1, st1⟩ := own_initO W0 hx (w22 C) (w23 C) (w24 C) (g := (mkF m 1 #[vR x, vR b, .val .null, .unset, .unset] [(.ref x)])) rfl (by rw [hml]; rfl) rfl (hb hby d23_1) (nle rfl) (Wd := 0) (nle rfl) (nle rfl)
  refine go (g' := (mkF m 4 #[vR x, vR b, .val .null, .unset, .unset] [])) (st1) ?_
  refine go (g' := (mkF m 5 #[vR x, vR b, .val .null, .unset, .unset] [(.ref b)])) (fun _ k => XS.aloadN W1.here hx rfl (hb hby d23_4) rfl rfl k) ?_
  obtain ⟨v2, so2, vm2, T2, h2, W2, C2, q2, hso2, st2⟩ := own_virtual W1 hx (y := (⟨"java/lang/AbstractStringBuilder", "getValue", "()[B"⟩ : MethodName)) (z := (⟨"java/lang/AbstractStringBuilder", "getValue", "()[B"⟩ : MethodName)) (w227 C) (w228 C) (w230 C) (w229 C) (w184 C) (w231 C) (by decide) (own_nf W1 (w230 C)) Eb (rm_asb_getValue C h0 b (.ref t) rfl Fv) (fun _ q => nomatch q) (Wd := 0) (nle rfl) (nle rfl) (nle rfl) (nle rfl) (g := (mkF m 5 #[vR x, vR b, .val .null, .unset, .unset] [(.ref b)])) rfl (by rw [hml]; rfl) (argsL := []) (rest := []) (lenOf pd_13 rfl) rfl rfl (nle rfl) (hb hby d23_5)
  obtain ⟨rfl, rfl⟩ := q2
  have S2_x : Safe Z own_EL vm2 h0 x := C2.safe (olt (by omega)) (S0 _ (List.mem_of_getElem? (i := 0) rfl))
  refine go (g' := (mkF m 8 #[vR x, vR b, .val .null, .unset, .unset] [(.ref t)])) (st2) ?_
  refine go (g' := (mkF m 10 #[vR x, vR b, .val .null, vR t, .unset] [(.ref b)])) (fun _ k => XS.astoreN W2.here hx rfl (hb hby d23_8) rfl rfl (l' := #[vR x, vR b, .val .null, vR t, .unset]) rfl (XS.aloadN W2.here hx rfl (hb hby d23_9) rfl rfl k)) ?_
  obtain ⟨v3, so3, vm3, T3, h3, W3, C3, q3, hso3, st3⟩ := own_virtual W2 hx (y := (⟨"java/lang/AbstractStringBuilder", "length", "()I"⟩ : MethodName)) (z := (⟨"java/lang/StringBuilder", "length", "()I"⟩ : MethodName)) (w232 C) (w233 C) (w235 C) (w236 C) (w176 C) (w237 C) (by decide) (own_nf2 W2 (y := (⟨"java/lang/AbstractStringBuilder", "length", "()I"⟩ : MethodName)) (w207 C) rfl) Eb (rm_sblen C h0 b (Int32.ofNat ds.length) Eb Fn) (fun _ q => nomatch q) (Wd := 0) (nle rfl) (nle rfl) (nle rfl) (nle rfl) (g := (mkF m 10 #[vR x, vR b, .val .null, vR t, .unset] [(.ref b)])) rfl (by rw [hml]; rfl) (argsL := []) (rest := []) (lenOf pd_12 rfl) rfl rfl (nle rfl) (hb hby d23_10)
  obtain ⟨rfl, rfl⟩ := q3
  have S3_x : Safe Z own_EL vm3 h0 x := C3.safe (olt (by omega)) S2_x
  refine go (g' := (mkF m 13 #[vR x, vR b, .val .null, vR t, .unset] [(.int (Int32.ofNat ds.length))])) (st3) ?_
  refine go (g' := (mkF m 16 #[vR x, vR b, .val .null, vR t, vI (Int32.ofNat ds.length)] [(.ref b)])) (fun _ k => XS.istore W3.here hx rfl (hb hby d23_13) rfl (l' := #[vR x, vR b, .val .null, vR t, vI (Int32.ofNat ds.length)]) rfl (XS.aloadN W3.here hx rfl (hb hby d23_15) rfl rfl k)) ?_
  obtain ⟨v4, so4, vm4, T4, h4, W4, C4, q4, hso4, st4⟩ := own_virtual W3 hx (y := (⟨"java/lang/AbstractStringBuilder", "isLatin1", "()Z"⟩ : MethodName)) (z := (⟨"java/lang/AbstractStringBuilder", "isLatin1", "()Z"⟩ : MethodName)) (w240 C) (w210 C) (w212 C) (w211 C) (w184 C) (w213 C) (by decide) (own_nf W3 (w212 C)) Eb (rm_asbl1 C h0 b Fc) (fun _ q => nomatch q) (Wd := 0) (nle rfl) (nle rfl) (nle rfl) (nle rfl) (g := (mkF m 16 #[vR x, vR b, .val .null, vR t, vI (Int32.ofNat ds.length)] [(.ref b)])) rfl (by rw [hml]; rfl) (argsL := []) (rest := []) (lenOf pd_8 rfl) rfl rfl (nle rfl) (hb hby d23_16)
  obtain ⟨rfl, rfl⟩ := q4
  have S4_x : Safe Z own_EL vm4 h0 x := C4.safe (olt (by omega)) S3_x
  refine go (g' := (mkF m 19 #[vR x, vR b, .val .null, vR t, vI (Int32.ofNat ds.length)] [(.int (1 : Int32))])) (st4) ?_
  refine go (g' := (mkF m 24 #[vR x, vR b, .val .null, vR t, vI (Int32.ofNat ds.length)] [vZ, (.ref x)])) (fun _ k => XS.ifNo W4.here hx rfl (hb hby d23_19) rfl ((if0 _ _).trans (feq ((by decide) : ¬ ((1 : Int32) = (0 : Int32)))).1) (XS.aloadN W4.here hx rfl (hb hby d23_22) rfl rfl (XS.iconst W4.here hx rfl (hb hby d23_23) k))) ?_
  obtain ⟨T5, h5, W5, R5, F5, st5⟩ := own_put W4 hx (host := "") (Or.inl (w37 C)) Via.refl Xc Ex (Or.inr ⟨(w38 C), rfl, hnm⟩) (w13 C) (ty := .byte) (by decide) rfl (by decide) S4_x (by omega) (g := (mkF m 24 #[vR x, vR b, .val .null, vR t, vI (Int32.ofNat ds.length)] [vZ, (.ref x)])) rfl rfl (hb hby d23_24)
  have z6 : h5.size = h0.size := R5.size
  have f7 : Exa Z h5 x "java/lang/String" := Ex.wr R5
  have f8 : Fld Z h5 x "java/lang/String" "value" "[B" .null := Xv.other R5 (Or.inr (slot_ne (Or.inr (w40 C)) (Or.inr (w38 C)) (by decide) (t := (.array .byte)) (t' := .byte) (by decide) (by decide)))
  have S5 : Safe Z own_EL vm4 h5 x := Safe.wr R5 S4_x W4.ch S4_x
  refine go (g' := (mkF m 27 #[vR x, vR b, .val .null, vR t, vI (Int32.ofNat ds.length)] [])) (st5) ?_
  refine go (g' := (mkF m 32 #[vR x, vR b, .val .null, vR t, vI (Int32.ofNat ds.length)] [(.int (Int32.ofNat ds.length)), vZ, (.ref t), (.ref x)])) (fun _ k => XS.aloadN W5.here hx rfl (hb hby d23_27) rfl rfl (XS.aloadN W5.here hx rfl (hb hby d23_28) rfl rfl (XS.iconst W5.here hx rfl (hb hby d23_29) (XS.iload W5.here hx rfl (hb hby d23_30) rfl k)))) ?_
  have f10 : Arv Z h5 t kt .byte (Int32.ofNat cap) (ds.map Value.int) vZ := Vt.other R5 ntx
  obtain ⟨v9, so9, vm9, T9, h9, W9, C9, q9, hso9, st9⟩ := own_static W5 hx (y := (⟨"java/util/Arrays", "copyOfRange", "([BII)[B"⟩ : MethodName)) (w241 C) (w153 C) (w154 C) (w155 C) (by decide) (rm_cor C h5 t kt ds cap 0 ds.length (by omega) (by omega) (by omega) (by omega) f10 (fun q => by omega)) (fun _ q => nomatch q) (Wd := 1) (nle rfl) (nle rfl) (nle rfl) (nle rfl) (g := (mkF m 32 #[vR x, vR b, .val .null, vR t, vI (Int32.ofNat ds.length)] [(.int (Int32.ofNat ds.length)), vZ, (.ref t), (.ref x)])) rfl (by rw [hml]; rfl) (argsL := [(.ref t), vZ, (.int (Int32.ofNat ds.length))]) (rest := [(.ref x)]) (lenOf pd_5 rfl) rfl rfl (nle rfl) (hb hby d23_32)
  obtain ⟨x9, k9, rfl, E9, g9, V9⟩ := q9
  have z11 : h5.size ≤ h9.size := E9.1
  have S9_x : Safe Z own_EL vm9 h9 x := C9.safe (olt (by omega)) S5
  refine go (g' := (mkF m 35 #[vR x, vR b, .val .null, vR t, vI (Int32.ofNat ds.length)] [(.ref x9), (.ref x)])) (st9) ?_
  have X12 : Ext h5 h9 := own_xt (own_xr h5) E9
  have f13 : Fld Z h9 x "java/lang/String" "value" "[B" .null := f8.ext X12
  have f14 : Exa Z h9 x "java/lang/String" := f7.ext X12
  obtain ⟨T15, h15, W15, R15, F15, st15⟩ := own_put W9 hx (host := "") (Or.inl (w39 C)) Via.refl f13 f14 (Or.inr ⟨(w40 C), rfl, hnm⟩) (w13 C) (ty := (.array .byte)) (by decide) rfl rfl S9_x (by omega) (g := (mkF m 35 #[vR x, vR b, .val .null, vR t, vI (Int32.ofNat ds.length)] [(.ref x9), (.ref x)])) rfl rfl (hb hby d23_35)
  have f16 : Fld Z h9 x "java/lang/String" "coder" "B" vZ := F5.ext X12
  have z17 : h15.size = h9.size := R15.size
  have f18 : Exa Z h15 x "java/lang/String" := f14.wr R15
  have f19 : Fld Z h15 x "java/lang/String" "coder" "B" vZ := f16.other R15 (Or.inr (slot_ne (Or.inr (w38 C)) (Or.inr (w40 C)) (by decide) (t := .byte) (t' := (.array .byte)) (by decide) (by decide)))
  have S15 : Safe Z own_EL vm9 h15 x := Safe.wr R15 S9_x W9.ch S9_x
  refine go (g' := (mkF m 38 #[vR x, vR b, .val .null, vR t, vI (Int32.ofNat ds.length)] [])) (st15) ?_
  refine go (g' := (mkF m 97 #[vR x, vR b, .val .null, vR t, vI (Int32.ofNat ds.length)] [])) (fun _ k => XS.goto W15.here hx rfl (pc0 := 38) (pc' := 97) rfl (hb hby d23_38) (by decide) (by decide) k) ?_
  have l22 : ltN x9 h9.size := V9.lt
  have f21 : Arv Z h15 x9 k9 .byte (Int32.ofNat (ds.length - 0)) (((ds.drop 0).take (ds.length - 0)).map Value.int) vZ := V9.other R15 (one (by omega))
  have q20 : Arv Z h15 x9 k9 .byte (Int32.ofNat ds.length) (ds.map Value.int) vZ := by have q := f21; rw [Nat.sub_zero, List.drop_zero, List.take_length] at q; exact q
  have KK23 : Keep h0 h15 [x] := ((((Keep.refl h0 [x]).wr R5 (Or.inl (List.mem_of_getElem? (i := 0) rfl))).ext E9).wr R15 (Or.inl (List.mem_of_getElem? (i := 0) rfl)))
  exact fin (v := none) (so := []) W15 (nle rfl) (nle rfl) (⟨rfl, KK23, f18, f19, _, _, F15, q20⟩) (fun _ q => nomatch q) (fun _ => rfl) (own_retV W15 hx hret (hb hby d23_97))
set_option maxRecDepth 65536 in
set_option maxHeartbeats 40000000 in
theorem rm_sis {l : Launch} {Z : State} {a0 : Array Value} (C : Cx Z a0) (h0 : Heap) (x : Addr) (Ex : Exa Z h0 x "java/lang/String") (Xv : Fld Z h0 x "java/lang/String" "value" "[B" .null) (Xc : Fld Z h0 x "java/lang/String" "coder" "B" vZ) (nx : Z.heap.size ≤ x) (b t : Addr) (kt : ClassId) (cap : Nat) (ds : List Int32) (l0 : 0 < ds.length) (l1 : ds.length < cap) (l2 : cap ≤ 12) (Bb : Bld Z h0 b t kt cap ds) :
    Ct l Z a0 own_EL (⟨"java/lang/String", "<init>", "(Ljava/lang/StringBuilder;)V"⟩ : MethodName) jdk_42_method_53_code 2 (Option.none : Option Jvm.ClassFile.FieldType) [] ({ frames := 4, cells := 1, slots := 12, locals := 77 } : Room) #[(.ref x), (.ref b)] h0 [x] (fun v h so => v = none ∧ Keep h0 h [x] ∧ Exa Z h x "java/lang/String" ∧ Fld Z h x "java/lang/String" "coder" "B" vZ ∧ ∃ (u : Addr) (ku : ClassId), Fld Z h x "java/lang/String" "value" "[B" (.ref u) ∧ Arv Z h u ku .byte (Int32.ofNat ds.length) (ds.map Value.int) vZ) := by
  refine own_enter (plainFor_of_name pn_1) C.ew (F0 := fun m => mkF m 0 #[vR x, vR b] []) (fun m => by first | (simp [entryFrame, mkF, argsToLocals, Value.category]; done) | rfl) ?_
  intro p e s m below meth c s₁ G hx hby hml hret hnm W0 S0 go fin
  have z0 : Z.heap.size ≤ h0.size := W0.sz
  show G s₁ (mkF m 0 #[vR x, vR b] [])
  have lx : ltN x h0.size := Ex.lt
  obtain ⟨Eb, Fv, Fc, Fn, Vt⟩ := id Bb
  have lt : ltN t h0.size := Vt.lt
  have lb : ltN b h0.size := Eb.lt
  have nbt : b ≠ t := Exa.neArv Eb Vt (w175 C)
  have nbx : b ≠ x := Exa.ne Eb Ex (by decide)
  have ntx : t ≠ x := Ne.symm (Exa.neArv Ex Vt (w13 C))
  refine go (g' := (mkF m 3 #[vR x, vR b] [.null, (.ref b), (.ref x)])) (fun _ k => XS.aloadN W0.here hx rfl (hb hby d24_0) rfl rfl (XS.aloadN W0.here hx rfl (hb hby d24_1) rfl rfl (XS.aconstNull W0.here hx rfl (hb hby d24_2) k))) ?_
  obtain ⟨v1, so1, vm1, T1, h1, W1, C1, q1, hso1, st1⟩ := own_special W0 hx (y := (⟨"java/lang/String", "<init>", "(Ljava/lang/AbstractStringBuilder;Ljava/lang/Void;)V"⟩ : MethodName)) rfl (w224 C) (w225 C) (w14 C) (w226 C) (by decide) (rm_sia C h0 x Ex Xv Xc (by omega) b t kt cap ds (by omega) (by omega) (by omega) Bb) (allS (S0 _ (List.mem_of_getElem? (i := 0) rfl)) all0) (Wd := 0) (nle rfl) (nle rfl) (nle rfl) (nle rfl) (g := (mkF m 3 #[vR x, vR b] [.null, (.ref b), (.ref x)])) rfl (by rw [hml]; rfl) (a := x) (argsL := [(.ref b), .null]) (rest := []) (lenOf pd_14 rfl) rfl rfl (nle rfl) (hb hby d24_3)
  obtain ⟨rfl, K1, E1, Fc1, u1, ku1, Fv1, V1⟩ := q1
  have z2 : h0.size ≤ h1.size := K1.1
  have S1_x : Safe Z own_EL vm1 h1 x := C1.safe (olt (by omega)) (S0 _ (List.mem_of_getElem? (i := 0) rfl))
  refine go (g' := (mkF m 6 #[vR x, vR b] [])) (st1) ?_
  have KK3 : Keep h0 h1 [x] := ((Keep.refl h0 [x]).trans K1 (allS (Or.inl (List.mem_of_getElem? (i := 0) rfl)) all0))
  exact fin (v := none) (so := []) W1 (nle rfl) (nle rfl) (⟨rfl, KK3, E1, Fc1, _, _, Fv1, V1⟩) (fun _ q => nomatch q) (fun _ => rfl) (own_retV W1 hx hret (hb hby d24_6))
set_option maxRecDepth 65536 in
set_option maxHeartbeats 40000000 in
theorem rm_sbts {l : Launch} {Z : State} {a0 : Array Value} (C : Cx Z a0) (h0 : Heap) (b t : Addr) (kt : ClassId) (cap : Nat) (ds : List Int32) (l0 : 0 < ds.length) (l1 : ds.length < cap) (l2 : cap ≤ 12) (Bb : Bld Z h0 b t kt cap ds) :
    Ct l Z a0 own_EL (⟨"java/lang/StringBuilder", "toString", "()Ljava/lang/String;"⟩ : MethodName) jdk_67_method_42_code 1 (Option.some (Jvm.ClassFile.FieldType.object "java/lang/String")) [] ({ frames := 5, cells := 2, slots := 16, locals := 91 } : Room) #[(.ref b)] h0 [] (fun v h so => ∃ x : Addr, v = some (.ref x) ∧ Ext h0 h ∧ Exa Z h x "java/lang/String" ∧ Fld Z h x "java/lang/String" "coder" "B" vZ ∧ ∃ (u : Addr) (ku : ClassId), Fld Z h x "java/lang/String" "value" "[B" (.ref u) ∧ Arv Z h u ku .byte (Int32.ofNat ds.length) (ds.map Value.int) vZ) := by
  refine own_enter (plainFor_of_name pn_5) C.ew (F0 := fun m => mkF m 0 #[vR b] []) (fun m => by first | (simp [entryFrame, mkF, argsToLocals, Value.category]; done) | rfl) ?_
  intro p e s m below meth c s₁ G hx hby hml hret hnm W0 S0 go fin
  have z0 : Z.heap.size ≤ h0.size := W0.sz
  show G s₁ (mkF m 0 #[vR b] [])
  obtain ⟨x1, T1, h1, g1, W1, E1, A1, D1, U1, st1⟩ := own_new W0 hx (w220 C) (w13 C) (w14 C) (g := (mkF m 0 #[vR b] [])) rfl (hb hby d25_0) (nle rfl) (nle rfl)
  have z2 : h0.size ≤ h1.size := E1.1
  have l1 : ltN x1 h1.size := A1.lt
  have F1_coder : Fld Z h1 x1 "java/lang/String" "coder" "B" vZ := D1 (Or.inr (w38 C)) (ty := .byte) (by decide)
  have F1_value : Fld Z h1 x1 "java/lang/String" "value" "[B" .null := D1 (Or.inr (w40 C)) (ty := (.array .byte)) (by decide)
  refine go (g' := (mkF m 3 #[vR b] [(.ref x1)])) (st1) ?_
  refine go (g' := (mkF m 5 #[vR b] [(.ref b), (.ref x1), (.ref x1)])) (fun _ k => XS.dup W1.here hx rfl (hb hby d25_3) rfl rfl (XS.aloadN W1.here hx rfl (hb hby d25_4) rfl rfl k)) ?_
  have X4 : Ext h0 h1 := own_xt (own_xr h0) E1
  have f5 : Bld Z h1 b t kt cap ds := Bb.ext X4
  obtain ⟨v3, so3, vm3, T3, h3, W3, C3, q3, hso3, st3⟩ := own_special W1 hx (y := (⟨"java/lang/String", "<init>", "(Ljava/lang/StringBuilder;)V"⟩ : MethodName)) rfl (w221 C) (w222 C) (w14 C) (w223 C) (by decide) (rm_sis C h1 x1 A1 F1_value F1_coder (by omega) b t kt cap ds (by omega) (by omega) (by omega) f5) (allS (own_safeB W0 X4 (by omega)) all0) (Wd := 1) (nle rfl) (nle rfl) (nle rfl) (nle rfl) (g := (mkF m 5 #[vR b] [(.ref b), (.ref x1), (.ref x1)])) rfl (by rw [hml]; rfl) (a := x1) (argsL := [(.ref b)]) (rest := [(.ref x1)]) (lenOf pd_15 rfl) rfl rfl (nle rfl) (hb hby d25_5)
  obtain ⟨rfl, K3, E3, Fc3, u3, ku3, Fv3, V3⟩ := q3
  have z6 : h1.size ≤ h3.size := K3.1
  have S3_x1 : Safe Z own_EL vm3 h3 x1 := C3.safe (olt (by omega)) (own_safeB W0 X4 (by omega))
  refine go (g' := (mkF m 8 #[vR b] [(.ref x1)])) (st3) ?_
  have X7 : Ext h0 h3 := own_xk X4 K3 (allS (by omega) all0)
  exact fin (v := some (.ref x1)) (so := []) W3 (nle rfl) (nle rfl) (⟨_, rfl, X7, E3, Fc3, _, _, Fv3, V3⟩) (fun _ q => nomatch q) (fun q => nomatch q) (own_retA W3 hx hret rfl rfl rfl (hb hby d25_8))
set_option maxRecDepth 65536 in
set_option maxHeartbeats 40000000 in
theorem rm_ctor26 {l : Launch} {Z : State} {a0 : Array Value} (C : Cx Z a0) (h0 : Heap) (x : Addr) (u0 : Value) (r0 : u0.isRef = true) (F_value : Fld Z h0 x "com/example/inchworm/inchworm/core/IdempotencyKey" "value" "Ljava/lang/String;" .null) (Ex : Exa Z h0 x "com/example/inchworm/inchworm/core/IdempotencyKey") (nx : Z.heap.size ≤ x) :
    Ct l Z a0 own_EL (⟨"com/example/inchworm/inchworm/core/IdempotencyKey", "<init>", "(Ljava/lang/String;)V"⟩ : MethodName) prog_18_method_1_code 2 (Option.none : Option Jvm.ClassFile.FieldType) [] ({ frames := 1, cells := 0, slots := 0, locals := 12 } : Room) #[(.ref x), u0] h0 [] (fun v h so => v = none ∧ Keep h0 h [x] ∧ Exa Z h x "com/example/inchworm/inchworm/core/IdempotencyKey" ∧ Fld Z h x "com/example/inchworm/inchworm/core/IdempotencyKey" "value" "Ljava/lang/String;" u0) := by
  refine own_enter (plainFor_of_name pn_6) C.ew (F0 := fun m => mkF m 0 #[vR x, .val u0] []) (fun m => by rcases ref_cases r0 with rfl | ⟨_, rfl⟩ <;> rfl) ?_
  intro p e s m below meth c s₁ G hx hby hml hret hnm W0 S0 go fin
  have z0 : Z.heap.size ≤ h0.size := W0.sz
  show G s₁ (mkF m 0 #[vR x, .val u0] [])
  have lx : ltN x h0.size := Ex.lt
  refine go (g' := (mkF m 1 #[vR x, .val u0] [(.ref x)])) (fun _ k => XS.aloadN W0.here hx rfl (hb hby d26_0) rfl rfl k) ?_
  obtain ⟨T1, W1, st1⟩ := own_initO W0 hx (w129 C) (w23 C) (w24 C) (g := (mkF m 1 #[vR x, .val u0] [(.ref x)])) rfl (by rw [hml]; rfl) rfl (hb hby d26_1) (nle rfl) (Wd := 0) (nle rfl) (nle rfl)
  refine go (g' := (mkF m 4 #[vR x, .val u0] [])) (st1) ?_
  refine go (g' := (mkF m 6 #[vR x, .val u0] [u0, (.ref x)])) (fun _ k => XS.aloadN W1.here hx rfl (hb hby d26_4) rfl rfl (XS.aloadN W1.here hx rfl (hb hby d26_5) rfl r0 k)) ?_
  obtain ⟨T2, h2, W2, R2, F2, st2⟩ := own_put W1 hx (host := "") (Or.inl (w130 C)) Via.refl F_value Ex (Or.inr ⟨(w131 C), rfl, hnm⟩) (w125 C) (ty := (.object "java/lang/String")) (by decide) (own_nrR r0 rfl) (own_ftR r0 rfl) (own_safeE W1 Ex (by decide) (by decide)) (by omega) (g := (mkF m 6 #[vR x, .val u0] [u0, (.ref x)])) rfl rfl (hb hby d26_6)
  have z3 : h2.size = h0.size := R2.size
  have f4 : Exa Z h2 x "com/example/inchworm/inchworm/core/IdempotencyKey" := Ex.wr R2
  refine go (g' := (mkF m 9 #[vR x, .val u0] [])) (st2) ?_
  have KK5 : Keep h0 h2 [x] := ((Keep.refl h0 [x]).wr R2 (Or.inl (List.mem_of_getElem? (i := 0) rfl)))
  exact fin (v := none) (so := []) W2 (nle rfl) (nle rfl) (⟨rfl, KK5, f4, F2⟩) (fun _ q => nomatch q) (fun _ => rfl) (own_retV W2 hx hret (hb hby d26_9))
set_option maxRecDepth 65536 in
set_option maxHeartbeats 40000000 in
theorem rm_get27 {l : Launch} {Z : State} {a0 : Array Value} (C : Cx Z a0) (h0 : Heap) (a : Addr) (u : Value) (ru : u.isRef = true) (Fa : Fld Z h0 a "com/example/inchworm/inchworm/core/IdempotencyKey" "value" "Ljava/lang/String;" u) :
    Ct l Z a0 own_EL (⟨"com/example/inchworm/inchworm/core/IdempotencyKey", "value", "()Ljava/lang/String;"⟩ : MethodName) prog_18_method_4_code 1 (Option.some (Jvm.ClassFile.FieldType.object "java/lang/String")) [] ({ frames := 0, cells := 0, slots := 0, locals := 0 } : Room) #[(.ref a)] h0 [] (fun v h so => v = some u ∧ h0 = h) := by
  refine own_enter (plainFor_of_name pn_6) C.ew (F0 := fun m => mkF m 0 #[vR a] []) (fun m => by first | (simp [entryFrame, mkF, argsToLocals, Value.category]; done) | rfl) ?_
  intro p e s m below meth c s₁ G hx hby hml hret hnm W0 S0 go fin
  have z0 : Z.heap.size ≤ h0.size := W0.sz
  show G s₁ (mkF m 0 #[vR a] [])
  refine go (g' := (mkF m 1 #[vR a] [(.ref a)])) (fun _ k => XS.aloadN W0.here hx rfl (hb hby d27_0) rfl rfl k) ?_
  obtain ⟨T1, W1, st1⟩ := own_get W0 hx (host := "") (Or.inl (w130 C)) Via.refl Fa (g := (mkF m 1 #[vR a] [(.ref a)])) rfl rfl (hb hby d27_1)
  refine go (g' := (mkF m 4 #[vR a] [u])) (st1) ?_
  exact fin (v := some u) (so := []) W1 (nle rfl) (nle rfl) (⟨rfl, rfl⟩) (fun _ q => nomatch q) (fun q => nomatch q) (own_retA W1 hx hret rfl ru (own_nrR ru rfl) (hb hby d27_4))
set_option maxRecDepth 65536 in
set_option maxHeartbeats 40000000 in
theorem rm_nonnull {l : Launch} {Z : State} {a0 : Array Value} (C : Cx Z a0) (h0 : Heap) (a b : Addr) :
    Ct l Z a0 own_EL (⟨"java/util/Objects", "requireNonNull", "(Ljava/lang/Object;Ljava/lang/String;)Ljava/lang/Object;"⟩ : MethodName) jdk_31_method_11_code 2 (Option.some (Jvm.ClassFile.FieldType.object "java/lang/Object")) [] ({ frames := 0, cells := 0, slots := 0, locals := 0 } : Room) #[(.ref a), (.ref b)] h0 [] (fun v h so => v = some (.ref a) ∧ h0 = h) := by
  refine own_enter (plainFor_of_name pn_7) C.ew (F0 := fun m => mkF m 0 #[vR a, vR b] []) (fun m => by first | (simp [entryFrame, mkF, argsToLocals, Value.category]; done) | rfl) ?_
  intro p e s m below meth c s₁ G hx hby hml hret hnm W0 S0 go fin
  have z0 : Z.heap.size ≤ h0.size := W0.sz
  show G s₁ (mkF m 0 #[vR a, vR b] [])
  refine go (g' := (mkF m 14 #[vR a, vR b] [(.ref a)])) (fun _ k => XS.aloadN W0.here hx rfl (hb hby d28_0) rfl rfl (XS.ifnonnullYes W0.here hx rfl (pc0 := 1) (pc' := 13) rfl (hb hby d28_1) rfl (by decide) (by decide) (XS.aloadN W0.here hx rfl (hb hby d28_13) rfl rfl k))) ?_
  exact fin (v := some (.ref a)) (so := []) W0 (nle rfl) (nle rfl) (⟨rfl, rfl⟩) (fun _ q => nomatch q) (fun q => nomatch q) (own_retA W0 hx hret rfl rfl rfl (hb hby d28_14))
set_option maxRecDepth 65536 in
set_option maxHeartbeats 40000000 in
theorem rm_of {l : Launch} {Z : State} {a0 : Array Value} (C : Cx Z a0) (h0 : Heap) (a : Addr) (cs : List Int32) (Sa : Str Z h0 a cs) (l0 : 0 < cs.length) (l1 : cs.length ≤ 255) (hr : ∀ c ∈ cs, ¬ c < (33 : Int32) ∧ ¬ (126 : Int32) < c) :
    Ct l Z a0 own_EL (⟨"com/example/inchworm/inchworm/core/IdempotencyKey", "of", "(Ljava/lang/String;)Lcom/example/inchworm/inchworm/core/IdempotencyKey;"⟩ : MethodName) prog_18_method_2_code 3 (Option.some (Jvm.ClassFile.FieldType.object "com/example/inchworm/inchworm/core/IdempotencyKey")) [] ({ frames := 4, cells := 3, slots := 17, locals := 53 } : Room) #[(.ref a)] h0 [] (fun v h so => ∃ x : Addr, v = some (.ref x) ∧ Ext h0 h ∧ Exa Z h x "com/example/inchworm/inchworm/core/IdempotencyKey" ∧ Fld Z h x "com/example/inchworm/inchworm/core/IdempotencyKey" "value" "Ljava/lang/String;" (.ref a)) := by
  refine own_enter (plainFor_of_name pn_6) C.ew (F0 := fun m => mkF m 0 #[vR a, .unset, .unset] []) (fun m => by first | (simp [entryFrame, mkF, argsToLocals, Value.category]; done) | rfl) ?_
  intro p e s m below meth c s₁ G hx hby hml hret hnm W0 S0 go fin
  have z0 : Z.heap.size ≤ h0.size := W0.sz
  show G s₁ (mkF m 0 #[vR a, .unset, .unset] [])
  have hl_cs : cs.length ≤ 4000 := by omega
  refine go (g' := (mkF m 1 #[vR a, .unset, .unset] [(.ref a)])) (fun _ k => XS.aloadN W0.here hx rfl (hb hby d29_0) rfl rfl k) ?_
  obtain ⟨x1, vm1, T1, h1, W1, E1, C1, st1⟩ := own_ldcO W0 hx (w123 C) (own_wS C) (g := (mkF m 1 #[vR a, .unset, .unset] [(.ref a)])) rfl (hb hby d29_1) (n := 12) (by decide) (nle rfl) (nle rfl) (nle rfl)
  have z2 : h0.size ≤ h1.size := E1.1
  refine go (g' := (mkF m 3 #[vR a, .unset, .unset] [(.ref x1), (.ref a)])) (st1) ?_
  obtain ⟨v3, so3, vm3, T3, h3, W3, C3, q3, hso3, st3⟩ := own_static W1 hx (y := (⟨"java/util/Objects", "requireNonNull", "(Ljava/lang/Object;Ljava/lang/String;)Ljava/lang/Object;"⟩ : MethodName)) (w62 C) (w63 C) (w64 C) (w65 C) (by decide) (rm_nonnull C h1 a x1) (fun _ q => nomatch q) (Wd := 0) (nle rfl) (nle rfl) (nle rfl) (nle rfl) (g := (mkF m 3 #[vR a, .unset, .unset] [(.ref x1), (.ref a)])) rfl (by rw [hml]; rfl) (argsL := [(.ref a), (.ref x1)]) (rest := []) (lenOf pd_16 rfl) rfl rfl (nle rfl) (hb hby d29_3)
  obtain ⟨rfl, rfl⟩ := q3
  refine go (g' := (mkF m 6 #[vR a, .unset, .unset] [(.ref a)])) (st3) ?_
  refine go (g' := (mkF m 8 #[vR a, .unset, .unset] [(.ref a)])) (fun _ k => XS.pop W3.here hx rfl (hb hby d29_6) rfl rfl (XS.aloadN W3.here hx rfl (hb hby d29_7) rfl rfl k)) ?_
  have X5 : Ext h0 h1 := own_xt (own_xr h0) E1
  have f6 : Str Z h1 a cs := Sa.ext X5
  obtain ⟨T4, W4, st4⟩ := own_semp W3 hx (own_wem C) (w115 C) (w116 C) (w118 C) (w117 C) (w13 C) f6 hl_cs (Wd := 0) (nle rfl) (nle rfl) (nle rfl) (nle rfl) (g := (mkF m 8 #[vR a, .unset, .unset] [(.ref a)])) rfl (by rw [hml]; rfl) rfl (nle rfl) (hb hby d29_8)
  refine go (g' := (mkF m 11 #[vR a, .unset, .unset] [(.int (if cs.length = 0 then 1 else 0))])) (st4) ?_
  refine go (g' := (mkF m 25 #[vR a, .unset, .unset] [(.ref a)])) (fun _ k => XS.ifYes W4.here hx rfl (pc0 := 11) (pc' := 24) rfl (hb hby d29_11) rfl ((if0 _ _).trans (teq (if_neg (Nat.ne_of_gt l0))).1) (by decide) (by decide) (XS.aloadN W4.here hx rfl (hb hby d29_24) rfl rfl k)) ?_
  obtain ⟨T7, W7, st7⟩ := own_slen W4 hx (own_wln C) (w69 C) (w70 C) (w72 C) (w71 C) (w13 C) f6 C.cs hl_cs (Wd := 0) (nle rfl) (nle rfl) (nle rfl) (nle rfl) (g := (mkF m 25 #[vR a, .unset, .unset] [(.ref a)])) rfl (by rw [hml]; rfl) rfl (nle rfl) (hb hby d29_25)
  refine go (g' := (mkF m 28 #[vR a, .unset, .unset] [(.int (Int32.ofNat cs.length))])) (st7) ?_
  refine go (g' := (mkF m 53 #[vR a, .val vZ, .unset] [])) (fun _ k => XS.sipush W7.here hx rfl (hb hby d29_28) (XS.icmpYes W7.here hx rfl (pc0 := 31) (pc' := 51) rfl (hb hby d29_31) rfl (flt (fun q => absurd ((own_ltn (i := 255) (by decide) (by omega)).mp q) (by omega))).2.2.2 (by decide) (by decide) (XS.iconst W7.here hx rfl (hb hby d29_51) (XS.istoreN W7.here hx rfl (hb hby d29_52) rfl (l' := #[vR a, .val vZ, .unset]) rfl k)))) ?_
  have e0_ : (0 : Int32) = Int32.ofNat 0 := rfl
  show G T7 (mkF m 53 #[vR a, vI (Int32.ofNat 0), .unset] [])
  refine go (g' := (mkF m 55 #[vR a, vI (Int32.ofNat 0), .unset] [(.ref a), (.int (Int32.ofNat 0))])) (fun _ k => XS.iloadN W7.here hx rfl (hb hby d29_53) rfl (XS.aloadN W7.here hx rfl (hb hby d29_54) rfl rfl k)) ?_
  obtain ⟨T8, W8, st8⟩ := own_slen W7 hx (own_wln C) (w69 C) (w70 C) (w72 C) (w71 C) (w13 C) f6 C.cs hl_cs (Wd := 1) (nle rfl) (nle rfl) (nle rfl) (nle rfl) (g := (mkF m 55 #[vR a, vI (Int32.ofNat 0), .unset] [(.ref a), (.int (Int32.ofNat 0))])) rfl (by rw [hml]; rfl) rfl (nle rfl) (hb hby d29_55)
  refine go (g' := (mkF m 58 #[vR a, vI (Int32.ofNat 0), .unset] [(.int (Int32.ofNat cs.length)), (.int (Int32.ofNat 0))])) (st8) ?_
  refine go (g' := (mkF m 63 #[vR a, vI (Int32.ofNat 0), .unset] [(.int (Int32.ofNat 0)), (.ref a)])) (fun _ k => XS.icmpNo W8.here hx rfl (hb hby d29_58) rfl (tlt ((own_ltn (by omega) (by omega)).mpr (by omega))).2.1 (XS.aloadN W8.here hx rfl (hb hby d29_61) rfl rfl (XS.iloadN W8.here hx rfl (hb hby d29_62) rfl k))) ?_
  obtain ⟨T9, W9, st9⟩ := own_sch W8 hx (own_wch C) (w79 C) (w80 C) (w82 C) (w81 C) (w13 C) f6 C.cs C.sf hl_cs (i := 0) (j := (Int32.ofNat 0)) (by omega) rfl (Wd := 0) (nle rfl) (nle rfl) (nle rfl) (nle rfl) (g := (mkF m 63 #[vR a, vI (Int32.ofNat 0), .unset] [(.int (Int32.ofNat 0)), (.ref a)])) rfl (by rw [hml]; rfl) rfl (nle rfl) (hb hby d29_63)
  refine go (g' := (mkF m 66 #[vR a, vI (Int32.ofNat 0), .unset] [(.int (cs.getD 0 0))])) (st9) ?_
  refine go (g' := (mkF m 100 #[vR a, vI ((Int32.ofNat 0) + (1 : Int32)), vI (cs.getD 0 0)] [])) (fun _ k => XS.istoreN W9.here hx rfl (hb hby d29_66) rfl (l' := #[vR a, vI (Int32.ofNat 0), vI (cs.getD 0 0)]) rfl (XS.iloadN W9.here hx rfl (hb hby d29_67) rfl (XS.bipush W9.here hx rfl (hb hby d29_68) (XS.icmpNo W9.here hx rfl (hb hby d29_70) rfl (flt (own_gd hr (i := 0) (by omega)).1).1 (XS.iloadN W9.here hx rfl (hb hby d29_73) rfl (XS.bipush W9.here hx rfl (hb hby d29_74) (XS.icmpYes W9.here hx rfl (pc0 := 76) (pc' := 97) rfl (hb hby d29_76) rfl (flt (own_gd hr (i := 0) (by omega)).2).2.2.2 (by decide) (by decide) (XS.iinc W9.here hx rfl (hb hby d29_97) rfl (l' := #[vR a, vI ((Int32.ofNat 0) + (1 : Int32)), vI (cs.getD 0 0)]) rfl k)))))))) ?_
  refine go (g' := (mkF m 53 #[vR a, vI ((Int32.ofNat 0) + (1 : Int32)), vI (cs.getD 0 0)] [])) (fun _ k => XS.goto W9.here hx rfl (pc0 := 100) (pc' := 53) rfl (hb hby d29_100) (by decide) (by decide) k) ?_
  have loop : ∀ (k i : Nat) (T : State) (c2 : Int32), i + k = cs.length → Wk Z a0 own_EL "com/example/inchworm/inchworm/core/IdempotencyKey" p l e ({ frames := 4, cells := 3, slots := 17, locals := 53 } : Room) s m #[(.ref a)] below meth c vm3 T h1 2 16 → G T (mkF m 53 #[vR a, vI (Int32.ofNat i), vI c2] []) := by
    intro k
    induction k with
    | zero =>
      intro i T c2 hik WT
      refine go (g' := (mkF m 55 #[vR a, vI (Int32.ofNat i), vI c2] [(.ref a), (.int (Int32.ofNat i))])) (fun _ k => XS.iloadN WT.here hx rfl (hb hby d29_53) rfl (XS.aloadN WT.here hx rfl (hb hby d29_54) rfl rfl k)) ?_
      obtain ⟨T10, W10, st10⟩ := own_slen WT hx (own_wln C) (w69 C) (w70 C) (w72 C) (w71 C) (w13 C) f6 C.cs hl_cs (Wd := 1) (nle rfl) (nle rfl) (nle rfl) (nle rfl) (g := (mkF m 55 #[vR a, vI (Int32.ofNat i), vI c2] [(.ref a), (.int (Int32.ofNat i))])) rfl (by rw [hml]; rfl) rfl (nle rfl) (hb hby d29_55)
      refine go (g' := (mkF m 58 #[vR a, vI (Int32.ofNat i), vI c2] [(.int (Int32.ofNat cs.length)), (.int (Int32.ofNat i))])) (st10) ?_
      refine go (g' := (mkF m 103 #[vR a, vI (Int32.ofNat i), vI c2] [])) (fun _ k => XS.icmpYes W10.here hx rfl (pc0 := 58) (pc' := 103) rfl (hb hby d29_58) rfl (flt (fun q => absurd ((own_ltn (by omega) (by omega)).mp q) (by omega))).2.1 (by decide) (by decide) k) ?_
      obtain ⟨x11, T11, h11, g11, W11, E11, A11, D11, U11, st11⟩ := own_new W10 hx (w124 C) (w125 C) (w57 C) (g := (mkF m 103 #[vR a, vI (Int32.ofNat i), vI c2] [])) rfl (hb hby d29_103) (nle rfl) (nle rfl)
      have z12 : h1.size ≤ h11.size := E11.1
      have l11 : ltN x11 h11.size := A11.lt
      have F11_value : Fld Z h11 x11 "com/example/inchworm/inchworm/core/IdempotencyKey" "value" "Ljava/lang/String;" .null := D11 (Or.inr (w131 C)) (ty := (.object "java/lang/String")) (by decide)
      refine go (g' := (mkF m 106 #[vR a, vI (Int32.ofNat i), vI c2] [(.ref x11)])) (st11) ?_
      refine go (g' := (mkF m 108 #[vR a, vI (Int32.ofNat i), vI c2] [(.ref a), (.ref x11), (.ref x11)])) (fun _ k => XS.dup W11.here hx rfl (hb hby d29_106) rfl rfl (XS.aloadN W11.here hx rfl (hb hby d29_107) rfl rfl k)) ?_
      obtain ⟨v13, so13, vm13, T13, h13, W13, C13, q13, hso13, st13⟩ := own_special W11 hx (y := (⟨"com/example/inchworm/inchworm/core/IdempotencyKey", "<init>", "(Ljava/lang/String;)V"⟩ : MethodName)) rfl (w126 C) (w127 C) (w57 C) (w128 C) (by decide) (rm_ctor26 C h11 x11 (.ref a) rfl F11_value A11 (by omega)) (fun _ q => nomatch q) (Wd := 1) (nle rfl) (nle rfl) (nle rfl) (nle rfl) (g := (mkF m 108 #[vR a, vI (Int32.ofNat i), vI c2] [(.ref a), (.ref x11), (.ref x11)])) rfl (by rw [hml]; rfl) (a := x11) (argsL := [(.ref a)]) (rest := [(.ref x11)]) (lenOf pd_17 rfl) rfl rfl (nle rfl) (hb hby d29_108)
      obtain ⟨rfl, K13, E13, F13_value⟩ := q13
      have z14 : h11.size ≤ h13.size := K13.1
      refine go (g' := (mkF m 111 #[vR a, vI (Int32.ofNat i), vI c2] [(.ref x11)])) (st13) ?_
      have X15 : Ext h0 h11 := own_xt X5 E11
      have X16 : Ext h0 h13 := own_xk X15 K13 (allS (by omega) all0)
      exact fin (v := some (.ref x11)) (so := []) W13 (nle rfl) (nle rfl) (⟨_, rfl, X16, E13, F13_value⟩) (fun _ q => nomatch q) (fun q => nomatch q) (own_retA W13 hx hret rfl rfl rfl (hb hby d29_111))
    | succ k ih =>
      intro i T c2 hik WT
      refine go (g' := (mkF m 55 #[vR a, vI (Int32.ofNat i), vI c2] [(.ref a), (.int (Int32.ofNat i))])) (fun _ k => XS.iloadN WT.here hx rfl (hb hby d29_53) rfl (XS.aloadN WT.here hx rfl (hb hby d29_54) rfl rfl k)) ?_
      obtain ⟨T17, W17, st17⟩ := own_slen WT hx (own_wln C) (w69 C) (w70 C) (w72 C) (w71 C) (w13 C) f6 C.cs hl_cs (Wd := 1) (nle rfl) (nle rfl) (nle rfl) (nle rfl) (g := (mkF m 55 #[vR a, vI (Int32.ofNat i), vI c2] [(.ref a), (.int (Int32.ofNat i))])) rfl (by rw [hml]; rfl) rfl (nle rfl) (hb hby d29_55)
      refine go (g' := (mkF m 58 #[vR a, vI (Int32.ofNat i), vI c2] [(.int (Int32.ofNat cs.length)), (.int (Int32.ofNat i))])) (st17) ?_
      refine go (g' := (mkF m 63 #[vR a, vI (Int32.ofNat i), vI c2] [(.int (Int32.ofNat i)), (.ref a)])) (fun _ k => XS.icmpNo W17.here hx rfl (hb hby d29_58) rfl (tlt ((own_ltn (by omega) (by omega)).mpr (by omega))).2.1 (XS.aloadN W17.here hx rfl (hb hby d29_61) rfl rfl (XS.iloadN W17.here hx rfl (hb hby d29_62) rfl k))) ?_
      obtain ⟨T18, W18, st18⟩ := own_sch W17 hx (own_wch C) (w79 C) (w80 C) (w82 C) (w81 C) (w13 C) f6 C.cs C.sf hl_cs (i := i) (j := (Int32.ofNat i)) (by omega) rfl (Wd := 0) (nle rfl) (nle rfl) (nle rfl) (nle rfl) (g := (mkF m 63 #[vR a, vI (Int32.ofNat i), vI c2] [(.int (Int32.ofNat i)), (.ref a)])) rfl (by rw [hml]; rfl) rfl (nle rfl) (hb hby d29_63)
      refine go (g' := (mkF m 66 #[vR a, vI (Int32.ofNat i), vI c2] [(.int (cs.getD i 0))])) (st18) ?_
      refine go (g' := (mkF m 100 #[vR a, vI ((Int32.ofNat i) + (1 : Int32)), vI (cs.getD i 0)] [])) (fun _ k => XS.istoreN W18.here hx rfl (hb hby d29_66) rfl (l' := #[vR a, vI (Int32.ofNat i), vI (cs.getD i 0)]) rfl (XS.iloadN W18.here hx rfl (hb hby d29_67) rfl (XS.bipush W18.here hx rfl (hb hby d29_68) (XS.icmpNo W18.here hx rfl (hb hby d29_70) rfl (flt (own_gd hr (i := i) (by omega)).1).1 (XS.iloadN W18.here hx rfl (hb hby d29_73) rfl (XS.bipush W18.here hx rfl (hb hby d29_74) (XS.icmpYes W18.here hx rfl (pc0 := 76) (pc' := 97) rfl (hb hby d29_76) rfl (flt (own_gd hr (i := i) (by omega)).2).2.2.2 (by decide) (by decide) (XS.iinc W18.here hx rfl (hb hby d29_97) rfl (l' := #[vR a, vI ((Int32.ofNat i) + (1 : Int32)), vI (cs.getD i 0)]) rfl k)))))))) ?_
      refine go (g' := (mkF m 53 #[vR a, vI ((Int32.ofNat i) + (1 : Int32)), vI (cs.getD i 0)] [])) (fun _ k => XS.goto W18.here hx rfl (pc0 := 100) (pc' := 53) rfl (hb hby d29_100) (by decide) (by decide) k) ?_
      rw [own_inc]
      exact ih (i + 1) _ _ (by omega) W18
  rw [own_inc]
  exact loop (cs.length - 1) 1 _ _ (by omega) W9
set_option maxRecDepth 65536 in
set_option maxHeartbeats 40000000 in
theorem rm_allowed {l : Launch} {Z : State} {a0 : Array Value} (C : Cx Z a0) (h0 : Heap) (p1 : Int32) :
    Ct l Z a0 own_EL (⟨"com/example/inchworm/inchworm/core/IdempotencyKeyParseHeaderPinLaw", "keyChar", "(I)C"⟩ : MethodName) method_3_code 1 (Option.some Jvm.ClassFile.FieldType.char) [] ({ frames := 0, cells := 0, slots := 0, locals := 0 } : Room) #[(.int p1)] h0 [] (fun v h so => ∃ c : Int32, v = some (.int c) ∧ h0 = h ∧ ¬ c < (33 : Int32) ∧ ¬ (126 : Int32) < c) := by
  refine own_enter (plainFor_of_name pn_8) C.ew (F0 := fun m => mkF m 0 #[vI p1] []) (fun m => by first | (simp [entryFrame, mkF, argsToLocals, Value.category]; done) | rfl) ?_
  intro p e s m below meth c s₁ G hx hby hml hret hnm W0 S0 go fin
  have z0 : Z.heap.size ≤ h0.size := W0.sz
  show G s₁ (mkF m 0 #[vI p1] [])
  refine go (g' := (mkF m 3 #[vI p1] [(.int p1), (.int (33 : Int32))])) (fun _ k => XS.bipush W0.here hx rfl (hb hby d30_0) (XS.iloadN W0.here hx rfl (hb hby d30_2) rfl k)) ?_
  refine go (g' := (mkF m 5 #[vI p1] [(.int (2147483647 : Int32)), (.int p1), (.int (33 : Int32))])) (own_ldcI W0 hx (w0 C) (g := (mkF m 3 #[vI p1] [(.int p1), (.int (33 : Int32))])) rfl (hb hby d30_3)) ?_
  refine go (g' := (mkF m 8 #[vI p1] [(.int (94 : Int32)), (.int (p1 &&& (2147483647 : Int32))), (.int (33 : Int32))])) (fun _ k => XS.iand W0.here hx rfl (hb hby d30_5) rfl (XS.bipush W0.here hx rfl (hb hby d30_6) k)) ?_
  refine go (g' := (mkF m 9 #[vI p1] [(.int ((p1 &&& (2147483647 : Int32)) % (94 : Int32))), (.int (33 : Int32))])) (own_irem W0 hx (g := (mkF m 8 #[vI p1] [(.int (94 : Int32)), (.int (p1 &&& (2147483647 : Int32))), (.int (33 : Int32))])) rfl (hb hby d30_8) rfl (by decide)) ?_
  refine go (g' := (mkF m 11 #[vI p1] [(.int (((33 : Int32) + ((p1 &&& (2147483647 : Int32)) % (94 : Int32))).toUInt32.toUInt16.toUInt32.toInt32))])) (fun _ k => XS.iadd W0.here hx rfl (hb hby d30_9) rfl (XS.i2c W0.here hx rfl (hb hby d30_10) rfl k)) ?_
  exact fin (v := some (.int (((33 : Int32) + ((p1 &&& (2147483647 : Int32)) % (94 : Int32))).toUInt32.toUInt16.toUInt32.toInt32))) (so := []) W0 (nle rfl) (nle rfl) (⟨_, rfl, rfl, own_allowed p1⟩) (fun _ q => nomatch q) (fun q => nomatch q) (own_retI W0 hx hret (by decide) (own_narc _) (hb hby d30_11))
set_option maxRecDepth 65536 in
set_option maxHeartbeats 40000000 in
theorem rm_ows {l : Launch} {Z : State} {a0 : Array Value} (C : Cx Z a0) (h0 : Heap) (c1 : Int32) :
    Ct l Z a0 own_EL (⟨"com/example/inchworm/inchworm/core/IdempotencyKey", "isOptionalWhitespace", "(C)Z"⟩ : MethodName) prog_18_method_10_code 1 (Option.some Jvm.ClassFile.FieldType.boolean) [] ({ frames := 0, cells := 0, slots := 0, locals := 0 } : Room) #[(.int c1)] h0 [] (fun v h so => ∃ b : Int32, v = some (.int b) ∧ h0 = h ∧ ((b = 1 ∧ Ows c1) ∨ (b = 0 ∧ ¬ Ows c1))) := by
  refine own_enter (plainFor_of_name pn_6) C.ew (F0 := fun m => mkF m 0 #[vI c1] []) (fun m => by first | (simp [entryFrame, mkF, argsToLocals, Value.category]; done) | rfl) ?_
  intro p e s m below meth c s₁ G hx hby hml hret hnm W0 S0 go fin
  have z0 : Z.heap.size ≤ h0.size := W0.sz
  show G s₁ (mkF m 0 #[vI c1] [])
  refine go (g' := (mkF m 3 #[vI c1] [(.int (32 : Int32)), (.int c1)])) (fun _ k => XS.iloadN W0.here hx rfl (hb hby d31_0) rfl (XS.bipush W0.here hx rfl (hb hby d31_1) k)) ?_
  by_cases kb1 : c1 = (32 : Int32)
  · refine go (g' := (mkF m 17 #[vI c1] [(.int (1 : Int32))])) (fun _ k => XS.icmpYes W0.here hx rfl (pc0 := 3) (pc' := 12) rfl (hb hby d31_3) rfl (teq kb1).1 (by decide) (by decide) (XS.iconst W0.here hx rfl (hb hby d31_12) (XS.goto W0.here hx rfl (pc0 := 13) (pc' := 17) rfl (hb hby d31_13) (by decide) (by decide) k))) ?_
    exact fin (v := some (.int (1 : Int32))) (so := []) W0 (nle rfl) (nle rfl) (⟨_, rfl, rfl, Or.inl ⟨rfl, Or.inl kb1⟩⟩) (fun _ q => nomatch q) (fun q => nomatch q) (own_retI W0 hx hret (by decide) rfl (hb hby d31_17))
  · refine go (g' := (mkF m 9 #[vI c1] [(.int (9 : Int32)), (.int c1)])) (fun _ k => XS.icmpNo W0.here hx rfl (hb hby d31_3) rfl (feq kb1).1 (XS.iloadN W0.here hx rfl (hb hby d31_6) rfl (XS.bipush W0.here hx rfl (hb hby d31_7) k))) ?_
    by_cases kb2 : c1 = (9 : Int32)
    · refine go (g' := (mkF m 17 #[vI c1] [(.int (1 : Int32))])) (fun _ k => XS.icmpNo W0.here hx rfl (hb hby d31_9) rfl (teq kb2).2 (XS.iconst W0.here hx rfl (hb hby d31_12) (XS.goto W0.here hx rfl (pc0 := 13) (pc' := 17) rfl (hb hby d31_13) (by decide) (by decide) k))) ?_
      exact fin (v := some (.int (1 : Int32))) (so := []) W0 (nle rfl) (nle rfl) (⟨_, rfl, rfl, Or.inl ⟨rfl, Or.inr kb2⟩⟩) (fun _ q => nomatch q) (fun q => nomatch q) (own_retI W0 hx hret (by decide) rfl (hb hby d31_17))
    · refine go (g' := (mkF m 17 #[vI c1] [vZ])) (fun _ k => XS.icmpYes W0.here hx rfl (pc0 := 9) (pc' := 16) rfl (hb hby d31_9) rfl (feq kb2).2 (by decide) (by decide) (XS.iconst W0.here hx rfl (hb hby d31_16) k)) ?_
      exact fin (v := some vZ) (so := []) W0 (nle rfl) (nle rfl) (⟨_, rfl, rfl, Or.inr ⟨rfl, fun q => q.elim kb1 kb2⟩⟩) (fun _ q => nomatch q) (fun q => nomatch q) (own_retI W0 hx hret (by decide) rfl (hb hby d31_17))
set_option maxRecDepth 65536 in
set_option maxHeartbeats 40000000 in
theorem rm_strip {l : Launch} {Z : State} {a0 : Array Value} (C : Cx Z a0) (h0 : Heap) (a : Addr) (cs : List Int32) (Sa : Str Z h0 a cs) (i0 j0 : Nat) (hL : Lay cs i0 j0) :
    Ct l Z a0 own_EL (⟨"com/example/inchworm/inchworm/core/IdempotencyKey", "stripSurroundingWhitespace", "(Ljava/lang/String;)Ljava/lang/String;"⟩ : MethodName) prog_18_method_9_code 3 (Option.some (Jvm.ClassFile.FieldType.object "java/lang/String")) [] ({ frames := 5, cells := 2, slots := 16, locals := 92 } : Room) #[(.ref a)] h0 [] (fun v h so => ∃ x : Addr, v = some (.ref x) ∧ Ext h0 h ∧ Str Z h x ((cs.drop i0).take (j0 - i0))) := by
  refine own_enter (plainFor_of_name pn_6) C.ew (F0 := fun m => mkF m 0 #[vR a, .unset, .unset] []) (fun m => by first | (simp [entryFrame, mkF, argsToLocals, Value.category]; done) | rfl) ?_
  intro p e s m below meth c s₁ G hx hby hml hret hnm W0 S0 go fin
  have z0 : Z.heap.size ≤ h0.size := W0.sz
  show G s₁ (mkF m 0 #[vR a, .unset, .unset] [])
  obtain ⟨g1, g2, g3, h1, h2, h3, h4⟩ := id hL
  have hl_cs : cs.length ≤ 4000 := by omega
  refine go (g' := (mkF m 3 #[vR a, .val vZ, .unset] [(.ref a)])) (fun _ k => XS.iconst W0.here hx rfl (hb hby d32_0) (XS.istoreN W0.here hx rfl (hb hby d32_1) rfl (l' := #[vR a, .val vZ, .unset]) rfl (XS.aloadN W0.here hx rfl (hb hby d32_2) rfl rfl k))) ?_
  obtain ⟨T1, W1, st1⟩ := own_slen W0 hx (own_wln C) (w69 C) (w70 C) (w72 C) (w71 C) (w13 C) Sa C.cs hl_cs (Wd := 0) (nle rfl) (nle rfl) (nle rfl) (nle rfl) (g := (mkF m 3 #[vR a, .val vZ, .unset] [(.ref a)])) rfl (by rw [hml]; rfl) rfl (nle rfl) (hb hby d32_3)
  refine go (g' := (mkF m 6 #[vR a, .val vZ, .unset] [(.int (Int32.ofNat cs.length))])) (st1) ?_
  refine go (g' := (mkF m 7 #[vR a, .val vZ, vI (Int32.ofNat cs.length)] [])) (fun _ k => XS.istoreN W1.here hx rfl (hb hby d32_6) rfl (l' := #[vR a, .val vZ, vI (Int32.ofNat cs.length)]) rfl k) ?_
  have loop2 : ∀ (k j : Nat) (T : State) (vm2 : Vm), j = j0 + k → j ≤ cs.length → Wk Z a0 own_EL "com/example/inchworm/inchworm/core/IdempotencyKey" p l e ({ frames := 5, cells := 2, slots := 16, locals := 92 } : Room) s m #[(.ref a)] below meth c vm2 T h0 0 0 → G T (mkF m 29 #[vR a, vI (Int32.ofNat i0), vI (Int32.ofNat j)] []) := by
    intro k
    induction k with
    | zero =>
      intro j T vm2 hj hjl WT
      refine go (g' := (mkF m 38 #[vR a, vI (Int32.ofNat i0), vI (Int32.ofNat j)] [(.int ((Int32.ofNat j) - (1 : Int32))), (.ref a)])) (fun _ k => XS.iloadN WT.here hx rfl (hb hby d32_29) rfl (XS.iloadN WT.here hx rfl (hb hby d32_30) rfl (XS.icmpNo WT.here hx rfl (hb hby d32_31) rfl (tlt ((own_ltn (by omega) (by omega)).mpr (by omega))).2.2.2 (XS.aloadN WT.here hx rfl (hb hby d32_34) rfl rfl (XS.iloadN WT.here hx rfl (hb hby d32_35) rfl (XS.iconst WT.here hx rfl (hb hby d32_36) (XS.isub WT.here hx rfl (hb hby d32_37) rfl k))))))) ?_
      rw [show ((Int32.ofNat j) - (1 : Int32)) = (Int32.ofNat (j - 1)) from own_subn (b := 1) (by omega)]
      obtain ⟨T2, W2, st2⟩ := own_sch WT hx (own_wch C) (w79 C) (w80 C) (w82 C) (w81 C) (w13 C) Sa C.cs C.sf hl_cs (i := (j - 1)) (j := (Int32.ofNat (j - 1))) (by omega) rfl (Wd := 0) (nle rfl) (nle rfl) (nle rfl) (nle rfl) (g := (mkF m 38 #[vR a, vI (Int32.ofNat i0), vI (Int32.ofNat j)] [(.int (Int32.ofNat (j - 1))), (.ref a)])) rfl (by rw [hml]; rfl) rfl (nle rfl) (hb hby d32_38)
      refine go (g' := (mkF m 41 #[vR a, vI (Int32.ofNat i0), vI (Int32.ofNat j)] [(.int (cs.getD (j - 1) 0))])) (st2) ?_
      obtain ⟨v3, so3, vm3, T3, h3, W3, C3, q3, hso3, st3⟩ := own_static W2 hx (y := (⟨"com/example/inchworm/inchworm/core/IdempotencyKey", "isOptionalWhitespace", "(C)Z"⟩ : MethodName)) (w100 C) (w101 C) (w57 C) (w102 C) (by decide) (rm_ows C h0 (cs.getD (j - 1) 0)) (fun _ q => nomatch q) (Wd := 0) (nle rfl) (nle rfl) (nle rfl) (nle rfl) (g := (mkF m 41 #[vR a, vI (Int32.ofNat i0), vI (Int32.ofNat j)] [(.int (cs.getD (j - 1) 0))])) rfl (by rw [hml]; rfl) (argsL := [(.int (cs.getD (j - 1) 0))]) (rest := []) (lenOf pd_0 rfl) rfl rfl (nle rfl) (hb hby d32_41)
      obtain ⟨b3, rfl, rfl, hb3⟩ := q3
      refine go (g' := (mkF m 44 #[vR a, vI (Int32.ofNat i0), vI (Int32.ofNat j)] [(.int b3)])) (st3) ?_
      refine go (g' := (mkF m 56 #[vR a, vI (Int32.ofNat i0), vI (Int32.ofNat j)] [(.int (Int32.ofNat j)), (.int (Int32.ofNat i0)), (.ref a)])) (fun _ k => XS.ifYes W3.here hx rfl (pc0 := 44) (pc' := 53) rfl (hb hby d32_44) rfl ((if0 _ _).trans (teq (own_ws0 hb3 (by rw [show j - 1 = j0 - 1 by omega]; exact h4))).1) (by decide) (by decide) (XS.aloadN W3.here hx rfl (hb hby d32_53) rfl rfl (XS.iloadN W3.here hx rfl (hb hby d32_54) rfl (XS.iloadN W3.here hx rfl (hb hby d32_55) rfl k)))) ?_
      obtain ⟨v4, so4, vm4, T4, h4, W4, C4, q4, hso4, st4⟩ := own_virtual W3 hx (y := (⟨"java/lang/String", "substring", "(II)Ljava/lang/String;"⟩ : MethodName)) (z := (⟨"java/lang/String", "substring", "(II)Ljava/lang/String;"⟩ : MethodName)) (w103 C) (w104 C) (w106 C) (w105 C) (w14 C) (w107 C) (by decide) (own_nf W3 (w106 C)) Sa.1 (rm_substr C h0 a cs Sa i0 j (by omega) (by omega) (by omega)) (fun _ q => nomatch q) (Wd := 0) (nle rfl) (nle rfl) (nle rfl) (nle rfl) (g := (mkF m 56 #[vR a, vI (Int32.ofNat i0), vI (Int32.ofNat j)] [(.int (Int32.ofNat j)), (.int (Int32.ofNat i0)), (.ref a)])) rfl (by rw [hml]; rfl) (argsL := [(.int (Int32.ofNat i0)), (.int (Int32.ofNat j))]) (rest := []) (lenOf pd_18 rfl) rfl rfl (nle rfl) (hb hby d32_56)
      obtain ⟨x4, rfl, E4, S4⟩ := q4
      have z5 : h0.size ≤ h4.size := E4.1
      refine go (g' := (mkF m 59 #[vR a, vI (Int32.ofNat i0), vI (Int32.ofNat j)] [(.ref x4)])) (st4) ?_
      have X6 : Ext h0 h4 := own_xt (own_xr h0) E4
      exact fin (v := some (.ref x4)) (so := []) W4 (nle rfl) (nle rfl) (⟨_, rfl, X6, (show j - i0 = j0 - i0 by omega) ▸ S4⟩) (fun _ q => nomatch q) (fun q => nomatch q) (own_retA W4 hx hret rfl rfl rfl (hb hby d32_59))
    | succ k ih =>
      intro j T vm2 hj hjl WT
      refine go (g' := (mkF m 38 #[vR a, vI (Int32.ofNat i0), vI (Int32.ofNat j)] [(.int ((Int32.ofNat j) - (1 : Int32))), (.ref a)])) (fun _ k => XS.iloadN WT.here hx rfl (hb hby d32_29) rfl (XS.iloadN WT.here hx rfl (hb hby d32_30) rfl (XS.icmpNo WT.here hx rfl (hb hby d32_31) rfl (tlt ((own_ltn (by omega) (by omega)).mpr (by omega))).2.2.2 (XS.aloadN WT.here hx rfl (hb hby d32_34) rfl rfl (XS.iloadN WT.here hx rfl (hb hby d32_35) rfl (XS.iconst WT.here hx rfl (hb hby d32_36) (XS.isub WT.here hx rfl (hb hby d32_37) rfl k))))))) ?_
      rw [show ((Int32.ofNat j) - (1 : Int32)) = (Int32.ofNat (j - 1)) from own_subn (b := 1) (by omega)]
      obtain ⟨T7, W7, st7⟩ := own_sch WT hx (own_wch C) (w79 C) (w80 C) (w82 C) (w81 C) (w13 C) Sa C.cs C.sf hl_cs (i := (j - 1)) (j := (Int32.ofNat (j - 1))) (by omega) rfl (Wd := 0) (nle rfl) (nle rfl) (nle rfl) (nle rfl) (g := (mkF m 38 #[vR a, vI (Int32.ofNat i0), vI (Int32.ofNat j)] [(.int (Int32.ofNat (j - 1))), (.ref a)])) rfl (by rw [hml]; rfl) rfl (nle rfl) (hb hby d32_38)
      refine go (g' := (mkF m 41 #[vR a, vI (Int32.ofNat i0), vI (Int32.ofNat j)] [(.int (cs.getD (j - 1) 0))])) (st7) ?_
      obtain ⟨v8, so8, vm8, T8, h8, W8, C8, q8, hso8, st8⟩ := own_static W7 hx (y := (⟨"com/example/inchworm/inchworm/core/IdempotencyKey", "isOptionalWhitespace", "(C)Z"⟩ : MethodName)) (w100 C) (w101 C) (w57 C) (w102 C) (by decide) (rm_ows C h0 (cs.getD (j - 1) 0)) (fun _ q => nomatch q) (Wd := 0) (nle rfl) (nle rfl) (nle rfl) (nle rfl) (g := (mkF m 41 #[vR a, vI (Int32.ofNat i0), vI (Int32.ofNat j)] [(.int (cs.getD (j - 1) 0))])) rfl (by rw [hml]; rfl) (argsL := [(.int (cs.getD (j - 1) 0))]) (rest := []) (lenOf pd_0 rfl) rfl rfl (nle rfl) (hb hby d32_41)
      obtain ⟨b8, rfl, rfl, hb8⟩ := q8
      refine go (g' := (mkF m 44 #[vR a, vI (Int32.ofNat i0), vI (Int32.ofNat j)] [(.int b8)])) (st8) ?_
      refine go (g' := (mkF m 29 #[vR a, vI (Int32.ofNat i0), vI ((Int32.ofNat j) + (-1 : Int32))] [])) (fun _ k => XS.ifNo W8.here hx rfl (hb hby d32_44) rfl ((if0 _ _).trans (feq (own_ws1 hb8 (h3 (j - 1) (by omega) (by omega)))).1) (XS.iinc W8.here hx rfl (hb hby d32_47) rfl (l' := #[vR a, vI (Int32.ofNat i0), vI ((Int32.ofNat j) + (-1 : Int32))]) rfl (XS.goto W8.here hx rfl (pc0 := 50) (pc' := 29) rfl (hb hby d32_50) (by decide) (by decide) k))) ?_
      rw [show ((Int32.ofNat j) + (-1 : Int32)) = (Int32.ofNat (j - 1)) from own_dec (by omega)]
      exact ih (j - 1) _ _ (by omega) (by omega) W8
  have loop1 : ∀ (k i : Nat) (T : State) (vm2 : Vm), i + k = i0 → Wk Z a0 own_EL "com/example/inchworm/inchworm/core/IdempotencyKey" p l e ({ frames := 5, cells := 2, slots := 16, locals := 92 } : Room) s m #[(.ref a)] below meth c vm2 T h0 0 0 → G T (mkF m 7 #[vR a, vI (Int32.ofNat i), vI (Int32.ofNat cs.length)] []) := by
    intro k
    induction k with
    | zero =>
      intro i T vm2 hj WT
      refine go (g' := (mkF m 14 #[vR a, vI (Int32.ofNat i), vI (Int32.ofNat cs.length)] [(.int (Int32.ofNat i)), (.ref a)])) (fun _ k => XS.iloadN WT.here hx rfl (hb hby d32_7) rfl (XS.iloadN WT.here hx rfl (hb hby d32_8) rfl (XS.icmpNo WT.here hx rfl (hb hby d32_9) rfl (tlt ((own_ltn (by omega) (by omega)).mpr (by omega))).2.1 (XS.aloadN WT.here hx rfl (hb hby d32_12) rfl rfl (XS.iloadN WT.here hx rfl (hb hby d32_13) rfl k))))) ?_
      obtain ⟨T9, W9, st9⟩ := own_sch WT hx (own_wch C) (w79 C) (w80 C) (w82 C) (w81 C) (w13 C) Sa C.cs C.sf hl_cs (i := i) (j := (Int32.ofNat i)) (by omega) rfl (Wd := 0) (nle rfl) (nle rfl) (nle rfl) (nle rfl) (g := (mkF m 14 #[vR a, vI (Int32.ofNat i), vI (Int32.ofNat cs.length)] [(.int (Int32.ofNat i)), (.ref a)])) rfl (by rw [hml]; rfl) rfl (nle rfl) (hb hby d32_14)
      refine go (g' := (mkF m 17 #[vR a, vI (Int32.ofNat i), vI (Int32.ofNat cs.length)] [(.int (cs.getD i 0))])) (st9) ?_
      obtain ⟨v10, so10, vm10, T10, h10, W10, C10, q10, hso10, st10⟩ := own_static W9 hx (y := (⟨"com/example/inchworm/inchworm/core/IdempotencyKey", "isOptionalWhitespace", "(C)Z"⟩ : MethodName)) (w100 C) (w101 C) (w57 C) (w102 C) (by decide) (rm_ows C h0 (cs.getD i 0)) (fun _ q => nomatch q) (Wd := 0) (nle rfl) (nle rfl) (nle rfl) (nle rfl) (g := (mkF m 17 #[vR a, vI (Int32.ofNat i), vI (Int32.ofNat cs.length)] [(.int (cs.getD i 0))])) rfl (by rw [hml]; rfl) (argsL := [(.int (cs.getD i 0))]) (rest := []) (lenOf pd_0 rfl) rfl rfl (nle rfl) (hb hby d32_17)
      obtain ⟨b10, rfl, rfl, hb10⟩ := q10
      refine go (g' := (mkF m 20 #[vR a, vI (Int32.ofNat i), vI (Int32.ofNat cs.length)] [(.int b10)])) (st10) ?_
      refine go (g' := (mkF m 29 #[vR a, vI (Int32.ofNat i), vI (Int32.ofNat cs.length)] [])) (fun _ k => XS.ifYes W10.here hx rfl (pc0 := 20) (pc' := 29) rfl (hb hby d32_20) rfl ((if0 _ _).trans (teq (own_ws0 hb10 (by rw [show i = i0 by omega]; exact h2))).1) (by decide) (by decide) k) ?_
      rw [show (Int32.ofNat i) = (Int32.ofNat i0) from by rw [show i = i0 by omega]]
      exact loop2 (cs.length - j0) cs.length _ _ (by omega) (by omega) W10
    | succ k ih =>
      intro i T vm2 hj WT
      refine go (g' := (mkF m 14 #[vR a, vI (Int32.ofNat i), vI (Int32.ofNat cs.length)] [(.int (Int32.ofNat i)), (.ref a)])) (fun _ k => XS.iloadN WT.here hx rfl (hb hby d32_7) rfl (XS.iloadN WT.here hx rfl (hb hby d32_8) rfl (XS.icmpNo WT.here hx rfl (hb hby d32_9) rfl (tlt ((own_ltn (by omega) (by omega)).mpr (by omega))).2.1 (XS.aloadN WT.here hx rfl (hb hby d32_12) rfl rfl (XS.iloadN WT.here hx rfl (hb hby d32_13) rfl k))))) ?_
      obtain ⟨T11, W11, st11⟩ := own_sch WT hx (own_wch C) (w79 C) (w80 C) (w82 C) (w81 C) (w13 C) Sa C.cs C.sf hl_cs (i := i) (j := (Int32.ofNat i)) (by omega) rfl (Wd := 0) (nle rfl) (nle rfl) (nle rfl) (nle rfl) (g := (mkF m 14 #[vR a, vI (Int32.ofNat i), vI (Int32.ofNat cs.length)] [(.int (Int32.ofNat i)), (.ref a)])) rfl (by rw [hml]; rfl) rfl (nle rfl) (hb hby d32_14)
      refine go (g' := (mkF m 17 #[vR a, vI (Int32.ofNat i), vI (Int32.ofNat cs.length)] [(.int (cs.getD i 0))])) (st11) ?_
      obtain ⟨v12, so12, vm12, T12, h12, W12, C12, q12, hso12, st12⟩ := own_static W11 hx (y := (⟨"com/example/inchworm/inchworm/core/IdempotencyKey", "isOptionalWhitespace", "(C)Z"⟩ : MethodName)) (w100 C) (w101 C) (w57 C) (w102 C) (by decide) (rm_ows C h0 (cs.getD i 0)) (fun _ q => nomatch q) (Wd := 0) (nle rfl) (nle rfl) (nle rfl) (nle rfl) (g := (mkF m 17 #[vR a, vI (Int32.ofNat i), vI (Int32.ofNat cs.length)] [(.int (cs.getD i 0))])) rfl (by rw [hml]; rfl) (argsL := [(.int (cs.getD i 0))]) (rest := []) (lenOf pd_0 rfl) rfl rfl (nle rfl) (hb hby d32_17)
      obtain ⟨b12, rfl, rfl, hb12⟩ := q12
      refine go (g' := (mkF m 20 #[vR a, vI (Int32.ofNat i), vI (Int32.ofNat cs.length)] [(.int b12)])) (st12) ?_
      refine go (g' := (mkF m 7 #[vR a, vI ((Int32.ofNat i) + (1 : Int32)), vI (Int32.ofNat cs.length)] [])) (fun _ k => XS.ifNo W12.here hx rfl (hb hby d32_20) rfl ((if0 _ _).trans (feq (own_ws1 hb12 (h1 i (by omega)))).1) (XS.iinc W12.here hx rfl (hb hby d32_23) rfl (l' := #[vR a, vI ((Int32.ofNat i) + (1 : Int32)), vI (Int32.ofNat cs.length)]) rfl (XS.goto W12.here hx rfl (pc0 := 26) (pc' := 7) rfl (hb hby d32_26) (by decide) (by decide) k))) ?_
      rw [show ((Int32.ofNat i) + (1 : Int32)) = (Int32.ofNat (i + 1)) from own_inc _]
      exact ih (i + 1) _ _ (by omega) W12
  exact loop1 i0 0 _ _ (by omega) W1
set_option maxRecDepth 65536 in
set_option maxHeartbeats 40000000 in
theorem rm_unq {l : Launch} {Z : State} {a0 : Array Value} (C : Cx Z a0) (h0 : Heap) (a : Addr) (ks cs : List Int32) (hcs : cs = 34 :: (enc ks ++ [34])) (Sa : Str Z h0 a cs) (hk : ∀ c ∈ ks, ¬ c < (33 : Int32) ∧ ¬ (126 : Int32) < c) (k0 : 0 < ks.length) (g3 : cs.length ≤ 12) :
    Ct l Z a0 own_EL (⟨"com/example/inchworm/inchworm/core/IdempotencyKey", "unquote", "(Ljava/lang/String;)Ljava/lang/String;"⟩ : MethodName) prog_18_method_11_code 5 (Option.some (Jvm.ClassFile.FieldType.object "java/lang/String")) [] ({ frames := 6, cells := 4, slots := 32, locals := 103 } : Room) #[(.ref a)] h0 [] (fun v h so => ∃ x : Addr, v = some (.ref x) ∧ Ext h0 h ∧ Str Z h x ks) := by
  refine own_enter (plainFor_of_name pn_6) C.ew (F0 := fun m => mkF m 0 #[vR a, .unset, .unset, .unset, .unset] []) (fun m => by first | (simp [entryFrame, mkF, argsToLocals, Value.category]; done) | rfl) ?_
  intro p e s m below meth c s₁ G hx hby hml hret hnm W0 S0 go fin
  have z0 : Z.heap.size ≤ h0.size := W0.sz
  show G s₁ (mkF m 0 #[vR a, .unset, .unset, .unset, .unset] [])
  have hl_cs : cs.length ≤ 4000 := by omega
  have hle := own_encle ks
  have hcl : cs.length = (enc ks).length + 2 := by rw [hcs]; simp
  obtain ⟨x1, T1, h1, g1, W1, E1, A1, D1, U1, st1⟩ := own_new W0 hx (w174 C) (w175 C) (w176 C) (g := (mkF m 0 #[vR a, .unset, .unset, .unset, .unset] [])) rfl (hb hby d33_0) (nle rfl) (nle rfl)
  have z2 : h0.size ≤ h1.size := E1.1
  have l1 : ltN x1 h1.size := A1.lt
  have F1_value : Fld Z h1 x1 "java/lang/AbstractStringBuilder" "value" "[B" .null := D1 (Or.inl (w189 C)) (ty := (.array .byte)) (by decide)
  have F1_coder : Fld Z h1 x1 "java/lang/AbstractStringBuilder" "coder" "B" vZ := D1 (Or.inl (w191 C)) (ty := .byte) (by decide)
  have F1_count : Fld Z h1 x1 "java/lang/AbstractStringBuilder" "count" "I" vZ := D1 (Or.inl (w203 C)) (ty := .int) (by decide)
  refine go (g' := (mkF m 3 #[vR a, .unset, .unset, .unset, .unset] [(.ref x1)])) (st1) ?_
  refine go (g' := (mkF m 5 #[vR a, .unset, .unset, .unset, .unset] [(.ref a), (.ref x1), (.ref x1)])) (fun _ k => XS.dup W1.here hx rfl (hb hby d33_3) rfl rfl (XS.aloadN W1.here hx rfl (hb hby d33_4) rfl rfl k)) ?_
  have X4 : Ext h0 h1 := own_xt (own_xr h0) E1
  have f5 : Str Z h1 a cs := Sa.ext X4
  obtain ⟨T3, W3, st3⟩ := own_slen W1 hx (own_wln C) (w69 C) (w70 C) (w72 C) (w71 C) (w13 C) f5 C.cs hl_cs (Wd := 2) (nle rfl) (nle rfl) (nle rfl) (nle rfl) (g := (mkF m 5 #[vR a, .unset, .unset, .unset, .unset] [(.ref a), (.ref x1), (.ref x1)])) rfl (by rw [hml]; rfl) rfl (nle rfl) (hb hby d33_5)
  refine go (g' := (mkF m 8 #[vR a, .unset, .unset, .unset, .unset] [(.int (Int32.ofNat cs.length)), (.ref x1), (.ref x1)])) (st3) ?_
  obtain ⟨v6, so6, vm6, T6, h6, W6, C6, q6, hso6, st6⟩ := own_special W3 hx (y := (⟨"java/lang/StringBuilder", "<init>", "(I)V"⟩ : MethodName)) rfl (w177 C) (w178 C) (w176 C) (w179 C) (by decide) (rm_sbinit C h1 x1 cs.length (by omega) A1 F1_value F1_coder F1_count (by omega)) (fun _ q => nomatch q) (Wd := 1) (nle rfl) (nle rfl) (nle rfl) (nle rfl) (g := (mkF m 8 #[vR a, .unset, .unset, .unset, .unset] [(.int (Int32.ofNat cs.length)), (.ref x1), (.ref x1)])) rfl (by rw [hml]; rfl) (a := x1) (argsL := [(.int (Int32.ofNat cs.length))]) (rest := [(.ref x1)]) (lenOf pd_10 rfl) rfl rfl (nle rfl) (hb hby d33_8)
  obtain ⟨rfl, K6, t6, k6, rfl, g6, B6⟩ := q6
  have z7 : h1.size ≤ h6.size := K6.1
  have lt6 : ltN t6 h6.size := B6.2.2.2.2.lt
  refine go (g' := (mkF m 11 #[vR a, .unset, .unset, .unset, .unset] [(.ref x1)])) (st6) ?_
  refine go (g' := (mkF m 14 #[vR a, vR x1, vI (1 : Int32), .unset, .unset] [])) (fun _ k => XS.astoreN W6.here hx rfl (hb hby d33_11) rfl rfl (l' := #[vR a, vR x1, .unset, .unset, .unset]) rfl (XS.iconst W6.here hx rfl (hb hby d33_12) (XS.istoreN W6.here hx rfl (hb hby d33_13) rfl (l' := #[vR a, vR x1, vI (1 : Int32), .unset, .unset]) rfl k))) ?_
  have loop : ∀ (r d : List Int32) (i : Nat) (vm2 : Vm) (T : State) (h2 : Heap) (l3 l4 : Slot), d ++ r = ks → cs.drop i = enc r ++ [34] → 1 ≤ i → (l3 = .unset ∨ ∃ v, l3 = vI v) → (l4 = .unset ∨ ∃ v, l4 = vI v) → Wk Z a0 own_EL "com/example/inchworm/inchworm/core/IdempotencyKey" p l e ({ frames := 6, cells := 4, slots := 32, locals := 103 } : Room) s m #[(.ref a)] below meth c vm2 T h2 2 16 → Ext h0 h2 → Bld Z h2 x1 t6 k6 cs.length (d.map fun c => c.toInt8.toInt32) → Safe Z own_EL vm2 h2 t6 → G T (mkF m 14 #[vR a, vR x1, vI (Int32.ofNat i), l3, l4] []) := by
    intro r
    induction r with
    | nil =>
      intro d i vm2 T h2 l3 l4 hd hdr hi1 q_l3 q_l4 WT XJ BJ SJ
      have zJ : h0.size ≤ h2.size := XJ.1
      have ltJ : ltN t6 h2.size := BJ.2.2.2.2.lt
      have lbJ : ltN x1 h2.size := BJ.1.lt
      have hdk : d = ks := by simpa using hd
      have hdl : d.length = ks.length := by rw [hdk]
      obtain ⟨hi, hg1, -⟩ := own_dropc (r := []) hdr
      have hie : i = cs.length - 1 := own_dropl hdr
      refine go (g' := (mkF m 16 #[vR a, vR x1, vI (Int32.ofNat i), l3, l4] [(.ref a), (.int (Int32.ofNat i))])) (fun _ k => XS.iloadN WT.here hx rfl (hb hby d33_14) rfl (XS.aloadN WT.here hx rfl (hb hby d33_15) rfl rfl k)) ?_
      have X9 : Ext h0 h2 := own_xt (own_xr h0) XJ
      have f10 : Str Z h2 a cs := Sa.ext X9
      obtain ⟨T8, W8, st8⟩ := own_slen WT hx (own_wln C) (w69 C) (w70 C) (w72 C) (w71 C) (w13 C) f10 C.cs hl_cs (Wd := 1) (nle rfl) (nle rfl) (nle rfl) (nle rfl) (g := (mkF m 16 #[vR a, vR x1, vI (Int32.ofNat i), l3, l4] [(.ref a), (.int (Int32.ofNat i))])) rfl (by rw [hml]; rfl) rfl (nle rfl) (hb hby d33_16)
      refine go (g' := (mkF m 19 #[vR a, vR x1, vI (Int32.ofNat i), l3, l4] [(.int (Int32.ofNat cs.length)), (.int (Int32.ofNat i))])) (st8) ?_
      refine go (g' := (mkF m 24 #[vR a, vR x1, vI (Int32.ofNat i), l3, l4] [(.int (Int32.ofNat i)), (.ref a)])) (fun _ k => XS.icmpNo W8.here hx rfl (hb hby d33_19) rfl (tlt ((own_ltn (by omega) (by omega)).mpr (by omega))).2.1 (XS.aloadN W8.here hx rfl (hb hby d33_22) rfl rfl (XS.iloadN W8.here hx rfl (hb hby d33_23) rfl k))) ?_
      obtain ⟨T11, W11, st11⟩ := own_sch W8 hx (own_wch C) (w79 C) (w80 C) (w82 C) (w81 C) (w13 C) f10 C.cs C.sf hl_cs (i := i) (j := (Int32.ofNat i)) hi rfl (Wd := 0) (nle rfl) (nle rfl) (nle rfl) (nle rfl) (g := (mkF m 24 #[vR a, vR x1, vI (Int32.ofNat i), l3, l4] [(.int (Int32.ofNat i)), (.ref a)])) rfl (by rw [hml]; rfl) rfl (nle rfl) (hb hby d33_24)
      refine go (g' := (mkF m 27 #[vR a, vR x1, vI (Int32.ofNat i), l3, l4] [(.int (cs.getD i 0))])) (st11) ?_
      rw [show (cs.getD i 0) = (34 : Int32) from hg1]
      refine go (g' := (mkF m 36 #[vR a, vR x1, vI (Int32.ofNat i), vI (34 : Int32), l4] [(.ref a), (.int (Int32.ofNat i))])) (fun _ k => XS.istoreN W11.here hx rfl (hb hby d33_27) rfl (l' := #[vR a, vR x1, vI (Int32.ofNat i), vI (34 : Int32), l4]) (by rcases q_l3 with rfl | ⟨_, rfl⟩ <;> rfl) (XS.iloadN W11.here hx rfl (hb hby d33_28) rfl (XS.bipush W11.here hx rfl (hb hby d33_29) (XS.icmpNo W11.here hx rfl (hb hby d33_31) rfl (teq ((by decide) : (34 : Int32) = (34 : Int32))).2 (XS.iloadN W11.here hx rfl (hb hby d33_34) rfl (XS.aloadN W11.here hx rfl (hb hby d33_35) rfl rfl k)))))) ?_
      obtain ⟨T12, W12, st12⟩ := own_slen W11 hx (own_wln C) (w69 C) (w70 C) (w72 C) (w71 C) (w13 C) f10 C.cs hl_cs (Wd := 1) (nle rfl) (nle rfl) (nle rfl) (nle rfl) (g := (mkF m 36 #[vR a, vR x1, vI (Int32.ofNat i), vI (34 : Int32), l4] [(.ref a), (.int (Int32.ofNat i))])) rfl (by rw [hml]; rfl) rfl (nle rfl) (hb hby d33_36)
      refine go (g' := (mkF m 39 #[vR a, vR x1, vI (Int32.ofNat i), vI (34 : Int32), l4] [(.int (Int32.ofNat cs.length)), (.int (Int32.ofNat i))])) (st12) ?_
      refine go (g' := (mkF m 41 #[vR a, vR x1, vI (Int32.ofNat i), vI (34 : Int32), l4] [(.int ((Int32.ofNat cs.length) - (1 : Int32))), (.int (Int32.ofNat i))])) (fun _ k => XS.iconst W12.here hx rfl (hb hby d33_39) (XS.isub W12.here hx rfl (hb hby d33_40) rfl k)) ?_
      rw [show ((Int32.ofNat cs.length) - (1 : Int32)) = (Int32.ofNat (cs.length - 1)) from own_subn (b := 1) (by omega)]
      refine go (g' := (mkF m 55 #[vR a, vR x1, vI (Int32.ofNat i), vI (34 : Int32), l4] [(.ref x1)])) (fun _ k => XS.icmpYes W12.here hx rfl (pc0 := 41) (pc' := 54) rfl (hb hby d33_41) rfl (teq (congrArg Int32.ofNat hie)).1 (by decide) (by decide) (XS.aloadN W12.here hx rfl (hb hby d33_54) rfl rfl k)) ?_
      obtain ⟨v13, so13, vm13, T13, h13, W13, C13, q13, hso13, st13⟩ := own_virtual W12 hx (y := (⟨"java/lang/StringBuilder", "toString", "()Ljava/lang/String;"⟩ : MethodName)) (z := (⟨"java/lang/StringBuilder", "toString", "()Ljava/lang/String;"⟩ : MethodName)) (w215 C) (w216 C) (w218 C) (w217 C) (w176 C) (w219 C) (by decide) (own_nf W12 (w218 C)) BJ.1 (rm_sbts C h2 x1 t6 k6 cs.length (d.map fun c => c.toInt8.toInt32) (by rw [List.length_map]; omega) (by rw [List.length_map]; omega) (by omega) BJ) (fun _ q => nomatch q) (Wd := 0) (nle rfl) (nle rfl) (nle rfl) (nle rfl) (g := (mkF m 55 #[vR a, vR x1, vI (Int32.ofNat i), vI (34 : Int32), l4] [(.ref x1)])) rfl (by rw [hml]; rfl) (argsL := []) (rest := []) (lenOf pd_19 rfl) rfl rfl (nle rfl) (hb hby d33_55)
      obtain ⟨x13, rfl, E13, A13, Fc13, u13, ku13, Fv13, V13⟩ := q13
      have z14 : h2.size ≤ h13.size := E13.1
      have S13_t6 : Safe Z own_EL vm13 h13 t6 := C13.safe (olt (by omega)) SJ
      refine go (g' := (mkF m 58 #[vR a, vR x1, vI (Int32.ofNat i), vI (34 : Int32), l4] [(.ref x13)])) (st13) ?_
      have X15 : Ext h0 h13 := own_xt X9 E13
      exact fin (v := some (.ref x13)) (so := []) W13 (nle rfl) (nle rfl) (⟨_, rfl, X15, own_mkS A13 Fc13 (fun c hc => own_pr (hk c hc)) Fv13 V13 hdk⟩) (fun _ q => nomatch q) (fun q => nomatch q) (own_retA W13 hx hret rfl rfl rfl (hb hby d33_58))
    | cons kc r ih =>
      intro d i vm2 T h2 l3 l4 hd hdr hi1 q_l3 q_l4 WT XJ BJ SJ
      have zJ : h0.size ≤ h2.size := XJ.1
      have ltJ : ltN t6 h2.size := BJ.2.2.2.2.lt
      have lbJ : ltN x1 h2.size := BJ.1.lt
      have hdl : d.length + r.length + 1 = ks.length := by rw [← hd]; simp; omega
      have hmem : kc ∈ ks := by rw [← hd]; simp
      by_cases hkq : kc = 34 ∨ kc = 92
      · rw [own_encq hkq] at hdr
        obtain ⟨hi, hg1, hd1⟩ := own_dropc hdr
        obtain ⟨hi', hg2, hd2⟩ := own_dropc hd1
        refine go (g' := (mkF m 16 #[vR a, vR x1, vI (Int32.ofNat i), l3, l4] [(.ref a), (.int (Int32.ofNat i))])) (fun _ k => XS.iloadN WT.here hx rfl (hb hby d33_14) rfl (XS.aloadN WT.here hx rfl (hb hby d33_15) rfl rfl k)) ?_
        have X17 : Ext h0 h2 := own_xt (own_xr h0) XJ
        have f18 : Str Z h2 a cs := Sa.ext X17
        obtain ⟨T16, W16, st16⟩ := own_slen WT hx (own_wln C) (w69 C) (w70 C) (w72 C) (w71 C) (w13 C) f18 C.cs hl_cs (Wd := 1) (nle rfl) (nle rfl) (nle rfl) (nle rfl) (g := (mkF m 16 #[vR a, vR x1, vI (Int32.ofNat i), l3, l4] [(.ref a), (.int (Int32.ofNat i))])) rfl (by rw [hml]; rfl) rfl (nle rfl) (hb hby d33_16)
        refine go (g' := (mkF m 19 #[vR a, vR x1, vI (Int32.ofNat i), l3, l4] [(.int (Int32.ofNat cs.length)), (.int (Int32.ofNat i))])) (st16) ?_
        refine go (g' := (mkF m 24 #[vR a, vR x1, vI (Int32.ofNat i), l3, l4] [(.int (Int32.ofNat i)), (.ref a)])) (fun _ k => XS.icmpNo W16.here hx rfl (hb hby d33_19) rfl (tlt ((own_ltn (by omega) (by omega)).mpr (by omega))).2.1 (XS.aloadN W16.here hx rfl (hb hby d33_22) rfl rfl (XS.iloadN W16.here hx rfl (hb hby d33_23) rfl k))) ?_
        obtain ⟨T19, W19, st19⟩ := own_sch W16 hx (own_wch C) (w79 C) (w80 C) (w82 C) (w81 C) (w13 C) f18 C.cs C.sf hl_cs (i := i) (j := (Int32.ofNat i)) hi rfl (Wd := 0) (nle rfl) (nle rfl) (nle rfl) (nle rfl) (g := (mkF m 24 #[vR a, vR x1, vI (Int32.ofNat i), l3, l4] [(.int (Int32.ofNat i)), (.ref a)])) rfl (by rw [hml]; rfl) rfl (nle rfl) (hb hby d33_24)
        refine go (g' := (mkF m 27 #[vR a, vR x1, vI (Int32.ofNat i), l3, l4] [(.int (cs.getD i 0))])) (st19) ?_
        rw [show (cs.getD i 0) = (92 : Int32) from hg1]
        refine go (g' := (mkF m 66 #[vR a, vR x1, vI (Int32.ofNat i), vI (92 : Int32), l4] [(.int (Int32.ofNat i))])) (fun _ k => XS.istoreN W19.here hx rfl (hb hby d33_27) rfl (l' := #[vR a, vR x1, vI (Int32.ofNat i), vI (92 : Int32), l4]) (by rcases q_l3 with rfl | ⟨_, rfl⟩ <;> rfl) (XS.iloadN W19.here hx rfl (hb hby d33_28) rfl (XS.bipush W19.here hx rfl (hb hby d33_29) (XS.icmpYes W19.here hx rfl (pc0 := 31) (pc' := 59) rfl (hb hby d33_31) rfl (feq ((by decide) : ¬ ((92 : Int32) = (34 : Int32)))).2 (by decide) (by decide) (XS.iloadN W19.here hx rfl (hb hby d33_59) rfl (XS.bipush W19.here hx rfl (hb hby d33_60) (XS.icmpNo W19.here hx rfl (hb hby d33_62) rfl (teq ((by decide) : (92 : Int32) = (92 : Int32))).2 (XS.iloadN W19.here hx rfl (hb hby d33_65) rfl k)))))))) ?_
        refine go (g' := (mkF m 68 #[vR a, vR x1, vI (Int32.ofNat i), vI (92 : Int32), l4] [(.int ((Int32.ofNat i) + (1 : Int32)))])) (fun _ k => XS.iconst W19.here hx rfl (hb hby d33_66) (XS.iadd W19.here hx rfl (hb hby d33_67) rfl k)) ?_
        rw [show ((Int32.ofNat i) + (1 : Int32)) = (Int32.ofNat (i + 1)) from own_inc _]
        refine go (g' := (mkF m 69 #[vR a, vR x1, vI (Int32.ofNat i), vI (92 : Int32), l4] [(.ref a), (.int (Int32.ofNat (i + 1)))])) (fun _ k => XS.aloadN W19.here hx rfl (hb hby d33_68) rfl rfl k) ?_
        obtain ⟨T20, W20, st20⟩ := own_slen W19 hx (own_wln C) (w69 C) (w70 C) (w72 C) (w71 C) (w13 C) f18 C.cs hl_cs (Wd := 1) (nle rfl) (nle rfl) (nle rfl) (nle rfl) (g := (mkF m 69 #[vR a, vR x1, vI (Int32.ofNat i), vI (92 : Int32), l4] [(.ref a), (.int (Int32.ofNat (i + 1)))])) rfl (by rw [hml]; rfl) rfl (nle rfl) (hb hby d33_69)
        refine go (g' := (mkF m 72 #[vR a, vR x1, vI (Int32.ofNat i), vI (92 : Int32), l4] [(.int (Int32.ofNat cs.length)), (.int (Int32.ofNat (i + 1)))])) (st20) ?_
        refine go (g' := (mkF m 89 #[vR a, vR x1, vI (Int32.ofNat i), vI (92 : Int32), l4] [(.int ((Int32.ofNat i) + (1 : Int32))), (.ref a)])) (fun _ k => XS.icmpYes W20.here hx rfl (pc0 := 72) (pc' := 85) rfl (hb hby d33_72) rfl (feq (fun q => absurd ((own_eqn (by omega) (by omega)).mp q) (by omega))).2 (by decide) (by decide) (XS.aloadN W20.here hx rfl (hb hby d33_85) rfl rfl (XS.iloadN W20.here hx rfl (hb hby d33_86) rfl (XS.iconst W20.here hx rfl (hb hby d33_87) (XS.iadd W20.here hx rfl (hb hby d33_88) rfl k))))) ?_
        rw [show ((Int32.ofNat i) + (1 : Int32)) = (Int32.ofNat (i + 1)) from own_inc _]
        obtain ⟨T21, W21, st21⟩ := own_sch W20 hx (own_wch C) (w79 C) (w80 C) (w82 C) (w81 C) (w13 C) f18 C.cs C.sf hl_cs (i := (i + 1)) (j := (Int32.ofNat (i + 1))) hi' rfl (Wd := 0) (nle rfl) (nle rfl) (nle rfl) (nle rfl) (g := (mkF m 89 #[vR a, vR x1, vI (Int32.ofNat i), vI (92 : Int32), l4] [(.int (Int32.ofNat (i + 1))), (.ref a)])) rfl (by rw [hml]; rfl) rfl (nle rfl) (hb hby d33_89)
        refine go (g' := (mkF m 92 #[vR a, vR x1, vI (Int32.ofNat i), vI (92 : Int32), l4] [(.int (cs.getD (i + 1) 0))])) (st21) ?_
        rw [show (cs.getD (i + 1) 0) = kc from hg2]
        refine go (g' := (mkF m 98 #[vR a, vR x1, vI (Int32.ofNat i), vI (92 : Int32), vI kc] [(.int (34 : Int32)), (.int kc)])) (fun _ k => XS.istore W21.here hx rfl (hb hby d33_92) rfl (l' := #[vR a, vR x1, vI (Int32.ofNat i), vI (92 : Int32), vI kc]) (by rcases q_l4 with rfl | ⟨_, rfl⟩ <;> rfl) (XS.iload W21.here hx rfl (hb hby d33_94) rfl (XS.bipush W21.here hx rfl (hb hby d33_96) k))) ?_
        by_cases kb22 : kc = (34 : Int32)
        · refine go (g' := (mkF m 121 #[vR a, vR x1, vI (Int32.ofNat i), vI (92 : Int32), vI kc] [(.int kc), (.ref x1)])) (fun _ k => XS.icmpYes W21.here hx rfl (pc0 := 98) (pc' := 118) rfl (hb hby d33_98) rfl (teq kb22).1 (by decide) (by decide) (XS.aloadN W21.here hx rfl (hb hby d33_118) rfl rfl (XS.iload W21.here hx rfl (hb hby d33_119) rfl k))) ?_
          obtain ⟨v23, so23, vm23, T23, h23, W23, C23, q23, hso23, st23⟩ := own_virtual W21 hx (y := (⟨"java/lang/StringBuilder", "append", "(C)Ljava/lang/StringBuilder;"⟩ : MethodName)) (z := (⟨"java/lang/StringBuilder", "append", "(C)Ljava/lang/StringBuilder;"⟩ : MethodName)) (w192 C) (w193 C) (w195 C) (w194 C) (w176 C) (w196 C) (by decide) (own_nf W21 (w195 C)) BJ.1 (rm_sbappc C h2 x1 t6 k6 cs.length (d.map fun c => c.toInt8.toInt32) kc (own_pr (hk kc hmem)) (by rw [List.length_map]; omega) (by omega) BJ (by omega) (by omega)) (allS SJ all0) (Wd := 0) (nle rfl) (nle rfl) (nle rfl) (nle rfl) (g := (mkF m 121 #[vR a, vR x1, vI (Int32.ofNat i), vI (92 : Int32), vI kc] [(.int kc), (.ref x1)])) rfl (by rw [hml]; rfl) (argsL := [(.int kc)]) (rest := []) (lenOf pd_20 rfl) rfl rfl (nle rfl) (hb hby d33_121)
          obtain ⟨rfl, K23, B23⟩ := q23
          have z24 : h2.size ≤ h23.size := K23.1
          have S23_t6 : Safe Z own_EL vm23 h23 t6 := C23.safe (olt (by omega)) SJ
          refine go (g' := (mkF m 124 #[vR a, vR x1, vI (Int32.ofNat i), vI (92 : Int32), vI kc] [(.ref x1)])) (st23) ?_
          refine go (g' := (mkF m 14 #[vR a, vR x1, vI ((Int32.ofNat i) + (2 : Int32)), vI (92 : Int32), vI kc] [])) (fun _ k => XS.pop W23.here hx rfl (hb hby d33_124) rfl rfl (XS.iinc W23.here hx rfl (hb hby d33_125) rfl (l' := #[vR a, vR x1, vI ((Int32.ofNat i) + (2 : Int32)), vI (92 : Int32), vI kc]) rfl (XS.goto W23.here hx rfl (pc0 := 128) (pc' := 140) rfl (hb hby d33_128) (by decide) (by decide) (XS.goto W23.here hx rfl (pc0 := 140) (pc' := 14) rfl (hb hby d33_140) (by decide) (by decide) k)))) ?_
          rw [show ((Int32.ofNat i) + (2 : Int32)) = (Int32.ofNat (i + 2)) from own_addn i 2]
          have X25 : Ext h0 h23 := own_xk X17 K23 (allS (by omega) (allS (by omega) all0))
          exact ih (d ++ [kc]) (i + 2) _ _ _ _ _ (by simpa using hd) hd2 (by omega) (Or.inr ⟨_, rfl⟩) (Or.inr ⟨_, rfl⟩) W23 X25 (own_bldS B23) S23_t6
        · refine go (g' := (mkF m 121 #[vR a, vR x1, vI (Int32.ofNat i), vI (92 : Int32), vI kc] [(.int kc), (.ref x1)])) (fun _ k => XS.icmpNo W21.here hx rfl (hb hby d33_98) rfl (feq kb22).1 (XS.iload W21.here hx rfl (hb hby d33_101) rfl (XS.bipush W21.here hx rfl (hb hby d33_103) (XS.icmpYes W21.here hx rfl (pc0 := 105) (pc' := 118) rfl (hb hby d33_105) rfl (teq (hkq.resolve_left kb22)).1 (by decide) (by decide) (XS.aloadN W21.here hx rfl (hb hby d33_118) rfl rfl (XS.iload W21.here hx rfl (hb hby d33_119) rfl k)))))) ?_
          obtain ⟨v26, so26, vm26, T26, h26, W26, C26, q26, hso26, st26⟩ := own_virtual W21 hx (y := (⟨"java/lang/StringBuilder", "append", "(C)Ljava/lang/StringBuilder;"⟩ : MethodName)) (z := (⟨"java/lang/StringBuilder", "append", "(C)Ljava/lang/StringBuilder;"⟩ : MethodName)) (w192 C) (w193 C) (w195 C) (w194 C) (w176 C) (w196 C) (by decide) (own_nf W21 (w195 C)) BJ.1 (rm_sbappc C h2 x1 t6 k6 cs.length (d.map fun c => c.toInt8.toInt32) kc (own_pr (hk kc hmem)) (by rw [List.length_map]; omega) (by omega) BJ (by omega) (by omega)) (allS SJ all0) (Wd := 0) (nle rfl) (nle rfl) (nle rfl) (nle rfl) (g := (mkF m 121 #[vR a, vR x1, vI (Int32.ofNat i), vI (92 : Int32), vI kc] [(.int kc), (.ref x1)])) rfl (by rw [hml]; rfl) (argsL := [(.int kc)]) (rest := []) (lenOf pd_20 rfl) rfl rfl (nle rfl) (hb hby d33_121)
          obtain ⟨rfl, K26, B26⟩ := q26
          have z27 : h2.size ≤ h26.size := K26.1
          have S26_t6 : Safe Z own_EL vm26 h26 t6 := C26.safe (olt (by omega)) SJ
          refine go (g' := (mkF m 124 #[vR a, vR x1, vI (Int32.ofNat i), vI (92 : Int32), vI kc] [(.ref x1)])) (st26) ?_
          refine go (g' := (mkF m 14 #[vR a, vR x1, vI ((Int32.ofNat i) + (2 : Int32)), vI (92 : Int32), vI kc] [])) (fun _ k => XS.pop W26.here hx rfl (hb hby d33_124) rfl rfl (XS.iinc W26.here hx rfl (hb hby d33_125) rfl (l' := #[vR a, vR x1, vI ((Int32.ofNat i) + (2 : Int32)), vI (92 : Int32), vI kc]) rfl (XS.goto W26.here hx rfl (pc0 := 128) (pc' := 140) rfl (hb hby d33_128) (by decide) (by decide) (XS.goto W26.here hx rfl (pc0 := 140) (pc' := 14) rfl (hb hby d33_140) (by decide) (by decide) k)))) ?_
          rw [show ((Int32.ofNat i) + (2 : Int32)) = (Int32.ofNat (i + 2)) from own_addn i 2]
          have X28 : Ext h0 h26 := own_xk X17 K26 (allS (by omega) (allS (by omega) all0))
          exact ih (d ++ [kc]) (i + 2) _ _ _ _ _ (by simpa using hd) hd2 (by omega) (Or.inr ⟨_, rfl⟩) (Or.inr ⟨_, rfl⟩) W26 X28 (own_bldS B26) S26_t6
      · rw [own_encp hkq] at hdr
        obtain ⟨hi, hg1, hd1⟩ := own_dropc hdr
        refine go (g' := (mkF m 16 #[vR a, vR x1, vI (Int32.ofNat i), l3, l4] [(.ref a), (.int (Int32.ofNat i))])) (fun _ k => XS.iloadN WT.here hx rfl (hb hby d33_14) rfl (XS.aloadN WT.here hx rfl (hb hby d33_15) rfl rfl k)) ?_
        have X30 : Ext h0 h2 := own_xt (own_xr h0) XJ
        have f31 : Str Z h2 a cs := Sa.ext X30
        obtain ⟨T29, W29, st29⟩ := own_slen WT hx (own_wln C) (w69 C) (w70 C) (w72 C) (w71 C) (w13 C) f31 C.cs hl_cs (Wd := 1) (nle rfl) (nle rfl) (nle rfl) (nle rfl) (g := (mkF m 16 #[vR a, vR x1, vI (Int32.ofNat i), l3, l4] [(.ref a), (.int (Int32.ofNat i))])) rfl (by rw [hml]; rfl) rfl (nle rfl) (hb hby d33_16)
        refine go (g' := (mkF m 19 #[vR a, vR x1, vI (Int32.ofNat i), l3, l4] [(.int (Int32.ofNat cs.length)), (.int (Int32.ofNat i))])) (st29) ?_
        refine go (g' := (mkF m 24 #[vR a, vR x1, vI (Int32.ofNat i), l3, l4] [(.int (Int32.ofNat i)), (.ref a)])) (fun _ k => XS.icmpNo W29.here hx rfl (hb hby d33_19) rfl (tlt ((own_ltn (by omega) (by omega)).mpr (by omega))).2.1 (XS.aloadN W29.here hx rfl (hb hby d33_22) rfl rfl (XS.iloadN W29.here hx rfl (hb hby d33_23) rfl k))) ?_
        obtain ⟨T32, W32, st32⟩ := own_sch W29 hx (own_wch C) (w79 C) (w80 C) (w82 C) (w81 C) (w13 C) f31 C.cs C.sf hl_cs (i := i) (j := (Int32.ofNat i)) hi rfl (Wd := 0) (nle rfl) (nle rfl) (nle rfl) (nle rfl) (g := (mkF m 24 #[vR a, vR x1, vI (Int32.ofNat i), l3, l4] [(.int (Int32.ofNat i)), (.ref a)])) rfl (by rw [hml]; rfl) rfl (nle rfl) (hb hby d33_24)
        refine go (g' := (mkF m 27 #[vR a, vR x1, vI (Int32.ofNat i), l3, l4] [(.int (cs.getD i 0))])) (st32) ?_
        rw [show (cs.getD i 0) = kc from hg1]
        refine go (g' := (mkF m 132 #[vR a, vR x1, vI (Int32.ofNat i), vI kc, l4] [(.ref x1)])) (fun _ k => XS.istoreN W32.here hx rfl (hb hby d33_27) rfl (l' := #[vR a, vR x1, vI (Int32.ofNat i), vI kc, l4]) (by rcases q_l3 with rfl | ⟨_, rfl⟩ <;> rfl) (XS.iloadN W32.here hx rfl (hb hby d33_28) rfl (XS.bipush W32.here hx rfl (hb hby d33_29) (XS.icmpYes W32.here hx rfl (pc0 := 31) (pc' := 59) rfl (hb hby d33_31) rfl (feq (fun q => hkq (Or.inl q))).2 (by decide) (by decide) (XS.iloadN W32.here hx rfl (hb hby d33_59) rfl (XS.bipush W32.here hx rfl (hb hby d33_60) (XS.icmpYes W32.here hx rfl (pc0 := 62) (pc' := 131) rfl (hb hby d33_62) rfl (feq (fun q => hkq (Or.inr q))).2 (by decide) (by decide) (XS.aloadN W32.here hx rfl (hb hby d33_131) rfl rfl k)))))))) ?_
        refine go (g' := (mkF m 133 #[vR a, vR x1, vI (Int32.ofNat i), vI kc, l4] [(.int kc), (.ref x1)])) (fun _ k => XS.iloadN W32.here hx rfl (hb hby d33_132) rfl k) ?_
        obtain ⟨v33, so33, vm33, T33, h33, W33, C33, q33, hso33, st33⟩ := own_virtual W32 hx (y := (⟨"java/lang/StringBuilder", "append", "(C)Ljava/lang/StringBuilder;"⟩ : MethodName)) (z := (⟨"java/lang/StringBuilder", "append", "(C)Ljava/lang/StringBuilder;"⟩ : MethodName)) (w192 C) (w193 C) (w195 C) (w194 C) (w176 C) (w196 C) (by decide) (own_nf W32 (w195 C)) BJ.1 (rm_sbappc C h2 x1 t6 k6 cs.length (d.map fun c => c.toInt8.toInt32) kc (own_pr (hk kc hmem)) (by rw [List.length_map]; omega) (by omega) BJ (by omega) (by omega)) (allS SJ all0) (Wd := 0) (nle rfl) (nle rfl) (nle rfl) (nle rfl) (g := (mkF m 133 #[vR a, vR x1, vI (Int32.ofNat i), vI kc, l4] [(.int kc), (.ref x1)])) rfl (by rw [hml]; rfl) (argsL := [(.int kc)]) (rest := []) (lenOf pd_20 rfl) rfl rfl (nle rfl) (hb hby d33_133)
        obtain ⟨rfl, K33, B33⟩ := q33
        have z34 : h2.size ≤ h33.size := K33.1
        have S33_t6 : Safe Z own_EL vm33 h33 t6 := C33.safe (olt (by omega)) SJ
        refine go (g' := (mkF m 136 #[vR a, vR x1, vI (Int32.ofNat i), vI kc, l4] [(.ref x1)])) (st33) ?_
        refine go (g' := (mkF m 14 #[vR a, vR x1, vI ((Int32.ofNat i) + (1 : Int32)), vI kc, l4] [])) (fun _ k => XS.pop W33.here hx rfl (hb hby d33_136) rfl rfl (XS.iinc W33.here hx rfl (hb hby d33_137) rfl (l' := #[vR a, vR x1, vI ((Int32.ofNat i) + (1 : Int32)), vI kc, l4]) rfl (XS.goto W33.here hx rfl (pc0 := 140) (pc' := 14) rfl (hb hby d33_140) (by decide) (by decide) k))) ?_
        rw [show ((Int32.ofNat i) + (1 : Int32)) = (Int32.ofNat (i + 1)) from own_inc _]
        have X35 : Ext h0 h33 := own_xk X30 K33 (allS (by omega) (allS (by omega) all0))
        exact ih (d ++ [kc]) (i + 1) _ _ _ _ _ (by simpa using hd) hd1 (by omega) (Or.inr ⟨_, rfl⟩) q_l4 W33 X35 (own_bldS B33) S33_t6
  have X36 : Ext h0 h6 := own_xk X4 K6 (allS (by omega) all0)
  exact loop ks [] 1 _ _ _ _ _ rfl (by rw [hcs]; rfl) (by omega) (Or.inl rfl) (Or.inl rfl) W6 X36 B6 (hso6 _ (List.mem_of_getElem? (i := 0) rfl))
set_option maxRecDepth 65536 in
set_option maxHeartbeats 40000000 in
theorem rm_parse {l : Launch} {Z : State} {a0 : Array Value} (C : Cx Z a0) (h0 : Heap) (a : Addr) (cs ks body : List Int32) (Sa : Str Z h0 a cs) (i0 j0 : Nat) (hL : Lay cs i0 j0) (hbd : (cs.drop i0).take (j0 - i0) = body) (hbo : (body = ks ∧ ¬ ks.getD 0 0 = 34) ∨ body = 34 :: (enc ks ++ [34])) (hk : ∀ c ∈ ks, ¬ c < (33 : Int32) ∧ ¬ (126 : Int32) < c) (k0 : 0 < ks.length) :
    Ct l Z a0 own_EL (⟨"com/example/inchworm/inchworm/core/IdempotencyKey", "parseHeader", "(Ljava/lang/String;)Lcom/example/inchworm/inchworm/core/IdempotencyKey;"⟩ : MethodName) prog_18_method_3_code 3 (Option.some (Jvm.ClassFile.FieldType.object "com/example/inchworm/inchworm/core/IdempotencyKey")) [] ({ frames := 7, cells := 11, slots := 109, locals := 119 } : Room) #[(.ref a)] h0 [] (fun v h so => ∃ x q : Addr, v = some (.ref x) ∧ Ext h0 h ∧ Exa Z h x "com/example/inchworm/inchworm/core/IdempotencyKey" ∧ Fld Z h x "com/example/inchworm/inchworm/core/IdempotencyKey" "value" "Ljava/lang/String;" (.ref q) ∧ Str Z h q ks) := by
  refine own_enter (plainFor_of_name pn_6) C.ew (F0 := fun m => mkF m 0 #[vR a, .unset, .unset] []) (fun m => by first | (simp [entryFrame, mkF, argsToLocals, Value.category]; done) | rfl) ?_
  intro p e s m below meth c s₁ G hx hby hml hret hnm W0 S0 go fin
  have z0 : Z.heap.size ≤ h0.size := W0.sz
  show G s₁ (mkF m 0 #[vR a, .unset, .unset] [])
  obtain ⟨g1, g2, g3, h1, h2, h3, h4⟩ := id hL
  have hbl : body.length ≤ 12 ∧ 0 < body.length := by rw [← hbd]; simp; omega
  refine go (g' := (mkF m 1 #[vR a, .unset, .unset] [(.ref a)])) (fun _ k => XS.aloadN W0.here hx rfl (hb hby d34_0) rfl rfl k) ?_
  obtain ⟨x1, vm1, T1, h1, W1, E1, C1, st1⟩ := own_ldcO W0 hx (w59 C) (own_wS C) (g := (mkF m 1 #[vR a, .unset, .unset] [(.ref a)])) rfl (hb hby d34_1) (n := 40) (by decide) (nle rfl) (nle rfl) (nle rfl)
  have z2 : h0.size ≤ h1.size := E1.1
  refine go (g' := (mkF m 3 #[vR a, .unset, .unset] [(.ref x1), (.ref a)])) (st1) ?_
  obtain ⟨v3, so3, vm3, T3, h3, W3, C3, q3, hso3, st3⟩ := own_static W1 hx (y := (⟨"java/util/Objects", "requireNonNull", "(Ljava/lang/Object;Ljava/lang/String;)Ljava/lang/Object;"⟩ : MethodName)) (w62 C) (w63 C) (w64 C) (w65 C) (by decide) (rm_nonnull C h1 a x1) (fun _ q => nomatch q) (Wd := 0) (nle rfl) (nle rfl) (nle rfl) (nle rfl) (g := (mkF m 3 #[vR a, .unset, .unset] [(.ref x1), (.ref a)])) rfl (by rw [hml]; rfl) (argsL := [(.ref a), (.ref x1)]) (rest := []) (lenOf pd_16 rfl) rfl rfl (nle rfl) (hb hby d34_3)
  obtain ⟨rfl, rfl⟩ := q3
  refine go (g' := (mkF m 6 #[vR a, .unset, .unset] [(.ref a)])) (st3) ?_
  refine go (g' := (mkF m 8 #[vR a, .unset, .unset] [(.ref a)])) (fun _ k => XS.pop W3.here hx rfl (hb hby d34_6) rfl rfl (XS.aloadN W3.here hx rfl (hb hby d34_7) rfl rfl k)) ?_
  have X5 : Ext h0 h1 := own_xt (own_xr h0) E1
  have f6 : Str Z h1 a cs := Sa.ext X5
  obtain ⟨v4, so4, vm4, T4, h4, W4, C4, q4, hso4, st4⟩ := own_static W3 hx (y := (⟨"com/example/inchworm/inchworm/core/IdempotencyKey", "stripSurroundingWhitespace", "(Ljava/lang/String;)Ljava/lang/String;"⟩ : MethodName)) (w66 C) (w67 C) (w57 C) (w68 C) (by decide) (rm_strip C h1 a cs f6 i0 j0 hL) (fun _ q => nomatch q) (Wd := 0) (nle rfl) (nle rfl) (nle rfl) (nle rfl) (g := (mkF m 8 #[vR a, .unset, .unset] [(.ref a)])) rfl (by rw [hml]; rfl) (argsL := [(.ref a)]) (rest := []) (lenOf pd_21 rfl) rfl rfl (nle rfl) (hb hby d34_8)
  obtain ⟨x4, rfl, E4, S4⟩ := q4
  have z7 : h1.size ≤ h4.size := E4.1
  refine go (g' := (mkF m 11 #[vR a, .unset, .unset] [(.ref x4)])) (st4) ?_
  have SB8 : Str Z h4 x4 body := hbd ▸ S4
  refine go (g' := (mkF m 13 #[vR a, vR x4, .unset] [(.ref x4)])) (fun _ k => XS.astoreN W4.here hx rfl (hb hby d34_11) rfl rfl (l' := #[vR a, vR x4, .unset]) rfl (XS.aloadN W4.here hx rfl (hb hby d34_12) rfl rfl k)) ?_
  obtain ⟨T9, W9, st9⟩ := own_semp W4 hx (own_wem C) (w115 C) (w116 C) (w118 C) (w117 C) (w13 C) SB8 (by omega) (Wd := 0) (nle rfl) (nle rfl) (nle rfl) (nle rfl) (g := (mkF m 13 #[vR a, vR x4, .unset] [(.ref x4)])) rfl (by rw [hml]; rfl) rfl (nle rfl) (hb hby d34_13)
  refine go (g' := (mkF m 16 #[vR a, vR x4, .unset] [(.int (if body.length = 0 then 1 else 0))])) (st9) ?_
  refine go (g' := (mkF m 21 #[vR a, vR x4, .unset] [vZ, (.ref x4)])) (fun _ k => XS.ifNo W9.here hx rfl (hb hby d34_16) rfl ((if0 _ _).trans (teq (if_neg (by omega))).2) (XS.aloadN W9.here hx rfl (hb hby d34_19) rfl rfl (XS.iconst W9.here hx rfl (hb hby d34_20) k))) ?_
  obtain ⟨T10, W10, st10⟩ := own_sch W9 hx (own_wch C) (w79 C) (w80 C) (w82 C) (w81 C) (w13 C) SB8 C.cs C.sf (by omega) (i := 0) (j := (0 : Int32)) (by omega) rfl (Wd := 0) (nle rfl) (nle rfl) (nle rfl) (nle rfl) (g := (mkF m 21 #[vR a, vR x4, .unset] [vZ, (.ref x4)])) rfl (by rw [hml]; rfl) rfl (nle rfl) (hb hby d34_21)
  refine go (g' := (mkF m 24 #[vR a, vR x4, .unset] [(.int (body.getD 0 0))])) (st10) ?_
  rcases hbo with ⟨hq, hn⟩ | hq
  · have hkl : ks.length ≤ 12 := by rw [← hq]; omega
    have hn' : ¬ body.getD 0 0 = (34 : Int32) := by rw [hq]; exact hn
    have SK : Str Z h4 x4 ks := hq ▸ SB8
    refine go (g' := (mkF m 40 #[vR a, vR x4, vR x4] [(.ref x4)])) (fun _ k => XS.bipush W10.here hx rfl (hb hby d34_24) (XS.icmpYes W10.here hx rfl (pc0 := 26) (pc' := 37) rfl (hb hby d34_26) rfl (feq hn').2 (by decide) (by decide) (XS.aloadN W10.here hx rfl (hb hby d34_37) rfl rfl (XS.astoreN W10.here hx rfl (hb hby d34_38) rfl rfl (l' := #[vR a, vR x4, vR x4]) rfl (XS.aloadN W10.here hx rfl (hb hby d34_39) rfl rfl k))))) ?_
    obtain ⟨v11, so11, vm11, T11, h11, W11, C11, q11, hso11, st11⟩ := own_static W10 hx (y := (⟨"com/example/inchworm/inchworm/core/IdempotencyKey", "of", "(Ljava/lang/String;)Lcom/example/inchworm/inchworm/core/IdempotencyKey;"⟩ : MethodName)) (w120 C) (w121 C) (w57 C) (w122 C) (by decide) (rm_of C h4 x4 ks SK k0 (by omega) hk) (fun _ q => nomatch q) (Wd := 0) (nle rfl) (nle rfl) (nle rfl) (nle rfl) (g := (mkF m 40 #[vR a, vR x4, vR x4] [(.ref x4)])) rfl (by rw [hml]; rfl) (argsL := [(.ref x4)]) (rest := []) (lenOf pd_22 rfl) rfl rfl (nle rfl) (hb hby d34_40)
    obtain ⟨x11, rfl, E11, A11, F11⟩ := q11
    have z12 : h4.size ≤ h11.size := E11.1
    refine go (g' := (mkF m 43 #[vR a, vR x4, vR x4] [(.ref x11)])) (st11) ?_
    have X13 : Ext h0 h4 := own_xt X5 E4
    have X14 : Ext h0 h11 := own_xt X13 E11
    have X15 : Ext h4 h11 := own_xt (own_xr h4) E11
    have f16 : Str Z h11 x4 ks := SK.ext X15
    exact fin (v := some (.ref x11)) (so := []) W11 (nle rfl) (nle rfl) (⟨_, _, rfl, X14, A11, F11, f16⟩) (fun _ q => nomatch q) (fun q => nomatch q) (own_retA W11 hx hret rfl rfl rfl (hb hby d34_43))
  · have hbe : body.length = (enc ks).length + 2 := by rw [hq]; simp
    have hke := own_encle ks
    have hkl : ks.length ≤ 12 := by omega
    have hg : body.getD 0 0 = (34 : Int32) := by rw [hq]; rfl
    refine go (g' := (mkF m 30 #[vR a, vR x4, .unset] [(.ref x4)])) (fun _ k => XS.bipush W10.here hx rfl (hb hby d34_24) (XS.icmpNo W10.here hx rfl (hb hby d34_26) rfl (teq hg).2 (XS.aloadN W10.here hx rfl (hb hby d34_29) rfl rfl k))) ?_
    obtain ⟨v17, so17, vm17, T17, h17, W17, C17, q17, hso17, st17⟩ := own_static W10 hx (y := (⟨"com/example/inchworm/inchworm/core/IdempotencyKey", "unquote", "(Ljava/lang/String;)Ljava/lang/String;"⟩ : MethodName)) (w171 C) (w172 C) (w57 C) (w173 C) (by decide) (rm_unq C h4 x4 ks body hq SB8 hk k0 (by omega)) (fun _ q => nomatch q) (Wd := 0) (nle rfl) (nle rfl) (nle rfl) (nle rfl) (g := (mkF m 30 #[vR a, vR x4, .unset] [(.ref x4)])) rfl (by rw [hml]; rfl) (argsL := [(.ref x4)]) (rest := []) (lenOf pd_21 rfl) rfl rfl (nle rfl) (hb hby d34_30)
    obtain ⟨x17, rfl, E17, S17⟩ := q17
    have z18 : h4.size ≤ h17.size := E17.1
    refine go (g' := (mkF m 33 #[vR a, vR x4, .unset] [(.ref x17)])) (st17) ?_
    refine go (g' := (mkF m 40 #[vR a, vR x4, vR x17] [(.ref x17)])) (fun _ k => XS.astoreN W17.here hx rfl (hb hby d34_33) rfl rfl (l' := #[vR a, vR x4, vR x17]) rfl (XS.goto W17.here hx rfl (pc0 := 34) (pc' := 39) rfl (hb hby d34_34) (by decide) (by decide) (XS.aloadN W17.here hx rfl (hb hby d34_39) rfl rfl k))) ?_
    obtain ⟨v19, so19, vm19, T19, h19, W19, C19, q19, hso19, st19⟩ := own_static W17 hx (y := (⟨"com/example/inchworm/inchworm/core/IdempotencyKey", "of", "(Ljava/lang/String;)Lcom/example/inchworm/inchworm/core/IdempotencyKey;"⟩ : MethodName)) (w120 C) (w121 C) (w57 C) (w122 C) (by decide) (rm_of C h17 x17 ks S17 k0 (by omega) hk) (fun _ q => nomatch q) (Wd := 0) (nle rfl) (nle rfl) (nle rfl) (nle rfl) (g := (mkF m 40 #[vR a, vR x4, vR x17] [(.ref x17)])) rfl (by rw [hml]; rfl) (argsL := [(.ref x17)]) (rest := []) (lenOf pd_22 rfl) rfl rfl (nle rfl) (hb hby d34_40)
    obtain ⟨x19, rfl, E19, A19, F19⟩ := q19
    have z20 : h17.size ≤ h19.size := E19.1
    refine go (g' := (mkF m 43 #[vR a, vR x4, vR x17] [(.ref x19)])) (st19) ?_
    have X21 : Ext h0 h4 := own_xt X5 E4
    have X22 : Ext h0 h17 := own_xt X21 E17
    have X23 : Ext h0 h19 := own_xt X22 E19
    have X24 : Ext h17 h19 := own_xt (own_xr h17) E19
    have f25 : Str Z h19 x17 ks := S17.ext X24
    exact fin (v := some (.ref x19)) (so := []) W19 (nle rfl) (nle rfl) (⟨_, _, rfl, X23, A19, F19, f25⟩) (fun _ q => nomatch q) (fun q => nomatch q) (own_retA W19 hx hret rfl rfl rfl (hb hby d34_43))
set_option maxRecDepth 65536 in
set_option maxHeartbeats 40000000 in
theorem rm_wsc16 {l : Launch} {Z : State} {a0 : Array Value} (C : Cx Z a0) (h0 : Heap) (p1 : Int32) :
    Ct l Z a0 own_EL (⟨"com/example/inchworm/inchworm/core/IdempotencyKeyParseHeaderPinLaw", "wsChar", "(II)C"⟩ : MethodName) method_4_code 2 (Option.some Jvm.ClassFile.FieldType.char) [] ({ frames := 0, cells := 0, slots := 0, locals := 0 } : Room) #[(.int p1), (.int (16 : Int32))] h0 [] (fun v h so => ∃ c : Int32, v = some (.int c) ∧ h0 = h ∧ Ows c) := by
  refine own_enter (plainFor_of_name pn_8) C.ew (F0 := fun m => mkF m 0 #[vI p1, vI (16 : Int32)] []) (fun m => by first | (simp [entryFrame, mkF, argsToLocals, Value.category]; done) | rfl) ?_
  intro p e s m below meth c s₁ G hx hby hml hret hnm W0 S0 go fin
  have z0 : Z.heap.size ≤ h0.size := W0.sz
  show G s₁ (mkF m 0 #[vI p1, vI (16 : Int32)] [])
  refine go (g' := (mkF m 5 #[vI p1, vI (16 : Int32)] [(.int (((p1.toUInt32 >>> ((16 : Int32) &&& 31).toUInt32).toInt32) &&& (1 : Int32)))])) (fun _ k => XS.iloadN W0.here hx rfl (hb hby d35_0) rfl (XS.iloadN W0.here hx rfl (hb hby d35_1) rfl (XS.iushr W0.here hx rfl (hb hby d35_2) rfl (XS.iconst W0.here hx rfl (hb hby d35_3) (XS.iand W0.here hx rfl (hb hby d35_4) rfl k))))) ?_
  by_cases kb1 : (((p1.toUInt32 >>> ((16 : Int32) &&& 31).toUInt32).toInt32) &&& (1 : Int32)) = (0 : Int32)
  · refine go (g' := (mkF m 15 #[vI p1, vI (16 : Int32)] [(.int (32 : Int32))])) (fun _ k => XS.ifYes W0.here hx rfl (pc0 := 5) (pc' := 13) rfl (hb hby d35_5) rfl ((if0 _ _).trans (teq kb1).1) (by decide) (by decide) (XS.bipush W0.here hx rfl (hb hby d35_13) k)) ?_
    exact fin (v := some (.int (32 : Int32))) (so := []) W0 (nle rfl) (nle rfl) (⟨_, rfl, rfl, Or.inl rfl⟩) (fun _ q => nomatch q) (fun q => nomatch q) (own_retI W0 hx hret (by decide) rfl (hb hby d35_15))
  · refine go (g' := (mkF m 15 #[vI p1, vI (16 : Int32)] [(.int (9 : Int32))])) (fun _ k => XS.ifNo W0.here hx rfl (hb hby d35_5) rfl ((if0 _ _).trans (feq kb1).1) (XS.bipush W0.here hx rfl (hb hby d35_8) (XS.goto W0.here hx rfl (pc0 := 10) (pc' := 15) rfl (hb hby d35_10) (by decide) (by decide) k))) ?_
    exact fin (v := some (.int (9 : Int32))) (so := []) W0 (nle rfl) (nle rfl) (⟨_, rfl, rfl, Or.inr rfl⟩) (fun _ q => nomatch q) (fun q => nomatch q) (own_retI W0 hx hret (by decide) rfl (hb hby d35_15))
set_option maxRecDepth 65536 in
set_option maxHeartbeats 40000000 in
theorem rm_wsc17 {l : Launch} {Z : State} {a0 : Array Value} (C : Cx Z a0) (h0 : Heap) (p1 : Int32) :
    Ct l Z a0 own_EL (⟨"com/example/inchworm/inchworm/core/IdempotencyKeyParseHeaderPinLaw", "wsChar", "(II)C"⟩ : MethodName) method_4_code 2 (Option.some Jvm.ClassFile.FieldType.char) [] ({ frames := 0, cells := 0, slots := 0, locals := 0 } : Room) #[(.int p1), (.int (17 : Int32))] h0 [] (fun v h so => ∃ c : Int32, v = some (.int c) ∧ h0 = h ∧ Ows c) := by
  refine own_enter (plainFor_of_name pn_8) C.ew (F0 := fun m => mkF m 0 #[vI p1, vI (17 : Int32)] []) (fun m => by first | (simp [entryFrame, mkF, argsToLocals, Value.category]; done) | rfl) ?_
  intro p e s m below meth c s₁ G hx hby hml hret hnm W0 S0 go fin
  have z0 : Z.heap.size ≤ h0.size := W0.sz
  show G s₁ (mkF m 0 #[vI p1, vI (17 : Int32)] [])
  refine go (g' := (mkF m 5 #[vI p1, vI (17 : Int32)] [(.int (((p1.toUInt32 >>> ((17 : Int32) &&& 31).toUInt32).toInt32) &&& (1 : Int32)))])) (fun _ k => XS.iloadN W0.here hx rfl (hb hby d35_0) rfl (XS.iloadN W0.here hx rfl (hb hby d35_1) rfl (XS.iushr W0.here hx rfl (hb hby d35_2) rfl (XS.iconst W0.here hx rfl (hb hby d35_3) (XS.iand W0.here hx rfl (hb hby d35_4) rfl k))))) ?_
  by_cases kb1 : (((p1.toUInt32 >>> ((17 : Int32) &&& 31).toUInt32).toInt32) &&& (1 : Int32)) = (0 : Int32)
  · refine go (g' := (mkF m 15 #[vI p1, vI (17 : Int32)] [(.int (32 : Int32))])) (fun _ k => XS.ifYes W0.here hx rfl (pc0 := 5) (pc' := 13) rfl (hb hby d35_5) rfl ((if0 _ _).trans (teq kb1).1) (by decide) (by decide) (XS.bipush W0.here hx rfl (hb hby d35_13) k)) ?_
    exact fin (v := some (.int (32 : Int32))) (so := []) W0 (nle rfl) (nle rfl) (⟨_, rfl, rfl, Or.inl rfl⟩) (fun _ q => nomatch q) (fun q => nomatch q) (own_retI W0 hx hret (by decide) rfl (hb hby d35_15))
  · refine go (g' := (mkF m 15 #[vI p1, vI (17 : Int32)] [(.int (9 : Int32))])) (fun _ k => XS.ifNo W0.here hx rfl (hb hby d35_5) rfl ((if0 _ _).trans (feq kb1).1) (XS.bipush W0.here hx rfl (hb hby d35_8) (XS.goto W0.here hx rfl (pc0 := 10) (pc' := 15) rfl (hb hby d35_10) (by decide) (by decide) k))) ?_
    exact fin (v := some (.int (9 : Int32))) (so := []) W0 (nle rfl) (nle rfl) (⟨_, rfl, rfl, Or.inr rfl⟩) (fun _ q => nomatch q) (fun q => nomatch q) (own_retI W0 hx hret (by decide) rfl (hb hby d35_15))
set_option maxRecDepth 65536 in
set_option maxHeartbeats 40000000 in
theorem rm_wsc18 {l : Launch} {Z : State} {a0 : Array Value} (C : Cx Z a0) (h0 : Heap) (p1 : Int32) :
    Ct l Z a0 own_EL (⟨"com/example/inchworm/inchworm/core/IdempotencyKeyParseHeaderPinLaw", "wsChar", "(II)C"⟩ : MethodName) method_4_code 2 (Option.some Jvm.ClassFile.FieldType.char) [] ({ frames := 0, cells := 0, slots := 0, locals := 0 } : Room) #[(.int p1), (.int (18 : Int32))] h0 [] (fun v h so => ∃ c : Int32, v = some (.int c) ∧ h0 = h ∧ Ows c) := by
  refine own_enter (plainFor_of_name pn_8) C.ew (F0 := fun m => mkF m 0 #[vI p1, vI (18 : Int32)] []) (fun m => by first | (simp [entryFrame, mkF, argsToLocals, Value.category]; done) | rfl) ?_
  intro p e s m below meth c s₁ G hx hby hml hret hnm W0 S0 go fin
  have z0 : Z.heap.size ≤ h0.size := W0.sz
  show G s₁ (mkF m 0 #[vI p1, vI (18 : Int32)] [])
  refine go (g' := (mkF m 5 #[vI p1, vI (18 : Int32)] [(.int (((p1.toUInt32 >>> ((18 : Int32) &&& 31).toUInt32).toInt32) &&& (1 : Int32)))])) (fun _ k => XS.iloadN W0.here hx rfl (hb hby d35_0) rfl (XS.iloadN W0.here hx rfl (hb hby d35_1) rfl (XS.iushr W0.here hx rfl (hb hby d35_2) rfl (XS.iconst W0.here hx rfl (hb hby d35_3) (XS.iand W0.here hx rfl (hb hby d35_4) rfl k))))) ?_
  by_cases kb1 : (((p1.toUInt32 >>> ((18 : Int32) &&& 31).toUInt32).toInt32) &&& (1 : Int32)) = (0 : Int32)
  · refine go (g' := (mkF m 15 #[vI p1, vI (18 : Int32)] [(.int (32 : Int32))])) (fun _ k => XS.ifYes W0.here hx rfl (pc0 := 5) (pc' := 13) rfl (hb hby d35_5) rfl ((if0 _ _).trans (teq kb1).1) (by decide) (by decide) (XS.bipush W0.here hx rfl (hb hby d35_13) k)) ?_
    exact fin (v := some (.int (32 : Int32))) (so := []) W0 (nle rfl) (nle rfl) (⟨_, rfl, rfl, Or.inl rfl⟩) (fun _ q => nomatch q) (fun q => nomatch q) (own_retI W0 hx hret (by decide) rfl (hb hby d35_15))
  · refine go (g' := (mkF m 15 #[vI p1, vI (18 : Int32)] [(.int (9 : Int32))])) (fun _ k => XS.ifNo W0.here hx rfl (hb hby d35_5) rfl ((if0 _ _).trans (feq kb1).1) (XS.bipush W0.here hx rfl (hb hby d35_8) (XS.goto W0.here hx rfl (pc0 := 10) (pc' := 15) rfl (hb hby d35_10) (by decide) (by decide) k))) ?_
    exact fin (v := some (.int (9 : Int32))) (so := []) W0 (nle rfl) (nle rfl) (⟨_, rfl, rfl, Or.inr rfl⟩) (fun _ q => nomatch q) (fun q => nomatch q) (own_retI W0 hx hret (by decide) rfl (hb hby d35_15))
set_option maxRecDepth 65536 in
set_option maxHeartbeats 40000000 in
theorem rm_wsc19 {l : Launch} {Z : State} {a0 : Array Value} (C : Cx Z a0) (h0 : Heap) (p1 : Int32) :
    Ct l Z a0 own_EL (⟨"com/example/inchworm/inchworm/core/IdempotencyKeyParseHeaderPinLaw", "wsChar", "(II)C"⟩ : MethodName) method_4_code 2 (Option.some Jvm.ClassFile.FieldType.char) [] ({ frames := 0, cells := 0, slots := 0, locals := 0 } : Room) #[(.int p1), (.int (19 : Int32))] h0 [] (fun v h so => ∃ c : Int32, v = some (.int c) ∧ h0 = h ∧ Ows c) := by
  refine own_enter (plainFor_of_name pn_8) C.ew (F0 := fun m => mkF m 0 #[vI p1, vI (19 : Int32)] []) (fun m => by first | (simp [entryFrame, mkF, argsToLocals, Value.category]; done) | rfl) ?_
  intro p e s m below meth c s₁ G hx hby hml hret hnm W0 S0 go fin
  have z0 : Z.heap.size ≤ h0.size := W0.sz
  show G s₁ (mkF m 0 #[vI p1, vI (19 : Int32)] [])
  refine go (g' := (mkF m 5 #[vI p1, vI (19 : Int32)] [(.int (((p1.toUInt32 >>> ((19 : Int32) &&& 31).toUInt32).toInt32) &&& (1 : Int32)))])) (fun _ k => XS.iloadN W0.here hx rfl (hb hby d35_0) rfl (XS.iloadN W0.here hx rfl (hb hby d35_1) rfl (XS.iushr W0.here hx rfl (hb hby d35_2) rfl (XS.iconst W0.here hx rfl (hb hby d35_3) (XS.iand W0.here hx rfl (hb hby d35_4) rfl k))))) ?_
  by_cases kb1 : (((p1.toUInt32 >>> ((19 : Int32) &&& 31).toUInt32).toInt32) &&& (1 : Int32)) = (0 : Int32)
  · refine go (g' := (mkF m 15 #[vI p1, vI (19 : Int32)] [(.int (32 : Int32))])) (fun _ k => XS.ifYes W0.here hx rfl (pc0 := 5) (pc' := 13) rfl (hb hby d35_5) rfl ((if0 _ _).trans (teq kb1).1) (by decide) (by decide) (XS.bipush W0.here hx rfl (hb hby d35_13) k)) ?_
    exact fin (v := some (.int (32 : Int32))) (so := []) W0 (nle rfl) (nle rfl) (⟨_, rfl, rfl, Or.inl rfl⟩) (fun _ q => nomatch q) (fun q => nomatch q) (own_retI W0 hx hret (by decide) rfl (hb hby d35_15))
  · refine go (g' := (mkF m 15 #[vI p1, vI (19 : Int32)] [(.int (9 : Int32))])) (fun _ k => XS.ifNo W0.here hx rfl (hb hby d35_5) rfl ((if0 _ _).trans (feq kb1).1) (XS.bipush W0.here hx rfl (hb hby d35_8) (XS.goto W0.here hx rfl (pc0 := 10) (pc' := 15) rfl (hb hby d35_10) (by decide) (by decide) k))) ?_
    exact fin (v := some (.int (9 : Int32))) (so := []) W0 (nle rfl) (nle rfl) (⟨_, rfl, rfl, Or.inr rfl⟩) (fun _ q => nomatch q) (fun q => nomatch q) (own_retI W0 hx hret (by decide) rfl (hb hby d35_15))
set_option maxRecDepth 65536 in
set_option maxHeartbeats 40000000 in
theorem rm_put0 {l : Launch} {Z : State} {a0 : Array Value} (C : Cx Z a0) (h0 : Heap) (b : Addr) (kb : ClassId) (L : List Int32) (c1 : Int32) (hc : ¬ c1 < (33 : Int32) ∧ ¬ (126 : Int32) < c1) (l1 : L.length ≤ 10) (Vb : Arv Z h0 b kb .char (12 : Int32) (L.map Value.int) vZ) (nb : Z.heap.size ≤ b) :
    Ct l Z a0 own_EL (⟨"com/example/inchworm/inchworm/core/IdempotencyKeyParseHeaderPinLaw", "put", "([CICZ)I"⟩ : MethodName) method_5_code 5 (Option.some Jvm.ClassFile.FieldType.int) [] ({ frames := 0, cells := 0, slots := 0, locals := 0 } : Room) #[(.ref b), (.int (Int32.ofNat L.length)), (.int c1), vZ] h0 [] (fun v h so => ∃ n : Int32, v = some (.int n) ∧ Keep h0 h [b] ∧ n = Int32.ofNat (L ++ put0 c1).length ∧ Arv Z h b kb .char (12 : Int32) ((L ++ put0 c1).map Value.int) vZ) := by
  refine own_enter (plainFor_of_name pn_8) C.ew (F0 := fun m => mkF m 0 #[vR b, vI (Int32.ofNat L.length), vI c1, .val vZ, .unset] []) (fun m => by first | (simp [entryFrame, mkF, argsToLocals, Value.category]; done) | rfl) ?_
  intro p e s m below meth c s₁ G hx hby hml hret hnm W0 S0 go fin
  have z0 : Z.heap.size ≤ h0.size := W0.sz
  show G s₁ (mkF m 0 #[vR b, vI (Int32.ofNat L.length), vI c1, .val vZ, .unset] [])
  have lb : ltN b h0.size := Vb.lt
  refine go (g' := (mkF m 35 #[vR b, vI (Int32.ofNat L.length), vI c1, .val vZ, vI (Int32.ofNat L.length)] [(.int c1), (.int (Int32.ofNat L.length)), (.ref b)])) (fun _ k => XS.iloadN W0.here hx rfl (hb hby d36_0) rfl (XS.istore W0.here hx rfl (hb hby d36_1) rfl (l' := #[vR b, vI (Int32.ofNat L.length), vI c1, .val vZ, vI (Int32.ofNat L.length)]) rfl (XS.iloadN W0.here hx rfl (hb hby d36_3) rfl (XS.ifYes W0.here hx rfl (pc0 := 4) (pc' := 31) rfl (hb hby d36_4) rfl ((if0 _ _).trans (teq ((by decide) : (0 : Int32) = (0 : Int32))).1) (by decide) (by decide) (XS.aloadN W0.here hx rfl (hb hby d36_31) rfl rfl (XS.iload W0.here hx rfl (hb hby d36_32) rfl (XS.iloadN W0.here hx rfl (hb hby d36_34) rfl k))))))) ?_
  have P1 : Arv Z h0 b kb .char (12 : Int32) (L.map Value.int ++ List.replicate 1 vZ) vZ := Vb.pad (pad_rep _ _ 1)
  obtain ⟨T1, h1, W1, R1, V1, st1⟩ := own_stC W0 hx P1 (by omega) (j := (Int32.ofNat L.length)) (i := L.length) (own_inb (n := 12) (by (try simp only [List.length_append, List.length_cons, List.length_nil]) <;> omega) (by decide)) (own_cl (by (try simp only [List.length_append, List.length_cons, List.length_nil]) <;> omega)) (by simp) (own_up (own_pr hc)) (g := (mkF m 35 #[vR b, vI (Int32.ofNat L.length), vI c1, .val vZ, vI (Int32.ofNat L.length)] [(.int c1), (.int (Int32.ofNat L.length)), (.ref b)])) rfl rfl (hb hby d36_35)
  have z2 : h1.size = h0.size := R1.size
  have U1 : Arv Z h1 b kb .char (12 : Int32) ((L ++ [c1]).map Value.int) vZ := by have q := V1; rw [own_setl] at q; exact q
  refine go (g' := (mkF m 36 #[vR b, vI (Int32.ofNat L.length), vI c1, .val vZ, vI (Int32.ofNat L.length)] [])) (st1) ?_
  refine go (g' := (mkF m 40 #[vR b, vI (Int32.ofNat L.length), vI c1, .val vZ, vI (Int32.ofNat L.length)] [(.int ((Int32.ofNat L.length) + (1 : Int32)))])) (fun _ k => XS.iload W1.here hx rfl (hb hby d36_36) rfl (XS.iconst W1.here hx rfl (hb hby d36_38) (XS.iadd W1.here hx rfl (hb hby d36_39) rfl k))) ?_
  have KK3 : Keep h0 h1 [b] := ((Keep.refl h0 [b]).wr R1 (Or.inl (List.mem_of_getElem? (i := 0) rfl)))
  exact fin (v := some (.int ((Int32.ofNat L.length) + (1 : Int32)))) (so := []) W1 (nle rfl) (nle rfl) (⟨_, rfl, KK3, (own_len1 _ _).trans (congrArg (fun z => Int32.ofNat (List.length z)) (own_put0 _)), (own_put0 _) ▸ U1⟩) (fun _ q => nomatch q) (fun q => nomatch q) (own_retI W1 hx hret (by decide) rfl (hb hby d36_40))
set_option maxRecDepth 65536 in
set_option maxHeartbeats 40000000 in
theorem rm_put1 {l : Launch} {Z : State} {a0 : Array Value} (C : Cx Z a0) (h0 : Heap) (b : Addr) (kb : ClassId) (L : List Int32) (c1 : Int32) (hc : ¬ c1 < (33 : Int32) ∧ ¬ (126 : Int32) < c1) (l1 : L.length ≤ 10) (Vb : Arv Z h0 b kb .char (12 : Int32) (L.map Value.int) vZ) (nb : Z.heap.size ≤ b) :
    Ct l Z a0 own_EL (⟨"com/example/inchworm/inchworm/core/IdempotencyKeyParseHeaderPinLaw", "put", "([CICZ)I"⟩ : MethodName) method_5_code 5 (Option.some Jvm.ClassFile.FieldType.int) [] ({ frames := 0, cells := 0, slots := 0, locals := 0 } : Room) #[(.ref b), (.int (Int32.ofNat L.length)), (.int c1), (.int (1 : Int32))] h0 [] (fun v h so => ∃ n : Int32, v = some (.int n) ∧ Keep h0 h [b] ∧ n = Int32.ofNat (L ++ put1 c1).length ∧ Arv Z h b kb .char (12 : Int32) ((L ++ put1 c1).map Value.int) vZ) := by
  refine own_enter (plainFor_of_name pn_8) C.ew (F0 := fun m => mkF m 0 #[vR b, vI (Int32.ofNat L.length), vI c1, vI (1 : Int32), .unset] []) (fun m => by first | (simp [entryFrame, mkF, argsToLocals, Value.category]; done) | rfl) ?_
  intro p e s m below meth c s₁ G hx hby hml hret hnm W0 S0 go fin
  have z0 : Z.heap.size ≤ h0.size := W0.sz
  show G s₁ (mkF m 0 #[vR b, vI (Int32.ofNat L.length), vI c1, vI (1 : Int32), .unset] [])
  have lb : ltN b h0.size := Vb.lt
  refine go (g' := (mkF m 10 #[vR b, vI (Int32.ofNat L.length), vI c1, vI (1 : Int32), vI (Int32.ofNat L.length)] [(.int (34 : Int32)), (.int c1)])) (fun _ k => XS.iloadN W0.here hx rfl (hb hby d36_0) rfl (XS.istore W0.here hx rfl (hb hby d36_1) rfl (l' := #[vR b, vI (Int32.ofNat L.length), vI c1, vI (1 : Int32), vI (Int32.ofNat L.length)]) rfl (XS.iloadN W0.here hx rfl (hb hby d36_3) rfl (XS.ifNo W0.here hx rfl (hb hby d36_4) rfl ((if0 _ _).trans (feq ((by decide) : ¬ ((1 : Int32) = (0 : Int32)))).1) (XS.iloadN W0.here hx rfl (hb hby d36_7) rfl (XS.bipush W0.here hx rfl (hb hby d36_8) k)))))) ?_
  by_cases kb1 : c1 = (34 : Int32)
  · refine go (g' := (mkF m 24 #[vR b, vI (Int32.ofNat L.length), vI c1, vI (1 : Int32), vI (Int32.ofNat L.length)] [(.int (92 : Int32)), (.int (Int32.ofNat L.length)), (.ref b)])) (fun _ k => XS.icmpYes W0.here hx rfl (pc0 := 10) (pc' := 19) rfl (hb hby d36_10) rfl (teq kb1).1 (by decide) (by decide) (XS.aloadN W0.here hx rfl (hb hby d36_19) rfl rfl (XS.iload W0.here hx rfl (hb hby d36_20) rfl (XS.bipush W0.here hx rfl (hb hby d36_22) k)))) ?_
    have P2 : Arv Z h0 b kb .char (12 : Int32) (L.map Value.int ++ List.replicate 1 vZ) vZ := Vb.pad (pad_rep _ _ 1)
    obtain ⟨T2, h2, W2, R2, V2, st2⟩ := own_stC W0 hx P2 (by omega) (j := (Int32.ofNat L.length)) (i := L.length) (own_inb (n := 12) (by (try simp only [List.length_append, List.length_cons, List.length_nil]) <;> omega) (by decide)) (own_cl (by (try simp only [List.length_append, List.length_cons, List.length_nil]) <;> omega)) (by simp) ⟨by decide, by decide⟩ (g := (mkF m 24 #[vR b, vI (Int32.ofNat L.length), vI c1, vI (1 : Int32), vI (Int32.ofNat L.length)] [(.int (92 : Int32)), (.int (Int32.ofNat L.length)), (.ref b)])) rfl rfl (hb hby d36_24)
    have z3 : h2.size = h0.size := R2.size
    have U2 : Arv Z h2 b kb .char (12 : Int32) ((L ++ [(92 : Int32)]).map Value.int) vZ := by have q := V2; rw [own_setl] at q; exact q
    refine go (g' := (mkF m 25 #[vR b, vI (Int32.ofNat L.length), vI c1, vI (1 : Int32), vI (Int32.ofNat L.length)] [])) (st2) ?_
    refine go (g' := (mkF m 31 #[vR b, vI (Int32.ofNat L.length), vI c1, vI (1 : Int32), vI ((Int32.ofNat L.length) + (1 : Int32))] [])) (fun _ k => XS.iload W2.here hx rfl (hb hby d36_25) rfl (XS.iconst W2.here hx rfl (hb hby d36_27) (XS.iadd W2.here hx rfl (hb hby d36_28) rfl (XS.istore W2.here hx rfl (hb hby d36_29) rfl (l' := #[vR b, vI (Int32.ofNat L.length), vI c1, vI (1 : Int32), vI ((Int32.ofNat L.length) + (1 : Int32))]) rfl k)))) ?_
    rw [show ((Int32.ofNat L.length) + (1 : Int32)) = (Int32.ofNat (L ++ [(92 : Int32)]).length) from own_len1 _ _]
    refine go (g' := (mkF m 35 #[vR b, vI (Int32.ofNat L.length), vI c1, vI (1 : Int32), vI (Int32.ofNat (L ++ [(92 : Int32)]).length)] [(.int c1), (.int (Int32.ofNat (L ++ [(92 : Int32)]).length)), (.ref b)])) (fun _ k => XS.aloadN W2.here hx rfl (hb hby d36_31) rfl rfl (XS.iload W2.here hx rfl (hb hby d36_32) rfl (XS.iloadN W2.here hx rfl (hb hby d36_34) rfl k))) ?_
    have P4 : Arv Z h2 b kb .char (12 : Int32) ((L ++ [(92 : Int32)]).map Value.int ++ List.replicate 1 vZ) vZ := U2.pad (pad_rep _ _ 1)
    obtain ⟨T4, h4, W4, R4, V4, st4⟩ := own_stC W2 hx P4 (by omega) (j := (Int32.ofNat (L ++ [(92 : Int32)]).length)) (i := (L ++ [(92 : Int32)]).length) (own_inb (n := 12) (by (try simp only [List.length_append, List.length_cons, List.length_nil]) <;> omega) (by decide)) (own_cl (by (try simp only [List.length_append, List.length_cons, List.length_nil]) <;> omega)) (by simp) (own_up (own_pr hc)) (g := (mkF m 35 #[vR b, vI (Int32.ofNat L.length), vI c1, vI (1 : Int32), vI (Int32.ofNat (L ++ [(92 : Int32)]).length)] [(.int c1), (.int (Int32.ofNat (L ++ [(92 : Int32)]).length)), (.ref b)])) rfl rfl (hb hby d36_35)
    have z5 : h4.size = h2.size := R4.size
    have U4 : Arv Z h4 b kb .char (12 : Int32) (((L ++ [(92 : Int32)]) ++ [c1]).map Value.int) vZ := by have q := V4; rw [own_setl] at q; exact q
    refine go (g' := (mkF m 36 #[vR b, vI (Int32.ofNat L.length), vI c1, vI (1 : Int32), vI (Int32.ofNat (L ++ [(92 : Int32)]).length)] [])) (st4) ?_
    refine go (g' := (mkF m 40 #[vR b, vI (Int32.ofNat L.length), vI c1, vI (1 : Int32), vI (Int32.ofNat (L ++ [(92 : Int32)]).length)] [(.int ((Int32.ofNat (L ++ [(92 : Int32)]).length) + (1 : Int32)))])) (fun _ k => XS.iload W4.here hx rfl (hb hby d36_36) rfl (XS.iconst W4.here hx rfl (hb hby d36_38) (XS.iadd W4.here hx rfl (hb hby d36_39) rfl k))) ?_
    have KK6 : Keep h0 h4 [b] := (((Keep.refl h0 [b]).wr R2 (Or.inl (List.mem_of_getElem? (i := 0) rfl))).wr R4 (Or.inl (List.mem_of_getElem? (i := 0) rfl)))
    exact fin (v := some (.int ((Int32.ofNat (L ++ [(92 : Int32)]).length) + (1 : Int32)))) (so := []) W4 (nle rfl) (nle rfl) (⟨_, rfl, KK6, (own_len1 _ _).trans (congrArg (fun z => Int32.ofNat (List.length z)) (own_put1y _ (Or.inl kb1))), (own_put1y _ (Or.inl kb1)) ▸ U4⟩) (fun _ q => nomatch q) (fun q => nomatch q) (own_retI W4 hx hret (by decide) rfl (hb hby d36_40))
  · refine go (g' := (mkF m 16 #[vR b, vI (Int32.ofNat L.length), vI c1, vI (1 : Int32), vI (Int32.ofNat L.length)] [(.int (92 : Int32)), (.int c1)])) (fun _ k => XS.icmpNo W0.here hx rfl (hb hby d36_10) rfl (feq kb1).1 (XS.iloadN W0.here hx rfl (hb hby d36_13) rfl (XS.bipush W0.here hx rfl (hb hby d36_14) k))) ?_
    by_cases kb7 : c1 = (92 : Int32)
    · refine go (g' := (mkF m 24 #[vR b, vI (Int32.ofNat L.length), vI c1, vI (1 : Int32), vI (Int32.ofNat L.length)] [(.int (92 : Int32)), (.int (Int32.ofNat L.length)), (.ref b)])) (fun _ k => XS.icmpNo W0.here hx rfl (hb hby d36_16) rfl (teq kb7).2 (XS.aloadN W0.here hx rfl (hb hby d36_19) rfl rfl (XS.iload W0.here hx rfl (hb hby d36_20) rfl (XS.bipush W0.here hx rfl (hb hby d36_22) k)))) ?_
      have P8 : Arv Z h0 b kb .char (12 : Int32) (L.map Value.int ++ List.replicate 1 vZ) vZ := Vb.pad (pad_rep _ _ 1)
      obtain ⟨T8, h8, W8, R8, V8, st8⟩ := own_stC W0 hx P8 (by omega) (j := (Int32.ofNat L.length)) (i := L.length) (own_inb (n := 12) (by (try simp only [List.length_append, List.length_cons, List.length_nil]) <;> omega) (by decide)) (own_cl (by (try simp only [List.length_append, List.length_cons, List.length_nil]) <;> omega)) (by simp) ⟨by decide, by decide⟩ (g := (mkF m 24 #[vR b, vI (Int32.ofNat L.length), vI c1, vI (1 : Int32), vI (Int32.ofNat L.length)] [(.int (92 : Int32)), (.int (Int32.ofNat L.length)), (.ref b)])) rfl rfl (hb hby d36_24)
      have z9 : h8.size = h0.size := R8.size
      have U8 : Arv Z h8 b kb .char (12 : Int32) ((L ++ [(92 : Int32)]).map Value.int) vZ := by have q := V8; rw [own_setl] at q; exact q
      refine go (g' := (mkF m 25 #[vR b, vI (Int32.ofNat L.length), vI c1, vI (1 : Int32), vI (Int32.ofNat L.length)] [])) (st8) ?_
      refine go (g' := (mkF m 31 #[vR b, vI (Int32.ofNat L.length), vI c1, vI (1 : Int32), vI ((Int32.ofNat L.length) + (1 : Int32))] [])) (fun _ k => XS.iload W8.here hx rfl (hb hby d36_25) rfl (XS.iconst W8.here hx rfl (hb hby d36_27) (XS.iadd W8.here hx rfl (hb hby d36_28) rfl (XS.istore W8.here hx rfl (hb hby d36_29) rfl (l' := #[vR b, vI (Int32.ofNat L.length), vI c1, vI (1 : Int32), vI ((Int32.ofNat L.length) + (1 : Int32))]) rfl k)))) ?_
      rw [show ((Int32.ofNat L.length) + (1 : Int32)) = (Int32.ofNat (L ++ [(92 : Int32)]).length) from own_len1 _ _]
      refine go (g' := (mkF m 35 #[vR b, vI (Int32.ofNat L.length), vI c1, vI (1 : Int32), vI (Int32.ofNat (L ++ [(92 : Int32)]).length)] [(.int c1), (.int (Int32.ofNat (L ++ [(92 : Int32)]).length)), (.ref b)])) (fun _ k => XS.aloadN W8.here hx rfl (hb hby d36_31) rfl rfl (XS.iload W8.here hx rfl (hb hby d36_32) rfl (XS.iloadN W8.here hx rfl (hb hby d36_34) rfl k))) ?_
      have P10 : Arv Z h8 b kb .char (12 : Int32) ((L ++ [(92 : Int32)]).map Value.int ++ List.replicate 1 vZ) vZ := U8.pad (pad_rep _ _ 1)
      obtain ⟨T10, h10, W10, R10, V10, st10⟩ := own_stC W8 hx P10 (by omega) (j := (Int32.ofNat (L ++ [(92 : Int32)]).length)) (i := (L ++ [(92 : Int32)]).length) (own_inb (n := 12) (by (try simp only [List.length_append, List.length_cons, List.length_nil]) <;> omega) (by decide)) (own_cl (by (try simp only [List.length_append, List.length_cons, List.length_nil]) <;> omega)) (by simp) (own_up (own_pr hc)) (g := (mkF m 35 #[vR b, vI (Int32.ofNat L.length), vI c1, vI (1 : Int32), vI (Int32.ofNat (L ++ [(92 : Int32)]).length)] [(.int c1), (.int (Int32.ofNat (L ++ [(92 : Int32)]).length)), (.ref b)])) rfl rfl (hb hby d36_35)
      have z11 : h10.size = h8.size := R10.size
      have U10 : Arv Z h10 b kb .char (12 : Int32) (((L ++ [(92 : Int32)]) ++ [c1]).map Value.int) vZ := by have q := V10; rw [own_setl] at q; exact q
      refine go (g' := (mkF m 36 #[vR b, vI (Int32.ofNat L.length), vI c1, vI (1 : Int32), vI (Int32.ofNat (L ++ [(92 : Int32)]).length)] [])) (st10) ?_
      refine go (g' := (mkF m 40 #[vR b, vI (Int32.ofNat L.length), vI c1, vI (1 : Int32), vI (Int32.ofNat (L ++ [(92 : Int32)]).length)] [(.int ((Int32.ofNat (L ++ [(92 : Int32)]).length) + (1 : Int32)))])) (fun _ k => XS.iload W10.here hx rfl (hb hby d36_36) rfl (XS.iconst W10.here hx rfl (hb hby d36_38) (XS.iadd W10.here hx rfl (hb hby d36_39) rfl k))) ?_
      have KK12 : Keep h0 h10 [b] := (((Keep.refl h0 [b]).wr R8 (Or.inl (List.mem_of_getElem? (i := 0) rfl))).wr R10 (Or.inl (List.mem_of_getElem? (i := 0) rfl)))
      exact fin (v := some (.int ((Int32.ofNat (L ++ [(92 : Int32)]).length) + (1 : Int32)))) (so := []) W10 (nle rfl) (nle rfl) (⟨_, rfl, KK12, (own_len1 _ _).trans (congrArg (fun z => Int32.ofNat (List.length z)) (own_put1y _ (Or.inr kb7))), (own_put1y _ (Or.inr kb7)) ▸ U10⟩) (fun _ q => nomatch q) (fun q => nomatch q) (own_retI W10 hx hret (by decide) rfl (hb hby d36_40))
    · refine go (g' := (mkF m 35 #[vR b, vI (Int32.ofNat L.length), vI c1, vI (1 : Int32), vI (Int32.ofNat L.length)] [(.int c1), (.int (Int32.ofNat L.length)), (.ref b)])) (fun _ k => XS.icmpYes W0.here hx rfl (pc0 := 16) (pc' := 31) rfl (hb hby d36_16) rfl (feq kb7).2 (by decide) (by decide) (XS.aloadN W0.here hx rfl (hb hby d36_31) rfl rfl (XS.iload W0.here hx rfl (hb hby d36_32) rfl (XS.iloadN W0.here hx rfl (hb hby d36_34) rfl k)))) ?_
      have P13 : Arv Z h0 b kb .char (12 : Int32) (L.map Value.int ++ List.replicate 1 vZ) vZ := Vb.pad (pad_rep _ _ 1)
      obtain ⟨T13, h13, W13, R13, V13, st13⟩ := own_stC W0 hx P13 (by omega) (j := (Int32.ofNat L.length)) (i := L.length) (own_inb (n := 12) (by (try simp only [List.length_append, List.length_cons, List.length_nil]) <;> omega) (by decide)) (own_cl (by (try simp only [List.length_append, List.length_cons, List.length_nil]) <;> omega)) (by simp) (own_up (own_pr hc)) (g := (mkF m 35 #[vR b, vI (Int32.ofNat L.length), vI c1, vI (1 : Int32), vI (Int32.ofNat L.length)] [(.int c1), (.int (Int32.ofNat L.length)), (.ref b)])) rfl rfl (hb hby d36_35)
      have z14 : h13.size = h0.size := R13.size
      have U13 : Arv Z h13 b kb .char (12 : Int32) ((L ++ [c1]).map Value.int) vZ := by have q := V13; rw [own_setl] at q; exact q
      refine go (g' := (mkF m 36 #[vR b, vI (Int32.ofNat L.length), vI c1, vI (1 : Int32), vI (Int32.ofNat L.length)] [])) (st13) ?_
      refine go (g' := (mkF m 40 #[vR b, vI (Int32.ofNat L.length), vI c1, vI (1 : Int32), vI (Int32.ofNat L.length)] [(.int ((Int32.ofNat L.length) + (1 : Int32)))])) (fun _ k => XS.iload W13.here hx rfl (hb hby d36_36) rfl (XS.iconst W13.here hx rfl (hb hby d36_38) (XS.iadd W13.here hx rfl (hb hby d36_39) rfl k))) ?_
      have KK15 : Keep h0 h13 [b] := ((Keep.refl h0 [b]).wr R13 (Or.inl (List.mem_of_getElem? (i := 0) rfl)))
      exact fin (v := some (.int ((Int32.ofNat L.length) + (1 : Int32)))) (so := []) W13 (nle rfl) (nle rfl) (⟨_, rfl, KK15, (own_len1 _ _).trans (congrArg (fun z => Int32.ofNat (List.length z)) (own_put1n _ kb1 kb7)), (own_put1n _ kb1 kb7) ▸ U13⟩) (fun _ q => nomatch q) (fun q => nomatch q) (own_retI W13 hx hret (by decide) rfl (hb hby d36_40))
set_option maxRecDepth 65536 in
set_option maxHeartbeats 40000000 in
theorem rm_take1 {l : Launch} {Z : State} {a0 : Array Value} (C : Cx Z a0) (h0 : Heap) (b : Addr) (kb : ClassId) (c1 : Int32) (hr : ∀ c ∈ [c1], ¬ c < 0 ∧ ¬ (255 : Int32) < c) (Vb : Arv Z h0 b kb .char (12 : Int32) [(.int c1)] vZ) :
    Ct l Z a0 own_EL (⟨"com/example/inchworm/inchworm/core/IdempotencyKeyParseHeaderPinLaw", "take", "([CI)Ljava/lang/String;"⟩ : MethodName) method_6_code 2 (Option.some (Jvm.ClassFile.FieldType.object "java/lang/String")) [] ({ frames := 5, cells := 3, slots := 30, locals := 76 } : Room) #[(.ref b), (.int (1 : Int32))] h0 [] (fun v h so => ∃ x : Addr, v = some (.ref x) ∧ Ext h0 h ∧ Str Z h x [c1]) := by
  refine own_enter (plainFor_of_name pn_8) C.ew (F0 := fun m => mkF m 0 #[vR b, vI (1 : Int32)] []) (fun m => by first | (simp [entryFrame, mkF, argsToLocals, Value.category]; done) | rfl) ?_
  intro p e s m below meth c s₁ G hx hby hml hret hnm W0 S0 go fin
  have z0 : Z.heap.size ≤ h0.size := W0.sz
  show G s₁ (mkF m 0 #[vR b, vI (1 : Int32)] [])
  have lb : ltN b h0.size := Vb.lt
  refine go (g' := (mkF m 5 #[vR b, vI (1 : Int32)] [])) (fun _ k => XS.iloadN W0.here hx rfl (hb hby d37_0) rfl (XS.iconst W0.here hx rfl (hb hby d37_1) (XS.icmpNo W0.here hx rfl (hb hby d37_2) rfl (teq ((by decide) : (1 : Int32) = (1 : Int32))).2 k))) ?_
  obtain ⟨x1, T1, h1, g1, W1, E1, A1, D1, U1, st1⟩ := own_new W0 hx (w12 C) (w13 C) (w14 C) (g := (mkF m 5 #[vR b, vI (1 : Int32)] [])) rfl (hb hby d37_5) (nle rfl) (nle rfl)
  have z2 : h0.size ≤ h1.size := E1.1
  have l1 : ltN x1 h1.size := A1.lt
  have F1_coder : Fld Z h1 x1 "java/lang/String" "coder" "B" vZ := D1 (Or.inr (w38 C)) (ty := .byte) (by decide)
  have F1_value : Fld Z h1 x1 "java/lang/String" "value" "[B" .null := D1 (Or.inr (w40 C)) (ty := (.array .byte)) (by decide)
  refine go (g' := (mkF m 8 #[vR b, vI (1 : Int32)] [(.ref x1)])) (st1) ?_
  refine go (g' := (mkF m 10 #[vR b, vI (1 : Int32)] [(.int (1 : Int32)), (.ref x1), (.ref x1)])) (fun _ k => XS.dup W1.here hx rfl (hb hby d37_8) rfl rfl (XS.iconst W1.here hx rfl (hb hby d37_9) k)) ?_
  obtain ⟨x3, T3, h3, k3, g3, W3, E3, A3, st3⟩ := own_newP W1 hx (aty := .char) (w5 C) (g := (mkF m 10 #[vR b, vI (1 : Int32)] [(.int (1 : Int32)), (.ref x1), (.ref x1)])) rfl (hb hby d37_10) rfl (by decide) (cap := 1) (by decide) (nle rfl) (nle rfl) (nle rfl)
  have z4 : h1.size ≤ h3.size := E3.1
  have l3 : ltN x3 h3.size := A3.lt
  have V3 : Arv Z h3 x3 k3 .char (1 : Int32) [vZ] vZ := A3.pad (pad_rep [] vZ 1)
  refine go (g' := (mkF m 12 #[vR b, vI (1 : Int32)] [(.ref x3), (.ref x1), (.ref x1)])) (st3) ?_
  refine go (g' := (mkF m 16 #[vR b, vI (1 : Int32)] [vZ, (.ref b), vZ, (.ref x3), (.ref x3), (.ref x1), (.ref x1)])) (fun _ k => XS.dup W3.here hx rfl (hb hby d37_12) rfl rfl (XS.iconst W3.here hx rfl (hb hby d37_13) (XS.aloadN W3.here hx rfl (hb hby d37_14) rfl rfl (XS.iconst W3.here hx rfl (hb hby d37_15) k)))) ?_
  have X5 : Ext h0 h1 := own_xt (own_xr h0) E1
  have X6 : Ext h0 h3 := own_xt X5 E3
  have f7 : Arv Z h3 b kb .char (12 : Int32) [(.int c1)] vZ := Vb.ext X6
  refine go (g' := (mkF m 17 #[vR b, vI (1 : Int32)] [(.int c1), vZ, (.ref x3), (.ref x3), (.ref x1), (.ref x1)])) (own_cal W3 hx f7 (j := (0 : Int32)) ⟨by decide, by decide⟩ rfl (g := (mkF m 16 #[vR b, vI (1 : Int32)] [vZ, (.ref b), vZ, (.ref x3), (.ref x3), (.ref x1), (.ref x1)])) rfl rfl (hb hby d37_16)) ?_
  obtain ⟨T8, h8, W8, R8, V8, st8⟩ := own_stC W3 hx V3 (by omega) (j := (0 : Int32)) (i := 0) ⟨by decide, by decide⟩ rfl (nle rfl) (own_up (hr _ (List.mem_of_getElem? (i := 0) rfl))) (g := (mkF m 17 #[vR b, vI (1 : Int32)] [(.int c1), vZ, (.ref x3), (.ref x3), (.ref x1), (.ref x1)])) rfl rfl (hb hby d37_17)
  have z9 : h8.size = h3.size := R8.size
  have U8 : Arv Z h8 x3 k3 .char (1 : Int32) [(.int c1)] vZ := V8
  refine go (g' := (mkF m 18 #[vR b, vI (1 : Int32)] [(.ref x3), (.ref x1), (.ref x1)])) (st8) ?_
  have X11 : Ext h0 h8 := own_xw X6 R8 (by omega)
  have X12 : Ext h1 h3 := own_xt (own_xr h1) E3
  have X13 : Ext h1 h8 := own_xw X12 R8 (by omega)
  have f14 : Exa Z h8 x1 "java/lang/String" := A1.ext X13
  have f15 : Fld Z h8 x1 "java/lang/String" "value" "[B" .null := F1_value.ext X13
  have f16 : Fld Z h8 x1 "java/lang/String" "coder" "B" vZ := F1_coder.ext X13
  obtain ⟨T10, h10, W10, K10, S10, st10⟩ := own_strNew W8 hx (own_ws C) (w15 C) (w16 C) (w17 C) (w13 C) f14 f15 f16 (cs := [c1]) U8 rfl C.cs (nle rfl) (nle rfl) (own_alS (hr _ (List.mem_of_getElem? (i := 0) rfl)) own_al0) (own_safeB W0 X11 (by omega)) (by omega) (Wd := 1) (nle rfl) (nle rfl) (nle rfl) (nle rfl) (g := (mkF m 18 #[vR b, vI (1 : Int32)] [(.ref x3), (.ref x1), (.ref x1)])) rfl (by rw [hml]; rfl) rfl (nle rfl) (hb hby d37_18)
  have z17 : h8.size ≤ h10.size := K10.1
  refine go (g' := (mkF m 21 #[vR b, vI (1 : Int32)] [(.ref x1)])) (st10) ?_
  have X18 : Ext h0 h10 := own_xk X11 K10 (allS (by omega) all0)
  exact fin (v := some (.ref x1)) (so := []) W10 (nle rfl) (nle rfl) (⟨_, rfl, X18, S10⟩) (fun _ q => nomatch q) (fun q => nomatch q) (own_retA W10 hx hret rfl rfl rfl (hb hby d37_21))
set_option maxRecDepth 65536 in
set_option maxHeartbeats 40000000 in
theorem rm_take2 {l : Launch} {Z : State} {a0 : Array Value} (C : Cx Z a0) (h0 : Heap) (b : Addr) (kb : ClassId) (c1 c2 : Int32) (hr : ∀ c ∈ [c1, c2], ¬ c < 0 ∧ ¬ (255 : Int32) < c) (Vb : Arv Z h0 b kb .char (12 : Int32) [(.int c1), (.int c2)] vZ) :
    Ct l Z a0 own_EL (⟨"com/example/inchworm/inchworm/core/IdempotencyKeyParseHeaderPinLaw", "take", "([CI)Ljava/lang/String;"⟩ : MethodName) method_6_code 2 (Option.some (Jvm.ClassFile.FieldType.object "java/lang/String")) [] ({ frames := 5, cells := 3, slots := 30, locals := 76 } : Room) #[(.ref b), (.int (2 : Int32))] h0 [] (fun v h so => ∃ x : Addr, v = some (.ref x) ∧ Ext h0 h ∧ Str Z h x [c1, c2]) := by
  refine own_enter (plainFor_of_name pn_8) C.ew (F0 := fun m => mkF m 0 #[vR b, vI (2 : Int32)] []) (fun m => by first | (simp [entryFrame, mkF, argsToLocals, Value.category]; done) | rfl) ?_
  intro p e s m below meth c s₁ G hx hby hml hret hnm W0 S0 go fin
  have z0 : Z.heap.size ≤ h0.size := W0.sz
  show G s₁ (mkF m 0 #[vR b, vI (2 : Int32)] [])
  have lb : ltN b h0.size := Vb.lt
  refine go (g' := (mkF m 27 #[vR b, vI (2 : Int32)] [])) (fun _ k => XS.iloadN W0.here hx rfl (hb hby d37_0) rfl (XS.iconst W0.here hx rfl (hb hby d37_1) (XS.icmpYes W0.here hx rfl (pc0 := 2) (pc' := 22) rfl (hb hby d37_2) rfl (feq ((by decide) : ¬ ((2 : Int32) = (1 : Int32)))).2 (by decide) (by decide) (XS.iloadN W0.here hx rfl (hb hby d37_22) rfl (XS.iconst W0.here hx rfl (hb hby d37_23) (XS.icmpNo W0.here hx rfl (hb hby d37_24) rfl (teq ((by decide) : (2 : Int32) = (2 : Int32))).2 k)))))) ?_
  obtain ⟨x1, T1, h1, g1, W1, E1, A1, D1, U1, st1⟩ := own_new W0 hx (w12 C) (w13 C) (w14 C) (g := (mkF m 27 #[vR b, vI (2 : Int32)] [])) rfl (hb hby d37_27) (nle rfl) (nle rfl)
  have z2 : h0.size ≤ h1.size := E1.1
  have l1 : ltN x1 h1.size := A1.lt
  have F1_coder : Fld Z h1 x1 "java/lang/String" "coder" "B" vZ := D1 (Or.inr (w38 C)) (ty := .byte) (by decide)
  have F1_value : Fld Z h1 x1 "java/lang/String" "value" "[B" .null := D1 (Or.inr (w40 C)) (ty := (.array .byte)) (by decide)
  refine go (g' := (mkF m 30 #[vR b, vI (2 : Int32)] [(.ref x1)])) (st1) ?_
  refine go (g' := (mkF m 32 #[vR b, vI (2 : Int32)] [(.int (2 : Int32)), (.ref x1), (.ref x1)])) (fun _ k => XS.dup W1.here hx rfl (hb hby d37_30) rfl rfl (XS.iconst W1.here hx rfl (hb hby d37_31) k)) ?_
  obtain ⟨x3, T3, h3, k3, g3, W3, E3, A3, st3⟩ := own_newP W1 hx (aty := .char) (w5 C) (g := (mkF m 32 #[vR b, vI (2 : Int32)] [(.int (2 : Int32)), (.ref x1), (.ref x1)])) rfl (hb hby d37_32) rfl (by decide) (cap := 2) (by decide) (nle rfl) (nle rfl) (nle rfl)
  have z4 : h1.size ≤ h3.size := E3.1
  have l3 : ltN x3 h3.size := A3.lt
  have V3 : Arv Z h3 x3 k3 .char (2 : Int32) [vZ, vZ] vZ := A3.pad (pad_rep [] vZ 2)
  refine go (g' := (mkF m 34 #[vR b, vI (2 : Int32)] [(.ref x3), (.ref x1), (.ref x1)])) (st3) ?_
  refine go (g' := (mkF m 38 #[vR b, vI (2 : Int32)] [vZ, (.ref b), vZ, (.ref x3), (.ref x3), (.ref x1), (.ref x1)])) (fun _ k => XS.dup W3.here hx rfl (hb hby d37_34) rfl rfl (XS.iconst W3.here hx rfl (hb hby d37_35) (XS.aloadN W3.here hx rfl (hb hby d37_36) rfl rfl (XS.iconst W3.here hx rfl (hb hby d37_37) k)))) ?_
  have X5 : Ext h0 h1 := own_xt (own_xr h0) E1
  have X6 : Ext h0 h3 := own_xt X5 E3
  have f7 : Arv Z h3 b kb .char (12 : Int32) [(.int c1), (.int c2)] vZ := Vb.ext X6
  refine go (g' := (mkF m 39 #[vR b, vI (2 : Int32)] [(.int c1), vZ, (.ref x3), (.ref x3), (.ref x1), (.ref x1)])) (own_cal W3 hx f7 (j := (0 : Int32)) ⟨by decide, by decide⟩ rfl (g := (mkF m 38 #[vR b, vI (2 : Int32)] [vZ, (.ref b), vZ, (.ref x3), (.ref x3), (.ref x1), (.ref x1)])) rfl rfl (hb hby d37_38)) ?_
  obtain ⟨T8, h8, W8, R8, V8, st8⟩ := own_stC W3 hx V3 (by omega) (j := (0 : Int32)) (i := 0) ⟨by decide, by decide⟩ rfl (nle rfl) (own_up (hr _ (List.mem_of_getElem? (i := 0) rfl))) (g := (mkF m 39 #[vR b, vI (2 : Int32)] [(.int c1), vZ, (.ref x3), (.ref x3), (.ref x1), (.ref x1)])) rfl rfl (hb hby d37_39)
  have z9 : h8.size = h3.size := R8.size
  have U8 : Arv Z h8 x3 k3 .char (2 : Int32) [(.int c1), vZ] vZ := V8
  refine go (g' := (mkF m 40 #[vR b, vI (2 : Int32)] [(.ref x3), (.ref x1), (.ref x1)])) (st8) ?_
  refine go (g' := (mkF m 44 #[vR b, vI (2 : Int32)] [(.int (1 : Int32)), (.ref b), (.int (1 : Int32)), (.ref x3), (.ref x3), (.ref x1), (.ref x1)])) (fun _ k => XS.dup W8.here hx rfl (hb hby d37_40) rfl rfl (XS.iconst W8.here hx rfl (hb hby d37_41) (XS.aloadN W8.here hx rfl (hb hby d37_42) rfl rfl (XS.iconst W8.here hx rfl (hb hby d37_43) k)))) ?_
  have X10 : Ext h0 h8 := own_xw X6 R8 (by omega)
  have f11 : Arv Z h8 b kb .char (12 : Int32) [(.int c1), (.int c2)] vZ := Vb.ext X10
  refine go (g' := (mkF m 45 #[vR b, vI (2 : Int32)] [(.int c2), (.int (1 : Int32)), (.ref x3), (.ref x3), (.ref x1), (.ref x1)])) (own_cal W8 hx f11 (j := (1 : Int32)) ⟨by decide, by decide⟩ rfl (g := (mkF m 44 #[vR b, vI (2 : Int32)] [(.int (1 : Int32)), (.ref b), (.int (1 : Int32)), (.ref x3), (.ref x3), (.ref x1), (.ref x1)])) rfl rfl (hb hby d37_44)) ?_
  obtain ⟨T12, h12, W12, R12, V12, st12⟩ := own_stC W8 hx U8 (by omega) (j := (1 : Int32)) (i := 1) ⟨by decide, by decide⟩ rfl (nle rfl) (own_up (hr _ (List.mem_of_getElem? (i := 1) rfl))) (g := (mkF m 45 #[vR b, vI (2 : Int32)] [(.int c2), (.int (1 : Int32)), (.ref x3), (.ref x3), (.ref x1), (.ref x1)])) rfl rfl (hb hby d37_45)
  have z13 : h12.size = h8.size := R12.size
  have U12 : Arv Z h12 x3 k3 .char (2 : Int32) [(.int c1), (.int c2)] vZ := V12
  refine go (g' := (mkF m 46 #[vR b, vI (2 : Int32)] [(.ref x3), (.ref x1), (.ref x1)])) (st12) ?_
  have X15 : Ext h0 h12 := own_xw X10 R12 (by omega)
  have X16 : Ext h1 h3 := own_xt (own_xr h1) E3
  have X17 : Ext h1 h8 := own_xw X16 R8 (by omega)
  have X18 : Ext h1 h12 := own_xw X17 R12 (by omega)
  have f19 : Exa Z h12 x1 "java/lang/String" := A1.ext X18
  have f20 : Fld Z h12 x1 "java/lang/String" "value" "[B" .null := F1_value.ext X18
  have f21 : Fld Z h12 x1 "java/lang/String" "coder" "B" vZ := F1_coder.ext X18
  obtain ⟨T14, h14, W14, K14, S14, st14⟩ := own_strNew W12 hx (own_ws C) (w15 C) (w16 C) (w17 C) (w13 C) f19 f20 f21 (cs := [c1, c2]) U12 rfl C.cs (nle rfl) (nle rfl) (own_alS (hr _ (List.mem_of_getElem? (i := 0) rfl)) (own_alS (hr _ (List.mem_of_getElem? (i := 1) rfl)) own_al0)) (own_safeB W0 X15 (by omega)) (by omega) (Wd := 1) (nle rfl) (nle rfl) (nle rfl) (nle rfl) (g := (mkF m 46 #[vR b, vI (2 : Int32)] [(.ref x3), (.ref x1), (.ref x1)])) rfl (by rw [hml]; rfl) rfl (nle rfl) (hb hby d37_46)
  have z22 : h12.size ≤ h14.size := K14.1
  refine go (g' := (mkF m 49 #[vR b, vI (2 : Int32)] [(.ref x1)])) (st14) ?_
  have X23 : Ext h0 h14 := own_xk X15 K14 (allS (by omega) all0)
  exact fin (v := some (.ref x1)) (so := []) W14 (nle rfl) (nle rfl) (⟨_, rfl, X23, S14⟩) (fun _ q => nomatch q) (fun q => nomatch q) (own_retA W14 hx hret rfl rfl rfl (hb hby d37_49))
set_option maxRecDepth 65536 in
set_option maxHeartbeats 40000000 in
theorem rm_take3 {l : Launch} {Z : State} {a0 : Array Value} (C : Cx Z a0) (h0 : Heap) (b : Addr) (kb : ClassId) (c1 c2 c3 : Int32) (hr : ∀ c ∈ [c1, c2, c3], ¬ c < 0 ∧ ¬ (255 : Int32) < c) (Vb : Arv Z h0 b kb .char (12 : Int32) [(.int c1), (.int c2), (.int c3)] vZ) :
    Ct l Z a0 own_EL (⟨"com/example/inchworm/inchworm/core/IdempotencyKeyParseHeaderPinLaw", "take", "([CI)Ljava/lang/String;"⟩ : MethodName) method_6_code 2 (Option.some (Jvm.ClassFile.FieldType.object "java/lang/String")) [] ({ frames := 5, cells := 3, slots := 30, locals := 76 } : Room) #[(.ref b), (.int (3 : Int32))] h0 [] (fun v h so => ∃ x : Addr, v = some (.ref x) ∧ Ext h0 h ∧ Str Z h x [c1, c2, c3]) := by
  refine own_enter (plainFor_of_name pn_8) C.ew (F0 := fun m => mkF m 0 #[vR b, vI (3 : Int32)] []) (fun m => by first | (simp [entryFrame, mkF, argsToLocals, Value.category]; done) | rfl) ?_
  intro p e s m below meth c s₁ G hx hby hml hret hnm W0 S0 go fin
  have z0 : Z.heap.size ≤ h0.size := W0.sz
  show G s₁ (mkF m 0 #[vR b, vI (3 : Int32)] [])
  have lb : ltN b h0.size := Vb.lt
  refine go (g' := (mkF m 52 #[vR b, vI (3 : Int32)] [(.int (3 : Int32)), (.int (3 : Int32))])) (fun _ k => XS.iloadN W0.here hx rfl (hb hby d37_0) rfl (XS.iconst W0.here hx rfl (hb hby d37_1) (XS.icmpYes W0.here hx rfl (pc0 := 2) (pc' := 22) rfl (hb hby d37_2) rfl (feq ((by decide) : ¬ ((3 : Int32) = (1 : Int32)))).2 (by decide) (by decide) (XS.iloadN W0.here hx rfl (hb hby d37_22) rfl (XS.iconst W0.here hx rfl (hb hby d37_23) (XS.icmpYes W0.here hx rfl (pc0 := 24) (pc' := 50) rfl (hb hby d37_24) rfl (feq ((by decide) : ¬ ((3 : Int32) = (2 : Int32)))).2 (by decide) (by decide) (XS.iloadN W0.here hx rfl (hb hby d37_50) rfl (XS.iconst W0.here hx rfl (hb hby d37_51) k)))))))) ?_
  refine go (g' := (mkF m 55 #[vR b, vI (3 : Int32)] [])) (fun _ k => XS.icmpNo W0.here hx rfl (hb hby d37_52) rfl (teq ((by decide) : (3 : Int32) = (3 : Int32))).2 k) ?_
  obtain ⟨x1, T1, h1, g1, W1, E1, A1, D1, U1, st1⟩ := own_new W0 hx (w12 C) (w13 C) (w14 C) (g := (mkF m 55 #[vR b, vI (3 : Int32)] [])) rfl (hb hby d37_55) (nle rfl) (nle rfl)
  have z2 : h0.size ≤ h1.size := E1.1
  have l1 : ltN x1 h1.size := A1.lt
  have F1_coder : Fld Z h1 x1 "java/lang/String" "coder" "B" vZ := D1 (Or.inr (w38 C)) (ty := .byte) (by decide)
  have F1_value : Fld Z h1 x1 "java/lang/String" "value" "[B" .null := D1 (Or.inr (w40 C)) (ty := (.array .byte)) (by decide)
  refine go (g' := (mkF m 58 #[vR b, vI (3 : Int32)] [(.ref x1)])) (st1) ?_
  refine go (g' := (mkF m 60 #[vR b, vI (3 : Int32)] [(.int (3 : Int32)), (.ref x1), (.ref x1)])) (fun _ k => XS.dup W1.here hx rfl (hb hby d37_58) rfl rfl (XS.iconst W1.here hx rfl (hb hby d37_59) k)) ?_
  obtain ⟨x3, T3, h3, k3, g3, W3, E3, A3, st3⟩ := own_newP W1 hx (aty := .char) (w5 C) (g := (mkF m 60 #[vR b, vI (3 : Int32)] [(.int (3 : Int32)), (.ref x1), (.ref x1)])) rfl (hb hby d37_60) rfl (by decide) (cap := 3) (by decide) (nle rfl) (nle rfl) (nle rfl)
  have z4 : h1.size ≤ h3.size := E3.1
  have l3 : ltN x3 h3.size := A3.lt
  have V3 : Arv Z h3 x3 k3 .char (3 : Int32) [vZ, vZ, vZ] vZ := A3.pad (pad_rep [] vZ 3)
  refine go (g' := (mkF m 62 #[vR b, vI (3 : Int32)] [(.ref x3), (.ref x1), (.ref x1)])) (st3) ?_
  refine go (g' := (mkF m 66 #[vR b, vI (3 : Int32)] [vZ, (.ref b), vZ, (.ref x3), (.ref x3), (.ref x1), (.ref x1)])) (fun _ k => XS.dup W3.here hx rfl (hb hby d37_62) rfl rfl (XS.iconst W3.here hx rfl (hb hby d37_63) (XS.aloadN W3.here hx rfl (hb hby d37_64) rfl rfl (XS.iconst W3.here hx rfl (hb hby d37_65) k)))) ?_
  have X5 : Ext h0 h1 := own_xt (own_xr h0) E1
  have X6 : Ext h0 h3 := own_xt X5 E3
  have f7 : Arv Z h3 b kb .char (12 : Int32) [(.int c1), (.int c2), (.int c3)] vZ := Vb.ext X6
  refine go (g' := (mkF m 67 #[vR b, vI (3 : Int32)] [(.int c1), vZ, (.ref x3), (.ref x3), (.ref x1), (.ref x1)])) (own_cal W3 hx f7 (j := (0 : Int32)) ⟨by decide, by decide⟩ rfl (g := (mkF m 66 #[vR b, vI (3 : Int32)] [vZ, (.ref b), vZ, (.ref x3), (.ref x3), (.ref x1), (.ref x1)])) rfl rfl (hb hby d37_66)) ?_
  obtain ⟨T8, h8, W8, R8, V8, st8⟩ := own_stC W3 hx V3 (by omega) (j := (0 : Int32)) (i := 0) ⟨by decide, by decide⟩ rfl (nle rfl) (own_up (hr _ (List.mem_of_getElem? (i := 0) rfl))) (g := (mkF m 67 #[vR b, vI (3 : Int32)] [(.int c1), vZ, (.ref x3), (.ref x3), (.ref x1), (.ref x1)])) rfl rfl (hb hby d37_67)
  have z9 : h8.size = h3.size := R8.size
  have U8 : Arv Z h8 x3 k3 .char (3 : Int32) [(.int c1), vZ, vZ] vZ := V8
  refine go (g' := (mkF m 68 #[vR b, vI (3 : Int32)] [(.ref x3), (.ref x1), (.ref x1)])) (st8) ?_
  refine go (g' := (mkF m 72 #[vR b, vI (3 : Int32)] [(.int (1 : Int32)), (.ref b), (.int (1 : Int32)), (.ref x3), (.ref x3), (.ref x1), (.ref x1)])) (fun _ k => XS.dup W8.here hx rfl (hb hby d37_68) rfl rfl (XS.iconst W8.here hx rfl (hb hby d37_69) (XS.aloadN W8.here hx rfl (hb hby d37_70) rfl rfl (XS.iconst W8.here hx rfl (hb hby d37_71) k)))) ?_
  have X10 : Ext h0 h8 := own_xw X6 R8 (by omega)
  have f11 : Arv Z h8 b kb .char (12 : Int32) [(.int c1), (.int c2), (.int c3)] vZ := Vb.ext X10
  refine go (g' := (mkF m 73 #[vR b, vI (3 : Int32)] [(.int c2), (.int (1 : Int32)), (.ref x3), (.ref x3), (.ref x1), (.ref x1)])) (own_cal W8 hx f11 (j := (1 : Int32)) ⟨by decide, by decide⟩ rfl (g := (mkF m 72 #[vR b, vI (3 : Int32)] [(.int (1 : Int32)), (.ref b), (.int (1 : Int32)), (.ref x3), (.ref x3), (.ref x1), (.ref x1)])) rfl rfl (hb hby d37_72)) ?_
  obtain ⟨T12, h12, W12, R12, V12, st12⟩ := own_stC W8 hx U8 (by omega) (j := (1 : Int32)) (i := 1) ⟨by decide, by decide⟩ rfl (nle rfl) (own_up (hr _ (List.mem_of_getElem? (i := 1) rfl))) (g := (mkF m 73 #[vR b, vI (3 : Int32)] [(.int c2), (.int (1 : Int32)), (.ref x3), (.ref x3), (.ref x1), (.ref x1)])) rfl rfl (hb hby d37_73)
  have z13 : h12.size = h8.size := R12.size
  have U12 : Arv Z h12 x3 k3 .char (3 : Int32) [(.int c1), (.int c2), vZ] vZ := V12
  refine go (g' := (mkF m 74 #[vR b, vI (3 : Int32)] [(.ref x3), (.ref x1), (.ref x1)])) (st12) ?_
  refine go (g' := (mkF m 78 #[vR b, vI (3 : Int32)] [(.int (2 : Int32)), (.ref b), (.int (2 : Int32)), (.ref x3), (.ref x3), (.ref x1), (.ref x1)])) (fun _ k => XS.dup W12.here hx rfl (hb hby d37_74) rfl rfl (XS.iconst W12.here hx rfl (hb hby d37_75) (XS.aloadN W12.here hx rfl (hb hby d37_76) rfl rfl (XS.iconst W12.here hx rfl (hb hby d37_77) k)))) ?_
  have X14 : Ext h0 h12 := own_xw X10 R12 (by omega)
  have f15 : Arv Z h12 b kb .char (12 : Int32) [(.int c1), (.int c2), (.int c3)] vZ := Vb.ext X14
  refine go (g' := (mkF m 79 #[vR b, vI (3 : Int32)] [(.int c3), (.int (2 : Int32)), (.ref x3), (.ref x3), (.ref x1), (.ref x1)])) (own_cal W12 hx f15 (j := (2 : Int32)) ⟨by decide, by decide⟩ rfl (g := (mkF m 78 #[vR b, vI (3 : Int32)] [(.int (2 : Int32)), (.ref b), (.int (2 : Int32)), (.ref x3), (.ref x3), (.ref x1), (.ref x1)])) rfl rfl (hb hby d37_78)) ?_
  obtain ⟨T16, h16, W16, R16, V16, st16⟩ := own_stC W12 hx U12 (by omega) (j := (2 : Int32)) (i := 2) ⟨by decide, by decide⟩ rfl (nle rfl) (own_up (hr _ (List.mem_of_getElem? (i := 2) rfl))) (g := (mkF m 79 #[vR b, vI (3 : Int32)] [(.int c3), (.int (2 : Int32)), (.ref x3), (.ref x3), (.ref x1), (.ref x1)])) rfl rfl (hb hby d37_79)
  have z17 : h16.size = h12.size := R16.size
  have U16 : Arv Z h16 x3 k3 .char (3 : Int32) [(.int c1), (.int c2), (.int c3)] vZ := V16
  refine go (g' := (mkF m 80 #[vR b, vI (3 : Int32)] [(.ref x3), (.ref x1), (.ref x1)])) (st16) ?_
  have X19 : Ext h0 h16 := own_xw X14 R16 (by omega)
  have X20 : Ext h1 h3 := own_xt (own_xr h1) E3
  have X21 : Ext h1 h8 := own_xw X20 R8 (by omega)
  have X22 : Ext h1 h12 := own_xw X21 R12 (by omega)
  have X23 : Ext h1 h16 := own_xw X22 R16 (by omega)
  have f24 : Exa Z h16 x1 "java/lang/String" := A1.ext X23
  have f25 : Fld Z h16 x1 "java/lang/String" "value" "[B" .null := F1_value.ext X23
  have f26 : Fld Z h16 x1 "java/lang/String" "coder" "B" vZ := F1_coder.ext X23
  obtain ⟨T18, h18, W18, K18, S18, st18⟩ := own_strNew W16 hx (own_ws C) (w15 C) (w16 C) (w17 C) (w13 C) f24 f25 f26 (cs := [c1, c2, c3]) U16 rfl C.cs (nle rfl) (nle rfl) (own_alS (hr _ (List.mem_of_getElem? (i := 0) rfl)) (own_alS (hr _ (List.mem_of_getElem? (i := 1) rfl)) (own_alS (hr _ (List.mem_of_getElem? (i := 2) rfl)) own_al0))) (own_safeB W0 X19 (by omega)) (by omega) (Wd := 1) (nle rfl) (nle rfl) (nle rfl) (nle rfl) (g := (mkF m 80 #[vR b, vI (3 : Int32)] [(.ref x3), (.ref x1), (.ref x1)])) rfl (by rw [hml]; rfl) rfl (nle rfl) (hb hby d37_80)
  have z27 : h16.size ≤ h18.size := K18.1
  refine go (g' := (mkF m 83 #[vR b, vI (3 : Int32)] [(.ref x1)])) (st18) ?_
  have X28 : Ext h0 h18 := own_xk X19 K18 (allS (by omega) all0)
  exact fin (v := some (.ref x1)) (so := []) W18 (nle rfl) (nle rfl) (⟨_, rfl, X28, S18⟩) (fun _ q => nomatch q) (fun q => nomatch q) (own_retA W18 hx hret rfl rfl rfl (hb hby d37_83))
set_option maxRecDepth 65536 in
set_option maxHeartbeats 40000000 in
theorem rm_take4 {l : Launch} {Z : State} {a0 : Array Value} (C : Cx Z a0) (h0 : Heap) (b : Addr) (kb : ClassId) (c1 c2 c3 c4 : Int32) (hr : ∀ c ∈ [c1, c2, c3, c4], ¬ c < 0 ∧ ¬ (255 : Int32) < c) (Vb : Arv Z h0 b kb .char (12 : Int32) [(.int c1), (.int c2), (.int c3), (.int c4)] vZ) :
    Ct l Z a0 own_EL (⟨"com/example/inchworm/inchworm/core/IdempotencyKeyParseHeaderPinLaw", "take", "([CI)Ljava/lang/String;"⟩ : MethodName) method_6_code 2 (Option.some (Jvm.ClassFile.FieldType.object "java/lang/String")) [] ({ frames := 5, cells := 3, slots := 30, locals := 76 } : Room) #[(.ref b), (.int (4 : Int32))] h0 [] (fun v h so => ∃ x : Addr, v = some (.ref x) ∧ Ext h0 h ∧ Str Z h x [c1, c2, c3, c4]) := by
  refine own_enter (plainFor_of_name pn_8) C.ew (F0 := fun m => mkF m 0 #[vR b, vI (4 : Int32)] []) (fun m => by first | (simp [entryFrame, mkF, argsToLocals, Value.category]; done) | rfl) ?_
  intro p e s m below meth c s₁ G hx hby hml hret hnm W0 S0 go fin
  have z0 : Z.heap.size ≤ h0.size := W0.sz
  show G s₁ (mkF m 0 #[vR b, vI (4 : Int32)] [])
  have lb : ltN b h0.size := Vb.lt
  refine go (g' := (mkF m 52 #[vR b, vI (4 : Int32)] [(.int (3 : Int32)), (.int (4 : Int32))])) (fun _ k => XS.iloadN W0.here hx rfl (hb hby d37_0) rfl (XS.iconst W0.here hx rfl (hb hby d37_1) (XS.icmpYes W0.here hx rfl (pc0 := 2) (pc' := 22) rfl (hb hby d37_2) rfl (feq ((by decide) : ¬ ((4 : Int32) = (1 : Int32)))).2 (by decide) (by decide) (XS.iloadN W0.here hx rfl (hb hby d37_22) rfl (XS.iconst W0.here hx rfl (hb hby d37_23) (XS.icmpYes W0.here hx rfl (pc0 := 24) (pc' := 50) rfl (hb hby d37_24) rfl (feq ((by decide) : ¬ ((4 : Int32) = (2 : Int32)))).2 (by decide) (by decide) (XS.iloadN W0.here hx rfl (hb hby d37_50) rfl (XS.iconst W0.here hx rfl (hb hby d37_51) k)))))))) ?_
  refine go (g' := (mkF m 89 #[vR b, vI (4 : Int32)] [])) (fun _ k => XS.icmpYes W0.here hx rfl (pc0 := 52) (pc' := 84) rfl (hb hby d37_52) rfl (feq ((by decide) : ¬ ((4 : Int32) = (3 : Int32)))).2 (by decide) (by decide) (XS.iloadN W0.here hx rfl (hb hby d37_84) rfl (XS.iconst W0.here hx rfl (hb hby d37_85) (XS.icmpNo W0.here hx rfl (hb hby d37_86) rfl (teq ((by decide) : (4 : Int32) = (4 : Int32))).2 k)))) ?_
  obtain ⟨x1, T1, h1, g1, W1, E1, A1, D1, U1, st1⟩ := own_new W0 hx (w12 C) (w13 C) (w14 C) (g := (mkF m 89 #[vR b, vI (4 : Int32)] [])) rfl (hb hby d37_89) (nle rfl) (nle rfl)
  have z2 : h0.size ≤ h1.size := E1.1
  have l1 : ltN x1 h1.size := A1.lt
  have F1_coder : Fld Z h1 x1 "java/lang/String" "coder" "B" vZ := D1 (Or.inr (w38 C)) (ty := .byte) (by decide)
  have F1_value : Fld Z h1 x1 "java/lang/String" "value" "[B" .null := D1 (Or.inr (w40 C)) (ty := (.array .byte)) (by decide)
  refine go (g' := (mkF m 92 #[vR b, vI (4 : Int32)] [(.ref x1)])) (st1) ?_
  refine go (g' := (mkF m 94 #[vR b, vI (4 : Int32)] [(.int (4 : Int32)), (.ref x1), (.ref x1)])) (fun _ k => XS.dup W1.here hx rfl (hb hby d37_92) rfl rfl (XS.iconst W1.here hx rfl (hb hby d37_93) k)) ?_
  obtain ⟨x3, T3, h3, k3, g3, W3, E3, A3, st3⟩ := own_newP W1 hx (aty := .char) (w5 C) (g := (mkF m 94 #[vR b, vI (4 : Int32)] [(.int (4 : Int32)), (.ref x1), (.ref x1)])) rfl (hb hby d37_94) rfl (by decide) (cap := 4) (by decide) (nle rfl) (nle rfl) (nle rfl)
  have z4 : h1.size ≤ h3.size := E3.1
  have l3 : ltN x3 h3.size := A3.lt
  have V3 : Arv Z h3 x3 k3 .char (4 : Int32) [vZ, vZ, vZ, vZ] vZ := A3.pad (pad_rep [] vZ 4)
  refine go (g' := (mkF m 96 #[vR b, vI (4 : Int32)] [(.ref x3), (.ref x1), (.ref x1)])) (st3) ?_
  refine go (g' := (mkF m 100 #[vR b, vI (4 : Int32)] [vZ, (.ref b), vZ, (.ref x3), (.ref x3), (.ref x1), (.ref x1)])) (fun _ k => XS.dup W3.here hx rfl (hb hby d37_96) rfl rfl (XS.iconst W3.here hx rfl (hb hby d37_97) (XS.aloadN W3.here hx rfl (hb hby d37_98) rfl rfl (XS.iconst W3.here hx rfl (hb hby d37_99) k)))) ?_
  have X5 : Ext h0 h1 := own_xt (own_xr h0) E1
  have X6 : Ext h0 h3 := own_xt X5 E3
  have f7 : Arv Z h3 b kb .char (12 : Int32) [(.int c1), (.int c2), (.int c3), (.int c4)] vZ := Vb.ext X6
  refine go (g' := (mkF m 101 #[vR b, vI (4 : Int32)] [(.int c1), vZ, (.ref x3), (.ref x3), (.ref x1), (.ref x1)])) (own_cal W3 hx f7 (j := (0 : Int32)) ⟨by decide, by decide⟩ rfl (g := (mkF m 100 #[vR b, vI (4 : Int32)] [vZ, (.ref b), vZ, (.ref x3), (.ref x3), (.ref x1), (.ref x1)])) rfl rfl (hb hby d37_100)) ?_
  obtain ⟨T8, h8, W8, R8, V8, st8⟩ := own_stC W3 hx V3 (by omega) (j := (0 : Int32)) (i := 0) ⟨by decide, by decide⟩ rfl (nle rfl) (own_up (hr _ (List.mem_of_getElem? (i := 0) rfl))) (g := (mkF m 101 #[vR b, vI (4 : Int32)] [(.int c1), vZ, (.ref x3), (.ref x3), (.ref x1), (.ref x1)])) rfl rfl (hb hby d37_101)
  have z9 : h8.size = h3.size := R8.size
  have U8 : Arv Z h8 x3 k3 .char (4 : Int32) [(.int c1), vZ, vZ, vZ] vZ := V8
  refine go (g' := (mkF m 102 #[vR b, vI (4 : Int32)] [(.ref x3), (.ref x1), (.ref x1)])) (st8) ?_
  refine go (g' := (mkF m 106 #[vR b, vI (4 : Int32)] [(.int (1 : Int32)), (.ref b), (.int (1 : Int32)), (.ref x3), (.ref x3), (.ref x1), (.ref x1)])) (fun _ k => XS.dup W8.here hx rfl (hb hby d37_102) rfl rfl (XS.iconst W8.here hx rfl (hb hby d37_103) (XS.aloadN W8.here hx rfl (hb hby d37_104) rfl rfl (XS.iconst W8.here hx rfl (hb hby d37_105) k)))) ?_
  have X10 : Ext h0 h8 := own_xw X6 R8 (by omega)
  have f11 : Arv Z h8 b kb .char (12 : Int32) [(.int c1), (.int c2), (.int c3), (.int c4)] vZ := Vb.ext X10
  refine go (g' := (mkF m 107 #[vR b, vI (4 : Int32)] [(.int c2), (.int (1 : Int32)), (.ref x3), (.ref x3), (.ref x1), (.ref x1)])) (own_cal W8 hx f11 (j := (1 : Int32)) ⟨by decide, by decide⟩ rfl (g := (mkF m 106 #[vR b, vI (4 : Int32)] [(.int (1 : Int32)), (.ref b), (.int (1 : Int32)), (.ref x3), (.ref x3), (.ref x1), (.ref x1)])) rfl rfl (hb hby d37_106)) ?_
  obtain ⟨T12, h12, W12, R12, V12, st12⟩ := own_stC W8 hx U8 (by omega) (j := (1 : Int32)) (i := 1) ⟨by decide, by decide⟩ rfl (nle rfl) (own_up (hr _ (List.mem_of_getElem? (i := 1) rfl))) (g := (mkF m 107 #[vR b, vI (4 : Int32)] [(.int c2), (.int (1 : Int32)), (.ref x3), (.ref x3), (.ref x1), (.ref x1)])) rfl rfl (hb hby d37_107)
  have z13 : h12.size = h8.size := R12.size
  have U12 : Arv Z h12 x3 k3 .char (4 : Int32) [(.int c1), (.int c2), vZ, vZ] vZ := V12
  refine go (g' := (mkF m 108 #[vR b, vI (4 : Int32)] [(.ref x3), (.ref x1), (.ref x1)])) (st12) ?_
  refine go (g' := (mkF m 112 #[vR b, vI (4 : Int32)] [(.int (2 : Int32)), (.ref b), (.int (2 : Int32)), (.ref x3), (.ref x3), (.ref x1), (.ref x1)])) (fun _ k => XS.dup W12.here hx rfl (hb hby d37_108) rfl rfl (XS.iconst W12.here hx rfl (hb hby d37_109) (XS.aloadN W12.here hx rfl (hb hby d37_110) rfl rfl (XS.iconst W12.here hx rfl (hb hby d37_111) k)))) ?_
  have X14 : Ext h0 h12 := own_xw X10 R12 (by omega)
  have f15 : Arv Z h12 b kb .char (12 : Int32) [(.int c1), (.int c2), (.int c3), (.int c4)] vZ := Vb.ext X14
  refine go (g' := (mkF m 113 #[vR b, vI (4 : Int32)] [(.int c3), (.int (2 : Int32)), (.ref x3), (.ref x3), (.ref x1), (.ref x1)])) (own_cal W12 hx f15 (j := (2 : Int32)) ⟨by decide, by decide⟩ rfl (g := (mkF m 112 #[vR b, vI (4 : Int32)] [(.int (2 : Int32)), (.ref b), (.int (2 : Int32)), (.ref x3), (.ref x3), (.ref x1), (.ref x1)])) rfl rfl (hb hby d37_112)) ?_
  obtain ⟨T16, h16, W16, R16, V16, st16⟩ := own_stC W12 hx U12 (by omega) (j := (2 : Int32)) (i := 2) ⟨by decide, by decide⟩ rfl (nle rfl) (own_up (hr _ (List.mem_of_getElem? (i := 2) rfl))) (g := (mkF m 113 #[vR b, vI (4 : Int32)] [(.int c3), (.int (2 : Int32)), (.ref x3), (.ref x3), (.ref x1), (.ref x1)])) rfl rfl (hb hby d37_113)
  have z17 : h16.size = h12.size := R16.size
  have U16 : Arv Z h16 x3 k3 .char (4 : Int32) [(.int c1), (.int c2), (.int c3), vZ] vZ := V16
  refine go (g' := (mkF m 114 #[vR b, vI (4 : Int32)] [(.ref x3), (.ref x1), (.ref x1)])) (st16) ?_
  refine go (g' := (mkF m 118 #[vR b, vI (4 : Int32)] [(.int (3 : Int32)), (.ref b), (.int (3 : Int32)), (.ref x3), (.ref x3), (.ref x1), (.ref x1)])) (fun _ k => XS.dup W16.here hx rfl (hb hby d37_114) rfl rfl (XS.iconst W16.here hx rfl (hb hby d37_115) (XS.aloadN W16.here hx rfl (hb hby d37_116) rfl rfl (XS.iconst W16.here hx rfl (hb hby d37_117) k)))) ?_
  have X18 : Ext h0 h16 := own_xw X14 R16 (by omega)
  have f19 : Arv Z h16 b kb .char (12 : Int32) [(.int c1), (.int c2), (.int c3), (.int c4)] vZ := Vb.ext X18
  refine go (g' := (mkF m 119 #[vR b, vI (4 : Int32)] [(.int c4), (.int (3 : Int32)), (.ref x3), (.ref x3), (.ref x1), (.ref x1)])) (own_cal W16 hx f19 (j := (3 : Int32)) ⟨by decide, by decide⟩ rfl (g := (mkF m 118 #[vR b, vI (4 : Int32)] [(.int (3 : Int32)), (.ref b), (.int (3 : Int32)), (.ref x3), (.ref x3), (.ref x1), (.ref x1)])) rfl rfl (hb hby d37_118)) ?_
  obtain ⟨T20, h20, W20, R20, V20, st20⟩ := own_stC W16 hx U16 (by omega) (j := (3 : Int32)) (i := 3) ⟨by decide, by decide⟩ rfl (nle rfl) (own_up (hr _ (List.mem_of_getElem? (i := 3) rfl))) (g := (mkF m 119 #[vR b, vI (4 : Int32)] [(.int c4), (.int (3 : Int32)), (.ref x3), (.ref x3), (.ref x1), (.ref x1)])) rfl rfl (hb hby d37_119)
  have z21 : h20.size = h16.size := R20.size
  have U20 : Arv Z h20 x3 k3 .char (4 : Int32) [(.int c1), (.int c2), (.int c3), (.int c4)] vZ := V20
  refine go (g' := (mkF m 120 #[vR b, vI (4 : Int32)] [(.ref x3), (.ref x1), (.ref x1)])) (st20) ?_
  have X23 : Ext h0 h20 := own_xw X18 R20 (by omega)
  have X24 : Ext h1 h3 := own_xt (own_xr h1) E3
  have X25 : Ext h1 h8 := own_xw X24 R8 (by omega)
  have X26 : Ext h1 h12 := own_xw X25 R12 (by omega)
  have X27 : Ext h1 h16 := own_xw X26 R16 (by omega)
  have X28 : Ext h1 h20 := own_xw X27 R20 (by omega)
  have f29 : Exa Z h20 x1 "java/lang/String" := A1.ext X28
  have f30 : Fld Z h20 x1 "java/lang/String" "value" "[B" .null := F1_value.ext X28
  have f31 : Fld Z h20 x1 "java/lang/String" "coder" "B" vZ := F1_coder.ext X28
  obtain ⟨T22, h22, W22, K22, S22, st22⟩ := own_strNew W20 hx (own_ws C) (w15 C) (w16 C) (w17 C) (w13 C) f29 f30 f31 (cs := [c1, c2, c3, c4]) U20 rfl C.cs (nle rfl) (nle rfl) (own_alS (hr _ (List.mem_of_getElem? (i := 0) rfl)) (own_alS (hr _ (List.mem_of_getElem? (i := 1) rfl)) (own_alS (hr _ (List.mem_of_getElem? (i := 2) rfl)) (own_alS (hr _ (List.mem_of_getElem? (i := 3) rfl)) own_al0)))) (own_safeB W0 X23 (by omega)) (by omega) (Wd := 1) (nle rfl) (nle rfl) (nle rfl) (nle rfl) (g := (mkF m 120 #[vR b, vI (4 : Int32)] [(.ref x3), (.ref x1), (.ref x1)])) rfl (by rw [hml]; rfl) rfl (nle rfl) (hb hby d37_120)
  have z32 : h20.size ≤ h22.size := K22.1
  refine go (g' := (mkF m 123 #[vR b, vI (4 : Int32)] [(.ref x1)])) (st22) ?_
  have X33 : Ext h0 h22 := own_xk X23 K22 (allS (by omega) all0)
  exact fin (v := some (.ref x1)) (so := []) W22 (nle rfl) (nle rfl) (⟨_, rfl, X33, S22⟩) (fun _ q => nomatch q) (fun q => nomatch q) (own_retA W22 hx hret rfl rfl rfl (hb hby d37_123))
set_option maxRecDepth 65536 in
set_option maxHeartbeats 40000000 in
theorem rm_take5 {l : Launch} {Z : State} {a0 : Array Value} (C : Cx Z a0) (h0 : Heap) (b : Addr) (kb : ClassId) (c1 c2 c3 c4 c5 : Int32) (hr : ∀ c ∈ [c1, c2, c3, c4, c5], ¬ c < 0 ∧ ¬ (255 : Int32) < c) (Vb : Arv Z h0 b kb .char (12 : Int32) [(.int c1), (.int c2), (.int c3), (.int c4), (.int c5)] vZ) :
    Ct l Z a0 own_EL (⟨"com/example/inchworm/inchworm/core/IdempotencyKeyParseHeaderPinLaw", "take", "([CI)Ljava/lang/String;"⟩ : MethodName) method_6_code 2 (Option.some (Jvm.ClassFile.FieldType.object "java/lang/String")) [] ({ frames := 5, cells := 3, slots := 30, locals := 76 } : Room) #[(.ref b), (.int (5 : Int32))] h0 [] (fun v h so => ∃ x : Addr, v = some (.ref x) ∧ Ext h0 h ∧ Str Z h x [c1, c2, c3, c4, c5]) := by
  refine own_enter (plainFor_of_name pn_8) C.ew (F0 := fun m => mkF m 0 #[vR b, vI (5 : Int32)] []) (fun m => by first | (simp [entryFrame, mkF, argsToLocals, Value.category]; done) | rfl) ?_
  intro p e s m below meth c s₁ G hx hby hml hret hnm W0 S0 go fin
  have z0 : Z.heap.size ≤ h0.size := W0.sz
  show G s₁ (mkF m 0 #[vR b, vI (5 : Int32)] [])
  have lb : ltN b h0.size := Vb.lt
  refine go (g' := (mkF m 52 #[vR b, vI (5 : Int32)] [(.int (3 : Int32)), (.int (5 : Int32))])) (fun _ k => XS.iloadN W0.here hx rfl (hb hby d37_0) rfl (XS.iconst W0.here hx rfl (hb hby d37_1) (XS.icmpYes W0.here hx rfl (pc0 := 2) (pc' := 22) rfl (hb hby d37_2) rfl (feq ((by decide) : ¬ ((5 : Int32) = (1 : Int32)))).2 (by decide) (by decide) (XS.iloadN W0.here hx rfl (hb hby d37_22) rfl (XS.iconst W0.here hx rfl (hb hby d37_23) (XS.icmpYes W0.here hx rfl (pc0 := 24) (pc' := 50) rfl (hb hby d37_24) rfl (feq ((by decide) : ¬ ((5 : Int32) = (2 : Int32)))).2 (by decide) (by decide) (XS.iloadN W0.here hx rfl (hb hby d37_50) rfl (XS.iconst W0.here hx rfl (hb hby d37_51) k)))))))) ?_
  refine go (g' := (mkF m 129 #[vR b, vI (5 : Int32)] [])) (fun _ k => XS.icmpYes W0.here hx rfl (pc0 := 52) (pc' := 84) rfl (hb hby d37_52) rfl (feq ((by decide) : ¬ ((5 : Int32) = (3 : Int32)))).2 (by decide) (by decide) (XS.iloadN W0.here hx rfl (hb hby d37_84) rfl (XS.iconst W0.here hx rfl (hb hby d37_85) (XS.icmpYes W0.here hx rfl (pc0 := 86) (pc' := 124) rfl (hb hby d37_86) rfl (feq ((by decide) : ¬ ((5 : Int32) = (4 : Int32)))).2 (by decide) (by decide) (XS.iloadN W0.here hx rfl (hb hby d37_124) rfl (XS.iconst W0.here hx rfl (hb hby d37_125) (XS.icmpNo W0.here hx rfl (hb hby d37_126) rfl (teq ((by decide) : (5 : Int32) = (5 : Int32))).2 k))))))) ?_
  obtain ⟨x1, T1, h1, g1, W1, E1, A1, D1, U1, st1⟩ := own_new W0 hx (w12 C) (w13 C) (w14 C) (g := (mkF m 129 #[vR b, vI (5 : Int32)] [])) rfl (hb hby d37_129) (nle rfl) (nle rfl)
  have z2 : h0.size ≤ h1.size := E1.1
  have l1 : ltN x1 h1.size := A1.lt
  have F1_coder : Fld Z h1 x1 "java/lang/String" "coder" "B" vZ := D1 (Or.inr (w38 C)) (ty := .byte) (by decide)
  have F1_value : Fld Z h1 x1 "java/lang/String" "value" "[B" .null := D1 (Or.inr (w40 C)) (ty := (.array .byte)) (by decide)
  refine go (g' := (mkF m 132 #[vR b, vI (5 : Int32)] [(.ref x1)])) (st1) ?_
  refine go (g' := (mkF m 134 #[vR b, vI (5 : Int32)] [(.int (5 : Int32)), (.ref x1), (.ref x1)])) (fun _ k => XS.dup W1.here hx rfl (hb hby d37_132) rfl rfl (XS.iconst W1.here hx rfl (hb hby d37_133) k)) ?_
  obtain ⟨x3, T3, h3, k3, g3, W3, E3, A3, st3⟩ := own_newP W1 hx (aty := .char) (w5 C) (g := (mkF m 134 #[vR b, vI (5 : Int32)] [(.int (5 : Int32)), (.ref x1), (.ref x1)])) rfl (hb hby d37_134) rfl (by decide) (cap := 5) (by decide) (nle rfl) (nle rfl) (nle rfl)
  have z4 : h1.size ≤ h3.size := E3.1
  have l3 : ltN x3 h3.size := A3.lt
  have V3 : Arv Z h3 x3 k3 .char (5 : Int32) [vZ, vZ, vZ, vZ, vZ] vZ := A3.pad (pad_rep [] vZ 5)
  refine go (g' := (mkF m 136 #[vR b, vI (5 : Int32)] [(.ref x3), (.ref x1), (.ref x1)])) (st3) ?_
  refine go (g' := (mkF m 140 #[vR b, vI (5 : Int32)] [vZ, (.ref b), vZ, (.ref x3), (.ref x3), (.ref x1), (.ref x1)])) (fun _ k => XS.dup W3.here hx rfl (hb hby d37_136) rfl rfl (XS.iconst W3.here hx rfl (hb hby d37_137) (XS.aloadN W3.here hx rfl (hb hby d37_138) rfl rfl (XS.iconst W3.here hx rfl (hb hby d37_139) k)))) ?_
  have X5 : Ext h0 h1 := own_xt (own_xr h0) E1
  have X6 : Ext h0 h3 := own_xt X5 E3
  have f7 : Arv Z h3 b kb .char (12 : Int32) [(.int c1), (.int c2), (.int c3), (.int c4), (.int c5)] vZ := Vb.ext X6
  refine go (g' := (mkF m 141 #[vR b, vI (5 : Int32)] [(.int c1), vZ, (.ref x3), (.ref x3), (.ref x1), (.ref x1)])) (own_cal W3 hx f7 (j := (0 : Int32)) ⟨by decide, by decide⟩ rfl (g := (mkF m 140 #[vR b, vI (5 : Int32)] [vZ, (.ref b), vZ, (.ref x3), (.ref x3), (.ref x1), (.ref x1)])) rfl rfl (hb hby d37_140)) ?_
  obtain ⟨T8, h8, W8, R8, V8, st8⟩ := own_stC W3 hx V3 (by omega) (j := (0 : Int32)) (i := 0) ⟨by decide, by decide⟩ rfl (nle rfl) (own_up (hr _ (List.mem_of_getElem? (i := 0) rfl))) (g := (mkF m 141 #[vR b, vI (5 : Int32)] [(.int c1), vZ, (.ref x3), (.ref x3), (.ref x1), (.ref x1)])) rfl rfl (hb hby d37_141)
  have z9 : h8.size = h3.size := R8.size
  have U8 : Arv Z h8 x3 k3 .char (5 : Int32) [(.int c1), vZ, vZ, vZ, vZ] vZ := V8
  refine go (g' := (mkF m 142 #[vR b, vI (5 : Int32)] [(.ref x3), (.ref x1), (.ref x1)])) (st8) ?_
  refine go (g' := (mkF m 146 #[vR b, vI (5 : Int32)] [(.int (1 : Int32)), (.ref b), (.int (1 : Int32)), (.ref x3), (.ref x3), (.ref x1), (.ref x1)])) (fun _ k => XS.dup W8.here hx rfl (hb hby d37_142) rfl rfl (XS.iconst W8.here hx rfl (hb hby d37_143) (XS.aloadN W8.here hx rfl (hb hby d37_144) rfl rfl (XS.iconst W8.here hx rfl (hb hby d37_145) k)))) ?_
  have X10 : Ext h0 h8 := own_xw X6 R8 (by omega)
  have f11 : Arv Z h8 b kb .char (12 : Int32) [(.int c1), (.int c2), (.int c3), (.int c4), (.int c5)] vZ := Vb.ext X10
  refine go (g' := (mkF m 147 #[vR b, vI (5 : Int32)] [(.int c2), (.int (1 : Int32)), (.ref x3), (.ref x3), (.ref x1), (.ref x1)])) (own_cal W8 hx f11 (j := (1 : Int32)) ⟨by decide, by decide⟩ rfl (g := (mkF m 146 #[vR b, vI (5 : Int32)] [(.int (1 : Int32)), (.ref b), (.int (1 : Int32)), (.ref x3), (.ref x3), (.ref x1), (.ref x1)])) rfl rfl (hb hby d37_146)) ?_
  obtain ⟨T12, h12, W12, R12, V12, st12⟩ := own_stC W8 hx U8 (by omega) (j := (1 : Int32)) (i := 1) ⟨by decide, by decide⟩ rfl (nle rfl) (own_up (hr _ (List.mem_of_getElem? (i := 1) rfl))) (g := (mkF m 147 #[vR b, vI (5 : Int32)] [(.int c2), (.int (1 : Int32)), (.ref x3), (.ref x3), (.ref x1), (.ref x1)])) rfl rfl (hb hby d37_147)
  have z13 : h12.size = h8.size := R12.size
  have U12 : Arv Z h12 x3 k3 .char (5 : Int32) [(.int c1), (.int c2), vZ, vZ, vZ] vZ := V12
  refine go (g' := (mkF m 148 #[vR b, vI (5 : Int32)] [(.ref x3), (.ref x1), (.ref x1)])) (st12) ?_
  refine go (g' := (mkF m 152 #[vR b, vI (5 : Int32)] [(.int (2 : Int32)), (.ref b), (.int (2 : Int32)), (.ref x3), (.ref x3), (.ref x1), (.ref x1)])) (fun _ k => XS.dup W12.here hx rfl (hb hby d37_148) rfl rfl (XS.iconst W12.here hx rfl (hb hby d37_149) (XS.aloadN W12.here hx rfl (hb hby d37_150) rfl rfl (XS.iconst W12.here hx rfl (hb hby d37_151) k)))) ?_
  have X14 : Ext h0 h12 := own_xw X10 R12 (by omega)
  have f15 : Arv Z h12 b kb .char (12 : Int32) [(.int c1), (.int c2), (.int c3), (.int c4), (.int c5)] vZ := Vb.ext X14
  refine go (g' := (mkF m 153 #[vR b, vI (5 : Int32)] [(.int c3), (.int (2 : Int32)), (.ref x3), (.ref x3), (.ref x1), (.ref x1)])) (own_cal W12 hx f15 (j := (2 : Int32)) ⟨by decide, by decide⟩ rfl (g := (mkF m 152 #[vR b, vI (5 : Int32)] [(.int (2 : Int32)), (.ref b), (.int (2 : Int32)), (.ref x3), (.ref x3), (.ref x1), (.ref x1)])) rfl rfl (hb hby d37_152)) ?_
  obtain ⟨T16, h16, W16, R16, V16, st16⟩ := own_stC W12 hx U12 (by omega) (j := (2 : Int32)) (i := 2) ⟨by decide, by decide⟩ rfl (nle rfl) (own_up (hr _ (List.mem_of_getElem? (i := 2) rfl))) (g := (mkF m 153 #[vR b, vI (5 : Int32)] [(.int c3), (.int (2 : Int32)), (.ref x3), (.ref x3), (.ref x1), (.ref x1)])) rfl rfl (hb hby d37_153)
  have z17 : h16.size = h12.size := R16.size
  have U16 : Arv Z h16 x3 k3 .char (5 : Int32) [(.int c1), (.int c2), (.int c3), vZ, vZ] vZ := V16
  refine go (g' := (mkF m 154 #[vR b, vI (5 : Int32)] [(.ref x3), (.ref x1), (.ref x1)])) (st16) ?_
  refine go (g' := (mkF m 158 #[vR b, vI (5 : Int32)] [(.int (3 : Int32)), (.ref b), (.int (3 : Int32)), (.ref x3), (.ref x3), (.ref x1), (.ref x1)])) (fun _ k => XS.dup W16.here hx rfl (hb hby d37_154) rfl rfl (XS.iconst W16.here hx rfl (hb hby d37_155) (XS.aloadN W16.here hx rfl (hb hby d37_156) rfl rfl (XS.iconst W16.here hx rfl (hb hby d37_157) k)))) ?_
  have X18 : Ext h0 h16 := own_xw X14 R16 (by omega)
  have f19 : Arv Z h16 b kb .char (12 : Int32) [(.int c1), (.int c2), (.int c3), (.int c4), (.int c5)] vZ := Vb.ext X18
  refine go (g' := (mkF m 159 #[vR b, vI (5 : Int32)] [(.int c4), (.int (3 : Int32)), (.ref x3), (.ref x3), (.ref x1), (.ref x1)])) (own_cal W16 hx f19 (j := (3 : Int32)) ⟨by decide, by decide⟩ rfl (g := (mkF m 158 #[vR b, vI (5 : Int32)] [(.int (3 : Int32)), (.ref b), (.int (3 : Int32)), (.ref x3), (.ref x3), (.ref x1), (.ref x1)])) rfl rfl (hb hby d37_158)) ?_
  obtain ⟨T20, h20, W20, R20, V20, st20⟩ := own_stC W16 hx U16 (by omega) (j := (3 : Int32)) (i := 3) ⟨by decide, by decide⟩ rfl (nle rfl) (own_up (hr _ (List.mem_of_getElem? (i := 3) rfl))) (g := (mkF m 159 #[vR b, vI (5 : Int32)] [(.int c4), (.int (3 : Int32)), (.ref x3), (.ref x3), (.ref x1), (.ref x1)])) rfl rfl (hb hby d37_159)
  have z21 : h20.size = h16.size := R20.size
  have U20 : Arv Z h20 x3 k3 .char (5 : Int32) [(.int c1), (.int c2), (.int c3), (.int c4), vZ] vZ := V20
  refine go (g' := (mkF m 160 #[vR b, vI (5 : Int32)] [(.ref x3), (.ref x1), (.ref x1)])) (st20) ?_
  refine go (g' := (mkF m 164 #[vR b, vI (5 : Int32)] [(.int (4 : Int32)), (.ref b), (.int (4 : Int32)), (.ref x3), (.ref x3), (.ref x1), (.ref x1)])) (fun _ k => XS.dup W20.here hx rfl (hb hby d37_160) rfl rfl (XS.iconst W20.here hx rfl (hb hby d37_161) (XS.aloadN W20.here hx rfl (hb hby d37_162) rfl rfl (XS.iconst W20.here hx rfl (hb hby d37_163) k)))) ?_
  have X22 : Ext h0 h20 := own_xw X18 R20 (by omega)
  have f23 : Arv Z h20 b kb .char (12 : Int32) [(.int c1), (.int c2), (.int c3), (.int c4), (.int c5)] vZ := Vb.ext X22
  refine go (g' := (mkF m 165 #[vR b, vI (5 : Int32)] [(.int c5), (.int (4 : Int32)), (.ref x3), (.ref x3), (.ref x1), (.ref x1)])) (own_cal W20 hx f23 (j := (4 : Int32)) ⟨by decide, by decide⟩ rfl (g := (mkF m 164 #[vR b, vI (5 : Int32)] [(.int (4 : Int32)), (.ref b), (.int (4 : Int32)), (.ref x3), (.ref x3), (.ref x1), (.ref x1)])) rfl rfl (hb hby d37_164)) ?_
  obtain ⟨T24, h24, W24, R24, V24, st24⟩ := own_stC W20 hx U20 (by omega) (j := (4 : Int32)) (i := 4) ⟨by decide, by decide⟩ rfl (nle rfl) (own_up (hr _ (List.mem_of_getElem? (i := 4) rfl))) (g := (mkF m 165 #[vR b, vI (5 : Int32)] [(.int c5), (.int (4 : Int32)), (.ref x3), (.ref x3), (.ref x1), (.ref x1)])) rfl rfl (hb hby d37_165)
  have z25 : h24.size = h20.size := R24.size
  have U24 : Arv Z h24 x3 k3 .char (5 : Int32) [(.int c1), (.int c2), (.int c3), (.int c4), (.int c5)] vZ := V24
  refine go (g' := (mkF m 166 #[vR b, vI (5 : Int32)] [(.ref x3), (.ref x1), (.ref x1)])) (st24) ?_
  have X27 : Ext h0 h24 := own_xw X22 R24 (by omega)
  have X28 : Ext h1 h3 := own_xt (own_xr h1) E3
  have X29 : Ext h1 h8 := own_xw X28 R8 (by omega)
  have X30 : Ext h1 h12 := own_xw X29 R12 (by omega)
  have X31 : Ext h1 h16 := own_xw X30 R16 (by omega)
  have X32 : Ext h1 h20 := own_xw X31 R20 (by omega)
  have X33 : Ext h1 h24 := own_xw X32 R24 (by omega)
  have f34 : Exa Z h24 x1 "java/lang/String" := A1.ext X33
  have f35 : Fld Z h24 x1 "java/lang/String" "value" "[B" .null := F1_value.ext X33
  have f36 : Fld Z h24 x1 "java/lang/String" "coder" "B" vZ := F1_coder.ext X33
  obtain ⟨T26, h26, W26, K26, S26, st26⟩ := own_strNew W24 hx (own_ws C) (w15 C) (w16 C) (w17 C) (w13 C) f34 f35 f36 (cs := [c1, c2, c3, c4, c5]) U24 rfl C.cs (nle rfl) (nle rfl) (own_alS (hr _ (List.mem_of_getElem? (i := 0) rfl)) (own_alS (hr _ (List.mem_of_getElem? (i := 1) rfl)) (own_alS (hr _ (List.mem_of_getElem? (i := 2) rfl)) (own_alS (hr _ (List.mem_of_getElem? (i := 3) rfl)) (own_alS (hr _ (List.mem_of_getElem? (i := 4) rfl)) own_al0))))) (own_safeB W0 X27 (by omega)) (by omega) (Wd := 1) (nle rfl) (nle rfl) (nle rfl) (nle rfl) (g := (mkF m 166 #[vR b, vI (5 : Int32)] [(.ref x3), (.ref x1), (.ref x1)])) rfl (by rw [hml]; rfl) rfl (nle rfl) (hb hby d37_166)
  have z37 : h24.size ≤ h26.size := K26.1
  refine go (g' := (mkF m 169 #[vR b, vI (5 : Int32)] [(.ref x1)])) (st26) ?_
  have X38 : Ext h0 h26 := own_xk X27 K26 (allS (by omega) all0)
  exact fin (v := some (.ref x1)) (so := []) W26 (nle rfl) (nle rfl) (⟨_, rfl, X38, S26⟩) (fun _ q => nomatch q) (fun q => nomatch q) (own_retA W26 hx hret rfl rfl rfl (hb hby d37_169))
set_option maxRecDepth 65536 in
set_option maxHeartbeats 40000000 in
theorem rm_take6 {l : Launch} {Z : State} {a0 : Array Value} (C : Cx Z a0) (h0 : Heap) (b : Addr) (kb : ClassId) (c1 c2 c3 c4 c5 c6 : Int32) (hr : ∀ c ∈ [c1, c2, c3, c4, c5, c6], ¬ c < 0 ∧ ¬ (255 : Int32) < c) (Vb : Arv Z h0 b kb .char (12 : Int32) [(.int c1), (.int c2), (.int c3), (.int c4), (.int c5), (.int c6)] vZ) :
    Ct l Z a0 own_EL (⟨"com/example/inchworm/inchworm/core/IdempotencyKeyParseHeaderPinLaw", "take", "([CI)Ljava/lang/String;"⟩ : MethodName) method_6_code 2 (Option.some (Jvm.ClassFile.FieldType.object "java/lang/String")) [] ({ frames := 5, cells := 3, slots := 30, locals := 76 } : Room) #[(.ref b), (.int (6 : Int32))] h0 [] (fun v h so => ∃ x : Addr, v = some (.ref x) ∧ Ext h0 h ∧ Str Z h x [c1, c2, c3, c4, c5, c6]) := by
  refine own_enter (plainFor_of_name pn_8) C.ew (F0 := fun m => mkF m 0 #[vR b, vI (6 : Int32)] []) (fun m => by first | (simp [entryFrame, mkF, argsToLocals, Value.category]; done) | rfl) ?_
  intro p e s m below meth c s₁ G hx hby hml hret hnm W0 S0 go fin
  have z0 : Z.heap.size ≤ h0.size := W0.sz
  show G s₁ (mkF m 0 #[vR b, vI (6 : Int32)] [])
  have lb : ltN b h0.size := Vb.lt
  refine go (g' := (mkF m 52 #[vR b, vI (6 : Int32)] [(.int (3 : Int32)), (.int (6 : Int32))])) (fun _ k => XS.iloadN W0.here hx rfl (hb hby d37_0) rfl (XS.iconst W0.here hx rfl (hb hby d37_1) (XS.icmpYes W0.here hx rfl (pc0 := 2) (pc' := 22) rfl (hb hby d37_2) rfl (feq ((by decide) : ¬ ((6 : Int32) = (1 : Int32)))).2 (by decide) (by decide) (XS.iloadN W0.here hx rfl (hb hby d37_22) rfl (XS.iconst W0.here hx rfl (hb hby d37_23) (XS.icmpYes W0.here hx rfl (pc0 := 24) (pc' := 50) rfl (hb hby d37_24) rfl (feq ((by decide) : ¬ ((6 : Int32) = (2 : Int32)))).2 (by decide) (by decide) (XS.iloadN W0.here hx rfl (hb hby d37_50) rfl (XS.iconst W0.here hx rfl (hb hby d37_51) k)))))))) ?_
  refine go (g' := (mkF m 171 #[vR b, vI (6 : Int32)] [(.int (6 : Int32))])) (fun _ k => XS.icmpYes W0.here hx rfl (pc0 := 52) (pc' := 84) rfl (hb hby d37_52) rfl (feq ((by decide) : ¬ ((6 : Int32) = (3 : Int32)))).2 (by decide) (by decide) (XS.iloadN W0.here hx rfl (hb hby d37_84) rfl (XS.iconst W0.here hx rfl (hb hby d37_85) (XS.icmpYes W0.here hx rfl (pc0 := 86) (pc' := 124) rfl (hb hby d37_86) rfl (feq ((by decide) : ¬ ((6 : Int32) = (4 : Int32)))).2 (by decide) (by decide) (XS.iloadN W0.here hx rfl (hb hby d37_124) rfl (XS.iconst W0.here hx rfl (hb hby d37_125) (XS.icmpYes W0.here hx rfl (pc0 := 126) (pc' := 170) rfl (hb hby d37_126) rfl (feq ((by decide) : ¬ ((6 : Int32) = (5 : Int32)))).2 (by decide) (by decide) (XS.iloadN W0.here hx rfl (hb hby d37_170) rfl k)))))))) ?_
  refine go (g' := (mkF m 176 #[vR b, vI (6 : Int32)] [])) (fun _ k => XS.bipush W0.here hx rfl (hb hby d37_171) (XS.icmpNo W0.here hx rfl (hb hby d37_173) rfl (teq ((by decide) : (6 : Int32) = (6 : Int32))).2 k)) ?_
  obtain ⟨x1, T1, h1, g1, W1, E1, A1, D1, U1, st1⟩ := own_new W0 hx (w12 C) (w13 C) (w14 C) (g := (mkF m 176 #[vR b, vI (6 : Int32)] [])) rfl (hb hby d37_176) (nle rfl) (nle rfl)
  have z2 : h0.size ≤ h1.size := E1.1
  have l1 : ltN x1 h1.size := A1.lt
  have F1_coder : Fld Z h1 x1 "java/lang/String" "coder" "B" vZ := D1 (Or.inr (w38 C)) (ty := .byte) (by decide)
  have F1_value : Fld Z h1 x1 "java/lang/String" "value" "[B" .null := D1 (Or.inr (w40 C)) (ty := (.array .byte)) (by decide)
  refine go (g' := (mkF m 179 #[vR b, vI (6 : Int32)] [(.ref x1)])) (st1) ?_
  refine go (g' := (mkF m 182 #[vR b, vI (6 : Int32)] [(.int (6 : Int32)), (.ref x1), (.ref x1)])) (fun _ k => XS.dup W1.here hx rfl (hb hby d37_179) rfl rfl (XS.bipush W1.here hx rfl (hb hby d37_180) k)) ?_
  obtain ⟨x3, T3, h3, k3, g3, W3, E3, A3, st3⟩ := own_newP W1 hx (aty := .char) (w5 C) (g := (mkF m 182 #[vR b, vI (6 : Int32)] [(.int (6 : Int32)), (.ref x1), (.ref x1)])) rfl (hb hby d37_182) rfl (by decide) (cap := 6) (by decide) (nle rfl) (nle rfl) (nle rfl)
  have z4 : h1.size ≤ h3.size := E3.1
  have l3 : ltN x3 h3.size := A3.lt
  have V3 : Arv Z h3 x3 k3 .char (6 : Int32) [vZ, vZ, vZ, vZ, vZ, vZ] vZ := A3.pad (pad_rep [] vZ 6)
  refine go (g' := (mkF m 184 #[vR b, vI (6 : Int32)] [(.ref x3), (.ref x1), (.ref x1)])) (st3) ?_
  refine go (g' := (mkF m 188 #[vR b, vI (6 : Int32)] [vZ, (.ref b), vZ, (.ref x3), (.ref x3), (.ref x1), (.ref x1)])) (fun _ k => XS.dup W3.here hx rfl (hb hby d37_184) rfl rfl (XS.iconst W3.here hx rfl (hb hby d37_185) (XS.aloadN W3.here hx rfl (hb hby d37_186) rfl rfl (XS.iconst W3.here hx rfl (hb hby d37_187) k)))) ?_
  have X5 : Ext h0 h1 := own_xt (own_xr h0) E1
  have X6 : Ext h0 h3 := own_xt X5 E3
  have f7 : Arv Z h3 b kb .char (12 : Int32) [(.int c1), (.int c2), (.int c3), (.int c4), (.int c5), (.int c6)] vZ := Vb.ext X6
  refine go (g' := (mkF m 189 #[vR b, vI (6 : Int32)] [(.int c1), vZ, (.ref x3), (.ref x3), (.ref x1), (.ref x1)])) (own_cal W3 hx f7 (j := (0 : Int32)) ⟨by decide, by decide⟩ rfl (g := (mkF m 188 #[vR b, vI (6 : Int32)] [vZ, (.ref b), vZ, (.ref x3), (.ref x3), (.ref x1), (.ref x1)])) rfl rfl (hb hby d37_188)) ?_
  obtain ⟨T8, h8, W8, R8, V8, st8⟩ := own_stC W3 hx V3 (by omega) (j := (0 : Int32)) (i := 0) ⟨by decide, by decide⟩ rfl (nle rfl) (own_up (hr _ (List.mem_of_getElem? (i := 0) rfl))) (g := (mkF m 189 #[vR b, vI (6 : Int32)] [(.int c1), vZ, (.ref x3), (.ref x3), (.ref x1), (.ref x1)])) rfl rfl (hb hby d37_189)
  have z9 : h8.size = h3.size := R8.size
  have U8 : Arv Z h8 x3 k3 .char (6 : Int32) [(.int c1), vZ, vZ, vZ, vZ, vZ] vZ := V8
  refine go (g' := (mkF m 190 #[vR b, vI (6 : Int32)] [(.ref x3), (.ref x1), (.ref x1)])) (st8) ?_
  refine go (g' := (mkF m 194 #[vR b, vI (6 : Int32)] [(.int (1 : Int32)), (.ref b), (.int (1 : Int32)), (.ref x3), (.ref x3), (.ref x1), (.ref x1)])) (fun _ k => XS.dup W8.here hx rfl (hb hby d37_190) rfl rfl (XS.iconst W8.here hx rfl (hb hby d37_191) (XS.aloadN W8.here hx rfl (hb hby d37_192) rfl rfl (XS.iconst W8.here hx rfl (hb hby d37_193) k)))) ?_
  have X10 : Ext h0 h8 := own_xw X6 R8 (by omega)
  have f11 : Arv Z h8 b kb .char (12 : Int32) [(.int c1), (.int c2), (.int c3), (.int c4), (.int c5), (.int c6)] vZ := Vb.ext X10
  refine go (g' := (mkF m 195 #[vR b, vI (6 : Int32)] [(.int c2), (.int (1 : Int32)), (.ref x3), (.ref x3), (.ref x1), (.ref x1)])) (own_cal W8 hx f11 (j := (1 : Int32)) ⟨by decide, by decide⟩ rfl (g := (mkF m 194 #[vR b, vI (6 : Int32)] [(.int (1 : Int32)), (.ref b), (.int (1 : Int32)), (.ref x3), (.ref x3), (.ref x1), (.ref x1)])) rfl rfl (hb hby d37_194)) ?_
  obtain ⟨T12, h12, W12, R12, V12, st12⟩ := own_stC W8 hx U8 (by omega) (j := (1 : Int32)) (i := 1) ⟨by decide, by decide⟩ rfl (nle rfl) (own_up (hr _ (List.mem_of_getElem? (i := 1) rfl))) (g := (mkF m 195 #[vR b, vI (6 : Int32)] [(.int c2), (.int (1 : Int32)), (.ref x3), (.ref x3), (.ref x1), (.ref x1)])) rfl rfl (hb hby d37_195)
  have z13 : h12.size = h8.size := R12.size
  have U12 : Arv Z h12 x3 k3 .char (6 : Int32) [(.int c1), (.int c2), vZ, vZ, vZ, vZ] vZ := V12
  refine go (g' := (mkF m 196 #[vR b, vI (6 : Int32)] [(.ref x3), (.ref x1), (.ref x1)])) (st12) ?_
  refine go (g' := (mkF m 200 #[vR b, vI (6 : Int32)] [(.int (2 : Int32)), (.ref b), (.int (2 : Int32)), (.ref x3), (.ref x3), (.ref x1), (.ref x1)])) (fun _ k => XS.dup W12.here hx rfl (hb hby d37_196) rfl rfl (XS.iconst W12.here hx rfl (hb hby d37_197) (XS.aloadN W12.here hx rfl (hb hby d37_198) rfl rfl (XS.iconst W12.here hx rfl (hb hby d37_199) k)))) ?_
  have X14 : Ext h0 h12 := own_xw X10 R12 (by omega)
  have f15 : Arv Z h12 b kb .char (12 : Int32) [(.int c1), (.int c2), (.int c3), (.int c4), (.int c5), (.int c6)] vZ := Vb.ext X14
  refine go (g' := (mkF m 201 #[vR b, vI (6 : Int32)] [(.int c3), (.int (2 : Int32)), (.ref x3), (.ref x3), (.ref x1), (.ref x1)])) (own_cal W12 hx f15 (j := (2 : Int32)) ⟨by decide, by decide⟩ rfl (g := (mkF m 200 #[vR b, vI (6 : Int32)] [(.int (2 : Int32)), (.ref b), (.int (2 : Int32)), (.ref x3), (.ref x3), (.ref x1), (.ref x1)])) rfl rfl (hb hby d37_200)) ?_
  obtain ⟨T16, h16, W16, R16, V16, st16⟩ := own_stC W12 hx U12 (by omega) (j := (2 : Int32)) (i := 2) ⟨by decide, by decide⟩ rfl (nle rfl) (own_up (hr _ (List.mem_of_getElem? (i := 2) rfl))) (g := (mkF m 201 #[vR b, vI (6 : Int32)] [(.int c3), (.int (2 : Int32)), (.ref x3), (.ref x3), (.ref x1), (.ref x1)])) rfl rfl (hb hby d37_201)
  have z17 : h16.size = h12.size := R16.size
  have U16 : Arv Z h16 x3 k3 .char (6 : Int32) [(.int c1), (.int c2), (.int c3), vZ, vZ, vZ] vZ := V16
  refine go (g' := (mkF m 202 #[vR b, vI (6 : Int32)] [(.ref x3), (.ref x1), (.ref x1)])) (st16) ?_
  refine go (g' := (mkF m 206 #[vR b, vI (6 : Int32)] [(.int (3 : Int32)), (.ref b), (.int (3 : Int32)), (.ref x3), (.ref x3), (.ref x1), (.ref x1)])) (fun _ k => XS.dup W16.here hx rfl (hb hby d37_202) rfl rfl (XS.iconst W16.here hx rfl (hb hby d37_203) (XS.aloadN W16.here hx rfl (hb hby d37_204) rfl rfl (XS.iconst W16.here hx rfl (hb hby d37_205) k)))) ?_
  have X18 : Ext h0 h16 := own_xw X14 R16 (by omega)
  have f19 : Arv Z h16 b kb .char (12 : Int32) [(.int c1), (.int c2), (.int c3), (.int c4), (.int c5), (.int c6)] vZ := Vb.ext X18
  refine go (g' := (mkF m 207 #[vR b, vI (6 : Int32)] [(.int c4), (.int (3 : Int32)), (.ref x3), (.ref x3), (.ref x1), (.ref x1)])) (own_cal W16 hx f19 (j := (3 : Int32)) ⟨by decide, by decide⟩ rfl (g := (mkF m 206 #[vR b, vI (6 : Int32)] [(.int (3 : Int32)), (.ref b), (.int (3 : Int32)), (.ref x3), (.ref x3), (.ref x1), (.ref x1)])) rfl rfl (hb hby d37_206)) ?_
  obtain ⟨T20, h20, W20, R20, V20, st20⟩ := own_stC W16 hx U16 (by omega) (j := (3 : Int32)) (i := 3) ⟨by decide, by decide⟩ rfl (nle rfl) (own_up (hr _ (List.mem_of_getElem? (i := 3) rfl))) (g := (mkF m 207 #[vR b, vI (6 : Int32)] [(.int c4), (.int (3 : Int32)), (.ref x3), (.ref x3), (.ref x1), (.ref x1)])) rfl rfl (hb hby d37_207)
  have z21 : h20.size = h16.size := R20.size
  have U20 : Arv Z h20 x3 k3 .char (6 : Int32) [(.int c1), (.int c2), (.int c3), (.int c4), vZ, vZ] vZ := V20
  refine go (g' := (mkF m 208 #[vR b, vI (6 : Int32)] [(.ref x3), (.ref x1), (.ref x1)])) (st20) ?_
  refine go (g' := (mkF m 212 #[vR b, vI (6 : Int32)] [(.int (4 : Int32)), (.ref b), (.int (4 : Int32)), (.ref x3), (.ref x3), (.ref x1), (.ref x1)])) (fun _ k => XS.dup W20.here hx rfl (hb hby d37_208) rfl rfl (XS.iconst W20.here hx rfl (hb hby d37_209) (XS.aloadN W20.here hx rfl (hb hby d37_210) rfl rfl (XS.iconst W20.here hx rfl (hb hby d37_211) k)))) ?_
  have X22 : Ext h0 h20 := own_xw X18 R20 (by omega)
  have f23 : Arv Z h20 b kb .char (12 : Int32) [(.int c1), (.int c2), (.int c3), (.int c4), (.int c5), (.int c6)] vZ := Vb.ext X22
  refine go (g' := (mkF m 213 #[vR b, vI (6 : Int32)] [(.int c5), (.int (4 : Int32)), (.ref x3), (.ref x3), (.ref x1), (.ref x1)])) (own_cal W20 hx f23 (j := (4 : Int32)) ⟨by decide, by decide⟩ rfl (g := (mkF m 212 #[vR b, vI (6 : Int32)] [(.int (4 : Int32)), (.ref b), (.int (4 : Int32)), (.ref x3), (.ref x3), (.ref x1), (.ref x1)])) rfl rfl (hb hby d37_212)) ?_
  obtain ⟨T24, h24, W24, R24, V24, st24⟩ := own_stC W20 hx U20 (by omega) (j := (4 : Int32)) (i := 4) ⟨by decide, by decide⟩ rfl (nle rfl) (own_up (hr _ (List.mem_of_getElem? (i := 4) rfl))) (g := (mkF m 213 #[vR b, vI (6 : Int32)] [(.int c5), (.int (4 : Int32)), (.ref x3), (.ref x3), (.ref x1), (.ref x1)])) rfl rfl (hb hby d37_213)
  have z25 : h24.size = h20.size := R24.size
  have U24 : Arv Z h24 x3 k3 .char (6 : Int32) [(.int c1), (.int c2), (.int c3), (.int c4), (.int c5), vZ] vZ := V24
  refine go (g' := (mkF m 214 #[vR b, vI (6 : Int32)] [(.ref x3), (.ref x1), (.ref x1)])) (st24) ?_
  refine go (g' := (mkF m 218 #[vR b, vI (6 : Int32)] [(.int (5 : Int32)), (.ref b), (.int (5 : Int32)), (.ref x3), (.ref x3), (.ref x1), (.ref x1)])) (fun _ k => XS.dup W24.here hx rfl (hb hby d37_214) rfl rfl (XS.iconst W24.here hx rfl (hb hby d37_215) (XS.aloadN W24.here hx rfl (hb hby d37_216) rfl rfl (XS.iconst W24.here hx rfl (hb hby d37_217) k)))) ?_
  have X26 : Ext h0 h24 := own_xw X22 R24 (by omega)
  have f27 : Arv Z h24 b kb .char (12 : Int32) [(.int c1), (.int c2), (.int c3), (.int c4), (.int c5), (.int c6)] vZ := Vb.ext X26
  refine go (g' := (mkF m 219 #[vR b, vI (6 : Int32)] [(.int c6), (.int (5 : Int32)), (.ref x3), (.ref x3), (.ref x1), (.ref x1)])) (own_cal W24 hx f27 (j := (5 : Int32)) ⟨by decide, by decide⟩ rfl (g := (mkF m 218 #[vR b, vI (6 : Int32)] [(.int (5 : Int32)), (.ref b), (.int (5 : Int32)), (.ref x3), (.ref x3), (.ref x1), (.ref x1)])) rfl rfl (hb hby d37_218)) ?_
  obtain ⟨T28, h28, W28, R28, V28, st28⟩ := own_stC W24 hx U24 (by omega) (j := (5 : Int32)) (i := 5) ⟨by decide, by decide⟩ rfl (nle rfl) (own_up (hr _ (List.mem_of_getElem? (i := 5) rfl))) (g := (mkF m 219 #[vR b, vI (6 : Int32)] [(.int c6), (.int (5 : Int32)), (.ref x3), (.ref x3), (.ref x1), (.ref x1)])) rfl rfl (hb hby d37_219)
  have z29 : h28.size = h24.size := R28.size
  have U28 : Arv Z h28 x3 k3 .char (6 : Int32) [(.int c1), (.int c2), (.int c3), (.int c4), (.int c5), (.int c6)] vZ := V28
  refine go (g' := (mkF m 220 #[vR b, vI (6 : Int32)] [(.ref x3), (.ref x1), (.ref x1)])) (st28) ?_
  have X31 : Ext h0 h28 := own_xw X26 R28 (by omega)
  have X32 : Ext h1 h3 := own_xt (own_xr h1) E3
  have X33 : Ext h1 h8 := own_xw X32 R8 (by omega)
  have X34 : Ext h1 h12 := own_xw X33 R12 (by omega)
  have X35 : Ext h1 h16 := own_xw X34 R16 (by omega)
  have X36 : Ext h1 h20 := own_xw X35 R20 (by omega)
  have X37 : Ext h1 h24 := own_xw X36 R24 (by omega)
  have X38 : Ext h1 h28 := own_xw X37 R28 (by omega)
  have f39 : Exa Z h28 x1 "java/lang/String" := A1.ext X38
  have f40 : Fld Z h28 x1 "java/lang/String" "value" "[B" .null := F1_value.ext X38
  have f41 : Fld Z h28 x1 "java/lang/String" "coder" "B" vZ := F1_coder.ext X38
  obtain ⟨T30, h30, W30, K30, S30, st30⟩ := own_strNew W28 hx (own_ws C) (w15 C) (w16 C) (w17 C) (w13 C) f39 f40 f41 (cs := [c1, c2, c3, c4, c5, c6]) U28 rfl C.cs (nle rfl) (nle rfl) (own_alS (hr _ (List.mem_of_getElem? (i := 0) rfl)) (own_alS (hr _ (List.mem_of_getElem? (i := 1) rfl)) (own_alS (hr _ (List.mem_of_getElem? (i := 2) rfl)) (own_alS (hr _ (List.mem_of_getElem? (i := 3) rfl)) (own_alS (hr _ (List.mem_of_getElem? (i := 4) rfl)) (own_alS (hr _ (List.mem_of_getElem? (i := 5) rfl)) own_al0)))))) (own_safeB W0 X31 (by omega)) (by omega) (Wd := 1) (nle rfl) (nle rfl) (nle rfl) (nle rfl) (g := (mkF m 220 #[vR b, vI (6 : Int32)] [(.ref x3), (.ref x1), (.ref x1)])) rfl (by rw [hml]; rfl) rfl (nle rfl) (hb hby d37_220)
  have z42 : h28.size ≤ h30.size := K30.1
  refine go (g' := (mkF m 223 #[vR b, vI (6 : Int32)] [(.ref x1)])) (st30) ?_
  have X43 : Ext h0 h30 := own_xk X31 K30 (allS (by omega) all0)
  exact fin (v := some (.ref x1)) (so := []) W30 (nle rfl) (nle rfl) (⟨_, rfl, X43, S30⟩) (fun _ q => nomatch q) (fun q => nomatch q) (own_retA W30 hx hret rfl rfl rfl (hb hby d37_223))
set_option maxRecDepth 65536 in
set_option maxHeartbeats 40000000 in
theorem rm_take7 {l : Launch} {Z : State} {a0 : Array Value} (C : Cx Z a0) (h0 : Heap) (b : Addr) (kb : ClassId) (c1 c2 c3 c4 c5 c6 c7 : Int32) (hr : ∀ c ∈ [c1, c2, c3, c4, c5, c6, c7], ¬ c < 0 ∧ ¬ (255 : Int32) < c) (Vb : Arv Z h0 b kb .char (12 : Int32) [(.int c1), (.int c2), (.int c3), (.int c4), (.int c5), (.int c6), (.int c7)] vZ) :
    Ct l Z a0 own_EL (⟨"com/example/inchworm/inchworm/core/IdempotencyKeyParseHeaderPinLaw", "take", "([CI)Ljava/lang/String;"⟩ : MethodName) method_6_code 2 (Option.some (Jvm.ClassFile.FieldType.object "java/lang/String")) [] ({ frames := 5, cells := 3, slots := 30, locals := 76 } : Room) #[(.ref b), (.int (7 : Int32))] h0 [] (fun v h so => ∃ x : Addr, v = some (.ref x) ∧ Ext h0 h ∧ Str Z h x [c1, c2, c3, c4, c5, c6, c7]) := by
  refine own_enter (plainFor_of_name pn_8) C.ew (F0 := fun m => mkF m 0 #[vR b, vI (7 : Int32)] []) (fun m => by first | (simp [entryFrame, mkF, argsToLocals, Value.category]; done) | rfl) ?_
  intro p e s m below meth c s₁ G hx hby hml hret hnm W0 S0 go fin
  have z0 : Z.heap.size ≤ h0.size := W0.sz
  show G s₁ (mkF m 0 #[vR b, vI (7 : Int32)] [])
  have lb : ltN b h0.size := Vb.lt
  refine go (g' := (mkF m 52 #[vR b, vI (7 : Int32)] [(.int (3 : Int32)), (.int (7 : Int32))])) (fun _ k => XS.iloadN W0.here hx rfl (hb hby d37_0) rfl (XS.iconst W0.here hx rfl (hb hby d37_1) (XS.icmpYes W0.here hx rfl (pc0 := 2) (pc' := 22) rfl (hb hby d37_2) rfl (feq ((by decide) : ¬ ((7 : Int32) = (1 : Int32)))).2 (by decide) (by decide) (XS.iloadN W0.here hx rfl (hb hby d37_22) rfl (XS.iconst W0.here hx rfl (hb hby d37_23) (XS.icmpYes W0.here hx rfl (pc0 := 24) (pc' := 50) rfl (hb hby d37_24) rfl (feq ((by decide) : ¬ ((7 : Int32) = (2 : Int32)))).2 (by decide) (by decide) (XS.iloadN W0.here hx rfl (hb hby d37_50) rfl (XS.iconst W0.here hx rfl (hb hby d37_51) k)))))))) ?_
  refine go (g' := (mkF m 171 #[vR b, vI (7 : Int32)] [(.int (7 : Int32))])) (fun _ k => XS.icmpYes W0.here hx rfl (pc0 := 52) (pc' := 84) rfl (hb hby d37_52) rfl (feq ((by decide) : ¬ ((7 : Int32) = (3 : Int32)))).2 (by decide) (by decide) (XS.iloadN W0.here hx rfl (hb hby d37_84) rfl (XS.iconst W0.here hx rfl (hb hby d37_85) (XS.icmpYes W0.here hx rfl (pc0 := 86) (pc' := 124) rfl (hb hby d37_86) rfl (feq ((by decide) : ¬ ((7 : Int32) = (4 : Int32)))).2 (by decide) (by decide) (XS.iloadN W0.here hx rfl (hb hby d37_124) rfl (XS.iconst W0.here hx rfl (hb hby d37_125) (XS.icmpYes W0.here hx rfl (pc0 := 126) (pc' := 170) rfl (hb hby d37_126) rfl (feq ((by decide) : ¬ ((7 : Int32) = (5 : Int32)))).2 (by decide) (by decide) (XS.iloadN W0.here hx rfl (hb hby d37_170) rfl k)))))))) ?_
  refine go (g' := (mkF m 230 #[vR b, vI (7 : Int32)] [])) (fun _ k => XS.bipush W0.here hx rfl (hb hby d37_171) (XS.icmpYes W0.here hx rfl (pc0 := 173) (pc' := 224) rfl (hb hby d37_173) rfl (feq ((by decide) : ¬ ((7 : Int32) = (6 : Int32)))).2 (by decide) (by decide) (XS.iloadN W0.here hx rfl (hb hby d37_224) rfl (XS.bipush W0.here hx rfl (hb hby d37_225) (XS.icmpNo W0.here hx rfl (hb hby d37_227) rfl (teq ((by decide) : (7 : Int32) = (7 : Int32))).2 k))))) ?_
  obtain ⟨x1, T1, h1, g1, W1, E1, A1, D1, U1, st1⟩ := own_new W0 hx (w12 C) (w13 C) (w14 C) (g := (mkF m 230 #[vR b, vI (7 : Int32)] [])) rfl (hb hby d37_230) (nle rfl) (nle rfl)
  have z2 : h0.size ≤ h1.size := E1.1
  have l1 : ltN x1 h1.size := A1.lt
  have F1_coder : Fld Z h1 x1 "java/lang/String" "coder" "B" vZ := D1 (Or.inr (w38 C)) (ty := .byte) (by decide)
  have F1_value : Fld Z h1 x1 "java/lang/String" "value" "[B" .null := D1 (Or.inr (w40 C)) (ty := (.array .byte)) (by decide)
  refine go (g' := (mkF m 233 #[vR b, vI (7 : Int32)] [(.ref x1)])) (st1) ?_
  refine go (g' := (mkF m 236 #[vR b, vI (7 : Int32)] [(.int (7 : Int32)), (.ref x1), (.ref x1)])) (fun _ k => XS.dup W1.here hx rfl (hb hby d37_233) rfl rfl (XS.bipush W1.here hx rfl (hb hby d37_234) k)) ?_
  obtain ⟨x3, T3, h3, k3, g3, W3, E3, A3, st3⟩ := own_newP W1 hx (aty := .char) (w5 C) (g := (mkF m 236 #[vR b, vI (7 : Int32)] [(.int (7 : Int32)), (.ref x1), (.ref x1)])) rfl (hb hby d37_236) rfl (by decide) (cap := 7) (by decide) (nle rfl) (nle rfl) (nle rfl)
  have z4 : h1.size ≤ h3.size := E3.1
  have l3 : ltN x3 h3.size := A3.lt
  have V3 : Arv Z h3 x3 k3 .char (7 : Int32) [vZ, vZ, vZ, vZ, vZ, vZ, vZ] vZ := A3.pad (pad_rep [] vZ 7)
  refine go (g' := (mkF m 238 #[vR b, vI (7 : Int32)] [(.ref x3), (.ref x1), (.ref x1)])) (st3) ?_
  refine go (g' := (mkF m 242 #[vR b, vI (7 : Int32)] [vZ, (.ref b), vZ, (.ref x3), (.ref x3), (.ref x1), (.ref x1)])) (fun _ k => XS.dup W3.here hx rfl (hb hby d37_238) rfl rfl (XS.iconst W3.here hx rfl (hb hby d37_239) (XS.aloadN W3.here hx rfl (hb hby d37_240) rfl rfl (XS.iconst W3.here hx rfl (hb hby d37_241) k)))) ?_
  have X5 : Ext h0 h1 := own_xt (own_xr h0) E1
  have X6 : Ext h0 h3 := own_xt X5 E3
  have f7 : Arv Z h3 b kb .char (12 : Int32) [(.int c1), (.int c2), (.int c3), (.int c4), (.int c5), (.int c6), (.int c7)] vZ := Vb.ext X6
  refine go (g' := (mkF m 243 #[vR b, vI (7 : Int32)] [(.int c1), vZ, (.ref x3), (.ref x3), (.ref x1), (.ref x1)])) (own_cal W3 hx f7 (j := (0 : Int32)) ⟨by decide, by decide⟩ rfl (g := (mkF m 242 #[vR b, vI (7 : Int32)] [vZ, (.ref b), vZ, (.ref x3), (.ref x3), (.ref x1), (.ref x1)])) rfl rfl (hb hby d37_242)) ?_
  obtain ⟨T8, h8, W8, R8, V8, st8⟩ := own_stC W3 hx V3 (by omega) (j := (0 : Int32)) (i := 0) ⟨by decide, by decide⟩ rfl (nle rfl) (own_up (hr _ (List.mem_of_getElem? (i := 0) rfl))) (g := (mkF m 243 #[vR b, vI (7 : Int32)] [(.int c1), vZ, (.ref x3), (.ref x3), (.ref x1), (.ref x1)])) rfl rfl (hb hby d37_243)
  have z9 : h8.size = h3.size := R8.size
  have U8 : Arv Z h8 x3 k3 .char (7 : Int32) [(.int c1), vZ, vZ, vZ, vZ, vZ, vZ] vZ := V8
  refine go (g' := (mkF m 244 #[vR b, vI (7 : Int32)] [(.ref x3), (.ref x1), (.ref x1)])) (st8) ?_
  refine go (g' := (mkF m 248 #[vR b, vI (7 : Int32)] [(.int (1 : Int32)), (.ref b), (.int (1 : Int32)), (.ref x3), (.ref x3), (.ref x1), (.ref x1)])) (fun _ k => XS.dup W8.here hx rfl (hb hby d37_244) rfl rfl (XS.iconst W8.here hx rfl (hb hby d37_245) (XS.aloadN W8.here hx rfl (hb hby d37_246) rfl rfl (XS.iconst W8.here hx rfl (hb hby d37_247) k)))) ?_
  have X10 : Ext h0 h8 := own_xw X6 R8 (by omega)
  have f11 : Arv Z h8 b kb .char (12 : Int32) [(.int c1), (.int c2), (.int c3), (.int c4), (.int c5), (.int c6), (.int c7)] vZ := Vb.ext X10
  refine go (g' := (mkF m 249 #[vR b, vI (7 : Int32)] [(.int c2), (.int (1 : Int32)), (.ref x3), (.ref x3), (.ref x1), (.ref x1)])) (own_cal W8 hx f11 (j := (1 : Int32)) ⟨by decide, by decide⟩ rfl (g := (mkF m 248 #[vR b, vI (7 : Int32)] [(.int (1 : Int32)), (.ref b), (.int (1 : Int32)), (.ref x3), (.ref x3), (.ref x1), (.ref x1)])) rfl rfl (hb hby d37_248)) ?_
  obtain ⟨T12, h12, W12, R12, V12, st12⟩ := own_stC W8 hx U8 (by omega) (j := (1 : Int32)) (i := 1) ⟨by decide, by decide⟩ rfl (nle rfl) (own_up (hr _ (List.mem_of_getElem? (i := 1) rfl))) (g := (mkF m 249 #[vR b, vI (7 : Int32)] [(.int c2), (.int (1 : Int32)), (.ref x3), (.ref x3), (.ref x1), (.ref x1)])) rfl rfl (hb hby d37_249)
  have z13 : h12.size = h8.size := R12.size
  have U12 : Arv Z h12 x3 k3 .char (7 : Int32) [(.int c1), (.int c2), vZ, vZ, vZ, vZ, vZ] vZ := V12
  refine go (g' := (mkF m 250 #[vR b, vI (7 : Int32)] [(.ref x3), (.ref x1), (.ref x1)])) (st12) ?_
  refine go (g' := (mkF m 254 #[vR b, vI (7 : Int32)] [(.int (2 : Int32)), (.ref b), (.int (2 : Int32)), (.ref x3), (.ref x3), (.ref x1), (.ref x1)])) (fun _ k => XS.dup W12.here hx rfl (hb hby d37_250) rfl rfl (XS.iconst W12.here hx rfl (hb hby d37_251) (XS.aloadN W12.here hx rfl (hb hby d37_252) rfl rfl (XS.iconst W12.here hx rfl (hb hby d37_253) k)))) ?_
  have X14 : Ext h0 h12 := own_xw X10 R12 (by omega)
  have f15 : Arv Z h12 b kb .char (12 : Int32) [(.int c1), (.int c2), (.int c3), (.int c4), (.int c5), (.int c6), (.int c7)] vZ := Vb.ext X14
  refine go (g' := (mkF m 255 #[vR b, vI (7 : Int32)] [(.int c3), (.int (2 : Int32)), (.ref x3), (.ref x3), (.ref x1), (.ref x1)])) (own_cal W12 hx f15 (j := (2 : Int32)) ⟨by decide, by decide⟩ rfl (g := (mkF m 254 #[vR b, vI (7 : Int32)] [(.int (2 : Int32)), (.ref b), (.int (2 : Int32)), (.ref x3), (.ref x3), (.ref x1), (.ref x1)])) rfl rfl (hb hby d37_254)) ?_
  obtain ⟨T16, h16, W16, R16, V16, st16⟩ := own_stC W12 hx U12 (by omega) (j := (2 : Int32)) (i := 2) ⟨by decide, by decide⟩ rfl (nle rfl) (own_up (hr _ (List.mem_of_getElem? (i := 2) rfl))) (g := (mkF m 255 #[vR b, vI (7 : Int32)] [(.int c3), (.int (2 : Int32)), (.ref x3), (.ref x3), (.ref x1), (.ref x1)])) rfl rfl (hb hby d37_255)
  have z17 : h16.size = h12.size := R16.size
  have U16 : Arv Z h16 x3 k3 .char (7 : Int32) [(.int c1), (.int c2), (.int c3), vZ, vZ, vZ, vZ] vZ := V16
  refine go (g' := (mkF m 256 #[vR b, vI (7 : Int32)] [(.ref x3), (.ref x1), (.ref x1)])) (st16) ?_
  refine go (g' := (mkF m 260 #[vR b, vI (7 : Int32)] [(.int (3 : Int32)), (.ref b), (.int (3 : Int32)), (.ref x3), (.ref x3), (.ref x1), (.ref x1)])) (fun _ k => XS.dup W16.here hx rfl (hb hby d37_256) rfl rfl (XS.iconst W16.here hx rfl (hb hby d37_257) (XS.aloadN W16.here hx rfl (hb hby d37_258) rfl rfl (XS.iconst W16.here hx rfl (hb hby d37_259) k)))) ?_
  have X18 : Ext h0 h16 := own_xw X14 R16 (by omega)
  have f19 : Arv Z h16 b kb .char (12 : Int32) [(.int c1), (.int c2), (.int c3), (.int c4), (.int c5), (.int c6), (.int c7)] vZ := Vb.ext X18
  refine go (g' := (mkF m 261 #[vR b, vI (7 : Int32)] [(.int c4), (.int (3 : Int32)), (.ref x3), (.ref x3), (.ref x1), (.ref x1)])) (own_cal W16 hx f19 (j := (3 : Int32)) ⟨by decide, by decide⟩ rfl (g := (mkF m 260 #[vR b, vI (7 : Int32)] [(.int (3 : Int32)), (.ref b), (.int (3 : Int32)), (.ref x3), (.ref x3), (.ref x1), (.ref x1)])) rfl rfl (hb hby d37_260)) ?_
  obtain ⟨T20, h20, W20, R20, V20, st20⟩ := own_stC W16 hx U16 (by omega) (j := (3 : Int32)) (i := 3) ⟨by decide, by decide⟩ rfl (nle rfl) (own_up (hr _ (List.mem_of_getElem? (i := 3) rfl))) (g := (mkF m 261 #[vR b, vI (7 : Int32)] [(.int c4), (.int (3 : Int32)), (.ref x3), (.ref x3), (.ref x1), (.ref x1)])) rfl rfl (hb hby d37_261)
  have z21 : h20.size = h16.size := R20.size
  have U20 : Arv Z h20 x3 k3 .char (7 : Int32) [(.int c1), (.int c2), (.int c3), (.int c4), vZ, vZ, vZ] vZ := V20
  refine go (g' := (mkF m 262 #[vR b, vI (7 : Int32)] [(.ref x3), (.ref x1), (.ref x1)])) (st20) ?_
  refine go (g' := (mkF m 266 #[vR b, vI (7 : Int32)] [(.int (4 : Int32)), (.ref b), (.int (4 : Int32)), (.ref x3), (.ref x3), (.ref x1), (.ref x1)])) (fun _ k => XS.dup W20.here hx rfl (hb hby d37_262) rfl rfl (XS.iconst W20.here hx rfl (hb hby d37_263) (XS.aloadN W20.here hx rfl (hb hby d37_264) rfl rfl (XS.iconst W20.here hx rfl (hb hby d37_265) k)))) ?_
  have X22 : Ext h0 h20 := own_xw X18 R20 (by omega)
  have f23 : Arv Z h20 b kb .char (12 : Int32) [(.int c1), (.int c2), (.int c3), (.int c4), (.int c5), (.int c6), (.int c7)] vZ := Vb.ext X22
  refine go (g' := (mkF m 267 #[vR b, vI (7 : Int32)] [(.int c5), (.int (4 : Int32)), (.ref x3), (.ref x3), (.ref x1), (.ref x1)])) (own_cal W20 hx f23 (j := (4 : Int32)) ⟨by decide, by decide⟩ rfl (g := (mkF m 266 #[vR b, vI (7 : Int32)] [(.int (4 : Int32)), (.ref b), (.int (4 : Int32)), (.ref x3), (.ref x3), (.ref x1), (.ref x1)])) rfl rfl (hb hby d37_266)) ?_
  obtain ⟨T24, h24, W24, R24, V24, st24⟩ := own_stC W20 hx U20 (by omega) (j := (4 : Int32)) (i := 4) ⟨by decide, by decide⟩ rfl (nle rfl) (own_up (hr _ (List.mem_of_getElem? (i := 4) rfl))) (g := (mkF m 267 #[vR b, vI (7 : Int32)] [(.int c5), (.int (4 : Int32)), (.ref x3), (.ref x3), (.ref x1), (.ref x1)])) rfl rfl (hb hby d37_267)
  have z25 : h24.size = h20.size := R24.size
  have U24 : Arv Z h24 x3 k3 .char (7 : Int32) [(.int c1), (.int c2), (.int c3), (.int c4), (.int c5), vZ, vZ] vZ := V24
  refine go (g' := (mkF m 268 #[vR b, vI (7 : Int32)] [(.ref x3), (.ref x1), (.ref x1)])) (st24) ?_
  refine go (g' := (mkF m 272 #[vR b, vI (7 : Int32)] [(.int (5 : Int32)), (.ref b), (.int (5 : Int32)), (.ref x3), (.ref x3), (.ref x1), (.ref x1)])) (fun _ k => XS.dup W24.here hx rfl (hb hby d37_268) rfl rfl (XS.iconst W24.here hx rfl (hb hby d37_269) (XS.aloadN W24.here hx rfl (hb hby d37_270) rfl rfl (XS.iconst W24.here hx rfl (hb hby d37_271) k)))) ?_
  have X26 : Ext h0 h24 := own_xw X22 R24 (by omega)
  have f27 : Arv Z h24 b kb .char (12 : Int32) [(.int c1), (.int c2), (.int c3), (.int c4), (.int c5), (.int c6), (.int c7)] vZ := Vb.ext X26
  refine go (g' := (mkF m 273 #[vR b, vI (7 : Int32)] [(.int c6), (.int (5 : Int32)), (.ref x3), (.ref x3), (.ref x1), (.ref x1)])) (own_cal W24 hx f27 (j := (5 : Int32)) ⟨by decide, by decide⟩ rfl (g := (mkF m 272 #[vR b, vI (7 : Int32)] [(.int (5 : Int32)), (.ref b), (.int (5 : Int32)), (.ref x3), (.ref x3), (.ref x1), (.ref x1)])) rfl rfl (hb hby d37_272)) ?_
  obtain ⟨T28, h28, W28, R28, V28, st28⟩ := own_stC W24 hx U24 (by omega) (j := (5 : Int32)) (i := 5) ⟨by decide, by decide⟩ rfl (nle rfl) (own_up (hr _ (List.mem_of_getElem? (i := 5) rfl))) (g := (mkF m 273 #[vR b, vI (7 : Int32)] [(.int c6), (.int (5 : Int32)), (.ref x3), (.ref x3), (.ref x1), (.ref x1)])) rfl rfl (hb hby d37_273)
  have z29 : h28.size = h24.size := R28.size
  have U28 : Arv Z h28 x3 k3 .char (7 : Int32) [(.int c1), (.int c2), (.int c3), (.int c4), (.int c5), (.int c6), vZ] vZ := V28
  refine go (g' := (mkF m 274 #[vR b, vI (7 : Int32)] [(.ref x3), (.ref x1), (.ref x1)])) (st28) ?_
  refine go (g' := (mkF m 280 #[vR b, vI (7 : Int32)] [(.int (6 : Int32)), (.ref b), (.int (6 : Int32)), (.ref x3), (.ref x3), (.ref x1), (.ref x1)])) (fun _ k => XS.dup W28.here hx rfl (hb hby d37_274) rfl rfl (XS.bipush W28.here hx rfl (hb hby d37_275) (XS.aloadN W28.here hx rfl (hb hby d37_277) rfl rfl (XS.bipush W28.here hx rfl (hb hby d37_278) k)))) ?_
  have X30 : Ext h0 h28 := own_xw X26 R28 (by omega)
  have f31 : Arv Z h28 b kb .char (12 : Int32) [(.int c1), (.int c2), (.int c3), (.int c4), (.int c5), (.int c6), (.int c7)] vZ := Vb.ext X30
  refine go (g' := (mkF m 281 #[vR b, vI (7 : Int32)] [(.int c7), (.int (6 : Int32)), (.ref x3), (.ref x3), (.ref x1), (.ref x1)])) (own_cal W28 hx f31 (j := (6 : Int32)) ⟨by decide, by decide⟩ rfl (g := (mkF m 280 #[vR b, vI (7 : Int32)] [(.int (6 : Int32)), (.ref b), (.int (6 : Int32)), (.ref x3), (.ref x3), (.ref x1), (.ref x1)])) rfl rfl (hb hby d37_280)) ?_
  obtain ⟨T32, h32, W32, R32, V32, st32⟩ := own_stC W28 hx U28 (by omega) (j := (6 : Int32)) (i := 6) ⟨by decide, by decide⟩ rfl (nle rfl) (own_up (hr _ (List.mem_of_getElem? (i := 6) rfl))) (g := (mkF m 281 #[vR b, vI (7 : Int32)] [(.int c7), (.int (6 : Int32)), (.ref x3), (.ref x3), (.ref x1), (.ref x1)])) rfl rfl (hb hby d37_281)
  have z33 : h32.size = h28.size := R32.size
  have U32 : Arv Z h32 x3 k3 .char (7 : Int32) [(.int c1), (.int c2), (.int c3), (.int c4), (.int c5), (.int c6), (.int c7)] vZ := V32
  refine go (g' := (mkF m 282 #[vR b, vI (7 : Int32)] [(.ref x3), (.ref x1), (.ref x1)])) (st32) ?_
  have X35 : Ext h0 h32 := own_xw X30 R32 (by omega)
  have X36 : Ext h1 h3 := own_xt (own_xr h1) E3
  have X37 : Ext h1 h8 := own_xw X36 R8 (by omega)
  have X38 : Ext h1 h12 := own_xw X37 R12 (by omega)
  have X39 : Ext h1 h16 := own_xw X38 R16 (by omega)
  have X40 : Ext h1 h20 := own_xw X39 R20 (by omega)
  have X41 : Ext h1 h24 := own_xw X40 R24 (by omega)
  have X42 : Ext h1 h28 := own_xw X41 R28 (by omega)
  have X43 : Ext h1 h32 := own_xw X42 R32 (by omega)
  have f44 : Exa Z h32 x1 "java/lang/String" := A1.ext X43
  have f45 : Fld Z h32 x1 "java/lang/String" "value" "[B" .null := F1_value.ext X43
  have f46 : Fld Z h32 x1 "java/lang/String" "coder" "B" vZ := F1_coder.ext X43
  obtain ⟨T34, h34, W34, K34, S34, st34⟩ := own_strNew W32 hx (own_ws C) (w15 C) (w16 C) (w17 C) (w13 C) f44 f45 f46 (cs := [c1, c2, c3, c4, c5, c6, c7]) U32 rfl C.cs (nle rfl) (nle rfl) (own_alS (hr _ (List.mem_of_getElem? (i := 0) rfl)) (own_alS (hr _ (List.mem_of_getElem? (i := 1) rfl)) (own_alS (hr _ (List.mem_of_getElem? (i := 2) rfl)) (own_alS (hr _ (List.mem_of_getElem? (i := 3) rfl)) (own_alS (hr _ (List.mem_of_getElem? (i := 4) rfl)) (own_alS (hr _ (List.mem_of_getElem? (i := 5) rfl)) (own_alS (hr _ (List.mem_of_getElem? (i := 6) rfl)) own_al0))))))) (own_safeB W0 X35 (by omega)) (by omega) (Wd := 1) (nle rfl) (nle rfl) (nle rfl) (nle rfl) (g := (mkF m 282 #[vR b, vI (7 : Int32)] [(.ref x3), (.ref x1), (.ref x1)])) rfl (by rw [hml]; rfl) rfl (nle rfl) (hb hby d37_282)
  have z47 : h32.size ≤ h34.size := K34.1
  refine go (g' := (mkF m 285 #[vR b, vI (7 : Int32)] [(.ref x1)])) (st34) ?_
  have X48 : Ext h0 h34 := own_xk X35 K34 (allS (by omega) all0)
  exact fin (v := some (.ref x1)) (so := []) W34 (nle rfl) (nle rfl) (⟨_, rfl, X48, S34⟩) (fun _ q => nomatch q) (fun q => nomatch q) (own_retA W34 hx hret rfl rfl rfl (hb hby d37_285))
set_option maxRecDepth 65536 in
set_option maxHeartbeats 40000000 in
theorem rm_take8 {l : Launch} {Z : State} {a0 : Array Value} (C : Cx Z a0) (h0 : Heap) (b : Addr) (kb : ClassId) (c1 c2 c3 c4 c5 c6 c7 c8 : Int32) (hr : ∀ c ∈ [c1, c2, c3, c4, c5, c6, c7, c8], ¬ c < 0 ∧ ¬ (255 : Int32) < c) (Vb : Arv Z h0 b kb .char (12 : Int32) [(.int c1), (.int c2), (.int c3), (.int c4), (.int c5), (.int c6), (.int c7), (.int c8)] vZ) :
    Ct l Z a0 own_EL (⟨"com/example/inchworm/inchworm/core/IdempotencyKeyParseHeaderPinLaw", "take", "([CI)Ljava/lang/String;"⟩ : MethodName) method_6_code 2 (Option.some (Jvm.ClassFile.FieldType.object "java/lang/String")) [] ({ frames := 5, cells := 3, slots := 30, locals := 76 } : Room) #[(.ref b), (.int (8 : Int32))] h0 [] (fun v h so => ∃ x : Addr, v = some (.ref x) ∧ Ext h0 h ∧ Str Z h x [c1, c2, c3, c4, c5, c6, c7, c8]) := by
  refine own_enter (plainFor_of_name pn_8) C.ew (F0 := fun m => mkF m 0 #[vR b, vI (8 : Int32)] []) (fun m => by first | (simp [entryFrame, mkF, argsToLocals, Value.category]; done) | rfl) ?_
  intro p e s m below meth c s₁ G hx hby hml hret hnm W0 S0 go fin
  have z0 : Z.heap.size ≤ h0.size := W0.sz
  show G s₁ (mkF m 0 #[vR b, vI (8 : Int32)] [])
  have lb : ltN b h0.size := Vb.lt
  refine go (g' := (mkF m 52 #[vR b, vI (8 : Int32)] [(.int (3 : Int32)), (.int (8 : Int32))])) (fun _ k => XS.iloadN W0.here hx rfl (hb hby d37_0) rfl (XS.iconst W0.here hx rfl (hb hby d37_1) (XS.icmpYes W0.here hx rfl (pc0 := 2) (pc' := 22) rfl (hb hby d37_2) rfl (feq ((by decide) : ¬ ((8 : Int32) = (1 : Int32)))).2 (by decide) (by decide) (XS.iloadN W0.here hx rfl (hb hby d37_22) rfl (XS.iconst W0.here hx rfl (hb hby d37_23) (XS.icmpYes W0.here hx rfl (pc0 := 24) (pc' := 50) rfl (hb hby d37_24) rfl (feq ((by decide) : ¬ ((8 : Int32) = (2 : Int32)))).2 (by decide) (by decide) (XS.iloadN W0.here hx rfl (hb hby d37_50) rfl (XS.iconst W0.here hx rfl (hb hby d37_51) k)))))))) ?_
  refine go (g' := (mkF m 171 #[vR b, vI (8 : Int32)] [(.int (8 : Int32))])) (fun _ k => XS.icmpYes W0.here hx rfl (pc0 := 52) (pc' := 84) rfl (hb hby d37_52) rfl (feq ((by decide) : ¬ ((8 : Int32) = (3 : Int32)))).2 (by decide) (by decide) (XS.iloadN W0.here hx rfl (hb hby d37_84) rfl (XS.iconst W0.here hx rfl (hb hby d37_85) (XS.icmpYes W0.here hx rfl (pc0 := 86) (pc' := 124) rfl (hb hby d37_86) rfl (feq ((by decide) : ¬ ((8 : Int32) = (4 : Int32)))).2 (by decide) (by decide) (XS.iloadN W0.here hx rfl (hb hby d37_124) rfl (XS.iconst W0.here hx rfl (hb hby d37_125) (XS.icmpYes W0.here hx rfl (pc0 := 126) (pc' := 170) rfl (hb hby d37_126) rfl (feq ((by decide) : ¬ ((8 : Int32) = (5 : Int32)))).2 (by decide) (by decide) (XS.iloadN W0.here hx rfl (hb hby d37_170) rfl k)))))))) ?_
  refine go (g' := (mkF m 292 #[vR b, vI (8 : Int32)] [])) (fun _ k => XS.bipush W0.here hx rfl (hb hby d37_171) (XS.icmpYes W0.here hx rfl (pc0 := 173) (pc' := 224) rfl (hb hby d37_173) rfl (feq ((by decide) : ¬ ((8 : Int32) = (6 : Int32)))).2 (by decide) (by decide) (XS.iloadN W0.here hx rfl (hb hby d37_224) rfl (XS.bipush W0.here hx rfl (hb hby d37_225) (XS.icmpYes W0.here hx rfl (pc0 := 227) (pc' := 286) rfl (hb hby d37_227) rfl (feq ((by decide) : ¬ ((8 : Int32) = (7 : Int32)))).2 (by decide) (by decide) (XS.iloadN W0.here hx rfl (hb hby d37_286) rfl (XS.bipush W0.here hx rfl (hb hby d37_287) (XS.icmpNo W0.here hx rfl (hb hby d37_289) rfl (teq ((by decide) : (8 : Int32) = (8 : Int32))).2 k)))))))) ?_
  obtain ⟨x1, T1, h1, g1, W1, E1, A1, D1, U1, st1⟩ := own_new W0 hx (w12 C) (w13 C) (w14 C) (g := (mkF m 292 #[vR b, vI (8 : Int32)] [])) rfl (hb hby d37_292) (nle rfl) (nle rfl)
  have z2 : h0.size ≤ h1.size := E1.1
  have l1 : ltN x1 h1.size := A1.lt
  have F1_coder : Fld Z h1 x1 "java/lang/String" "coder" "B" vZ := D1 (Or.inr (w38 C)) (ty := .byte) (by decide)
  have F1_value : Fld Z h1 x1 "java/lang/String" "value" "[B" .null := D1 (Or.inr (w40 C)) (ty := (.array .byte)) (by decide)
  refine go (g' := (mkF m 295 #[vR b, vI (8 : Int32)] [(.ref x1)])) (st1) ?_
  refine go (g' := (mkF m 298 #[vR b, vI (8 : Int32)] [(.int (8 : Int32)), (.ref x1), (.ref x1)])) (fun _ k => XS.dup W1.here hx rfl (hb hby d37_295) rfl rfl (XS.bipush W1.here hx rfl (hb hby d37_296) k)) ?_
  obtain ⟨x3, T3, h3, k3, g3, W3, E3, A3, st3⟩ := own_newP W1 hx (aty := .char) (w5 C) (g := (mkF m 298 #[vR b, vI (8 : Int32)] [(.int (8 : Int32)), (.ref x1), (.ref x1)])) rfl (hb hby d37_298) rfl (by decide) (cap := 8) (by decide) (nle rfl) (nle rfl) (nle rfl)
  have z4 : h1.size ≤ h3.size := E3.1
  have l3 : ltN x3 h3.size := A3.lt
  have V3 : Arv Z h3 x3 k3 .char (8 : Int32) [vZ, vZ, vZ, vZ, vZ, vZ, vZ, vZ] vZ := A3.pad (pad_rep [] vZ 8)
  refine go (g' := (mkF m 300 #[vR b, vI (8 : Int32)] [(.ref x3), (.ref x1), (.ref x1)])) (st3) ?_
  refine go (g' := (mkF m 304 #[vR b, vI (8 : Int32)] [vZ, (.ref b), vZ, (.ref x3), (.ref x3), (.ref x1), (.ref x1)])) (fun _ k => XS.dup W3.here hx rfl (hb hby d37_300) rfl rfl (XS.iconst W3.here hx rfl (hb hby d37_301) (XS.aloadN W3.here hx rfl (hb hby d37_302) rfl rfl (XS.iconst W3.here hx rfl (hb hby d37_303) k)))) ?_
  have X5 : Ext h0 h1 := own_xt (own_xr h0) E1
  have X6 : Ext h0 h3 := own_xt X5 E3
  have f7 : Arv Z h3 b kb .char (12 : Int32) [(.int c1), (.int c2), (.int c3), (.int c4), (.int c5), (.int c6), (.int c7), (.int c8)] vZ := Vb.ext X6
  refine go (g' := (mkF m 305 #[vR b, vI (8 : Int32)] [(.int c1), vZ, (.ref x3), (.ref x3), (.ref x1), (.ref x1)])) (own_cal W3 hx f7 (j := (0 : Int32)) ⟨by decide, by decide⟩ rfl (g := (mkF m 304 #[vR b, vI (8 : Int32)] [vZ, (.ref b), vZ, (.ref x3), (.ref x3), (.ref x1), (.ref x1)])) rfl rfl (hb hby d37_304)) ?_
  obtain ⟨T8, h8, W8, R8, V8, st8⟩ := own_stC W3 hx V3 (by omega) (j := (0 : Int32)) (i := 0) ⟨by decide, by decide⟩ rfl (nle rfl) (own_up (hr _ (List.mem_of_getElem? (i := 0) rfl))) (g := (mkF m 305 #[vR b, vI (8 : Int32)] [(.int c1), vZ, (.ref x3), (.ref x3), (.ref x1), (.ref x1)])) rfl rfl (hb hby d37_305)
  have z9 : h8.size = h3.size := R8.size
  have U8 : Arv Z h8 x3 k3 .char (8 : Int32) [(.int c1), vZ, vZ, vZ, vZ, vZ, vZ, vZ] vZ := V8
  refine go (g' := (mkF m 306 #[vR b, vI (8 : Int32)] [(.ref x3), (.ref x1), (.ref x1)])) (st8) ?_
  refine go (g' := (mkF m 310 #[vR b, vI (8 : Int32)] [(.int (1 : Int32)), (.ref b), (.int (1 : Int32)), (.ref x3), (.ref x3), (.ref x1), (.ref x1)])) (fun _ k => XS.dup W8.here hx rfl (hb hby d37_306) rfl rfl (XS.iconst W8.here hx rfl (hb hby d37_307) (XS.aloadN W8.here hx rfl (hb hby d37_308) rfl rfl (XS.iconst W8.here hx rfl (hb hby d37_309) k)))) ?_
  have X10 : Ext h0 h8 := own_xw X6 R8 (by omega)
  have f11 : Arv Z h8 b kb .char (12 : Int32) [(.int c1), (.int c2), (.int c3), (.int c4), (.int c5), (.int c6), (.int c7), (.int c8)] vZ := Vb.ext X10
  refine go (g' := (mkF m 311 #[vR b, vI (8 : Int32)] [(.int c2), (.int (1 : Int32)), (.ref x3), (.ref x3), (.ref x1), (.ref x1)])) (own_cal W8 hx f11 (j := (1 : Int32)) ⟨by decide, by decide⟩ rfl (g := (mkF m 310 #[vR b, vI (8 : Int32)] [(.int (1 : Int32)), (.ref b), (.int (1 : Int32)), (.ref x3), (.ref x3), (.ref x1), (.ref x1)])) rfl rfl (hb hby d37_310)) ?_
  obtain ⟨T12, h12, W12, R12, V12, st12⟩ := own_stC W8 hx U8 (by omega) (j := (1 : Int32)) (i := 1) ⟨by decide, by decide⟩ rfl (nle rfl) (own_up (hr _ (List.mem_of_getElem? (i := 1) rfl))) (g := (mkF m 311 #[vR b, vI (8 : Int32)] [(.int c2), (.int (1 : Int32)), (.ref x3), (.ref x3), (.ref x1), (.ref x1)])) rfl rfl (hb hby d37_311)
  have z13 : h12.size = h8.size := R12.size
  have U12 : Arv Z h12 x3 k3 .char (8 : Int32) [(.int c1), (.int c2), vZ, vZ, vZ, vZ, vZ, vZ] vZ := V12
  refine go (g' := (mkF m 312 #[vR b, vI (8 : Int32)] [(.ref x3), (.ref x1), (.ref x1)])) (st12) ?_
  refine go (g' := (mkF m 316 #[vR b, vI (8 : Int32)] [(.int (2 : Int32)), (.ref b), (.int (2 : Int32)), (.ref x3), (.ref x3), (.ref x1), (.ref x1)])) (fun _ k => XS.dup W12.here hx rfl (hb hby d37_312) rfl rfl (XS.iconst W12.here hx rfl (hb hby d37_313) (XS.aloadN W12.here hx rfl (hb hby d37_314) rfl rfl (XS.iconst W12.here hx rfl (hb hby d37_315) k)))) ?_
  have X14 : Ext h0 h12 := own_xw X10 R12 (by omega)
  have f15 : Arv Z h12 b kb .char (12 : Int32) [(.int c1), (.int c2), (.int c3), (.int c4), (.int c5), (.int c6), (.int c7), (.int c8)] vZ := Vb.ext X14
  refine go (g' := (mkF m 317 #[vR b, vI (8 : Int32)] [(.int c3), (.int (2 : Int32)), (.ref x3), (.ref x3), (.ref x1), (.ref x1)])) (own_cal W12 hx f15 (j := (2 : Int32)) ⟨by decide, by decide⟩ rfl (g := (mkF m 316 #[vR b, vI (8 : Int32)] [(.int (2 : Int32)), (.ref b), (.int (2 : Int32)), (.ref x3), (.ref x3), (.ref x1), (.ref x1)])) rfl rfl (hb hby d37_316)) ?_
  obtain ⟨T16, h16, W16, R16, V16, st16⟩ := own_stC W12 hx U12 (by omega) (j := (2 : Int32)) (i := 2) ⟨by decide, by decide⟩ rfl (nle rfl) (own_up (hr _ (List.mem_of_getElem? (i := 2) rfl))) (g := (mkF m 317 #[vR b, vI (8 : Int32)] [(.int c3), (.int (2 : Int32)), (.ref x3), (.ref x3), (.ref x1), (.ref x1)])) rfl rfl (hb hby d37_317)
  have z17 : h16.size = h12.size := R16.size
  have U16 : Arv Z h16 x3 k3 .char (8 : Int32) [(.int c1), (.int c2), (.int c3), vZ, vZ, vZ, vZ, vZ] vZ := V16
  refine go (g' := (mkF m 318 #[vR b, vI (8 : Int32)] [(.ref x3), (.ref x1), (.ref x1)])) (st16) ?_
  refine go (g' := (mkF m 322 #[vR b, vI (8 : Int32)] [(.int (3 : Int32)), (.ref b), (.int (3 : Int32)), (.ref x3), (.ref x3), (.ref x1), (.ref x1)])) (fun _ k => XS.dup W16.here hx rfl (hb hby d37_318) rfl rfl (XS.iconst W16.here hx rfl (hb hby d37_319) (XS.aloadN W16.here hx rfl (hb hby d37_320) rfl rfl (XS.iconst W16.here hx rfl (hb hby d37_321) k)))) ?_
  have X18 : Ext h0 h16 := own_xw X14 R16 (by omega)
  have f19 : Arv Z h16 b kb .char (12 : Int32) [(.int c1), (.int c2), (.int c3), (.int c4), (.int c5), (.int c6), (.int c7), (.int c8)] vZ := Vb.ext X18
  refine go (g' := (mkF m 323 #[vR b, vI (8 : Int32)] [(.int c4), (.int (3 : Int32)), (.ref x3), (.ref x3), (.ref x1), (.ref x1)])) (own_cal W16 hx f19 (j := (3 : Int32)) ⟨by decide, by decide⟩ rfl (g := (mkF m 322 #[vR b, vI (8 : Int32)] [(.int (3 : Int32)), (.ref b), (.int (3 : Int32)), (.ref x3), (.ref x3), (.ref x1), (.ref x1)])) rfl rfl (hb hby d37_322)) ?_
  obtain ⟨T20, h20, W20, R20, V20, st20⟩ := own_stC W16 hx U16 (by omega) (j := (3 : Int32)) (i := 3) ⟨by decide, by decide⟩ rfl (nle rfl) (own_up (hr _ (List.mem_of_getElem? (i := 3) rfl))) (g := (mkF m 323 #[vR b, vI (8 : Int32)] [(.int c4), (.int (3 : Int32)), (.ref x3), (.ref x3), (.ref x1), (.ref x1)])) rfl rfl (hb hby d37_323)
  have z21 : h20.size = h16.size := R20.size
  have U20 : Arv Z h20 x3 k3 .char (8 : Int32) [(.int c1), (.int c2), (.int c3), (.int c4), vZ, vZ, vZ, vZ] vZ := V20
  refine go (g' := (mkF m 324 #[vR b, vI (8 : Int32)] [(.ref x3), (.ref x1), (.ref x1)])) (st20) ?_
  refine go (g' := (mkF m 328 #[vR b, vI (8 : Int32)] [(.int (4 : Int32)), (.ref b), (.int (4 : Int32)), (.ref x3), (.ref x3), (.ref x1), (.ref x1)])) (fun _ k => XS.dup W20.here hx rfl (hb hby d37_324) rfl rfl (XS.iconst W20.here hx rfl (hb hby d37_325) (XS.aloadN W20.here hx rfl (hb hby d37_326) rfl rfl (XS.iconst W20.here hx rfl (hb hby d37_327) k)))) ?_
  have X22 : Ext h0 h20 := own_xw X18 R20 (by omega)
  have f23 : Arv Z h20 b kb .char (12 : Int32) [(.int c1), (.int c2), (.int c3), (.int c4), (.int c5), (.int c6), (.int c7), (.int c8)] vZ := Vb.ext X22
  refine go (g' := (mkF m 329 #[vR b, vI (8 : Int32)] [(.int c5), (.int (4 : Int32)), (.ref x3), (.ref x3), (.ref x1), (.ref x1)])) (own_cal W20 hx f23 (j := (4 : Int32)) ⟨by decide, by decide⟩ rfl (g := (mkF m 328 #[vR b, vI (8 : Int32)] [(.int (4 : Int32)), (.ref b), (.int (4 : Int32)), (.ref x3), (.ref x3), (.ref x1), (.ref x1)])) rfl rfl (hb hby d37_328)) ?_
  obtain ⟨T24, h24, W24, R24, V24, st24⟩ := own_stC W20 hx U20 (by omega) (j := (4 : Int32)) (i := 4) ⟨by decide, by decide⟩ rfl (nle rfl) (own_up (hr _ (List.mem_of_getElem? (i := 4) rfl))) (g := (mkF m 329 #[vR b, vI (8 : Int32)] [(.int c5), (.int (4 : Int32)), (.ref x3), (.ref x3), (.ref x1), (.ref x1)])) rfl rfl (hb hby d37_329)
  have z25 : h24.size = h20.size := R24.size
  have U24 : Arv Z h24 x3 k3 .char (8 : Int32) [(.int c1), (.int c2), (.int c3), (.int c4), (.int c5), vZ, vZ, vZ] vZ := V24
  refine go (g' := (mkF m 330 #[vR b, vI (8 : Int32)] [(.ref x3), (.ref x1), (.ref x1)])) (st24) ?_
  refine go (g' := (mkF m 334 #[vR b, vI (8 : Int32)] [(.int (5 : Int32)), (.ref b), (.int (5 : Int32)), (.ref x3), (.ref x3), (.ref x1), (.ref x1)])) (fun _ k => XS.dup W24.here hx rfl (hb hby d37_330) rfl rfl (XS.iconst W24.here hx rfl (hb hby d37_331) (XS.aloadN W24.here hx rfl (hb hby d37_332) rfl rfl (XS.iconst W24.here hx rfl (hb hby d37_333) k)))) ?_
  have X26 : Ext h0 h24 := own_xw X22 R24 (by omega)
  have f27 : Arv Z h24 b kb .char (12 : Int32) [(.int c1), (.int c2), (.int c3), (.int c4), (.int c5), (.int c6), (.int c7), (.int c8)] vZ := Vb.ext X26
  refine go (g' := (mkF m 335 #[vR b, vI (8 : Int32)] [(.int c6), (.int (5 : Int32)), (.ref x3), (.ref x3), (.ref x1), (.ref x1)])) (own_cal W24 hx f27 (j := (5 : Int32)) ⟨by decide, by decide⟩ rfl (g := (mkF m 334 #[vR b, vI (8 : Int32)] [(.int (5 : Int32)), (.ref b), (.int (5 : Int32)), (.ref x3), (.ref x3), (.ref x1), (.ref x1)])) rfl rfl (hb hby d37_334)) ?_
  obtain ⟨T28, h28, W28, R28, V28, st28⟩ := own_stC W24 hx U24 (by omega) (j := (5 : Int32)) (i := 5) ⟨by decide, by decide⟩ rfl (nle rfl) (own_up (hr _ (List.mem_of_getElem? (i := 5) rfl))) (g := (mkF m 335 #[vR b, vI (8 : Int32)] [(.int c6), (.int (5 : Int32)), (.ref x3), (.ref x3), (.ref x1), (.ref x1)])) rfl rfl (hb hby d37_335)
  have z29 : h28.size = h24.size := R28.size
  have U28 : Arv Z h28 x3 k3 .char (8 : Int32) [(.int c1), (.int c2), (.int c3), (.int c4), (.int c5), (.int c6), vZ, vZ] vZ := V28
  refine go (g' := (mkF m 336 #[vR b, vI (8 : Int32)] [(.ref x3), (.ref x1), (.ref x1)])) (st28) ?_
  refine go (g' := (mkF m 342 #[vR b, vI (8 : Int32)] [(.int (6 : Int32)), (.ref b), (.int (6 : Int32)), (.ref x3), (.ref x3), (.ref x1), (.ref x1)])) (fun _ k => XS.dup W28.here hx rfl (hb hby d37_336) rfl rfl (XS.bipush W28.here hx rfl (hb hby d37_337) (XS.aloadN W28.here hx rfl (hb hby d37_339) rfl rfl (XS.bipush W28.here hx rfl (hb hby d37_340) k)))) ?_
  have X30 : Ext h0 h28 := own_xw X26 R28 (by omega)
  have f31 : Arv Z h28 b kb .char (12 : Int32) [(.int c1), (.int c2), (.int c3), (.int c4), (.int c5), (.int c6), (.int c7), (.int c8)] vZ := Vb.ext X30
  refine go (g' := (mkF m 343 #[vR b, vI (8 : Int32)] [(.int c7), (.int (6 : Int32)), (.ref x3), (.ref x3), (.ref x1), (.ref x1)])) (own_cal W28 hx f31 (j := (6 : Int32)) ⟨by decide, by decide⟩ rfl (g := (mkF m 342 #[vR b, vI (8 : Int32)] [(.int (6 : Int32)), (.ref b), (.int (6 : Int32)), (.ref x3), (.ref x3), (.ref x1), (.ref x1)])) rfl rfl (hb hby d37_342)) ?_
  obtain ⟨T32, h32, W32, R32, V32, st32⟩ := own_stC W28 hx U28 (by omega) (j := (6 : Int32)) (i := 6) ⟨by decide, by decide⟩ rfl (nle rfl) (own_up (hr _ (List.mem_of_getElem? (i := 6) rfl))) (g := (mkF m 343 #[vR b, vI (8 : Int32)] [(.int c7), (.int (6 : Int32)), (.ref x3), (.ref x3), (.ref x1), (.ref x1)])) rfl rfl (hb hby d37_343)
  have z33 : h32.size = h28.size := R32.size
  have U32 : Arv Z h32 x3 k3 .char (8 : Int32) [(.int c1), (.int c2), (.int c3), (.int c4), (.int c5), (.int c6), (.int c7), vZ] vZ := V32
  refine go (g' := (mkF m 344 #[vR b, vI (8 : Int32)] [(.ref x3), (.ref x1), (.ref x1)])) (st32) ?_
  refine go (g' := (mkF m 350 #[vR b, vI (8 : Int32)] [(.int (7 : Int32)), (.ref b), (.int (7 : Int32)), (.ref x3), (.ref x3), (.ref x1), (.ref x1)])) (fun _ k => XS.dup W32.here hx rfl (hb hby d37_344) rfl rfl (XS.bipush W32.here hx rfl (hb hby d37_345) (XS.aloadN W32.here hx rfl (hb hby d37_347) rfl rfl (XS.bipush W32.here hx rfl (hb hby d37_348) k)))) ?_
  have X34 : Ext h0 h32 := own_xw X30 R32 (by omega)
  have f35 : Arv Z h32 b kb .char (12 : Int32) [(.int c1), (.int c2), (.int c3), (.int c4), (.int c5), (.int c6), (.int c7), (.int c8)] vZ := Vb.ext X34
  refine go (g' := (mkF m 351 #[vR b, vI (8 : Int32)] [(.int c8), (.int (7 : Int32)), (.ref x3), (.ref x3), (.ref x1), (.ref x1)])) (own_cal W32 hx f35 (j := (7 : Int32)) ⟨by decide, by decide⟩ rfl (g := (mkF m 350 #[vR b, vI (8 : Int32)] [(.int (7 : Int32)), (.ref b), (.int (7 : Int32)), (.ref x3), (.ref x3), (.ref x1), (.ref x1)])) rfl rfl (hb hby d37_350)) ?_
  obtain ⟨T36, h36, W36, R36, V36, st36⟩ := own_stC W32 hx U32 (by omega) (j := (7 : Int32)) (i := 7) ⟨by decide, by decide⟩ rfl (nle rfl) (own_up (hr _ (List.mem_of_getElem? (i := 7) rfl))) (g := (mkF m 351 #[vR b, vI (8 : Int32)] [(.int c8), (.int (7 : Int32)), (.ref x3), (.ref x3), (.ref x1), (.ref x1)])) rfl rfl (hb hby d37_351)
  have z37 : h36.size = h32.size := R36.size
  have U36 : Arv Z h36 x3 k3 .char (8 : Int32) [(.int c1), (.int c2), (.int c3), (.int c4), (.int c5), (.int c6), (.int c7), (.int c8)] vZ := V36
  refine go (g' := (mkF m 352 #[vR b, vI (8 : Int32)] [(.ref x3), (.ref x1), (.ref x1)])) (st36) ?_
  have X39 : Ext h0 h36 := own_xw X34 R36 (by omega)
  have X40 : Ext h1 h3 := own_xt (own_xr h1) E3
  have X41 : Ext h1 h8 := own_xw X40 R8 (by omega)
  have X42 : Ext h1 h12 := own_xw X41 R12 (by omega)
  have X43 : Ext h1 h16 := own_xw X42 R16 (by omega)
  have X44 : Ext h1 h20 := own_xw X43 R20 (by omega)
  have X45 : Ext h1 h24 := own_xw X44 R24 (by omega)
  have X46 : Ext h1 h28 := own_xw X45 R28 (by omega)
  have X47 : Ext h1 h32 := own_xw X46 R32 (by omega)
  have X48 : Ext h1 h36 := own_xw X47 R36 (by omega)
  have f49 : Exa Z h36 x1 "java/lang/String" := A1.ext X48
  have f50 : Fld Z h36 x1 "java/lang/String" "value" "[B" .null := F1_value.ext X48
  have f51 : Fld Z h36 x1 "java/lang/String" "coder" "B" vZ := F1_coder.ext X48
  obtain ⟨T38, h38, W38, K38, S38, st38⟩ := own_strNew W36 hx (own_ws C) (w15 C) (w16 C) (w17 C) (w13 C) f49 f50 f51 (cs := [c1, c2, c3, c4, c5, c6, c7, c8]) U36 rfl C.cs (nle rfl) (nle rfl) (own_alS (hr _ (List.mem_of_getElem? (i := 0) rfl)) (own_alS (hr _ (List.mem_of_getElem? (i := 1) rfl)) (own_alS (hr _ (List.mem_of_getElem? (i := 2) rfl)) (own_alS (hr _ (List.mem_of_getElem? (i := 3) rfl)) (own_alS (hr _ (List.mem_of_getElem? (i := 4) rfl)) (own_alS (hr _ (List.mem_of_getElem? (i := 5) rfl)) (own_alS (hr _ (List.mem_of_getElem? (i := 6) rfl)) (own_alS (hr _ (List.mem_of_getElem? (i := 7) rfl)) own_al0)))))))) (own_safeB W0 X39 (by omega)) (by omega) (Wd := 1) (nle rfl) (nle rfl) (nle rfl) (nle rfl) (g := (mkF m 352 #[vR b, vI (8 : Int32)] [(.ref x3), (.ref x1), (.ref x1)])) rfl (by rw [hml]; rfl) rfl (nle rfl) (hb hby d37_352)
  have z52 : h36.size ≤ h38.size := K38.1
  refine go (g' := (mkF m 355 #[vR b, vI (8 : Int32)] [(.ref x1)])) (st38) ?_
  have X53 : Ext h0 h38 := own_xk X39 K38 (allS (by omega) all0)
  exact fin (v := some (.ref x1)) (so := []) W38 (nle rfl) (nle rfl) (⟨_, rfl, X53, S38⟩) (fun _ q => nomatch q) (fun q => nomatch q) (own_retA W38 hx hret rfl rfl rfl (hb hby d37_355))
set_option maxRecDepth 65536 in
set_option maxHeartbeats 40000000 in
theorem rm_take9 {l : Launch} {Z : State} {a0 : Array Value} (C : Cx Z a0) (h0 : Heap) (b : Addr) (kb : ClassId) (c1 c2 c3 c4 c5 c6 c7 c8 c9 : Int32) (hr : ∀ c ∈ [c1, c2, c3, c4, c5, c6, c7, c8, c9], ¬ c < 0 ∧ ¬ (255 : Int32) < c) (Vb : Arv Z h0 b kb .char (12 : Int32) [(.int c1), (.int c2), (.int c3), (.int c4), (.int c5), (.int c6), (.int c7), (.int c8), (.int c9)] vZ) :
    Ct l Z a0 own_EL (⟨"com/example/inchworm/inchworm/core/IdempotencyKeyParseHeaderPinLaw", "take", "([CI)Ljava/lang/String;"⟩ : MethodName) method_6_code 2 (Option.some (Jvm.ClassFile.FieldType.object "java/lang/String")) [] ({ frames := 5, cells := 3, slots := 30, locals := 76 } : Room) #[(.ref b), (.int (9 : Int32))] h0 [] (fun v h so => ∃ x : Addr, v = some (.ref x) ∧ Ext h0 h ∧ Str Z h x [c1, c2, c3, c4, c5, c6, c7, c8, c9]) := by
  refine own_enter (plainFor_of_name pn_8) C.ew (F0 := fun m => mkF m 0 #[vR b, vI (9 : Int32)] []) (fun m => by first | (simp [entryFrame, mkF, argsToLocals, Value.category]; done) | rfl) ?_
  intro p e s m below meth c s₁ G hx hby hml hret hnm W0 S0 go fin
  have z0 : Z.heap.size ≤ h0.size := W0.sz
  show G s₁ (mkF m 0 #[vR b, vI (9 : Int32)] [])
  have lb : ltN b h0.size := Vb.lt
  refine go (g' := (mkF m 52 #[vR b, vI (9 : Int32)] [(.int (3 : Int32)), (.int (9 : Int32))])) (fun _ k => XS.iloadN W0.here hx rfl (hb hby d37_0) rfl (XS.iconst W0.here hx rfl (hb hby d37_1) (XS.icmpYes W0.here hx rfl (pc0 := 2) (pc' := 22) rfl (hb hby d37_2) rfl (feq ((by decide) : ¬ ((9 : Int32) = (1 : Int32)))).2 (by decide) (by decide) (XS.iloadN W0.here hx rfl (hb hby d37_22) rfl (XS.iconst W0.here hx rfl (hb hby d37_23) (XS.icmpYes W0.here hx rfl (pc0 := 24) (pc' := 50) rfl (hb hby d37_24) rfl (feq ((by decide) : ¬ ((9 : Int32) = (2 : Int32)))).2 (by decide) (by decide) (XS.iloadN W0.here hx rfl (hb hby d37_50) rfl (XS.iconst W0.here hx rfl (hb hby d37_51) k)))))))) ?_
  refine go (g' := (mkF m 171 #[vR b, vI (9 : Int32)] [(.int (9 : Int32))])) (fun _ k => XS.icmpYes W0.here hx rfl (pc0 := 52) (pc' := 84) rfl (hb hby d37_52) rfl (feq ((by decide) : ¬ ((9 : Int32) = (3 : Int32)))).2 (by decide) (by decide) (XS.iloadN W0.here hx rfl (hb hby d37_84) rfl (XS.iconst W0.here hx rfl (hb hby d37_85) (XS.icmpYes W0.here hx rfl (pc0 := 86) (pc' := 124) rfl (hb hby d37_86) rfl (feq ((by decide) : ¬ ((9 : Int32) = (4 : Int32)))).2 (by decide) (by decide) (XS.iloadN W0.here hx rfl (hb hby d37_124) rfl (XS.iconst W0.here hx rfl (hb hby d37_125) (XS.icmpYes W0.here hx rfl (pc0 := 126) (pc' := 170) rfl (hb hby d37_126) rfl (feq ((by decide) : ¬ ((9 : Int32) = (5 : Int32)))).2 (by decide) (by decide) (XS.iloadN W0.here hx rfl (hb hby d37_170) rfl k)))))))) ?_
  refine go (g' := (mkF m 356 #[vR b, vI (9 : Int32)] [])) (fun _ k => XS.bipush W0.here hx rfl (hb hby d37_171) (XS.icmpYes W0.here hx rfl (pc0 := 173) (pc' := 224) rfl (hb hby d37_173) rfl (feq ((by decide) : ¬ ((9 : Int32) = (6 : Int32)))).2 (by decide) (by decide) (XS.iloadN W0.here hx rfl (hb hby d37_224) rfl (XS.bipush W0.here hx rfl (hb hby d37_225) (XS.icmpYes W0.here hx rfl (pc0 := 227) (pc' := 286) rfl (hb hby d37_227) rfl (feq ((by decide) : ¬ ((9 : Int32) = (7 : Int32)))).2 (by decide) (by decide) (XS.iloadN W0.here hx rfl (hb hby d37_286) rfl (XS.bipush W0.here hx rfl (hb hby d37_287) (XS.icmpYes W0.here hx rfl (pc0 := 289) (pc' := 356) rfl (hb hby d37_289) rfl (feq ((by decide) : ¬ ((9 : Int32) = (8 : Int32)))).2 (by decide) (by decide) k)))))))) ?_
  refine go (g' := (mkF m 362 #[vR b, vI (9 : Int32)] [])) (fun _ k => XS.iloadN W0.here hx rfl (hb hby d37_356) rfl (XS.bipush W0.here hx rfl (hb hby d37_357) (XS.icmpNo W0.here hx rfl (hb hby d37_359) rfl (teq ((by decide) : (9 : Int32) = (9 : Int32))).2 k))) ?_
  obtain ⟨x1, T1, h1, g1, W1, E1, A1, D1, U1, st1⟩ := own_new W0 hx (w12 C) (w13 C) (w14 C) (g := (mkF m 362 #[vR b, vI (9 : Int32)] [])) rfl (hb hby d37_362) (nle rfl) (nle rfl)
  have z2 : h0.size ≤ h1.size := E1.1
  have l1 : ltN x1 h1.size := A1.lt
  have F1_coder : Fld Z h1 x1 "java/lang/String" "coder" "B" vZ := D1 (Or.inr (w38 C)) (ty := .byte) (by decide)
  have F1_value : Fld Z h1 x1 "java/lang/String" "value" "[B" .null := D1 (Or.inr (w40 C)) (ty := (.array .byte)) (by decide)
  refine go (g' := (mkF m 365 #[vR b, vI (9 : Int32)] [(.ref x1)])) (st1) ?_
  refine go (g' := (mkF m 368 #[vR b, vI (9 : Int32)] [(.int (9 : Int32)), (.ref x1), (.ref x1)])) (fun _ k => XS.dup W1.here hx rfl (hb hby d37_365) rfl rfl (XS.bipush W1.here hx rfl (hb hby d37_366) k)) ?_
  obtain ⟨x3, T3, h3, k3, g3, W3, E3, A3, st3⟩ := own_newP W1 hx (aty := .char) (w5 C) (g := (mkF m 368 #[vR b, vI (9 : Int32)] [(.int (9 : Int32)), (.ref x1), (.ref x1)])) rfl (hb hby d37_368) rfl (by decide) (cap := 9) (by decide) (nle rfl) (nle rfl) (nle rfl)
  have z4 : h1.size ≤ h3.size := E3.1
  have l3 : ltN x3 h3.size := A3.lt
  have V3 : Arv Z h3 x3 k3 .char (9 : Int32) [vZ, vZ, vZ, vZ, vZ, vZ, vZ, vZ, vZ] vZ := A3.pad (pad_rep [] vZ 9)
  refine go (g' := (mkF m 370 #[vR b, vI (9 : Int32)] [(.ref x3), (.ref x1), (.ref x1)])) (st3) ?_
  refine go (g' := (mkF m 374 #[vR b, vI (9 : Int32)] [vZ, (.ref b), vZ, (.ref x3), (.ref x3), (.ref x1), (.ref x1)])) (fun _ k => XS.dup W3.here hx rfl (hb hby d37_370) rfl rfl (XS.iconst W3.here hx rfl (hb hby d37_371) (XS.aloadN W3.here hx rfl (hb hby d37_372) rfl rfl (XS.iconst W3.here hx rfl (hb hby d37_373) k)))) ?_
  have X5 : Ext h0 h1 := own_xt (own_xr h0) E1
  have X6 : Ext h0 h3 := own_xt X5 E3
  have f7 : Arv Z h3 b kb .char (12 : Int32) [(.int c1), (.int c2), (.int c3), (.int c4), (.int c5), (.int c6), (.int c7), (.int c8), (.int c9)] vZ := Vb.ext X6
  refine go (g' := (mkF m 375 #[vR b, vI (9 : Int32)] [(.int c1), vZ, (.ref x3), (.ref x3), (.ref x1), (.ref x1)])) (own_cal W3 hx f7 (j := (0 : Int32)) ⟨by decide, by decide⟩ rfl (g := (mkF m 374 #[vR b, vI (9 : Int32)] [vZ, (.ref b), vZ, (.ref x3), (.ref x3), (.ref x1), (.ref x1)])) rfl rfl (hb hby d37_374)) ?_
  obtain ⟨T8, h8, W8, R8, V8, st8⟩ := own_stC W3 hx V3 (by omega) (j := (0 : Int32)) (i := 0) ⟨by decide, by decide⟩ rfl (nle rfl) (own_up (hr _ (List.mem_of_getElem? (i := 0) rfl))) (g := (mkF m 375 #[vR b, vI (9 : Int32)] [(.int c1), vZ, (.ref x3), (.ref x3), (.ref x1), (.ref x1)])) rfl rfl (hb hby d37_375)
  have z9 : h8.size = h3.size := R8.size
  have U8 : Arv Z h8 x3 k3 .char (9 : Int32) [(.int c1), vZ, vZ, vZ, vZ, vZ, vZ, vZ, vZ] vZ := V8
  refine go (g' := (mkF m 376 #[vR b, vI (9 : Int32)] [(.ref x3), (.ref x1), (.ref x1)])) (st8) ?_
  refine go (g' := (mkF m 380 #[vR b, vI (9 : Int32)] [(.int (1 : Int32)), (.ref b), (.int (1 : Int32)), (.ref x3), (.ref x3), (.ref x1), (.ref x1)])) (fun _ k => XS.dup W8.here hx rfl (hb hby d37_376) rfl rfl (XS.iconst W8.here hx rfl (hb hby d37_377) (XS.aloadN W8.here hx rfl (hb hby d37_378) rfl rfl (XS.iconst W8.here hx rfl (hb hby d37_379) k)))) ?_
  have X10 : Ext h0 h8 := own_xw X6 R8 (by omega)
  have f11 : Arv Z h8 b kb .char (12 : Int32) [(.int c1), (.int c2), (.int c3), (.int c4), (.int c5), (.int c6), (.int c7), (.int c8), (.int c9)] vZ := Vb.ext X10
  refine go (g' := (mkF m 381 #[vR b, vI (9 : Int32)] [(.int c2), (.int (1 : Int32)), (.ref x3), (.ref x3), (.ref x1), (.ref x1)])) (own_cal W8 hx f11 (j := (1 : Int32)) ⟨by decide, by decide⟩ rfl (g := (mkF m 380 #[vR b, vI (9 : Int32)] [(.int (1 : Int32)), (.ref b), (.int (1 : Int32)), (.ref x3), (.ref x3), (.ref x1), (.ref x1)])) rfl rfl (hb hby d37_380)) ?_
  obtain ⟨T12, h12, W12, R12, V12, st12⟩ := own_stC W8 hx U8 (by omega) (j := (1 : Int32)) (i := 1) ⟨by decide, by decide⟩ rfl (nle rfl) (own_up (hr _ (List.mem_of_getElem? (i := 1) rfl))) (g := (mkF m 381 #[vR b, vI (9 : Int32)] [(.int c2), (.int (1 : Int32)), (.ref x3), (.ref x3), (.ref x1), (.ref x1)])) rfl rfl (hb hby d37_381)
  have z13 : h12.size = h8.size := R12.size
  have U12 : Arv Z h12 x3 k3 .char (9 : Int32) [(.int c1), (.int c2), vZ, vZ, vZ, vZ, vZ, vZ, vZ] vZ := V12
  refine go (g' := (mkF m 382 #[vR b, vI (9 : Int32)] [(.ref x3), (.ref x1), (.ref x1)])) (st12) ?_
  refine go (g' := (mkF m 386 #[vR b, vI (9 : Int32)] [(.int (2 : Int32)), (.ref b), (.int (2 : Int32)), (.ref x3), (.ref x3), (.ref x1), (.ref x1)])) (fun _ k => XS.dup W12.here hx rfl (hb hby d37_382) rfl rfl (XS.iconst W12.here hx rfl (hb hby d37_383) (XS.aloadN W12.here hx rfl (hb hby d37_384) rfl rfl (XS.iconst W12.here hx rfl (hb hby d37_385) k)))) ?_
  have X14 : Ext h0 h12 := own_xw X10 R12 (by omega)
  have f15 : Arv Z h12 b kb .char (12 : Int32) [(.int c1), (.int c2), (.int c3), (.int c4), (.int c5), (.int c6), (.int c7), (.int c8), (.int c9)] vZ := Vb.ext X14
  refine go (g' := (mkF m 387 #[vR b, vI (9 : Int32)] [(.int c3), (.int (2 : Int32)), (.ref x3), (.ref x3), (.ref x1), (.ref x1)])) (own_cal W12 hx f15 (j := (2 : Int32)) ⟨by decide, by decide⟩ rfl (g := (mkF m 386 #[vR b, vI (9 : Int32)] [(.int (2 : Int32)), (.ref b), (.int (2 : Int32)), (.ref x3), (.ref x3), (.ref x1), (.ref x1)])) rfl rfl (hb hby d37_386)) ?_
  obtain ⟨T16, h16, W16, R16, V16, st16⟩ := own_stC W12 hx U12 (by omega) (j := (2 : Int32)) (i := 2) ⟨by decide, by decide⟩ rfl (nle rfl) (own_up (hr _ (List.mem_of_getElem? (i := 2) rfl))) (g := (mkF m 387 #[vR b, vI (9 : Int32)] [(.int c3), (.int (2 : Int32)), (.ref x3), (.ref x3), (.ref x1), (.ref x1)])) rfl rfl (hb hby d37_387)
  have z17 : h16.size = h12.size := R16.size
  have U16 : Arv Z h16 x3 k3 .char (9 : Int32) [(.int c1), (.int c2), (.int c3), vZ, vZ, vZ, vZ, vZ, vZ] vZ := V16
  refine go (g' := (mkF m 388 #[vR b, vI (9 : Int32)] [(.ref x3), (.ref x1), (.ref x1)])) (st16) ?_
  refine go (g' := (mkF m 392 #[vR b, vI (9 : Int32)] [(.int (3 : Int32)), (.ref b), (.int (3 : Int32)), (.ref x3), (.ref x3), (.ref x1), (.ref x1)])) (fun _ k => XS.dup W16.here hx rfl (hb hby d37_388) rfl rfl (XS.iconst W16.here hx rfl (hb hby d37_389) (XS.aloadN W16.here hx rfl (hb hby d37_390) rfl rfl (XS.iconst W16.here hx rfl (hb hby d37_391) k)))) ?_
  have X18 : Ext h0 h16 := own_xw X14 R16 (by omega)
  have f19 : Arv Z h16 b kb .char (12 : Int32) [(.int c1), (.int c2), (.int c3), (.int c4), (.int c5), (.int c6), (.int c7), (.int c8), (.int c9)] vZ := Vb.ext X18
  refine go (g' := (mkF m 393 #[vR b, vI (9 : Int32)] [(.int c4), (.int (3 : Int32)), (.ref x3), (.ref x3), (.ref x1), (.ref x1)])) (own_cal W16 hx f19 (j := (3 : Int32)) ⟨by decide, by decide⟩ rfl (g := (mkF m 392 #[vR b, vI (9 : Int32)] [(.int (3 : Int32)), (.ref b), (.int (3 : Int32)), (.ref x3), (.ref x3), (.ref x1), (.ref x1)])) rfl rfl (hb hby d37_392)) ?_
  obtain ⟨T20, h20, W20, R20, V20, st20⟩ := own_stC W16 hx U16 (by omega) (j := (3 : Int32)) (i := 3) ⟨by decide, by decide⟩ rfl (nle rfl) (own_up (hr _ (List.mem_of_getElem? (i := 3) rfl))) (g := (mkF m 393 #[vR b, vI (9 : Int32)] [(.int c4), (.int (3 : Int32)), (.ref x3), (.ref x3), (.ref x1), (.ref x1)])) rfl rfl (hb hby d37_393)
  have z21 : h20.size = h16.size := R20.size
  have U20 : Arv Z h20 x3 k3 .char (9 : Int32) [(.int c1), (.int c2), (.int c3), (.int c4), vZ, vZ, vZ, vZ, vZ] vZ := V20
  refine go (g' := (mkF m 394 #[vR b, vI (9 : Int32)] [(.ref x3), (.ref x1), (.ref x1)])) (st20) ?_
  refine go (g' := (mkF m 398 #[vR b, vI (9 : Int32)] [(.int (4 : Int32)), (.ref b), (.int (4 : Int32)), (.ref x3), (.ref x3), (.ref x1), (.ref x1)])) (fun _ k => XS.dup W20.here hx rfl (hb hby d37_394) rfl rfl (XS.iconst W20.here hx rfl (hb hby d37_395) (XS.aloadN W20.here hx rfl (hb hby d37_396) rfl rfl (XS.iconst W20.here hx rfl (hb hby d37_397) k)))) ?_
  have X22 : Ext h0 h20 := own_xw X18 R20 (by omega)
  have f23 : Arv Z h20 b kb .char (12 : Int32) [(.int c1), (.int c2), (.int c3), (.int c4), (.int c5), (.int c6), (.int c7), (.int c8), (.int c9)] vZ := Vb.ext X22
  refine go (g' := (mkF m 399 #[vR b, vI (9 : Int32)] [(.int c5), (.int (4 : Int32)), (.ref x3), (.ref x3), (.ref x1), (.ref x1)])) (own_cal W20 hx f23 (j := (4 : Int32)) ⟨by decide, by decide⟩ rfl (g := (mkF m 398 #[vR b, vI (9 : Int32)] [(.int (4 : Int32)), (.ref b), (.int (4 : Int32)), (.ref x3), (.ref x3), (.ref x1), (.ref x1)])) rfl rfl (hb hby d37_398)) ?_
  obtain ⟨T24, h24, W24, R24, V24, st24⟩ := own_stC W20 hx U20 (by omega) (j := (4 : Int32)) (i := 4) ⟨by decide, by decide⟩ rfl (nle rfl) (own_up (hr _ (List.mem_of_getElem? (i := 4) rfl))) (g := (mkF m 399 #[vR b, vI (9 : Int32)] [(.int c5), (.int (4 : Int32)), (.ref x3), (.ref x3), (.ref x1), (.ref x1)])) rfl rfl (hb hby d37_399)
  have z25 : h24.size = h20.size := R24.size
  have U24 : Arv Z h24 x3 k3 .char (9 : Int32) [(.int c1), (.int c2), (.int c3), (.int c4), (.int c5), vZ, vZ, vZ, vZ] vZ := V24
  refine go (g' := (mkF m 400 #[vR b, vI (9 : Int32)] [(.ref x3), (.ref x1), (.ref x1)])) (st24) ?_
  refine go (g' := (mkF m 404 #[vR b, vI (9 : Int32)] [(.int (5 : Int32)), (.ref b), (.int (5 : Int32)), (.ref x3), (.ref x3), (.ref x1), (.ref x1)])) (fun _ k => XS.dup W24.here hx rfl (hb hby d37_400) rfl rfl (XS.iconst W24.here hx rfl (hb hby d37_401) (XS.aloadN W24.here hx rfl (hb hby d37_402) rfl rfl (XS.iconst W24.here hx rfl (hb hby d37_403) k)))) ?_
  have X26 : Ext h0 h24 := own_xw X22 R24 (by omega)
  have f27 : Arv Z h24 b kb .char (12 : Int32) [(.int c1), (.int c2), (.int c3), (.int c4), (.int c5), (.int c6), (.int c7), (.int c8), (.int c9)] vZ := Vb.ext X26
  refine go (g' := (mkF m 405 #[vR b, vI (9 : Int32)] [(.int c6), (.int (5 : Int32)), (.ref x3), (.ref x3), (.ref x1), (.ref x1)])) (own_cal W24 hx f27 (j := (5 : Int32)) ⟨by decide, by decide⟩ rfl (g := (mkF m 404 #[vR b, vI (9 : Int32)] [(.int (5 : Int32)), (.ref b), (.int (5 : Int32)), (.ref x3), (.ref x3), (.ref x1), (.ref x1)])) rfl rfl (hb hby d37_404)) ?_
  obtain ⟨T28, h28, W28, R28, V28, st28⟩ := own_stC W24 hx U24 (by omega) (j := (5 : Int32)) (i := 5) ⟨by decide, by decide⟩ rfl (nle rfl) (own_up (hr _ (List.mem_of_getElem? (i := 5) rfl))) (g := (mkF m 405 #[vR b, vI (9 : Int32)] [(.int c6), (.int (5 : Int32)), (.ref x3), (.ref x3), (.ref x1), (.ref x1)])) rfl rfl (hb hby d37_405)
  have z29 : h28.size = h24.size := R28.size
  have U28 : Arv Z h28 x3 k3 .char (9 : Int32) [(.int c1), (.int c2), (.int c3), (.int c4), (.int c5), (.int c6), vZ, vZ, vZ] vZ := V28
  refine go (g' := (mkF m 406 #[vR b, vI (9 : Int32)] [(.ref x3), (.ref x1), (.ref x1)])) (st28) ?_
  refine go (g' := (mkF m 412 #[vR b, vI (9 : Int32)] [(.int (6 : Int32)), (.ref b), (.int (6 : Int32)), (.ref x3), (.ref x3), (.ref x1), (.ref x1)])) (fun _ k => XS.dup W28.here hx rfl (hb hby d37_406) rfl rfl (XS.bipush W28.here hx rfl (hb hby d37_407) (XS.aloadN W28.here hx rfl (hb hby d37_409) rfl rfl (XS.bipush W28.here hx rfl (hb hby d37_410) k)))) ?_
  have X30 : Ext h0 h28 := own_xw X26 R28 (by omega)
  have f31 : Arv Z h28 b kb .char (12 : Int32) [(.int c1), (.int c2), (.int c3), (.int c4), (.int c5), (.int c6), (.int c7), (.int c8), (.int c9)] vZ := Vb.ext X30
  refine go (g' := (mkF m 413 #[vR b, vI (9 : Int32)] [(.int c7), (.int (6 : Int32)), (.ref x3), (.ref x3), (.ref x1), (.ref x1)])) (own_cal W28 hx f31 (j := (6 : Int32)) ⟨by decide, by decide⟩ rfl (g := (mkF m 412 #[vR b, vI (9 : Int32)] [(.int (6 : Int32)), (.ref b), (.int (6 : Int32)), (.ref x3), (.ref x3), (.ref x1), (.ref x1)])) rfl rfl (hb hby d37_412)) ?_
  obtain ⟨T32, h32, W32, R32, V32, st32⟩ := own_stC W28 hx U28 (by omega) (j := (6 : Int32)) (i := 6) ⟨by decide, by decide⟩ rfl (nle rfl) (own_up (hr _ (List.mem_of_getElem? (i := 6) rfl))) (g := (mkF m 413 #[vR b, vI (9 : Int32)] [(.int c7), (.int (6 : Int32)), (.ref x3), (.ref x3), (.ref x1), (.ref x1)])) rfl rfl (hb hby d37_413)
  have z33 : h32.size = h28.size := R32.size
  have U32 : Arv Z h32 x3 k3 .char (9 : Int32) [(.int c1), (.int c2), (.int c3), (.int c4), (.int c5), (.int c6), (.int c7), vZ, vZ] vZ := V32
  refine go (g' := (mkF m 414 #[vR b, vI (9 : Int32)] [(.ref x3), (.ref x1), (.ref x1)])) (st32) ?_
  refine go (g' := (mkF m 420 #[vR b, vI (9 : Int32)] [(.int (7 : Int32)), (.ref b), (.int (7 : Int32)), (.ref x3), (.ref x3), (.ref x1), (.ref x1)])) (fun _ k => XS.dup W32.here hx rfl (hb hby d37_414) rfl rfl (XS.bipush W32.here hx rfl (hb hby d37_415) (XS.aloadN W32.here hx rfl (hb hby d37_417) rfl rfl (XS.bipush W32.here hx rfl (hb hby d37_418) k)))) ?_
  have X34 : Ext h0 h32 := own_xw X30 R32 (by omega)
  have f35 : Arv Z h32 b kb .char (12 : Int32) [(.int c1), (.int c2), (.int c3), (.int c4), (.int c5), (.int c6), (.int c7), (.int c8), (.int c9)] vZ := Vb.ext X34
  refine go (g' := (mkF m 421 #[vR b, vI (9 : Int32)] [(.int c8), (.int (7 : Int32)), (.ref x3), (.ref x3), (.ref x1), (.ref x1)])) (own_cal W32 hx f35 (j := (7 : Int32)) ⟨by decide, by decide⟩ rfl (g := (mkF m 420 #[vR b, vI (9 : Int32)] [(.int (7 : Int32)), (.ref b), (.int (7 : Int32)), (.ref x3), (.ref x3), (.ref x1), (.ref x1)])) rfl rfl (hb hby d37_420)) ?_
  obtain ⟨T36, h36, W36, R36, V36, st36⟩ := own_stC W32 hx U32 (by omega) (j := (7 : Int32)) (i := 7) ⟨by decide, by decide⟩ rfl (nle rfl) (own_up (hr _ (List.mem_of_getElem? (i := 7) rfl))) (g := (mkF m 421 #[vR b, vI (9 : Int32)] [(.int c8), (.int (7 : Int32)), (.ref x3), (.ref x3), (.ref x1), (.ref x1)])) rfl rfl (hb hby d37_421)
  have z37 : h36.size = h32.size := R36.size
  have U36 : Arv Z h36 x3 k3 .char (9 : Int32) [(.int c1), (.int c2), (.int c3), (.int c4), (.int c5), (.int c6), (.int c7), (.int c8), vZ] vZ := V36
  refine go (g' := (mkF m 422 #[vR b, vI (9 : Int32)] [(.ref x3), (.ref x1), (.ref x1)])) (st36) ?_
  refine go (g' := (mkF m 428 #[vR b, vI (9 : Int32)] [(.int (8 : Int32)), (.ref b), (.int (8 : Int32)), (.ref x3), (.ref x3), (.ref x1), (.ref x1)])) (fun _ k => XS.dup W36.here hx rfl (hb hby d37_422) rfl rfl (XS.bipush W36.here hx rfl (hb hby d37_423) (XS.aloadN W36.here hx rfl (hb hby d37_425) rfl rfl (XS.bipush W36.here hx rfl (hb hby d37_426) k)))) ?_
  have X38 : Ext h0 h36 := own_xw X34 R36 (by omega)
  have f39 : Arv Z h36 b kb .char (12 : Int32) [(.int c1), (.int c2), (.int c3), (.int c4), (.int c5), (.int c6), (.int c7), (.int c8), (.int c9)] vZ := Vb.ext X38
  refine go (g' := (mkF m 429 #[vR b, vI (9 : Int32)] [(.int c9), (.int (8 : Int32)), (.ref x3), (.ref x3), (.ref x1), (.ref x1)])) (own_cal W36 hx f39 (j := (8 : Int32)) ⟨by decide, by decide⟩ rfl (g := (mkF m 428 #[vR b, vI (9 : Int32)] [(.int (8 : Int32)), (.ref b), (.int (8 : Int32)), (.ref x3), (.ref x3), (.ref x1), (.ref x1)])) rfl rfl (hb hby d37_428)) ?_
  obtain ⟨T40, h40, W40, R40, V40, st40⟩ := own_stC W36 hx U36 (by omega) (j := (8 : Int32)) (i := 8) ⟨by decide, by decide⟩ rfl (nle rfl) (own_up (hr _ (List.mem_of_getElem? (i := 8) rfl))) (g := (mkF m 429 #[vR b, vI (9 : Int32)] [(.int c9), (.int (8 : Int32)), (.ref x3), (.ref x3), (.ref x1), (.ref x1)])) rfl rfl (hb hby d37_429)
  have z41 : h40.size = h36.size := R40.size
  have U40 : Arv Z h40 x3 k3 .char (9 : Int32) [(.int c1), (.int c2), (.int c3), (.int c4), (.int c5), (.int c6), (.int c7), (.int c8), (.int c9)] vZ := V40
  refine go (g' := (mkF m 430 #[vR b, vI (9 : Int32)] [(.ref x3), (.ref x1), (.ref x1)])) (st40) ?_
  have X43 : Ext h0 h40 := own_xw X38 R40 (by omega)
  have X44 : Ext h1 h3 := own_xt (own_xr h1) E3
  have X45 : Ext h1 h8 := own_xw X44 R8 (by omega)
  have X46 : Ext h1 h12 := own_xw X45 R12 (by omega)
  have X47 : Ext h1 h16 := own_xw X46 R16 (by omega)
  have X48 : Ext h1 h20 := own_xw X47 R20 (by omega)
  have X49 : Ext h1 h24 := own_xw X48 R24 (by omega)
  have X50 : Ext h1 h28 := own_xw X49 R28 (by omega)
  have X51 : Ext h1 h32 := own_xw X50 R32 (by omega)
  have X52 : Ext h1 h36 := own_xw X51 R36 (by omega)
  have X53 : Ext h1 h40 := own_xw X52 R40 (by omega)
  have f54 : Exa Z h40 x1 "java/lang/String" := A1.ext X53
  have f55 : Fld Z h40 x1 "java/lang/String" "value" "[B" .null := F1_value.ext X53
  have f56 : Fld Z h40 x1 "java/lang/String" "coder" "B" vZ := F1_coder.ext X53
  obtain ⟨T42, h42, W42, K42, S42, st42⟩ := own_strNew W40 hx (own_ws C) (w15 C) (w16 C) (w17 C) (w13 C) f54 f55 f56 (cs := [c1, c2, c3, c4, c5, c6, c7, c8, c9]) U40 rfl C.cs (nle rfl) (nle rfl) (own_alS (hr _ (List.mem_of_getElem? (i := 0) rfl)) (own_alS (hr _ (List.mem_of_getElem? (i := 1) rfl)) (own_alS (hr _ (List.mem_of_getElem? (i := 2) rfl)) (own_alS (hr _ (List.mem_of_getElem? (i := 3) rfl)) (own_alS (hr _ (List.mem_of_getElem? (i := 4) rfl)) (own_alS (hr _ (List.mem_of_getElem? (i := 5) rfl)) (own_alS (hr _ (List.mem_of_getElem? (i := 6) rfl)) (own_alS (hr _ (List.mem_of_getElem? (i := 7) rfl)) (own_alS (hr _ (List.mem_of_getElem? (i := 8) rfl)) own_al0))))))))) (own_safeB W0 X43 (by omega)) (by omega) (Wd := 1) (nle rfl) (nle rfl) (nle rfl) (nle rfl) (g := (mkF m 430 #[vR b, vI (9 : Int32)] [(.ref x3), (.ref x1), (.ref x1)])) rfl (by rw [hml]; rfl) rfl (nle rfl) (hb hby d37_430)
  have z57 : h40.size ≤ h42.size := K42.1
  refine go (g' := (mkF m 433 #[vR b, vI (9 : Int32)] [(.ref x1)])) (st42) ?_
  have X58 : Ext h0 h42 := own_xk X43 K42 (allS (by omega) all0)
  exact fin (v := some (.ref x1)) (so := []) W42 (nle rfl) (nle rfl) (⟨_, rfl, X58, S42⟩) (fun _ q => nomatch q) (fun q => nomatch q) (own_retA W42 hx hret rfl rfl rfl (hb hby d37_433))
set_option maxRecDepth 65536 in
set_option maxHeartbeats 40000000 in
theorem rm_take10 {l : Launch} {Z : State} {a0 : Array Value} (C : Cx Z a0) (h0 : Heap) (b : Addr) (kb : ClassId) (c1 c2 c3 c4 c5 c6 c7 c8 c9 c10 : Int32) (hr : ∀ c ∈ [c1, c2, c3, c4, c5, c6, c7, c8, c9, c10], ¬ c < 0 ∧ ¬ (255 : Int32) < c) (Vb : Arv Z h0 b kb .char (12 : Int32) [(.int c1), (.int c2), (.int c3), (.int c4), (.int c5), (.int c6), (.int c7), (.int c8), (.int c9), (.int c10)] vZ) :
    Ct l Z a0 own_EL (⟨"com/example/inchworm/inchworm/core/IdempotencyKeyParseHeaderPinLaw", "take", "([CI)Ljava/lang/String;"⟩ : MethodName) method_6_code 2 (Option.some (Jvm.ClassFile.FieldType.object "java/lang/String")) [] ({ frames := 5, cells := 3, slots := 30, locals := 76 } : Room) #[(.ref b), (.int (10 : Int32))] h0 [] (fun v h so => ∃ x : Addr, v = some (.ref x) ∧ Ext h0 h ∧ Str Z h x [c1, c2, c3, c4, c5, c6, c7, c8, c9, c10]) := by
  refine own_enter (plainFor_of_name pn_8) C.ew (F0 := fun m => mkF m 0 #[vR b, vI (10 : Int32)] []) (fun m => by first | (simp [entryFrame, mkF, argsToLocals, Value.category]; done) | rfl) ?_
  intro p e s m below meth c s₁ G hx hby hml hret hnm W0 S0 go fin
  have z0 : Z.heap.size ≤ h0.size := W0.sz
  show G s₁ (mkF m 0 #[vR b, vI (10 : Int32)] [])
  have lb : ltN b h0.size := Vb.lt
  refine go (g' := (mkF m 52 #[vR b, vI (10 : Int32)] [(.int (3 : Int32)), (.int (10 : Int32))])) (fun _ k => XS.iloadN W0.here hx rfl (hb hby d37_0) rfl (XS.iconst W0.here hx rfl (hb hby d37_1) (XS.icmpYes W0.here hx rfl (pc0 := 2) (pc' := 22) rfl (hb hby d37_2) rfl (feq ((by decide) : ¬ ((10 : Int32) = (1 : Int32)))).2 (by decide) (by decide) (XS.iloadN W0.here hx rfl (hb hby d37_22) rfl (XS.iconst W0.here hx rfl (hb hby d37_23) (XS.icmpYes W0.here hx rfl (pc0 := 24) (pc' := 50) rfl (hb hby d37_24) rfl (feq ((by decide) : ¬ ((10 : Int32) = (2 : Int32)))).2 (by decide) (by decide) (XS.iloadN W0.here hx rfl (hb hby d37_50) rfl (XS.iconst W0.here hx rfl (hb hby d37_51) k)))))))) ?_
  refine go (g' := (mkF m 171 #[vR b, vI (10 : Int32)] [(.int (10 : Int32))])) (fun _ k => XS.icmpYes W0.here hx rfl (pc0 := 52) (pc' := 84) rfl (hb hby d37_52) rfl (feq ((by decide) : ¬ ((10 : Int32) = (3 : Int32)))).2 (by decide) (by decide) (XS.iloadN W0.here hx rfl (hb hby d37_84) rfl (XS.iconst W0.here hx rfl (hb hby d37_85) (XS.icmpYes W0.here hx rfl (pc0 := 86) (pc' := 124) rfl (hb hby d37_86) rfl (feq ((by decide) : ¬ ((10 : Int32) = (4 : Int32)))).2 (by decide) (by decide) (XS.iloadN W0.here hx rfl (hb hby d37_124) rfl (XS.iconst W0.here hx rfl (hb hby d37_125) (XS.icmpYes W0.here hx rfl (pc0 := 126) (pc' := 170) rfl (hb hby d37_126) rfl (feq ((by decide) : ¬ ((10 : Int32) = (5 : Int32)))).2 (by decide) (by decide) (XS.iloadN W0.here hx rfl (hb hby d37_170) rfl k)))))))) ?_
  refine go (g' := (mkF m 356 #[vR b, vI (10 : Int32)] [])) (fun _ k => XS.bipush W0.here hx rfl (hb hby d37_171) (XS.icmpYes W0.here hx rfl (pc0 := 173) (pc' := 224) rfl (hb hby d37_173) rfl (feq ((by decide) : ¬ ((10 : Int32) = (6 : Int32)))).2 (by decide) (by decide) (XS.iloadN W0.here hx rfl (hb hby d37_224) rfl (XS.bipush W0.here hx rfl (hb hby d37_225) (XS.icmpYes W0.here hx rfl (pc0 := 227) (pc' := 286) rfl (hb hby d37_227) rfl (feq ((by decide) : ¬ ((10 : Int32) = (7 : Int32)))).2 (by decide) (by decide) (XS.iloadN W0.here hx rfl (hb hby d37_286) rfl (XS.bipush W0.here hx rfl (hb hby d37_287) (XS.icmpYes W0.here hx rfl (pc0 := 289) (pc' := 356) rfl (hb hby d37_289) rfl (feq ((by decide) : ¬ ((10 : Int32) = (8 : Int32)))).2 (by decide) (by decide) k)))))))) ?_
  refine go (g' := (mkF m 440 #[vR b, vI (10 : Int32)] [])) (fun _ k => XS.iloadN W0.here hx rfl (hb hby d37_356) rfl (XS.bipush W0.here hx rfl (hb hby d37_357) (XS.icmpYes W0.here hx rfl (pc0 := 359) (pc' := 434) rfl (hb hby d37_359) rfl (feq ((by decide) : ¬ ((10 : Int32) = (9 : Int32)))).2 (by decide) (by decide) (XS.iloadN W0.here hx rfl (hb hby d37_434) rfl (XS.bipush W0.here hx rfl (hb hby d37_435) (XS.icmpNo W0.here hx rfl (hb hby d37_437) rfl (teq ((by decide) : (10 : Int32) = (10 : Int32))).2 k)))))) ?_
  obtain ⟨x1, T1, h1, g1, W1, E1, A1, D1, U1, st1⟩ := own_new W0 hx (w12 C) (w13 C) (w14 C) (g := (mkF m 440 #[vR b, vI (10 : Int32)] [])) rfl (hb hby d37_440) (nle rfl) (nle rfl)
  have z2 : h0.size ≤ h1.size := E1.1
  have l1 : ltN x1 h1.size := A1.lt
  have F1_coder : Fld Z h1 x1 "java/lang/String" "coder" "B" vZ := D1 (Or.inr (w38 C)) (ty := .byte) (by decide)
  have F1_value : Fld Z h1 x1 "java/lang/String" "value" "[B" .null := D1 (Or.inr (w40 C)) (ty := (.array .byte)) (by decide)
  refine go (g' := (mkF m 443 #[vR b, vI (10 : Int32)] [(.ref x1)])) (st1) ?_
  refine go (g' := (mkF m 446 #[vR b, vI (10 : Int32)] [(.int (10 : Int32)), (.ref x1), (.ref x1)])) (fun _ k => XS.dup W1.here hx rfl (hb hby d37_443) rfl rfl (XS.bipush W1.here hx rfl (hb hby d37_444) k)) ?_
  obtain ⟨x3, T3, h3, k3, g3, W3, E3, A3, st3⟩ := own_newP W1 hx (aty := .char) (w5 C) (g := (mkF m 446 #[vR b, vI (10 : Int32)] [(.int (10 : Int32)), (.ref x1), (.ref x1)])) rfl (hb hby d37_446) rfl (by decide) (cap := 10) (by decide) (nle rfl) (nle rfl) (nle rfl)
  have z4 : h1.size ≤ h3.size := E3.1
  have l3 : ltN x3 h3.size := A3.lt
  have V3 : Arv Z h3 x3 k3 .char (10 : Int32) [vZ, vZ, vZ, vZ, vZ, vZ, vZ, vZ, vZ, vZ] vZ := A3.pad (pad_rep [] vZ 10)
  refine go (g' := (mkF m 448 #[vR b, vI (10 : Int32)] [(.ref x3), (.ref x1), (.ref x1)])) (st3) ?_
  refine go (g' := (mkF m 452 #[vR b, vI (10 : Int32)] [vZ, (.ref b), vZ, (.ref x3), (.ref x3), (.ref x1), (.ref x1)])) (fun _ k => XS.dup W3.here hx rfl (hb hby d37_448) rfl rfl (XS.iconst W3.here hx rfl (hb hby d37_449) (XS.aloadN W3.here hx rfl (hb hby d37_450) rfl rfl (XS.iconst W3.here hx rfl (hb hby d37_451) k)))) ?_
  have X5 : Ext h0 h1 := own_xt (own_xr h0) E1
  have X6 : Ext h0 h3 := own_xt X5 E3
  have f7 : Arv Z h3 b kb .char (12 : Int32) [(.int c1), (.int c2), (.int c3), (.int c4), (.int c5), (.int c6), (.int c7), (.int c8), (.int c9), (.int c10)] vZ := Vb.ext X6
  refine go (g' := (mkF m 453 #[vR b, vI (10 : Int32)] [(.int c1), vZ, (.ref x3), (.ref x3), (.ref x1), (.ref x1)])) (own_cal W3 hx f7 (j := (0 : Int32)) ⟨by decide, by decide⟩ rfl (g := (mkF m 452 #[vR b, vI (10 : Int32)] [vZ, (.ref b), vZ, (.ref x3), (.ref x3), (.ref x1), (.ref x1)])) rfl rfl (hb hby d37_452)) ?_
  obtain ⟨T8, h8, W8, R8, V8, st8⟩ := own_stC W3 hx V3 (by omega) (j := (0 : Int32)) (i := 0) ⟨by decide, by decide⟩ rfl (nle rfl) (own_up (hr _ (List.mem_of_getElem? (i := 0) rfl))) (g := (mkF m 453 #[vR b, vI (10 : Int32)] [(.int c1), vZ, (.ref x3), (.ref x3), (.ref x1), (.ref x1)])) rfl rfl (hb hby d37_453)
  have z9 : h8.size = h3.size := R8.size
  have U8 : Arv Z h8 x3 k3 .char (10 : Int32) [(.int c1), vZ, vZ, vZ, vZ, vZ, vZ, vZ, vZ, vZ] vZ := V8
  refine go (g' := (mkF m 454 #[vR b, vI (10 : Int32)] [(.ref x3), (.ref x1), (.ref x1)])) (st8) ?_
  refine go (g' := (mkF m 458 #[vR b, vI (10 : Int32)] [(.int (1 : Int32)), (.ref b), (.int (1 : Int32)), (.ref x3), (.ref x3), (.ref x1), (.ref x1)])) (fun _ k => XS.dup W8.here hx rfl (hb hby d37_454) rfl rfl (XS.iconst W8.here hx rfl (hb hby d37_455) (XS.aloadN W8.here hx rfl (hb hby d37_456) rfl rfl (XS.iconst W8.here hx rfl (hb hby d37_457) k)))) ?_
  have X10 : Ext h0 h8 := own_xw X6 R8 (by omega)
  have f11 : Arv Z h8 b kb .char (12 : Int32) [(.int c1), (.int c2), (.int c3), (.int c4), (.int c5), (.int c6), (.int c7), (.int c8), (.int c9), (.int c10)] vZ := Vb.ext X10
  refine go (g' := (mkF m 459 #[vR b, vI (10 : Int32)] [(.int c2), (.int (1 : Int32)), (.ref x3), (.ref x3), (.ref x1), (.ref x1)])) (own_cal W8 hx f11 (j := (1 : Int32)) ⟨by decide, by decide⟩ rfl (g := (mkF m 458 #[vR b, vI (10 : Int32)] [(.int (1 : Int32)), (.ref b), (.int (1 : Int32)), (.ref x3), (.ref x3), (.ref x1), (.ref x1)])) rfl rfl (hb hby d37_458)) ?_
  obtain ⟨T12, h12, W12, R12, V12, st12⟩ := own_stC W8 hx U8 (by omega) (j := (1 : Int32)) (i := 1) ⟨by decide, by decide⟩ rfl (nle rfl) (own_up (hr _ (List.mem_of_getElem? (i := 1) rfl))) (g := (mkF m 459 #[vR b, vI (10 : Int32)] [(.int c2), (.int (1 : Int32)), (.ref x3), (.ref x3), (.ref x1), (.ref x1)])) rfl rfl (hb hby d37_459)
  have z13 : h12.size = h8.size := R12.size
  have U12 : Arv Z h12 x3 k3 .char (10 : Int32) [(.int c1), (.int c2), vZ, vZ, vZ, vZ, vZ, vZ, vZ, vZ] vZ := V12
  refine go (g' := (mkF m 460 #[vR b, vI (10 : Int32)] [(.ref x3), (.ref x1), (.ref x1)])) (st12) ?_
  refine go (g' := (mkF m 464 #[vR b, vI (10 : Int32)] [(.int (2 : Int32)), (.ref b), (.int (2 : Int32)), (.ref x3), (.ref x3), (.ref x1), (.ref x1)])) (fun _ k => XS.dup W12.here hx rfl (hb hby d37_460) rfl rfl (XS.iconst W12.here hx rfl (hb hby d37_461) (XS.aloadN W12.here hx rfl (hb hby d37_462) rfl rfl (XS.iconst W12.here hx rfl (hb hby d37_463) k)))) ?_
  have X14 : Ext h0 h12 := own_xw X10 R12 (by omega)
  have f15 : Arv Z h12 b kb .char (12 : Int32) [(.int c1), (.int c2), (.int c3), (.int c4), (.int c5), (.int c6), (.int c7), (.int c8), (.int c9), (.int c10)] vZ := Vb.ext X14
  refine go (g' := (mkF m 465 #[vR b, vI (10 : Int32)] [(.int c3), (.int (2 : Int32)), (.ref x3), (.ref x3), (.ref x1), (.ref x1)])) (own_cal W12 hx f15 (j := (2 : Int32)) ⟨by decide, by decide⟩ rfl (g := (mkF m 464 #[vR b, vI (10 : Int32)] [(.int (2 : Int32)), (.ref b), (.int (2 : Int32)), (.ref x3), (.ref x3), (.ref x1), (.ref x1)])) rfl rfl (hb hby d37_464)) ?_
  obtain ⟨T16, h16, W16, R16, V16, st16⟩ := own_stC W12 hx U12 (by omega) (j := (2 : Int32)) (i := 2) ⟨by decide, by decide⟩ rfl (nle rfl) (own_up (hr _ (List.mem_of_getElem? (i := 2) rfl))) (g := (mkF m 465 #[vR b, vI (10 : Int32)] [(.int c3), (.int (2 : Int32)), (.ref x3), (.ref x3), (.ref x1), (.ref x1)])) rfl rfl (hb hby d37_465)
  have z17 : h16.size = h12.size := R16.size
  have U16 : Arv Z h16 x3 k3 .char (10 : Int32) [(.int c1), (.int c2), (.int c3), vZ, vZ, vZ, vZ, vZ, vZ, vZ] vZ := V16
  refine go (g' := (mkF m 466 #[vR b, vI (10 : Int32)] [(.ref x3), (.ref x1), (.ref x1)])) (st16) ?_
  refine go (g' := (mkF m 470 #[vR b, vI (10 : Int32)] [(.int (3 : Int32)), (.ref b), (.int (3 : Int32)), (.ref x3), (.ref x3), (.ref x1), (.ref x1)])) (fun _ k => XS.dup W16.here hx rfl (hb hby d37_466) rfl rfl (XS.iconst W16.here hx rfl (hb hby d37_467) (XS.aloadN W16.here hx rfl (hb hby d37_468) rfl rfl (XS.iconst W16.here hx rfl (hb hby d37_469) k)))) ?_
  have X18 : Ext h0 h16 := own_xw X14 R16 (by omega)
  have f19 : Arv Z h16 b kb .char (12 : Int32) [(.int c1), (.int c2), (.int c3), (.int c4), (.int c5), (.int c6), (.int c7), (.int c8), (.int c9), (.int c10)] vZ := Vb.ext X18
  refine go (g' := (mkF m 471 #[vR b, vI (10 : Int32)] [(.int c4), (.int (3 : Int32)), (.ref x3), (.ref x3), (.ref x1), (.ref x1)])) (own_cal W16 hx f19 (j := (3 : Int32)) ⟨by decide, by decide⟩ rfl (g := (mkF m 470 #[vR b, vI (10 : Int32)] [(.int (3 : Int32)), (.ref b), (.int (3 : Int32)), (.ref x3), (.ref x3), (.ref x1), (.ref x1)])) rfl rfl (hb hby d37_470)) ?_
  obtain ⟨T20, h20, W20, R20, V20, st20⟩ := own_stC W16 hx U16 (by omega) (j := (3 : Int32)) (i := 3) ⟨by decide, by decide⟩ rfl (nle rfl) (own_up (hr _ (List.mem_of_getElem? (i := 3) rfl))) (g := (mkF m 471 #[vR b, vI (10 : Int32)] [(.int c4), (.int (3 : Int32)), (.ref x3), (.ref x3), (.ref x1), (.ref x1)])) rfl rfl (hb hby d37_471)
  have z21 : h20.size = h16.size := R20.size
  have U20 : Arv Z h20 x3 k3 .char (10 : Int32) [(.int c1), (.int c2), (.int c3), (.int c4), vZ, vZ, vZ, vZ, vZ, vZ] vZ := V20
  refine go (g' := (mkF m 472 #[vR b, vI (10 : Int32)] [(.ref x3), (.ref x1), (.ref x1)])) (st20) ?_
  refine go (g' := (mkF m 476 #[vR b, vI (10 : Int32)] [(.int (4 : Int32)), (.ref b), (.int (4 : Int32)), (.ref x3), (.ref x3), (.ref x1), (.ref x1)])) (fun _ k => XS.dup W20.here hx rfl (hb hby d37_472) rfl rfl (XS.iconst W20.here hx rfl (hb hby d37_473) (XS.aloadN W20.here hx rfl (hb hby d37_474) rfl rfl (XS.iconst W20.here hx rfl (hb hby d37_475) k)))) ?_
  have X22 : Ext h0 h20 := own_xw X18 R20 (by omega)
  have f23 : Arv Z h20 b kb .char (12 : Int32) [(.int c1), (.int c2), (.int c3), (.int c4), (.int c5), (.int c6), (.int c7), (.int c8), (.int c9), (.int c10)] vZ := Vb.ext X22
  refine go (g' := (mkF m 477 #[vR b, vI (10 : Int32)] [(.int c5), (.int (4 : Int32)), (.ref x3), (.ref x3), (.ref x1), (.ref x1)])) (own_cal W20 hx f23 (j := (4 : Int32)) ⟨by decide, by decide⟩ rfl (g := (mkF m 476 #[vR b, vI (10 : Int32)] [(.int (4 : Int32)), (.ref b), (.int (4 : Int32)), (.ref x3), (.ref x3), (.ref x1), (.ref x1)])) rfl rfl (hb hby d37_476)) ?_
  obtain ⟨T24, h24, W24, R24, V24, st24⟩ := own_stC W20 hx U20 (by omega) (j := (4 : Int32)) (i := 4) ⟨by decide, by decide⟩ rfl (nle rfl) (own_up (hr _ (List.mem_of_getElem? (i := 4) rfl))) (g := (mkF m 477 #[vR b, vI (10 : Int32)] [(.int c5), (.int (4 : Int32)), (.ref x3), (.ref x3), (.ref x1), (.ref x1)])) rfl rfl (hb hby d37_477)
  have z25 : h24.size = h20.size := R24.size
  have U24 : Arv Z h24 x3 k3 .char (10 : Int32) [(.int c1), (.int c2), (.int c3), (.int c4), (.int c5), vZ, vZ, vZ, vZ, vZ] vZ := V24
  refine go (g' := (mkF m 478 #[vR b, vI (10 : Int32)] [(.ref x3), (.ref x1), (.ref x1)])) (st24) ?_
  refine go (g' := (mkF m 482 #[vR b, vI (10 : Int32)] [(.int (5 : Int32)), (.ref b), (.int (5 : Int32)), (.ref x3), (.ref x3), (.ref x1), (.ref x1)])) (fun _ k => XS.dup W24.here hx rfl (hb hby d37_478) rfl rfl (XS.iconst W24.here hx rfl (hb hby d37_479) (XS.aloadN W24.here hx rfl (hb hby d37_480) rfl rfl (XS.iconst W24.here hx rfl (hb hby d37_481) k)))) ?_
  have X26 : Ext h0 h24 := own_xw X22 R24 (by omega)
  have f27 : Arv Z h24 b kb .char (12 : Int32) [(.int c1), (.int c2), (.int c3), (.int c4), (.int c5), (.int c6), (.int c7), (.int c8), (.int c9), (.int c10)] vZ := Vb.ext X26
  refine go (g' := (mkF m 483 #[vR b, vI (10 : Int32)] [(.int c6), (.int (5 : Int32)), (.ref x3), (.ref x3), (.ref x1), (.ref x1)])) (own_cal W24 hx f27 (j := (5 : Int32)) ⟨by decide, by decide⟩ rfl (g := (mkF m 482 #[vR b, vI (10 : Int32)] [(.int (5 : Int32)), (.ref b), (.int (5 : Int32)), (.ref x3), (.ref x3), (.ref x1), (.ref x1)])) rfl rfl (hb hby d37_482)) ?_
  obtain ⟨T28, h28, W28, R28, V28, st28⟩ := own_stC W24 hx U24 (by omega) (j := (5 : Int32)) (i := 5) ⟨by decide, by decide⟩ rfl (nle rfl) (own_up (hr _ (List.mem_of_getElem? (i := 5) rfl))) (g := (mkF m 483 #[vR b, vI (10 : Int32)] [(.int c6), (.int (5 : Int32)), (.ref x3), (.ref x3), (.ref x1), (.ref x1)])) rfl rfl (hb hby d37_483)
  have z29 : h28.size = h24.size := R28.size
  have U28 : Arv Z h28 x3 k3 .char (10 : Int32) [(.int c1), (.int c2), (.int c3), (.int c4), (.int c5), (.int c6), vZ, vZ, vZ, vZ] vZ := V28
  refine go (g' := (mkF m 484 #[vR b, vI (10 : Int32)] [(.ref x3), (.ref x1), (.ref x1)])) (st28) ?_
  refine go (g' := (mkF m 490 #[vR b, vI (10 : Int32)] [(.int (6 : Int32)), (.ref b), (.int (6 : Int32)), (.ref x3), (.ref x3), (.ref x1), (.ref x1)])) (fun _ k => XS.dup W28.here hx rfl (hb hby d37_484) rfl rfl (XS.bipush W28.here hx rfl (hb hby d37_485) (XS.aloadN W28.here hx rfl (hb hby d37_487) rfl rfl (XS.bipush W28.here hx rfl (hb hby d37_488) k)))) ?_
  have X30 : Ext h0 h28 := own_xw X26 R28 (by omega)
  have f31 : Arv Z h28 b kb .char (12 : Int32) [(.int c1), (.int c2), (.int c3), (.int c4), (.int c5), (.int c6), (.int c7), (.int c8), (.int c9), (.int c10)] vZ := Vb.ext X30
  refine go (g' := (mkF m 491 #[vR b, vI (10 : Int32)] [(.int c7), (.int (6 : Int32)), (.ref x3), (.ref x3), (.ref x1), (.ref x1)])) (own_cal W28 hx f31 (j := (6 : Int32)) ⟨by decide, by decide⟩ rfl (g := (mkF m 490 #[vR b, vI (10 : Int32)] [(.int (6 : Int32)), (.ref b), (.int (6 : Int32)), (.ref x3), (.ref x3), (.ref x1), (.ref x1)])) rfl rfl (hb hby d37_490)) ?_
  obtain ⟨T32, h32, W32, R32, V32, st32⟩ := own_stC W28 hx U28 (by omega) (j := (6 : Int32)) (i := 6) ⟨by decide, by decide⟩ rfl (nle rfl) (own_up (hr _ (List.mem_of_getElem? (i := 6) rfl))) (g := (mkF m 491 #[vR b, vI (10 : Int32)] [(.int c7), (.int (6 : Int32)), (.ref x3), (.ref x3), (.ref x1), (.ref x1)])) rfl rfl (hb hby d37_491)
  have z33 : h32.size = h28.size := R32.size
  have U32 : Arv Z h32 x3 k3 .char (10 : Int32) [(.int c1), (.int c2), (.int c3), (.int c4), (.int c5), (.int c6), (.int c7), vZ, vZ, vZ] vZ := V32
  refine go (g' := (mkF m 492 #[vR b, vI (10 : Int32)] [(.ref x3), (.ref x1), (.ref x1)])) (st32) ?_
  refine go (g' := (mkF m 498 #[vR b, vI (10 : Int32)] [(.int (7 : Int32)), (.ref b), (.int (7 : Int32)), (.ref x3), (.ref x3), (.ref x1), (.ref x1)])) (fun _ k => XS.dup W32.here hx rfl (hb hby d37_492) rfl rfl (XS.bipush W32.here hx rfl (hb hby d37_493) (XS.aloadN W32.here hx rfl (hb hby d37_495) rfl rfl (XS.bipush W32.here hx rfl (hb hby d37_496) k)))) ?_
  have X34 : Ext h0 h32 := own_xw X30 R32 (by omega)
  have f35 : Arv Z h32 b kb .char (12 : Int32) [(.int c1), (.int c2), (.int c3), (.int c4), (.int c5), (.int c6), (.int c7), (.int c8), (.int c9), (.int c10)] vZ := Vb.ext X34
  refine go (g' := (mkF m 499 #[vR b, vI (10 : Int32)] [(.int c8), (.int (7 : Int32)), (.ref x3), (.ref x3), (.ref x1), (.ref x1)])) (own_cal W32 hx f35 (j := (7 : Int32)) ⟨by decide, by decide⟩ rfl (g := (mkF m 498 #[vR b, vI (10 : Int32)] [(.int (7 : Int32)), (.ref b), (.int (7 : Int32)), (.ref x3), (.ref x3), (.ref x1), (.ref x1)])) rfl rfl (hb hby d37_498)) ?_
  obtain ⟨T36, h36, W36, R36, V36, st36⟩ := own_stC W32 hx U32 (by omega) (j := (7 : Int32)) (i := 7) ⟨by decide, by decide⟩ rfl (nle rfl) (own_up (hr _ (List.mem_of_getElem? (i := 7) rfl))) (g := (mkF m 499 #[vR b, vI (10 : Int32)] [(.int c8), (.int (7 : Int32)), (.ref x3), (.ref x3), (.ref x1), (.ref x1)])) rfl rfl (hb hby d37_499)
  have z37 : h36.size = h32.size := R36.size
  have U36 : Arv Z h36 x3 k3 .char (10 : Int32) [(.int c1), (.int c2), (.int c3), (.int c4), (.int c5), (.int c6), (.int c7), (.int c8), vZ, vZ] vZ := V36
  refine go (g' := (mkF m 500 #[vR b, vI (10 : Int32)] [(.ref x3), (.ref x1), (.ref x1)])) (st36) ?_
  refine go (g' := (mkF m 506 #[vR b, vI (10 : Int32)] [(.int (8 : Int32)), (.ref b), (.int (8 : Int32)), (.ref x3), (.ref x3), (.ref x1), (.ref x1)])) (fun _ k => XS.dup W36.here hx rfl (hb hby d37_500) rfl rfl (XS.bipush W36.here hx rfl (hb hby d37_501) (XS.aloadN W36.here hx rfl (hb hby d37_503) rfl rfl (XS.bipush W36.here hx rfl (hb hby d37_504) k)))) ?_
  have X38 : Ext h0 h36 := own_xw X34 R36 (by omega)
  have f39 : Arv Z h36 b kb .char (12 : Int32) [(.int c1), (.int c2), (.int c3), (.int c4), (.int c5), (.int c6), (.int c7), (.int c8), (.int c9), (.int c10)] vZ := Vb.ext X38
  refine go (g' := (mkF m 507 #[vR b, vI (10 : Int32)] [(.int c9), (.int (8 : Int32)), (.ref x3), (.ref x3), (.ref x1), (.ref x1)])) (own_cal W36 hx f39 (j := (8 : Int32)) ⟨by decide, by decide⟩ rfl (g := (mkF m 506 #[vR b, vI (10 : Int32)] [(.int (8 : Int32)), (.ref b), (.int (8 : Int32)), (.ref x3), (.ref x3), (.ref x1), (.ref x1)])) rfl rfl (hb hby d37_506)) ?_
  obtain ⟨T40, h40, W40, R40, V40, st40⟩ := own_stC W36 hx U36 (by omega) (j := (8 : Int32)) (i := 8) ⟨by decide, by decide⟩ rfl (nle rfl) (own_up (hr _ (List.mem_of_getElem? (i := 8) rfl))) (g := (mkF m 507 #[vR b, vI (10 : Int32)] [(.int c9), (.int (8 : Int32)), (.ref x3), (.ref x3), (.ref x1), (.ref x1)])) rfl rfl (hb hby d37_507)
  have z41 : h40.size = h36.size := R40.size
  have U40 : Arv Z h40 x3 k3 .char (10 : Int32) [(.int c1), (.int c2), (.int c3), (.int c4), (.int c5), (.int c6), (.int c7), (.int c8), (.int c9), vZ] vZ := V40
  refine go (g' := (mkF m 508 #[vR b, vI (10 : Int32)] [(.ref x3), (.ref x1), (.ref x1)])) (st40) ?_
  refine go (g' := (mkF m 514 #[vR b, vI (10 : Int32)] [(.int (9 : Int32)), (.ref b), (.int (9 : Int32)), (.ref x3), (.ref x3), (.ref x1), (.ref x1)])) (fun _ k => XS.dup W40.here hx rfl (hb hby d37_508) rfl rfl (XS.bipush W40.here hx rfl (hb hby d37_509) (XS.aloadN W40.here hx rfl (hb hby d37_511) rfl rfl (XS.bipush W40.here hx rfl (hb hby d37_512) k)))) ?_
  have X42 : Ext h0 h40 := own_xw X38 R40 (by omega)
  have f43 : Arv Z h40 b kb .char (12 : Int32) [(.int c1), (.int c2), (.int c3), (.int c4), (.int c5), (.int c6), (.int c7), (.int c8), (.int c9), (.int c10)] vZ := Vb.ext X42
  refine go (g' := (mkF m 515 #[vR b, vI (10 : Int32)] [(.int c10), (.int (9 : Int32)), (.ref x3), (.ref x3), (.ref x1), (.ref x1)])) (own_cal W40 hx f43 (j := (9 : Int32)) ⟨by decide, by decide⟩ rfl (g := (mkF m 514 #[vR b, vI (10 : Int32)] [(.int (9 : Int32)), (.ref b), (.int (9 : Int32)), (.ref x3), (.ref x3), (.ref x1), (.ref x1)])) rfl rfl (hb hby d37_514)) ?_
  obtain ⟨T44, h44, W44, R44, V44, st44⟩ := own_stC W40 hx U40 (by omega) (j := (9 : Int32)) (i := 9) ⟨by decide, by decide⟩ rfl (nle rfl) (own_up (hr _ (List.mem_of_getElem? (i := 9) rfl))) (g := (mkF m 515 #[vR b, vI (10 : Int32)] [(.int c10), (.int (9 : Int32)), (.ref x3), (.ref x3), (.ref x1), (.ref x1)])) rfl rfl (hb hby d37_515)
  have z45 : h44.size = h40.size := R44.size
  have U44 : Arv Z h44 x3 k3 .char (10 : Int32) [(.int c1), (.int c2), (.int c3), (.int c4), (.int c5), (.int c6), (.int c7), (.int c8), (.int c9), (.int c10)] vZ := V44
  refine go (g' := (mkF m 516 #[vR b, vI (10 : Int32)] [(.ref x3), (.ref x1), (.ref x1)])) (st44) ?_
  have X47 : Ext h0 h44 := own_xw X42 R44 (by omega)
  have X48 : Ext h1 h3 := own_xt (own_xr h1) E3
  have X49 : Ext h1 h8 := own_xw X48 R8 (by omega)
  have X50 : Ext h1 h12 := own_xw X49 R12 (by omega)
  have X51 : Ext h1 h16 := own_xw X50 R16 (by omega)
  have X52 : Ext h1 h20 := own_xw X51 R20 (by omega)
  have X53 : Ext h1 h24 := own_xw X52 R24 (by omega)
  have X54 : Ext h1 h28 := own_xw X53 R28 (by omega)
  have X55 : Ext h1 h32 := own_xw X54 R32 (by omega)
  have X56 : Ext h1 h36 := own_xw X55 R36 (by omega)
  have X57 : Ext h1 h40 := own_xw X56 R40 (by omega)
  have X58 : Ext h1 h44 := own_xw X57 R44 (by omega)
  have f59 : Exa Z h44 x1 "java/lang/String" := A1.ext X58
  have f60 : Fld Z h44 x1 "java/lang/String" "value" "[B" .null := F1_value.ext X58
  have f61 : Fld Z h44 x1 "java/lang/String" "coder" "B" vZ := F1_coder.ext X58
  obtain ⟨T46, h46, W46, K46, S46, st46⟩ := own_strNew W44 hx (own_ws C) (w15 C) (w16 C) (w17 C) (w13 C) f59 f60 f61 (cs := [c1, c2, c3, c4, c5, c6, c7, c8, c9, c10]) U44 rfl C.cs (nle rfl) (nle rfl) (own_alS (hr _ (List.mem_of_getElem? (i := 0) rfl)) (own_alS (hr _ (List.mem_of_getElem? (i := 1) rfl)) (own_alS (hr _ (List.mem_of_getElem? (i := 2) rfl)) (own_alS (hr _ (List.mem_of_getElem? (i := 3) rfl)) (own_alS (hr _ (List.mem_of_getElem? (i := 4) rfl)) (own_alS (hr _ (List.mem_of_getElem? (i := 5) rfl)) (own_alS (hr _ (List.mem_of_getElem? (i := 6) rfl)) (own_alS (hr _ (List.mem_of_getElem? (i := 7) rfl)) (own_alS (hr _ (List.mem_of_getElem? (i := 8) rfl)) (own_alS (hr _ (List.mem_of_getElem? (i := 9) rfl)) own_al0)))))))))) (own_safeB W0 X47 (by omega)) (by omega) (Wd := 1) (nle rfl) (nle rfl) (nle rfl) (nle rfl) (g := (mkF m 516 #[vR b, vI (10 : Int32)] [(.ref x3), (.ref x1), (.ref x1)])) rfl (by rw [hml]; rfl) rfl (nle rfl) (hb hby d37_516)
  have z62 : h44.size ≤ h46.size := K46.1
  refine go (g' := (mkF m 519 #[vR b, vI (10 : Int32)] [(.ref x1)])) (st46) ?_
  have X63 : Ext h0 h46 := own_xk X47 K46 (allS (by omega) all0)
  exact fin (v := some (.ref x1)) (so := []) W46 (nle rfl) (nle rfl) (⟨_, rfl, X63, S46⟩) (fun _ q => nomatch q) (fun q => nomatch q) (own_retA W46 hx hret rfl rfl rfl (hb hby d37_519))
set_option maxRecDepth 65536 in
set_option maxHeartbeats 40000000 in
theorem rm_take11 {l : Launch} {Z : State} {a0 : Array Value} (C : Cx Z a0) (h0 : Heap) (b : Addr) (kb : ClassId) (c1 c2 c3 c4 c5 c6 c7 c8 c9 c10 c11 : Int32) (hr : ∀ c ∈ [c1, c2, c3, c4, c5, c6, c7, c8, c9, c10, c11], ¬ c < 0 ∧ ¬ (255 : Int32) < c) (Vb : Arv Z h0 b kb .char (12 : Int32) [(.int c1), (.int c2), (.int c3), (.int c4), (.int c5), (.int c6), (.int c7), (.int c8), (.int c9), (.int c10), (.int c11)] vZ) :
    Ct l Z a0 own_EL (⟨"com/example/inchworm/inchworm/core/IdempotencyKeyParseHeaderPinLaw", "take", "([CI)Ljava/lang/String;"⟩ : MethodName) method_6_code 2 (Option.some (Jvm.ClassFile.FieldType.object "java/lang/String")) [] ({ frames := 5, cells := 3, slots := 30, locals := 76 } : Room) #[(.ref b), (.int (11 : Int32))] h0 [] (fun v h so => ∃ x : Addr, v = some (.ref x) ∧ Ext h0 h ∧ Str Z h x [c1, c2, c3, c4, c5, c6, c7, c8, c9, c10, c11]) := by
  refine own_enter (plainFor_of_name pn_8) C.ew (F0 := fun m => mkF m 0 #[vR b, vI (11 : Int32)] []) (fun m => by first | (simp [entryFrame, mkF, argsToLocals, Value.category]; done) | rfl) ?_
  intro p e s m below meth c s₁ G hx hby hml hret hnm W0 S0 go fin
  have z0 : Z.heap.size ≤ h0.size := W0.sz
  show G s₁ (mkF m 0 #[vR b, vI (11 : Int32)] [])
  have lb : ltN b h0.size := Vb.lt
  refine go (g' := (mkF m 52 #[vR b, vI (11 : Int32)] [(.int (3 : Int32)), (.int (11 : Int32))])) (fun _ k => XS.iloadN W0.here hx rfl (hb hby d37_0) rfl (XS.iconst W0.here hx rfl (hb hby d37_1) (XS.icmpYes W0.here hx rfl (pc0 := 2) (pc' := 22) rfl (hb hby d37_2) rfl (feq ((by decide) : ¬ ((11 : Int32) = (1 : Int32)))).2 (by decide) (by decide) (XS.iloadN W0.here hx rfl (hb hby d37_22) rfl (XS.iconst W0.here hx rfl (hb hby d37_23) (XS.icmpYes W0.here hx rfl (pc0 := 24) (pc' := 50) rfl (hb hby d37_24) rfl (feq ((by decide) : ¬ ((11 : Int32) = (2 : Int32)))).2 (by decide) (by decide) (XS.iloadN W0.here hx rfl (hb hby d37_50) rfl (XS.iconst W0.here hx rfl (hb hby d37_51) k)))))))) ?_
  refine go (g' := (mkF m 171 #[vR b, vI (11 : Int32)] [(.int (11 : Int32))])) (fun _ k => XS.icmpYes W0.here hx rfl (pc0 := 52) (pc' := 84) rfl (hb hby d37_52) rfl (feq ((by decide) : ¬ ((11 : Int32) = (3 : Int32)))).2 (by decide) (by decide) (XS.iloadN W0.here hx rfl (hb hby d37_84) rfl (XS.iconst W0.here hx rfl (hb hby d37_85) (XS.icmpYes W0.here hx rfl (pc0 := 86) (pc' := 124) rfl (hb hby d37_86) rfl (feq ((by decide) : ¬ ((11 : Int32) = (4 : Int32)))).2 (by decide) (by decide) (XS.iloadN W0.here hx rfl (hb hby d37_124) rfl (XS.iconst W0.here hx rfl (hb hby d37_125) (XS.icmpYes W0.here hx rfl (pc0 := 126) (pc' := 170) rfl (hb hby d37_126) rfl (feq ((by decide) : ¬ ((11 : Int32) = (5 : Int32)))).2 (by decide) (by decide) (XS.iloadN W0.here hx rfl (hb hby d37_170) rfl k)))))))) ?_
  refine go (g' := (mkF m 356 #[vR b, vI (11 : Int32)] [])) (fun _ k => XS.bipush W0.here hx rfl (hb hby d37_171) (XS.icmpYes W0.here hx rfl (pc0 := 173) (pc' := 224) rfl (hb hby d37_173) rfl (feq ((by decide) : ¬ ((11 : Int32) = (6 : Int32)))).2 (by decide) (by decide) (XS.iloadN W0.here hx rfl (hb hby d37_224) rfl (XS.bipush W0.here hx rfl (hb hby d37_225) (XS.icmpYes W0.here hx rfl (pc0 := 227) (pc' := 286) rfl (hb hby d37_227) rfl (feq ((by decide) : ¬ ((11 : Int32) = (7 : Int32)))).2 (by decide) (by decide) (XS.iloadN W0.here hx rfl (hb hby d37_286) rfl (XS.bipush W0.here hx rfl (hb hby d37_287) (XS.icmpYes W0.here hx rfl (pc0 := 289) (pc' := 356) rfl (hb hby d37_289) rfl (feq ((by decide) : ¬ ((11 : Int32) = (8 : Int32)))).2 (by decide) (by decide) k)))))))) ?_
  refine go (g' := (mkF m 523 #[vR b, vI (11 : Int32)] [(.int (11 : Int32)), (.int (11 : Int32))])) (fun _ k => XS.iloadN W0.here hx rfl (hb hby d37_356) rfl (XS.bipush W0.here hx rfl (hb hby d37_357) (XS.icmpYes W0.here hx rfl (pc0 := 359) (pc' := 434) rfl (hb hby d37_359) rfl (feq ((by decide) : ¬ ((11 : Int32) = (9 : Int32)))).2 (by decide) (by decide) (XS.iloadN W0.here hx rfl (hb hby d37_434) rfl (XS.bipush W0.here hx rfl (hb hby d37_435) (XS.icmpYes W0.here hx rfl (pc0 := 437) (pc' := 520) rfl (hb hby d37_437) rfl (feq ((by decide) : ¬ ((11 : Int32) = (10 : Int32)))).2 (by decide) (by decide) (XS.iloadN W0.here hx rfl (hb hby d37_520) rfl (XS.bipush W0.here hx rfl (hb hby d37_521) k)))))))) ?_
  refine go (g' := (mkF m 526 #[vR b, vI (11 : Int32)] [])) (fun _ k => XS.icmpNo W0.here hx rfl (hb hby d37_523) rfl (teq ((by decide) : (11 : Int32) = (11 : Int32))).2 k) ?_
  obtain ⟨x1, T1, h1, g1, W1, E1, A1, D1, U1, st1⟩ := own_new W0 hx (w12 C) (w13 C) (w14 C) (g := (mkF m 526 #[vR b, vI (11 : Int32)] [])) rfl (hb hby d37_526) (nle rfl) (nle rfl)
  have z2 : h0.size ≤ h1.size := E1.1
  have l1 : ltN x1 h1.size := A1.lt
  have F1_coder : Fld Z h1 x1 "java/lang/String" "coder" "B" vZ := D1 (Or.inr (w38 C)) (ty := .byte) (by decide)
  have F1_value : Fld Z h1 x1 "java/lang/String" "value" "[B" .null := D1 (Or.inr (w40 C)) (ty := (.array .byte)) (by decide)
  refine go (g' := (mkF m 529 #[vR b, vI (11 : Int32)] [(.ref x1)])) (st1) ?_
  refine go (g' := (mkF m 532 #[vR b, vI (11 : Int32)] [(.int (11 : Int32)), (.ref x1), (.ref x1)])) (fun _ k => XS.dup W1.here hx rfl (hb hby d37_529) rfl rfl (XS.bipush W1.here hx rfl (hb hby d37_530) k)) ?_
  obtain ⟨x3, T3, h3, k3, g3, W3, E3, A3, st3⟩ := own_newP W1 hx (aty := .char) (w5 C) (g := (mkF m 532 #[vR b, vI (11 : Int32)] [(.int (11 : Int32)), (.ref x1), (.ref x1)])) rfl (hb hby d37_532) rfl (by decide) (cap := 11) (by decide) (nle rfl) (nle rfl) (nle rfl)
  have z4 : h1.size ≤ h3.size := E3.1
  have l3 : ltN x3 h3.size := A3.lt
  have V3 : Arv Z h3 x3 k3 .char (11 : Int32) [vZ, vZ, vZ, vZ, vZ, vZ, vZ, vZ, vZ, vZ, vZ] vZ := A3.pad (pad_rep [] vZ 11)
  refine go (g' := (mkF m 534 #[vR b, vI (11 : Int32)] [(.ref x3), (.ref x1), (.ref x1)])) (st3) ?_
  refine go (g' := (mkF m 538 #[vR b, vI (11 : Int32)] [vZ, (.ref b), vZ, (.ref x3), (.ref x3), (.ref x1), (.ref x1)])) (fun _ k => XS.dup W3.here hx rfl (hb hby d37_534) rfl rfl (XS.iconst W3.here hx rfl (hb hby d37_535) (XS.aloadN W3.here hx rfl (hb hby d37_536) rfl rfl (XS.iconst W3.here hx rfl (hb hby d37_537) k)))) ?_
  have X5 : Ext h0 h1 := own_xt (own_xr h0) E1
  have X6 : Ext h0 h3 := own_xt X5 E3
  have f7 : Arv Z h3 b kb .char (12 : Int32) [(.int c1), (.int c2), (.int c3), (.int c4), (.int c5), (.int c6), (.int c7), (.int c8), (.int c9), (.int c10), (.int c11)] vZ := Vb.ext X6
  refine go (g' := (mkF m 539 #[vR b, vI (11 : Int32)] [(.int c1), vZ, (.ref x3), (.ref x3), (.ref x1), (.ref x1)])) (own_cal W3 hx f7 (j := (0 : Int32)) ⟨by decide, by decide⟩ rfl (g := (mkF m 538 #[vR b, vI (11 : Int32)] [vZ, (.ref b), vZ, (.ref x3), (.ref x3), (.ref x1), (.ref x1)])) rfl rfl (hb hby d37_538)) ?_
  obtain ⟨T8, h8, W8, R8, V8, st8⟩ := own_stC W3 hx V3 (by omega) (j := (0 : Int32)) (i := 0) ⟨by decide, by decide⟩ rfl (nle rfl) (own_up (hr _ (List.mem_of_getElem? (i := 0) rfl))) (g := (mkF m 539 #[vR b, vI (11 : Int32)] [(.int c1), vZ, (.ref x3), (.ref x3), (.ref x1), (.ref x1)])) rfl rfl (hb hby d37_539)
  have z9 : h8.size = h3.size := R8.size
  have U8 : Arv Z h8 x3 k3 .char (11 : Int32) [(.int c1), vZ, vZ, vZ, vZ, vZ, vZ, vZ, vZ, vZ, vZ] vZ := V8
  refine go (g' := (mkF m 540 #[vR b, vI (11 : Int32)] [(.ref x3), (.ref x1), (.ref x1)])) (st8) ?_
  refine go (g' := (mkF m 544 #[vR b, vI (11 : Int32)] [(.int (1 : Int32)), (.ref b), (.int (1 : Int32)), (.ref x3), (.ref x3), (.ref x1), (.ref x1)])) (fun _ k => XS.dup W8.here hx rfl (hb hby d37_540) rfl rfl (XS.iconst W8.here hx rfl (hb hby d37_541) (XS.aloadN W8.here hx rfl (hb hby d37_542) rfl rfl (XS.iconst W8.here hx rfl (hb hby d37_543) k)))) ?_
  have X10 : Ext h0 h8 := own_xw X6 R8 (by omega)
  have f11 : Arv Z h8 b kb .char (12 : Int32) [(.int c1), (.int c2), (.int c3), (.int c4), (.int c5), (.int c6), (.int c7), (.int c8), (.int c9), (.int c10), (.int c11)] vZ := Vb.ext X10
  refine go (g' := (mkF m 545 #[vR b, vI (11 : Int32)] [(.int c2), (.int (1 : Int32)), (.ref x3), (.ref x3), (.ref x1), (.ref x1)])) (own_cal W8 hx f11 (j := (1 : Int32)) ⟨by decide, by decide⟩ rfl (g := (mkF m 544 #[vR b, vI (11 : Int32)] [(.int (1 : Int32)), (.ref b), (.int (1 : Int32)), (.ref x3), (.ref x3), (.ref x1), (.ref x1)])) rfl rfl (hb hby d37_544)) ?_
  obtain ⟨T12, h12, W12, R12, V12, st12⟩ := own_stC W8 hx U8 (by omega) (j := (1 : Int32)) (i := 1) ⟨by decide, by decide⟩ rfl (nle rfl) (own_up (hr _ (List.mem_of_getElem? (i := 1) rfl))) (g := (mkF m 545 #[vR b, vI (11 : Int32)] [(.int c2), (.int (1 : Int32)), (.ref x3), (.ref x3), (.ref x1), (.ref x1)])) rfl rfl (hb hby d37_545)
  have z13 : h12.size = h8.size := R12.size
  have U12 : Arv Z h12 x3 k3 .char (11 : Int32) [(.int c1), (.int c2), vZ, vZ, vZ, vZ, vZ, vZ, vZ, vZ, vZ] vZ := V12
  refine go (g' := (mkF m 546 #[vR b, vI (11 : Int32)] [(.ref x3), (.ref x1), (.ref x1)])) (st12) ?_
  refine go (g' := (mkF m 550 #[vR b, vI (11 : Int32)] [(.int (2 : Int32)), (.ref b), (.int (2 : Int32)), (.ref x3), (.ref x3), (.ref x1), (.ref x1)])) (fun _ k => XS.dup W12.here hx rfl (hb hby d37_546) rfl rfl (XS.iconst W12.here hx rfl (hb hby d37_547) (XS.aloadN W12.here hx rfl (hb hby d37_548) rfl rfl (XS.iconst W12.here hx rfl (hb hby d37_549) k)))) ?_
  have X14 : Ext h0 h12 := own_xw X10 R12 (by omega)
  have f15 : Arv Z h12 b kb .char (12 : Int32) [(.int c1), (.int c2), (.int c3), (.int c4), (.int c5), (.int c6), (.int c7), (.int c8), (.int c9), (.int c10), (.int c11)] vZ := Vb.ext X14
  refine go (g' := (mkF m 551 #[vR b, vI (11 : Int32)] [(.int c3), (.int (2 : Int32)), (.ref x3), (.ref x3), (.ref x1), (.ref x1)])) (own_cal W12 hx f15 (j := (2 : Int32)) ⟨by decide, by decide⟩ rfl (g := (mkF m 550 #[vR b, vI (11 : Int32)] [(.int (2 : Int32)), (.ref b), (.int (2 : Int32)), (.ref x3), (.ref x3), (.ref x1), (.ref x1)])) rfl rfl (hb hby d37_550)) ?_
  obtain ⟨T16, h16, W16, R16, V16, st16⟩ := own_stC W12 hx U12 (by omega) (j := (2 : Int32)) (i := 2) ⟨by decide, by decide⟩ rfl (nle rfl) (own_up (hr _ (List.mem_of_getElem? (i := 2) rfl))) (g := (mkF m 551 #[vR b, vI (11 : Int32)] [(.int c3), (.int (2 : Int32)), (.ref x3), (.ref x3), (.ref x1), (.ref x1)])) rfl rfl (hb hby d37_551)
  have z17 : h16.size = h12.size := R16.size
  have U16 : Arv Z h16 x3 k3 .char (11 : Int32) [(.int c1), (.int c2), (.int c3), vZ, vZ, vZ, vZ, vZ, vZ, vZ, vZ] vZ := V16
  refine go (g' := (mkF m 552 #[vR b, vI (11 : Int32)] [(.ref x3), (.ref x1), (.ref x1)])) (st16) ?_
  refine go (g' := (mkF m 556 #[vR b, vI (11 : Int32)] [(.int (3 : Int32)), (.ref b), (.int (3 : Int32)), (.ref x3), (.ref x3), (.ref x1), (.ref x1)])) (fun _ k => XS.dup W16.here hx rfl (hb hby d37_552) rfl rfl (XS.iconst W16.here hx rfl (hb hby d37_553) (XS.aloadN W16.here hx rfl (hb hby d37_554) rfl rfl (XS.iconst W16.here hx rfl (hb hby d37_555) k)))) ?_
  have X18 : Ext h0 h16 := own_xw X14 R16 (by omega)
  have f19 : Arv Z h16 b kb .char (12 : Int32) [(.int c1), (.int c2), (.int c3), (.int c4), (.int c5), (.int c6), (.int c7), (.int c8), (.int c9), (.int c10), (.int c11)] vZ := Vb.ext X18
  refine go (g' := (mkF m 557 #[vR b, vI (11 : Int32)] [(.int c4), (.int (3 : Int32)), (.ref x3), (.ref x3), (.ref x1), (.ref x1)])) (own_cal W16 hx f19 (j := (3 : Int32)) ⟨by decide, by decide⟩ rfl (g := (mkF m 556 #[vR b, vI (11 : Int32)] [(.int (3 : Int32)), (.ref b), (.int (3 : Int32)), (.ref x3), (.ref x3), (.ref x1), (.ref x1)])) rfl rfl (hb hby d37_556)) ?_
  obtain ⟨T20, h20, W20, R20, V20, st20⟩ := own_stC W16 hx U16 (by omega) (j := (3 : Int32)) (i := 3) ⟨by decide, by decide⟩ rfl (nle rfl) (own_up (hr _ (List.mem_of_getElem? (i := 3) rfl))) (g := (mkF m 557 #[vR b, vI (11 : Int32)] [(.int c4), (.int (3 : Int32)), (.ref x3), (.ref x3), (.ref x1), (.ref x1)])) rfl rfl (hb hby d37_557)
  have z21 : h20.size = h16.size := R20.size
  have U20 : Arv Z h20 x3 k3 .char (11 : Int32) [(.int c1), (.int c2), (.int c3), (.int c4), vZ, vZ, vZ, vZ, vZ, vZ, vZ] vZ := V20
  refine go (g' := (mkF m 558 #[vR b, vI (11 : Int32)] [(.ref x3), (.ref x1), (.ref x1)])) (st20) ?_
  refine go (g' := (mkF m 562 #[vR b, vI (11 : Int32)] [(.int (4 : Int32)), (.ref b), (.int (4 : Int32)), (.ref x3), (.ref x3), (.ref x1), (.ref x1)])) (fun _ k => XS.dup W20.here hx rfl (hb hby d37_558) rfl rfl (XS.iconst W20.here hx rfl (hb hby d37_559) (XS.aloadN W20.here hx rfl (hb hby d37_560) rfl rfl (XS.iconst W20.here hx rfl (hb hby d37_561) k)))) ?_
  have X22 : Ext h0 h20 := own_xw X18 R20 (by omega)
  have f23 : Arv Z h20 b kb .char (12 : Int32) [(.int c1), (.int c2), (.int c3), (.int c4), (.int c5), (.int c6), (.int c7), (.int c8), (.int c9), (.int c10), (.int c11)] vZ := Vb.ext X22
  refine go (g' := (mkF m 563 #[vR b, vI (11 : Int32)] [(.int c5), (.int (4 : Int32)), (.ref x3), (.ref x3), (.ref x1), (.ref x1)])) (own_cal W20 hx f23 (j := (4 : Int32)) ⟨by decide, by decide⟩ rfl (g := (mkF m 562 #[vR b, vI (11 : Int32)] [(.int (4 : Int32)), (.ref b), (.int (4 : Int32)), (.ref x3), (.ref x3), (.ref x1), (.ref x1)])) rfl rfl (hb hby d37_562)) ?_
  obtain ⟨T24, h24, W24, R24, V24, st24⟩ := own_stC W20 hx U20 (by omega) (j := (4 : Int32)) (i := 4) ⟨by decide, by decide⟩ rfl (nle rfl) (own_up (hr _ (List.mem_of_getElem? (i := 4) rfl))) (g := (mkF m 563 #[vR b, vI (11 : Int32)] [(.int c5), (.int (4 : Int32)), (.ref x3), (.ref x3), (.ref x1), (.ref x1)])) rfl rfl (hb hby d37_563)
  have z25 : h24.size = h20.size := R24.size
  have U24 : Arv Z h24 x3 k3 .char (11 : Int32) [(.int c1), (.int c2), (.int c3), (.int c4), (.int c5), vZ, vZ, vZ, vZ, vZ, vZ] vZ := V24
  refine go (g' := (mkF m 564 #[vR b, vI (11 : Int32)] [(.ref x3), (.ref x1), (.ref x1)])) (st24) ?_
  refine go (g' := (mkF m 568 #[vR b, vI (11 : Int32)] [(.int (5 : Int32)), (.ref b), (.int (5 : Int32)), (.ref x3), (.ref x3), (.ref x1), (.ref x1)])) (fun _ k => XS.dup W24.here hx rfl (hb hby d37_564) rfl rfl (XS.iconst W24.here hx rfl (hb hby d37_565) (XS.aloadN W24.here hx rfl (hb hby d37_566) rfl rfl (XS.iconst W24.here hx rfl (hb hby d37_567) k)))) ?_
  have X26 : Ext h0 h24 := own_xw X22 R24 (by omega)
  have f27 : Arv Z h24 b kb .char (12 : Int32) [(.int c1), (.int c2), (.int c3), (.int c4), (.int c5), (.int c6), (.int c7), (.int c8), (.int c9), (.int c10), (.int c11)] vZ := Vb.ext X26
  refine go (g' := (mkF m 569 #[vR b, vI (11 : Int32)] [(.int c6), (.int (5 : Int32)), (.ref x3), (.ref x3), (.ref x1), (.ref x1)])) (own_cal W24 hx f27 (j := (5 : Int32)) ⟨by decide, by decide⟩ rfl (g := (mkF m 568 #[vR b, vI (11 : Int32)] [(.int (5 : Int32)), (.ref b), (.int (5 : Int32)), (.ref x3), (.ref x3), (.ref x1), (.ref x1)])) rfl rfl (hb hby d37_568)) ?_
  obtain ⟨T28, h28, W28, R28, V28, st28⟩ := own_stC W24 hx U24 (by omega) (j := (5 : Int32)) (i := 5) ⟨by decide, by decide⟩ rfl (nle rfl) (own_up (hr _ (List.mem_of_getElem? (i := 5) rfl))) (g := (mkF m 569 #[vR b, vI (11 : Int32)] [(.int c6), (.int (5 : Int32)), (.ref x3), (.ref x3), (.ref x1), (.ref x1)])) rfl rfl (hb hby d37_569)
  have z29 : h28.size = h24.size := R28.size
  have U28 : Arv Z h28 x3 k3 .char (11 : Int32) [(.int c1), (.int c2), (.int c3), (.int c4), (.int c5), (.int c6), vZ, vZ, vZ, vZ, vZ] vZ := V28
  refine go (g' := (mkF m 570 #[vR b, vI (11 : Int32)] [(.ref x3), (.ref x1), (.ref x1)])) (st28) ?_
  refine go (g' := (mkF m 576 #[vR b, vI (11 : Int32)] [(.int (6 : Int32)), (.ref b), (.int (6 : Int32)), (.ref x3), (.ref x3), (.ref x1), (.ref x1)])) (fun _ k => XS.dup W28.here hx rfl (hb hby d37_570) rfl rfl (XS.bipush W28.here hx rfl (hb hby d37_571) (XS.aloadN W28.here hx rfl (hb hby d37_573) rfl rfl (XS.bipush W28.here hx rfl (hb hby d37_574) k)))) ?_
  have X30 : Ext h0 h28 := own_xw X26 R28 (by omega)
  have f31 : Arv Z h28 b kb .char (12 : Int32) [(.int c1), (.int c2), (.int c3), (.int c4), (.int c5), (.int c6), (.int c7), (.int c8), (.int c9), (.int c10), (.int c11)] vZ := Vb.ext X30
  refine go (g' := (mkF m 577 #[vR b, vI (11 : Int32)] [(.int c7), (.int (6 : Int32)), (.ref x3), (.ref x3), (.ref x1), (.ref x1)])) (own_cal W28 hx f31 (j := (6 : Int32)) ⟨by decide, by decide⟩ rfl (g := (mkF m 576 #[vR b, vI (11 : Int32)] [(.int (6 : Int32)), (.ref b), (.int (6 : Int32)), (.ref x3), (.ref x3), (.ref x1), (.ref x1)])) rfl rfl (hb hby d37_576)) ?_
  obtain ⟨T32, h32, W32, R32, V32, st32⟩ := own_stC W28 hx U28 (by omega) (j := (6 : Int32)) (i := 6) ⟨by decide, by decide⟩ rfl (nle rfl) (own_up (hr _ (List.mem_of_getElem? (i := 6) rfl))) (g := (mkF m 577 #[vR b, vI (11 : Int32)] [(.int c7), (.int (6 : Int32)), (.ref x3), (.ref x3), (.ref x1), (.ref x1)])) rfl rfl (hb hby d37_577)
  have z33 : h32.size = h28.size := R32.size
  have U32 : Arv Z h32 x3 k3 .char (11 : Int32) [(.int c1), (.int c2), (.int c3), (.int c4), (.int c5), (.int c6), (.int c7), vZ, vZ, vZ, vZ] vZ := V32
  refine go (g' := (mkF m 578 #[vR b, vI (11 : Int32)] [(.ref x3), (.ref x1), (.ref x1)])) (st32) ?_
  refine go (g' := (mkF m 584 #[vR b, vI (11 : Int32)] [(.int (7 : Int32)), (.ref b), (.int (7 : Int32)), (.ref x3), (.ref x3), (.ref x1), (.ref x1)])) (fun _ k => XS.dup W32.here hx rfl (hb hby d37_578) rfl rfl (XS.bipush W32.here hx rfl (hb hby d37_579) (XS.aloadN W32.here hx rfl (hb hby d37_581) rfl rfl (XS.bipush W32.here hx rfl (hb hby d37_582) k)))) ?_
  have X34 : Ext h0 h32 := own_xw X30 R32 (by omega)
  have f35 : Arv Z h32 b kb .char (12 : Int32) [(.int c1), (.int c2), (.int c3), (.int c4), (.int c5), (.int c6), (.int c7), (.int c8), (.int c9), (.int c10), (.int c11)] vZ := Vb.ext X34
  refine go (g' := (mkF m 585 #[vR b, vI (11 : Int32)] [(.int c8), (.int (7 : Int32)), (.ref x3), (.ref x3), (.ref x1), (.ref x1)])) (own_cal W32 hx f35 (j := (7 : Int32)) ⟨by decide, by decide⟩ rfl (g := (mkF m 584 #[vR b, vI (11 : Int32)] [(.int (7 : Int32)), (.ref b), (.int (7 : Int32)), (.ref x3), (.ref x3), (.ref x1), (.ref x1)])) rfl rfl (hb hby d37_584)) ?_
  obtain ⟨T36, h36, W36, R36, V36, st36⟩ := own_stC W32 hx U32 (by omega) (j := (7 : Int32)) (i := 7) ⟨by decide, by decide⟩ rfl (nle rfl) (own_up (hr _ (List.mem_of_getElem? (i := 7) rfl))) (g := (mkF m 585 #[vR b, vI (11 : Int32)] [(.int c8), (.int (7 : Int32)), (.ref x3), (.ref x3), (.ref x1), (.ref x1)])) rfl rfl (hb hby d37_585)
  have z37 : h36.size = h32.size := R36.size
  have U36 : Arv Z h36 x3 k3 .char (11 : Int32) [(.int c1), (.int c2), (.int c3), (.int c4), (.int c5), (.int c6), (.int c7), (.int c8), vZ, vZ, vZ] vZ := V36
  refine go (g' := (mkF m 586 #[vR b, vI (11 : Int32)] [(.ref x3), (.ref x1), (.ref x1)])) (st36) ?_
  refine go (g' := (mkF m 592 #[vR b, vI (11 : Int32)] [(.int (8 : Int32)), (.ref b), (.int (8 : Int32)), (.ref x3), (.ref x3), (.ref x1), (.ref x1)])) (fun _ k => XS.dup W36.here hx rfl (hb hby d37_586) rfl rfl (XS.bipush W36.here hx rfl (hb hby d37_587) (XS.aloadN W36.here hx rfl (hb hby d37_589) rfl rfl (XS.bipush W36.here hx rfl (hb hby d37_590) k)))) ?_
  have X38 : Ext h0 h36 := own_xw X34 R36 (by omega)
  have f39 : Arv Z h36 b kb .char (12 : Int32) [(.int c1), (.int c2), (.int c3), (.int c4), (.int c5), (.int c6), (.int c7), (.int c8), (.int c9), (.int c10), (.int c11)] vZ := Vb.ext X38
  refine go (g' := (mkF m 593 #[vR b, vI (11 : Int32)] [(.int c9), (.int (8 : Int32)), (.ref x3), (.ref x3), (.ref x1), (.ref x1)])) (own_cal W36 hx f39 (j := (8 : Int32)) ⟨by decide, by decide⟩ rfl (g := (mkF m 592 #[vR b, vI (11 : Int32)] [(.int (8 : Int32)), (.ref b), (.int (8 : Int32)), (.ref x3), (.ref x3), (.ref x1), (.ref x1)])) rfl rfl (hb hby d37_592)) ?_
  obtain ⟨T40, h40, W40, R40, V40, st40⟩ := own_stC W36 hx U36 (by omega) (j := (8 : Int32)) (i := 8) ⟨by decide, by decide⟩ rfl (nle rfl) (own_up (hr _ (List.mem_of_getElem? (i := 8) rfl))) (g := (mkF m 593 #[vR b, vI (11 : Int32)] [(.int c9), (.int (8 : Int32)), (.ref x3), (.ref x3), (.ref x1), (.ref x1)])) rfl rfl (hb hby d37_593)
  have z41 : h40.size = h36.size := R40.size
  have U40 : Arv Z h40 x3 k3 .char (11 : Int32) [(.int c1), (.int c2), (.int c3), (.int c4), (.int c5), (.int c6), (.int c7), (.int c8), (.int c9), vZ, vZ] vZ := V40
  refine go (g' := (mkF m 594 #[vR b, vI (11 : Int32)] [(.ref x3), (.ref x1), (.ref x1)])) (st40) ?_
  refine go (g' := (mkF m 600 #[vR b, vI (11 : Int32)] [(.int (9 : Int32)), (.ref b), (.int (9 : Int32)), (.ref x3), (.ref x3), (.ref x1), (.ref x1)])) (fun _ k => XS.dup W40.here hx rfl (hb hby d37_594) rfl rfl (XS.bipush W40.here hx rfl (hb hby d37_595) (XS.aloadN W40.here hx rfl (hb hby d37_597) rfl rfl (XS.bipush W40.here hx rfl (hb hby d37_598) k)))) ?_
  have X42 : Ext h0 h40 := own_xw X38 R40 (by omega)
  have f43 : Arv Z h40 b kb .char (12 : Int32) [(.int c1), (.int c2), (.int c3), (.int c4), (.int c5), (.int c6), (.int c7), (.int c8), (.int c9), (.int c10), (.int c11)] vZ := Vb.ext X42
  refine go (g' := (mkF m 601 #[vR b, vI (11 : Int32)] [(.int c10), (.int (9 : Int32)), (.ref x3), (.ref x3), (.ref x1), (.ref x1)])) (own_cal W40 hx f43 (j := (9 : Int32)) ⟨by decide, by decide⟩ rfl (g := (mkF m 600 #[vR b, vI (11 : Int32)] [(.int (9 : Int32)), (.ref b), (.int (9 : Int32)), (.ref x3), (.ref x3), (.ref x1), (.ref x1)])) rfl rfl (hb hby d37_600)) ?_
  obtain ⟨T44, h44, W44, R44, V44, st44⟩ := own_stC W40 hx U40 (by omega) (j := (9 : Int32)) (i := 9) ⟨by decide, by decide⟩ rfl (nle rfl) (own_up (hr _ (List.mem_of_getElem? (i := 9) rfl))) (g := (mkF m 601 #[vR b, vI (11 : Int32)] [(.int c10), (.int (9 : Int32)), (.ref x3), (.ref x3), (.ref x1), (.ref x1)])) rfl rfl (hb hby d37_601)
  have z45 : h44.size = h40.size := R44.size
  have U44 : Arv Z h44 x3 k3 .char (11 : Int32) [(.int c1), (.int c2), (.int c3), (.int c4), (.int c5), (.int c6), (.int c7), (.int c8), (.int c9), (.int c10), vZ] vZ := V44
  refine go (g' := (mkF m 602 #[vR b, vI (11 : Int32)] [(.ref x3), (.ref x1), (.ref x1)])) (st44) ?_
  refine go (g' := (mkF m 608 #[vR b, vI (11 : Int32)] [(.int (10 : Int32)), (.ref b), (.int (10 : Int32)), (.ref x3), (.ref x3), (.ref x1), (.ref x1)])) (fun _ k => XS.dup W44.here hx rfl (hb hby d37_602) rfl rfl (XS.bipush W44.here hx rfl (hb hby d37_603) (XS.aloadN W44.here hx rfl (hb hby d37_605) rfl rfl (XS.bipush W44.here hx rfl (hb hby d37_606) k)))) ?_
  have X46 : Ext h0 h44 := own_xw X42 R44 (by omega)
  have f47 : Arv Z h44 b kb .char (12 : Int32) [(.int c1), (.int c2), (.int c3), (.int c4), (.int c5), (.int c6), (.int c7), (.int c8), (.int c9), (.int c10), (.int c11)] vZ := Vb.ext X46
  refine go (g' := (mkF m 609 #[vR b, vI (11 : Int32)] [(.int c11), (.int (10 : Int32)), (.ref x3), (.ref x3), (.ref x1), (.ref x1)])) (own_cal W44 hx f47 (j := (10 : Int32)) ⟨by decide, by decide⟩ rfl (g := (mkF m 608 #[vR b, vI (11 : Int32)] [(.int (10 : Int32)), (.ref b), (.int (10 : Int32)), (.ref x3), (.ref x3), (.ref x1), (.ref x1)])) rfl rfl (hb hby d37_608)) ?_
  obtain ⟨T48, h48, W48, R48, V48, st48⟩ := own_stC W44 hx U44 (by omega) (j := (10 : Int32)) (i := 10) ⟨by decide, by decide⟩ rfl (nle rfl) (own_up (hr _ (List.mem_of_getElem? (i := 10) rfl))) (g := (mkF m 609 #[vR b, vI (11 : Int32)] [(.int c11), (.int (10 : Int32)), (.ref x3), (.ref x3), (.ref x1), (.ref x1)])) rfl rfl (hb hby d37_609)
  have z49 : h48.size = h44.size := R48.size
  have U48 : Arv Z h48 x3 k3 .char (11 : Int32) [(.int c1), (.int c2), (.int c3), (.int c4), (.int c5), (.int c6), (.int c7), (.int c8), (.int c9), (.int c10), (.int c11)] vZ := V48
  refine go (g' := (mkF m 610 #[vR b, vI (11 : Int32)] [(.ref x3), (.ref x1), (.ref x1)])) (st48) ?_
  have X51 : Ext h0 h48 := own_xw X46 R48 (by omega)
  have X52 : Ext h1 h3 := own_xt (own_xr h1) E3
  have X53 : Ext h1 h8 := own_xw X52 R8 (by omega)
  have X54 : Ext h1 h12 := own_xw X53 R12 (by omega)
  have X55 : Ext h1 h16 := own_xw X54 R16 (by omega)
  have X56 : Ext h1 h20 := own_xw X55 R20 (by omega)
  have X57 : Ext h1 h24 := own_xw X56 R24 (by omega)
  have X58 : Ext h1 h28 := own_xw X57 R28 (by omega)
  have X59 : Ext h1 h32 := own_xw X58 R32 (by omega)
  have X60 : Ext h1 h36 := own_xw X59 R36 (by omega)
  have X61 : Ext h1 h40 := own_xw X60 R40 (by omega)
  have X62 : Ext h1 h44 := own_xw X61 R44 (by omega)
  have X63 : Ext h1 h48 := own_xw X62 R48 (by omega)
  have f64 : Exa Z h48 x1 "java/lang/String" := A1.ext X63
  have f65 : Fld Z h48 x1 "java/lang/String" "value" "[B" .null := F1_value.ext X63
  have f66 : Fld Z h48 x1 "java/lang/String" "coder" "B" vZ := F1_coder.ext X63
  obtain ⟨T50, h50, W50, K50, S50, st50⟩ := own_strNew W48 hx (own_ws C) (w15 C) (w16 C) (w17 C) (w13 C) f64 f65 f66 (cs := [c1, c2, c3, c4, c5, c6, c7, c8, c9, c10, c11]) U48 rfl C.cs (nle rfl) (nle rfl) (own_alS (hr _ (List.mem_of_getElem? (i := 0) rfl)) (own_alS (hr _ (List.mem_of_getElem? (i := 1) rfl)) (own_alS (hr _ (List.mem_of_getElem? (i := 2) rfl)) (own_alS (hr _ (List.mem_of_getElem? (i := 3) rfl)) (own_alS (hr _ (List.mem_of_getElem? (i := 4) rfl)) (own_alS (hr _ (List.mem_of_getElem? (i := 5) rfl)) (own_alS (hr _ (List.mem_of_getElem? (i := 6) rfl)) (own_alS (hr _ (List.mem_of_getElem? (i := 7) rfl)) (own_alS (hr _ (List.mem_of_getElem? (i := 8) rfl)) (own_alS (hr _ (List.mem_of_getElem? (i := 9) rfl)) (own_alS (hr _ (List.mem_of_getElem? (i := 10) rfl)) own_al0))))))))))) (own_safeB W0 X51 (by omega)) (by omega) (Wd := 1) (nle rfl) (nle rfl) (nle rfl) (nle rfl) (g := (mkF m 610 #[vR b, vI (11 : Int32)] [(.ref x3), (.ref x1), (.ref x1)])) rfl (by rw [hml]; rfl) rfl (nle rfl) (hb hby d37_610)
  have z67 : h48.size ≤ h50.size := K50.1
  refine go (g' := (mkF m 613 #[vR b, vI (11 : Int32)] [(.ref x1)])) (st50) ?_
  have X68 : Ext h0 h50 := own_xk X51 K50 (allS (by omega) all0)
  exact fin (v := some (.ref x1)) (so := []) W50 (nle rfl) (nle rfl) (⟨_, rfl, X68, S50⟩) (fun _ q => nomatch q) (fun q => nomatch q) (own_retA W50 hx hret rfl rfl rfl (hb hby d37_613))
set_option maxRecDepth 65536 in
set_option maxHeartbeats 40000000 in
theorem rm_take12 {l : Launch} {Z : State} {a0 : Array Value} (C : Cx Z a0) (h0 : Heap) (b : Addr) (kb : ClassId) (c1 c2 c3 c4 c5 c6 c7 c8 c9 c10 c11 c12 : Int32) (hr : ∀ c ∈ [c1, c2, c3, c4, c5, c6, c7, c8, c9, c10, c11, c12], ¬ c < 0 ∧ ¬ (255 : Int32) < c) (Vb : Arv Z h0 b kb .char (12 : Int32) [(.int c1), (.int c2), (.int c3), (.int c4), (.int c5), (.int c6), (.int c7), (.int c8), (.int c9), (.int c10), (.int c11), (.int c12)] vZ) :
    Ct l Z a0 own_EL (⟨"com/example/inchworm/inchworm/core/IdempotencyKeyParseHeaderPinLaw", "take", "([CI)Ljava/lang/String;"⟩ : MethodName) method_6_code 2 (Option.some (Jvm.ClassFile.FieldType.object "java/lang/String")) [] ({ frames := 5, cells := 3, slots := 30, locals := 76 } : Room) #[(.ref b), (.int (12 : Int32))] h0 [] (fun v h so => ∃ x : Addr, v = some (.ref x) ∧ Ext h0 h ∧ Str Z h x [c1, c2, c3, c4, c5, c6, c7, c8, c9, c10, c11, c12]) := by
  refine own_enter (plainFor_of_name pn_8) C.ew (F0 := fun m => mkF m 0 #[vR b, vI (12 : Int32)] []) (fun m => by first | (simp [entryFrame, mkF, argsToLocals, Value.category]; done) | rfl) ?_
  intro p e s m below meth c s₁ G hx hby hml hret hnm W0 S0 go fin
  have z0 : Z.heap.size ≤ h0.size := W0.sz
  show G s₁ (mkF m 0 #[vR b, vI (12 : Int32)] [])
  have lb : ltN b h0.size := Vb.lt
  refine go (g' := (mkF m 52 #[vR b, vI (12 : Int32)] [(.int (3 : Int32)), (.int (12 : Int32))])) (fun _ k => XS.iloadN W0.here hx rfl (hb hby d37_0) rfl (XS.iconst W0.here hx rfl (hb hby d37_1) (XS.icmpYes W0.here hx rfl (pc0 := 2) (pc' := 22) rfl (hb hby d37_2) rfl (feq ((by decide) : ¬ ((12 : Int32) = (1 : Int32)))).2 (by decide) (by decide) (XS.iloadN W0.here hx rfl (hb hby d37_22) rfl (XS.iconst W0.here hx rfl (hb hby d37_23) (XS.icmpYes W0.here hx rfl (pc0 := 24) (pc' := 50) rfl (hb hby d37_24) rfl (feq ((by decide) : ¬ ((12 : Int32) = (2 : Int32)))).2 (by decide) (by decide) (XS.iloadN W0.here hx rfl (hb hby d37_50) rfl (XS.iconst W0.here hx rfl (hb hby d37_51) k)))))))) ?_
  refine go (g' := (mkF m 171 #[vR b, vI (12 : Int32)] [(.int (12 : Int32))])) (fun _ k => XS.icmpYes W0.here hx rfl (pc0 := 52) (pc' := 84) rfl (hb hby d37_52) rfl (feq ((by decide) : ¬ ((12 : Int32) = (3 : Int32)))).2 (by decide) (by decide) (XS.iloadN W0.here hx rfl (hb hby d37_84) rfl (XS.iconst W0.here hx rfl (hb hby d37_85) (XS.icmpYes W0.here hx rfl (pc0 := 86) (pc' := 124) rfl (hb hby d37_86) rfl (feq ((by decide) : ¬ ((12 : Int32) = (4 : Int32)))).2 (by decide) (by decide) (XS.iloadN W0.here hx rfl (hb hby d37_124) rfl (XS.iconst W0.here hx rfl (hb hby d37_125) (XS.icmpYes W0.here hx rfl (pc0 := 126) (pc' := 170) rfl (hb hby d37_126) rfl (feq ((by decide) : ¬ ((12 : Int32) = (5 : Int32)))).2 (by decide) (by decide) (XS.iloadN W0.here hx rfl (hb hby d37_170) rfl k)))))))) ?_
  refine go (g' := (mkF m 356 #[vR b, vI (12 : Int32)] [])) (fun _ k => XS.bipush W0.here hx rfl (hb hby d37_171) (XS.icmpYes W0.here hx rfl (pc0 := 173) (pc' := 224) rfl (hb hby d37_173) rfl (feq ((by decide) : ¬ ((12 : Int32) = (6 : Int32)))).2 (by decide) (by decide) (XS.iloadN W0.here hx rfl (hb hby d37_224) rfl (XS.bipush W0.here hx rfl (hb hby d37_225) (XS.icmpYes W0.here hx rfl (pc0 := 227) (pc' := 286) rfl (hb hby d37_227) rfl (feq ((by decide) : ¬ ((12 : Int32) = (7 : Int32)))).2 (by decide) (by decide) (XS.iloadN W0.here hx rfl (hb hby d37_286) rfl (XS.bipush W0.here hx rfl (hb hby d37_287) (XS.icmpYes W0.here hx rfl (pc0 := 289) (pc' := 356) rfl (hb hby d37_289) rfl (feq ((by decide) : ¬ ((12 : Int32) = (8 : Int32)))).2 (by decide) (by decide) k)))))))) ?_
  refine go (g' := (mkF m 523 #[vR b, vI (12 : Int32)] [(.int (11 : Int32)), (.int (12 : Int32))])) (fun _ k => XS.iloadN W0.here hx rfl (hb hby d37_356) rfl (XS.bipush W0.here hx rfl (hb hby d37_357) (XS.icmpYes W0.here hx rfl (pc0 := 359) (pc' := 434) rfl (hb hby d37_359) rfl (feq ((by decide) : ¬ ((12 : Int32) = (9 : Int32)))).2 (by decide) (by decide) (XS.iloadN W0.here hx rfl (hb hby d37_434) rfl (XS.bipush W0.here hx rfl (hb hby d37_435) (XS.icmpYes W0.here hx rfl (pc0 := 437) (pc' := 520) rfl (hb hby d37_437) rfl (feq ((by decide) : ¬ ((12 : Int32) = (10 : Int32)))).2 (by decide) (by decide) (XS.iloadN W0.here hx rfl (hb hby d37_520) rfl (XS.bipush W0.here hx rfl (hb hby d37_521) k)))))))) ?_
  refine go (g' := (mkF m 614 #[vR b, vI (12 : Int32)] [])) (fun _ k => XS.icmpYes W0.here hx rfl (pc0 := 523) (pc' := 614) rfl (hb hby d37_523) rfl (feq ((by decide) : ¬ ((12 : Int32) = (11 : Int32)))).2 (by decide) (by decide) k) ?_
  obtain ⟨x1, T1, h1, g1, W1, E1, A1, D1, U1, st1⟩ := own_new W0 hx (w12 C) (w13 C) (w14 C) (g := (mkF m 614 #[vR b, vI (12 : Int32)] [])) rfl (hb hby d37_614) (nle rfl) (nle rfl)
  have z2 : h0.size ≤ h1.size := E1.1
  have l1 : ltN x1 h1.size := A1.lt
  have F1_coder : Fld Z h1 x1 "java/lang/String" "coder" "B" vZ := D1 (Or.inr (w38 C)) (ty := .byte) (by decide)
  have F1_value : Fld Z h1 x1 "java/lang/String" "value" "[B" .null := D1 (Or.inr (w40 C)) (ty := (.array .byte)) (by decide)
  refine go (g' := (mkF m 617 #[vR b, vI (12 : Int32)] [(.ref x1)])) (st1) ?_
  refine go (g' := (mkF m 619 #[vR b, vI (12 : Int32)] [(.ref b), (.ref x1), (.ref x1)])) (fun _ k => XS.dup W1.here hx rfl (hb hby d37_617) rfl rfl (XS.aloadN W1.here hx rfl (hb hby d37_618) rfl rfl k)) ?_
  have X4 : Ext h0 h1 := own_xt (own_xr h0) E1
  have f5 : Arv Z h1 b kb .char (12 : Int32) [(.int c1), (.int c2), (.int c3), (.int c4), (.int c5), (.int c6), (.int c7), (.int c8), (.int c9), (.int c10), (.int c11), (.int c12)] vZ := Vb.ext X4
  obtain ⟨T3, h3, W3, K3, S3, st3⟩ := own_strNew W1 hx (own_ws C) (w15 C) (w16 C) (w17 C) (w13 C) A1 F1_value F1_coder (cs := [c1, c2, c3, c4, c5, c6, c7, c8, c9, c10, c11, c12]) f5 rfl C.cs (nle rfl) (nle rfl) (own_alS (hr _ (List.mem_of_getElem? (i := 0) rfl)) (own_alS (hr _ (List.mem_of_getElem? (i := 1) rfl)) (own_alS (hr _ (List.mem_of_getElem? (i := 2) rfl)) (own_alS (hr _ (List.mem_of_getElem? (i := 3) rfl)) (own_alS (hr _ (List.mem_of_getElem? (i := 4) rfl)) (own_alS (hr _ (List.mem_of_getElem? (i := 5) rfl)) (own_alS (hr _ (List.mem_of_getElem? (i := 6) rfl)) (own_alS (hr _ (List.mem_of_getElem? (i := 7) rfl)) (own_alS (hr _ (List.mem_of_getElem? (i := 8) rfl)) (own_alS (hr _ (List.mem_of_getElem? (i := 9) rfl)) (own_alS (hr _ (List.mem_of_getElem? (i := 10) rfl)) (own_alS (hr _ (List.mem_of_getElem? (i := 11) rfl)) own_al0)))))))))))) (own_safeB W0 X4 (by omega)) (by omega) (Wd := 1) (nle rfl) (nle rfl) (nle rfl) (nle rfl) (g := (mkF m 619 #[vR b, vI (12 : Int32)] [(.ref b), (.ref x1), (.ref x1)])) rfl (by rw [hml]; rfl) rfl (nle rfl) (hb hby d37_619)
  have z6 : h1.size ≤ h3.size := K3.1
  refine go (g' := (mkF m 622 #[vR b, vI (12 : Int32)] [(.ref x1)])) (st3) ?_
  have X7 : Ext h0 h3 := own_xk X4 K3 (allS (by omega) all0)
  exact fin (v := some (.ref x1)) (so := []) W3 (nle rfl) (nle rfl) (⟨_, rfl, X7, S3⟩) (fun _ q => nomatch q) (fun q => nomatch q) (own_retA W3 hx hret rfl rfl rfl (hb hby d37_622))
set_option maxRecDepth 65536 in
set_option maxHeartbeats 40000000 in
theorem rm_take {l : Launch} {Z : State} {a0 : Array Value} (C : Cx Z a0) (h0 : Heap) (b : Addr) (kb : ClassId) (L : List Int32) (l0 : 0 < L.length) (l1 : L.length ≤ 12) (hr : ∀ c ∈ L, ¬ c < 0 ∧ ¬ (255 : Int32) < c) (Vb : Arv Z h0 b kb .char (12 : Int32) (L.map Value.int) vZ) :
    Ct l Z a0 own_EL (⟨"com/example/inchworm/inchworm/core/IdempotencyKeyParseHeaderPinLaw", "take", "([CI)Ljava/lang/String;"⟩ : MethodName) method_6_code 2 (Option.some (Jvm.ClassFile.FieldType.object "java/lang/String")) [] ({ frames := 5, cells := 3, slots := 30, locals := 76 } : Room) #[(.ref b), (.int (Int32.ofNat L.length))] h0 [] (fun v h so => ∃ x : Addr, v = some (.ref x) ∧ Ext h0 h ∧ Str Z h x L) := by
  match L, l0, l1, hr, Vb with
  | [c1], _, _, hr, Vb => exact rm_take1 C h0 b kb c1 hr Vb
  | [c1, c2], _, _, hr, Vb => exact rm_take2 C h0 b kb c1 c2 hr Vb
  | [c1, c2, c3], _, _, hr, Vb => exact rm_take3 C h0 b kb c1 c2 c3 hr Vb
  | [c1, c2, c3, c4], _, _, hr, Vb => exact rm_take4 C h0 b kb c1 c2 c3 c4 hr Vb
  | [c1, c2, c3, c4, c5], _, _, hr, Vb => exact rm_take5 C h0 b kb c1 c2 c3 c4 c5 hr Vb
  | [c1, c2, c3, c4, c5, c6], _, _, hr, Vb => exact rm_take6 C h0 b kb c1 c2 c3 c4 c5 c6 hr Vb
  | [c1, c2, c3, c4, c5, c6, c7], _, _, hr, Vb => exact rm_take7 C h0 b kb c1 c2 c3 c4 c5 c6 c7 hr Vb
  | [c1, c2, c3, c4, c5, c6, c7, c8], _, _, hr, Vb => exact rm_take8 C h0 b kb c1 c2 c3 c4 c5 c6 c7 c8 hr Vb
  | [c1, c2, c3, c4, c5, c6, c7, c8, c9], _, _, hr, Vb => exact rm_take9 C h0 b kb c1 c2 c3 c4 c5 c6 c7 c8 c9 hr Vb
  | [c1, c2, c3, c4, c5, c6, c7, c8, c9, c10], _, _, hr, Vb => exact rm_take10 C h0 b kb c1 c2 c3 c4 c5 c6 c7 c8 c9 c10 hr Vb
  | [c1, c2, c3, c4, c5, c6, c7, c8, c9, c10, c11], _, _, hr, Vb => exact rm_take11 C h0 b kb c1 c2 c3 c4 c5 c6 c7 c8 c9 c10 c11 hr Vb
  | [c1, c2, c3, c4, c5, c6, c7, c8, c9, c10, c11, c12], _, _, hr, Vb => exact rm_take12 C h0 b kb c1 c2 c3 c4 c5 c6 c7 c8 c9 c10 c11 c12 hr Vb
  | [], l0, _, _, _ => exact absurd l0 (by simp)
  | _ :: _ :: _ :: _ :: _ :: _ :: _ :: _ :: _ :: _ :: _ :: _ :: _ :: r, _, l1, _, _ => exact absurd l1 (by simp)
set_option maxRecDepth 65536 in
set_option maxHeartbeats 40000000 in
theorem rm0 {l : Launch} {Z : State} {a0 : Array Value} (C : Cx Z a0) (h0 : Heap) (p1 p2 p3 p4 p5 : Int32) :
    Ct l Z a0 own_EL x code maxLocals ret tables_1 room_1 #[(.int p1), (.int p2), (.int p3), (.int p4), (.int p5)] h0 [] (fun v h so => v = some (.int 1)) := by
  refine own_enter (plainFor_of_name pn_8) C.ew (F0 := fun m => mkF m 0 #[vI p1, vI p2, vI p3, vI p4, vI p5, .unset, .unset, .unset, .unset, .unset, .unset, .unset, .unset, .unset, .unset, .unset, .unset] []) (fun m => by first | (simp [entryFrame, mkF, argsToLocals, Value.category, maxLocals]; done) | rfl) ?_
  intro p e s m below meth c s₁ G hx hby hml hret hnm W0 S0 go fin
  have z0 : Z.heap.size ≤ h0.size := W0.sz
  show G s₁ (mkF m 0 #[vI p1, vI p2, vI p3, vI p4, vI p5, .unset, .unset, .unset, .unset, .unset, .unset, .unset, .unset, .unset, .unset, .unset, .unset] [])
  refine go (g' := (mkF m 2 #[vI p1, vI p2, vI p3, vI p4, vI p5, .unset, .unset, .unset, .unset, .unset, .unset, .unset, .unset, .unset, .unset, .unset, .unset] [(.int p1), (.int (1 : Int32))])) (fun _ k => XS.iconst W0.here hx rfl (hb hby at_0) (XS.iloadN W0.here hx rfl (hb hby at_1) rfl k)) ?_
  refine go (g' := (mkF m 4 #[vI p1, vI p2, vI p3, vI p4, vI p5, .unset, .unset, .unset, .unset, .unset, .unset, .unset, .unset, .unset, .unset, .unset, .unset] [(.int (2147483647 : Int32)), (.int p1), (.int (1 : Int32))])) (own_ldcI W0 hx (w0 C) (g := (mkF m 2 #[vI p1, vI p2, vI p3, vI p4, vI p5, .unset, .unset, .unset, .unset, .unset, .unset, .unset, .unset, .unset, .unset, .unset, .unset] [(.int p1), (.int (1 : Int32))])) rfl (hb hby at_2)) ?_
  refine go (g' := (mkF m 6 #[vI p1, vI p2, vI p3, vI p4, vI p5, .unset, .unset, .unset, .unset, .unset, .unset, .unset, .unset, .unset, .unset, .unset, .unset] [(.int (3 : Int32)), (.int (p1 &&& (2147483647 : Int32))), (.int (1 : Int32))])) (fun _ k => XS.iand W0.here hx rfl (hb hby at_4) rfl (XS.iconst W0.here hx rfl (hb hby at_5) k)) ?_
  refine go (g' := (mkF m 7 #[vI p1, vI p2, vI p3, vI p4, vI p5, .unset, .unset, .unset, .unset, .unset, .unset, .unset, .unset, .unset, .unset, .unset, .unset] [(.int ((p1 &&& (2147483647 : Int32)) % (3 : Int32))), (.int (1 : Int32))])) (own_irem W0 hx (g := (mkF m 6 #[vI p1, vI p2, vI p3, vI p4, vI p5, .unset, .unset, .unset, .unset, .unset, .unset, .unset, .unset, .unset, .unset, .unset, .unset] [(.int (3 : Int32)), (.int (p1 &&& (2147483647 : Int32))), (.int (1 : Int32))])) rfl (hb hby at_6) rfl (by decide)) ?_
  refine go (g' := (mkF m 8 #[vI p1, vI p2, vI p3, vI p4, vI p5, .unset, .unset, .unset, .unset, .unset, .unset, .unset, .unset, .unset, .unset, .unset, .unset] [(.int ((1 : Int32) + ((p1 &&& (2147483647 : Int32)) % (3 : Int32))))])) (fun _ k => XS.iadd W0.here hx rfl (hb hby at_7) rfl k) ?_
  have hkv : ((1 : Int32) + ((p1 &&& (2147483647 : Int32)) % (3 : Int32))) = (1 : Int32) ∨ ((1 : Int32) + ((p1 &&& (2147483647 : Int32)) % (3 : Int32))) = (2 : Int32) ∨ ((1 : Int32) + ((p1 &&& (2147483647 : Int32)) % (3 : Int32))) = (3 : Int32) := own_k3 p1
  generalize ((1 : Int32) + ((p1 &&& (2147483647 : Int32)) % (3 : Int32))) = kv at hkv ⊢
  refine go (g' := (mkF m 11 #[vI p1, vI p2, vI p3, vI p4, vI p5, vI kv, .unset, .unset, .unset, .unset, .unset, .unset, .unset, .unset, .unset, .unset, .unset] [(.int p3)])) (fun _ k => XS.istore W0.here hx rfl (hb hby at_8) rfl (l' := #[vI p1, vI p2, vI p3, vI p4, vI p5, vI kv, .unset, .unset, .unset, .unset, .unset, .unset, .unset, .unset, .unset, .unset, .unset]) rfl (XS.iloadN W0.here hx rfl (hb hby at_10) rfl k)) ?_
  obtain ⟨v1, so1, vm1, T1, h1, W1, C1, q1, hso1, st1⟩ := own_static W0 hx (y := (⟨"com/example/inchworm/inchworm/core/IdempotencyKeyParseHeaderPinLaw", "keyChar", "(I)C"⟩ : MethodName)) (w1 C) (w2 C) (w3 C) (w4 C) (by decide) (rm_allowed C h0 p3) (fun _ q => nomatch q) (Wd := 0) (nle rfl) (nle rfl) (nle rfl) (nle rfl) (g := (mkF m 11 #[vI p1, vI p2, vI p3, vI p4, vI p5, vI kv, .unset, .unset, .unset, .unset, .unset, .unset, .unset, .unset, .unset, .unset, .unset] [(.int p3)])) rfl (by rw [hml]; rfl) (argsL := [(.int p3)]) (rest := []) (lenOf pd_23 rfl) rfl rfl (nle rfl) (hb hby at_11)
  obtain ⟨c1, rfl, rfl, hk1⟩ := q1
  refine go (g' := (mkF m 14 #[vI p1, vI p2, vI p3, vI p4, vI p5, vI kv, .unset, .unset, .unset, .unset, .unset, .unset, .unset, .unset, .unset, .unset, .unset] [(.int c1)])) (st1) ?_
  refine go (g' := (mkF m 17 #[vI p1, vI p2, vI p3, vI p4, vI p5, vI kv, vI c1, .unset, .unset, .unset, .unset, .unset, .unset, .unset, .unset, .unset, .unset] [(.int p4)])) (fun _ k => XS.istore W1.here hx rfl (hb hby at_14) rfl (l' := #[vI p1, vI p2, vI p3, vI p4, vI p5, vI kv, vI c1, .unset, .unset, .unset, .unset, .unset, .unset, .unset, .unset, .unset, .unset]) rfl (XS.iloadN W1.here hx rfl (hb hby at_16) rfl k)) ?_
  obtain ⟨v2, so2, vm2, T2, h2, W2, C2, q2, hso2, st2⟩ := own_static W1 hx (y := (⟨"com/example/inchworm/inchworm/core/IdempotencyKeyParseHeaderPinLaw", "keyChar", "(I)C"⟩ : MethodName)) (w1 C) (w2 C) (w3 C) (w4 C) (by decide) (rm_allowed C h0 p4) (fun _ q => nomatch q) (Wd := 0) (nle rfl) (nle rfl) (nle rfl) (nle rfl) (g := (mkF m 17 #[vI p1, vI p2, vI p3, vI p4, vI p5, vI kv, vI c1, .unset, .unset, .unset, .unset, .unset, .unset, .unset, .unset, .unset, .unset] [(.int p4)])) rfl (by rw [hml]; rfl) (argsL := [(.int p4)]) (rest := []) (lenOf pd_23 rfl) rfl rfl (nle rfl) (hb hby at_17)
  obtain ⟨c2, rfl, rfl, hk2⟩ := q2
  refine go (g' := (mkF m 20 #[vI p1, vI p2, vI p3, vI p4, vI p5, vI kv, vI c1, .unset, .unset, .unset, .unset, .unset, .unset, .unset, .unset, .unset, .unset] [(.int c2)])) (st2) ?_
  refine go (g' := (mkF m 24 #[vI p1, vI p2, vI p3, vI p4, vI p5, vI kv, vI c1, vI c2, .unset, .unset, .unset, .unset, .unset, .unset, .unset, .unset, .unset] [(.int p5)])) (fun _ k => XS.istore W2.here hx rfl (hb hby at_20) rfl (l' := #[vI p1, vI p2, vI p3, vI p4, vI p5, vI kv, vI c1, vI c2, .unset, .unset, .unset, .unset, .unset, .unset, .unset, .unset, .unset]) rfl (XS.iload W2.here hx rfl (hb hby at_22) rfl k)) ?_
  obtain ⟨v3, so3, vm3, T3, h3, W3, C3, q3, hso3, st3⟩ := own_static W2 hx (y := (⟨"com/example/inchworm/inchworm/core/IdempotencyKeyParseHeaderPinLaw", "keyChar", "(I)C"⟩ : MethodName)) (w1 C) (w2 C) (w3 C) (w4 C) (by decide) (rm_allowed C h0 p5) (fun _ q => nomatch q) (Wd := 0) (nle rfl) (nle rfl) (nle rfl) (nle rfl) (g := (mkF m 24 #[vI p1, vI p2, vI p3, vI p4, vI p5, vI kv, vI c1, vI c2, .unset, .unset, .unset, .unset, .unset, .unset, .unset, .unset, .unset] [(.int p5)])) rfl (by rw [hml]; rfl) (argsL := [(.int p5)]) (rest := []) (lenOf pd_23 rfl) rfl rfl (nle rfl) (hb hby at_24)
  obtain ⟨c3, rfl, rfl, hk3⟩ := q3
  refine go (g' := (mkF m 27 #[vI p1, vI p2, vI p3, vI p4, vI p5, vI kv, vI c1, vI c2, .unset, .unset, .unset, .unset, .unset, .unset, .unset, .unset, .unset] [(.int c3)])) (st3) ?_
  refine go (g' := (mkF m 29 #[vI p1, vI p2, vI p3, vI p4, vI p5, vI kv, vI c1, vI c2, vI c3, .unset, .unset, .unset, .unset, .unset, .unset, .unset, .unset] [])) (fun _ k => XS.istore W3.here hx rfl (hb hby at_27) rfl (l' := #[vI p1, vI p2, vI p3, vI p4, vI p5, vI kv, vI c1, vI c2, vI c3, .unset, .unset, .unset, .unset, .unset, .unset, .unset, .unset]) rfl k) ?_
  have J47 : ∀ qv : Int32, (qv = 1 ∨ (qv = 0 ∧ ¬ c1 = (34 : Int32))) → G T3 (mkF m 47 #[vI p1, vI p2, vI p3, vI p4, vI p5, vI kv, vI c1, vI c2, vI c3, .unset, .unset, .unset, .unset, .unset, .unset, .unset, .unset] [(.int qv)]) := by
    intro qv hq
    refine go (g' := (mkF m 55 #[vI p1, vI p2, vI p3, vI p4, vI p5, vI kv, vI c1, vI c2, vI c3, vI qv, .unset, .unset, .unset, .unset, .unset, .unset, .unset] [(.int (3 : Int32)), (.int (p2 &&& (255 : Int32)))])) (fun _ k => XS.istore W3.here hx rfl (hb hby at_47) rfl (l' := #[vI p1, vI p2, vI p3, vI p4, vI p5, vI kv, vI c1, vI c2, vI c3, vI qv, .unset, .unset, .unset, .unset, .unset, .unset, .unset]) rfl (XS.iloadN W3.here hx rfl (hb hby at_49) rfl (XS.sipush W3.here hx rfl (hb hby at_50) (XS.iand W3.here hx rfl (hb hby at_53) rfl (XS.iconst W3.here hx rfl (hb hby at_54) k))))) ?_
    refine go (g' := (mkF m 56 #[vI p1, vI p2, vI p3, vI p4, vI p5, vI kv, vI c1, vI c2, vI c3, vI qv, .unset, .unset, .unset, .unset, .unset, .unset, .unset] [(.int ((p2 &&& (255 : Int32)) % (3 : Int32)))])) (own_irem W3 hx (g := (mkF m 55 #[vI p1, vI p2, vI p3, vI p4, vI p5, vI kv, vI c1, vI c2, vI c3, vI qv, .unset, .unset, .unset, .unset, .unset, .unset, .unset] [(.int (3 : Int32)), (.int (p2 &&& (255 : Int32)))])) rfl (hb hby at_55) rfl (by decide)) ?_
    have hld : ((p2 &&& (255 : Int32)) % (3 : Int32)) = (0 : Int32) ∨ ((p2 &&& (255 : Int32)) % (3 : Int32)) = (1 : Int32) ∨ ((p2 &&& (255 : Int32)) % (3 : Int32)) = (2 : Int32) := own_m3 _ (own_and255 _)
    generalize ((p2 &&& (255 : Int32)) % (3 : Int32)) = ld at hld ⊢
    refine go (g' := (mkF m 67 #[vI p1, vI p2, vI p3, vI p4, vI p5, vI kv, vI c1, vI c2, vI c3, vI qv, vI ld, .unset, .unset, .unset, .unset, .unset, .unset] [(.int (3 : Int32)), (.int (((p2.toUInt32 >>> ((8 : Int32) &&& 31).toUInt32).toInt32) &&& (255 : Int32)))])) (fun _ k => XS.istore W3.here hx rfl (hb hby at_56) rfl (l' := #[vI p1, vI p2, vI p3, vI p4, vI p5, vI kv, vI c1, vI c2, vI c3, vI qv, vI ld, .unset, .unset, .unset, .unset, .unset, .unset]) rfl (XS.iloadN W3.here hx rfl (hb hby at_58) rfl (XS.bipush W3.here hx rfl (hb hby at_59) (XS.iushr W3.here hx rfl (hb hby at_61) rfl (XS.sipush W3.here hx rfl (hb hby at_62) (XS.iand W3.here hx rfl (hb hby at_65) rfl (XS.iconst W3.here hx rfl (hb hby at_66) k))))))) ?_
    refine go (g' := (mkF m 68 #[vI p1, vI p2, vI p3, vI p4, vI p5, vI kv, vI c1, vI c2, vI c3, vI qv, vI ld, .unset, .unset, .unset, .unset, .unset, .unset] [(.int ((((p2.toUInt32 >>> ((8 : Int32) &&& 31).toUInt32).toInt32) &&& (255 : Int32)) % (3 : Int32)))])) (own_irem W3 hx (g := (mkF m 67 #[vI p1, vI p2, vI p3, vI p4, vI p5, vI kv, vI c1, vI c2, vI c3, vI qv, vI ld, .unset, .unset, .unset, .unset, .unset, .unset] [(.int (3 : Int32)), (.int (((p2.toUInt32 >>> ((8 : Int32) &&& 31).toUInt32).toInt32) &&& (255 : Int32)))])) rfl (hb hby at_67) rfl (by decide)) ?_
    have htr : ((((p2.toUInt32 >>> ((8 : Int32) &&& 31).toUInt32).toInt32) &&& (255 : Int32)) % (3 : Int32)) = (0 : Int32) ∨ ((((p2.toUInt32 >>> ((8 : Int32) &&& 31).toUInt32).toInt32) &&& (255 : Int32)) % (3 : Int32)) = (1 : Int32) ∨ ((((p2.toUInt32 >>> ((8 : Int32) &&& 31).toUInt32).toInt32) &&& (255 : Int32)) % (3 : Int32)) = (2 : Int32) := own_m3 _ (own_and255 _)
    generalize ((((p2.toUInt32 >>> ((8 : Int32) &&& 31).toUInt32).toInt32) &&& (255 : Int32)) % (3 : Int32)) = tr at htr ⊢
    refine go (g' := (mkF m 72 #[vI p1, vI p2, vI p3, vI p4, vI p5, vI kv, vI c1, vI c2, vI c3, vI qv, vI ld, vI tr, .unset, .unset, .unset, .unset, .unset] [(.int (12 : Int32))])) (fun _ k => XS.istore W3.here hx rfl (hb hby at_68) rfl (l' := #[vI p1, vI p2, vI p3, vI p4, vI p5, vI kv, vI c1, vI c2, vI c3, vI qv, vI ld, vI tr, .unset, .unset, .unset, .unset, .unset]) rfl (XS.bipush W3.here hx rfl (hb hby at_70) k)) ?_
    obtain ⟨x4, T4, h4, k4, g4, W4, E4, A4, st4⟩ := own_newP W3 hx (aty := .char) (w5 C) (g := (mkF m 72 #[vI p1, vI p2, vI p3, vI p4, vI p5, vI kv, vI c1, vI c2, vI c3, vI qv, vI ld, vI tr, .unset, .unset, .unset, .unset, .unset] [(.int (12 : Int32))])) rfl (hb hby at_72) rfl (by decide) (cap := 12) (by decide) (nle rfl) (nle rfl) (nle rfl)
    have z5 : h0.size ≤ h4.size := E4.1
    have l4 : ltN x4 h4.size := A4.lt
    have V4 : Arv Z h4 x4 k4 .char (12 : Int32) [vZ, vZ, vZ, vZ, vZ, vZ, vZ, vZ, vZ, vZ, vZ, vZ] vZ := A4.pad (pad_rep [] vZ 12)
    refine go (g' := (mkF m 74 #[vI p1, vI p2, vI p3, vI p4, vI p5, vI kv, vI c1, vI c2, vI c3, vI qv, vI ld, vI tr, .unset, .unset, .unset, .unset, .unset] [(.ref x4)])) (st4) ?_
    have VL : Arv Z h4 x4 k4 .char (12 : Int32) (([] : List Int32).map Value.int) vZ := A4
    refine go (g' := (mkF m 77 #[vI p1, vI p2, vI p3, vI p4, vI p5, vI kv, vI c1, vI c2, vI c3, vI qv, vI ld, vI tr, vR x4, .unset, .unset, .unset, .unset] [vZ])) (fun _ k => XS.astore W4.here hx rfl (hb hby at_74) rfl rfl (l' := #[vI p1, vI p2, vI p3, vI p4, vI p5, vI kv, vI c1, vI c2, vI c3, vI qv, vI ld, vI tr, vR x4, .unset, .unset, .unset, .unset]) rfl (XS.iconst W4.here hx rfl (hb hby at_76) k)) ?_
    show G T4 (mkF m 77 #[vI p1, vI p2, vI p3, vI p4, vI p5, vI kv, vI c1, vI c2, vI c3, vI qv, vI ld, vI tr, vR x4, .unset, .unset, .unset, .unset] [(.int (Int32.ofNat ([] : List Int32).length))])
    refine go (g' := (mkF m 79 #[vI p1, vI p2, vI p3, vI p4, vI p5, vI kv, vI c1, vI c2, vI c3, vI qv, vI ld, vI tr, vR x4, vI (Int32.ofNat ([] : List Int32).length), .unset, .unset, .unset] [])) (fun _ k => XS.istore W4.here hx rfl (hb hby at_77) rfl (l' := #[vI p1, vI p2, vI p3, vI p4, vI p5, vI kv, vI c1, vI c2, vI c3, vI qv, vI ld, vI tr, vR x4, vI (Int32.ofNat ([] : List Int32).length), .unset, .unset, .unset]) rfl k) ?_
    have J258 : ∀ (w1 ks body w2 : List Int32) (vmJ : Vm) (TJ : State) (hJ : Heap), (∀ c ∈ w1, Ows c) → w1.length ≤ 2 → ((kv = (1 : Int32) ∧ ks = [c1]) ∨ (kv = (2 : Int32) ∧ ks = [c1, c2]) ∨ (kv = (3 : Int32) ∧ ks = [c1, c2, c3])) → ((body = ks ∧ ¬ ks.getD 0 0 = 34) ∨ body = 34 :: (enc ks ++ [34])) → (∀ c ∈ w2, Ows c) → w2.length ≤ 2 → Wk Z a0 own_EL "com/example/inchworm/inchworm/core/IdempotencyKeyParseHeaderPinLaw" p l e room_1 s m #[(.int p1), (.int p2), (.int p3), (.int p4), (.int p5)] below meth c vmJ TJ hJ 1 12 → Arv Z hJ x4 k4 .char (12 : Int32) ((w1 ++ body ++ w2).map Value.int) vZ → G TJ (mkF m 258 #[vI p1, vI p2, vI p3, vI p4, vI p5, vI kv, vI c1, vI c2, vI c3, vI qv, vI ld, vI tr, vR x4, vI (Int32.ofNat (w1 ++ body ++ w2).length), .unset, .unset, .unset] []) := by
      intro w1 ks body w2 vmJ TJ hJ hw1 hl1 hK hB hw2 hl2 WJ VJ
      have zJ : Z.heap.size ≤ hJ.size := WJ.sz
      have lJ : ltN x4 hJ.size := VJ.lt
      have hk : ∀ c ∈ ks, ¬ c < (33 : Int32) ∧ ¬ (126 : Int32) < c := own_keys hK hk1 hk2 hk3
      obtain ⟨hkz, hkm⟩ := own_kl hK
      have hbl := own_bodyl hB hkz hkm
      have hLL : (w1 ++ body ++ w2).length ≤ 12 := by simp only [List.length_append]; omega
      refine go (g' := (mkF m 262 #[vI p1, vI p2, vI p3, vI p4, vI p5, vI kv, vI c1, vI c2, vI c3, vI qv, vI ld, vI tr, vR x4, vI (Int32.ofNat (w1 ++ body ++ w2).length), .unset, .unset, .unset] [(.int (Int32.ofNat (w1 ++ body ++ w2).length)), (.ref x4)])) (fun _ k => XS.aload WJ.here hx rfl (hb hby at_258) rfl rfl (XS.iload WJ.here hx rfl (hb hby at_260) rfl k)) ?_
      obtain ⟨v6, so6, vm6, T6, h6, W6, C6, q6, hso6, st6⟩ := own_static WJ hx (y := (⟨"com/example/inchworm/inchworm/core/IdempotencyKeyParseHeaderPinLaw", "take", "([CI)Ljava/lang/String;"⟩ : MethodName)) (w9 C) (w10 C) (w3 C) (w11 C) (by decide) (rm_take C hJ x4 k4 (w1 ++ body ++ w2) (by simp only [List.length_append]; omega) hLL (own_allb hw1 hw2 hk hB) VJ) (fun _ q => nomatch q) (Wd := 0) (nle rfl) (nle rfl) (nle rfl) (nle rfl) (g := (mkF m 262 #[vI p1, vI p2, vI p3, vI p4, vI p5, vI kv, vI c1, vI c2, vI c3, vI qv, vI ld, vI tr, vR x4, vI (Int32.ofNat (w1 ++ body ++ w2).length), .unset, .unset, .unset] [(.int (Int32.ofNat (w1 ++ body ++ w2).length)), (.ref x4)])) rfl (by rw [hml]; rfl) (argsL := [(.ref x4), (.int (Int32.ofNat (w1 ++ body ++ w2).length))]) (rest := []) (lenOf pd_24 rfl) rfl rfl (nle rfl) (hb hby at_262)
      obtain ⟨x6, rfl, E6, S6⟩ := q6
      have z7 : hJ.size ≤ h6.size := E6.1
      refine go (g' := (mkF m 265 #[vI p1, vI p2, vI p3, vI p4, vI p5, vI kv, vI c1, vI c2, vI c3, vI qv, vI ld, vI tr, vR x4, vI (Int32.ofNat (w1 ++ body ++ w2).length), .unset, .unset, .unset] [(.ref x6)])) (st6) ?_
      refine go (g' := (mkF m 267 #[vI p1, vI p2, vI p3, vI p4, vI p5, vI kv, vI c1, vI c2, vI c3, vI qv, vI ld, vI tr, vR x4, vI (Int32.ofNat (w1 ++ body ++ w2).length), vR x6, .unset, .unset] [])) (fun _ k => XS.astore W6.here hx rfl (hb hby at_265) rfl rfl (l' := #[vI p1, vI p2, vI p3, vI p4, vI p5, vI kv, vI c1, vI c2, vI c3, vI qv, vI ld, vI tr, vR x4, vI (Int32.ofNat (w1 ++ body ++ w2).length), vR x6, .unset, .unset]) rfl k) ?_
      rcases hK with ⟨rfl, rfl⟩ | ⟨rfl, rfl⟩ | ⟨rfl, rfl⟩
      · show G T6 (mkF m 267 #[vI p1, vI p2, vI p3, vI p4, vI p5, vI (1 : Int32), vI c1, vI c2, vI c3, vI qv, vI ld, vI tr, vR x4, vI (Int32.ofNat (w1 ++ body ++ w2).length), vR x6, .unset, .unset] [])
        refine go (g' := (mkF m 275 #[vI p1, vI p2, vI p3, vI p4, vI p5, vI (1 : Int32), vI c1, vI c2, vI c3, vI qv, vI ld, vI tr, vR x4, vI (Int32.ofNat (w1 ++ body ++ w2).length), vR x6, .unset, .unset] [(.int c1)])) (fun _ k => XS.iload W6.here hx rfl (hb hby at_267) rfl (XS.iconst W6.here hx rfl (hb hby at_269) (XS.icmpNo W6.here hx rfl (hb hby at_270) rfl (teq ((by decide) : (1 : Int32) = (1 : Int32))).2 (XS.iload W6.here hx rfl (hb hby at_273) rfl k)))) ?_
        obtain ⟨v8, so8, vm8, T8, h8, W8, C8, q8, hso8, st8⟩ := own_static W6 hx (y := (⟨"java/lang/String", "valueOf", "(C)Ljava/lang/String;"⟩ : MethodName)) (w41 C) (w42 C) (w14 C) (w43 C) (by decide) (rm_valof C h6 c1 (own_pr hk1)) (fun _ q => nomatch q) (Wd := 0) (nle rfl) (nle rfl) (nle rfl) (nle rfl) (g := (mkF m 275 #[vI p1, vI p2, vI p3, vI p4, vI p5, vI (1 : Int32), vI c1, vI c2, vI c3, vI qv, vI ld, vI tr, vR x4, vI (Int32.ofNat (w1 ++ body ++ w2).length), vR x6, .unset, .unset] [(.int c1)])) rfl (by rw [hml]; rfl) (argsL := [(.int c1)]) (rest := []) (lenOf pd_25 rfl) rfl rfl (nle rfl) (hb hby at_275)
        obtain ⟨x8, rfl, E8, g8, S8⟩ := q8
        have z9 : h6.size ≤ h8.size := E8.1
        refine go (g' := (mkF m 278 #[vI p1, vI p2, vI p3, vI p4, vI p5, vI (1 : Int32), vI c1, vI c2, vI c3, vI qv, vI ld, vI tr, vR x4, vI (Int32.ofNat (w1 ++ body ++ w2).length), vR x6, .unset, .unset] [(.ref x8)])) (st8) ?_
        refine go (g' := (mkF m 343 #[vI p1, vI p2, vI p3, vI p4, vI p5, vI (1 : Int32), vI c1, vI c2, vI c3, vI qv, vI ld, vI tr, vR x4, vI (Int32.ofNat (w1 ++ body ++ w2).length), vR x6, vR x8, .unset] [(.ref x6)])) (fun _ k => XS.astore W8.here hx rfl (hb hby at_278) rfl rfl (l' := #[vI p1, vI p2, vI p3, vI p4, vI p5, vI (1 : Int32), vI c1, vI c2, vI c3, vI qv, vI ld, vI tr, vR x4, vI (Int32.ofNat (w1 ++ body ++ w2).length), vR x6, vR x8, .unset]) rfl (XS.goto W8.here hx rfl (pc0 := 280) (pc' := 341) rfl (hb hby at_280) (by decide) (by decide) (XS.aload W8.here hx rfl (hb hby at_341) rfl rfl k))) ?_
        have X11 : Ext h6 h8 := own_xt (own_xr h6) E8
        have f12 : Str Z h8 x6 (w1 ++ body ++ w2) := S6.ext X11
        obtain ⟨v10, so10, vm10, T10, h10, W10, C10, q10, hso10, st10⟩ := own_static W8 hx (y := (⟨"com/example/inchworm/inchworm/core/IdempotencyKey", "parseHeader", "(Ljava/lang/String;)Lcom/example/inchworm/inchworm/core/IdempotencyKey;"⟩ : MethodName)) (w55 C) (w56 C) (w57 C) (w58 C) (by decide) (rm_parse C h8 x6 _ [c1] _ f12 _ _ (own_lay hw1 hw2 hB hk hkz hLL) (own_mid _ _ _) hB hk hkz) (fun _ q => nomatch q) (Wd := 0) (nle rfl) (nle rfl) (nle rfl) (nle rfl) (g := (mkF m 343 #[vI p1, vI p2, vI p3, vI p4, vI p5, vI (1 : Int32), vI c1, vI c2, vI c3, vI qv, vI ld, vI tr, vR x4, vI (Int32.ofNat (w1 ++ body ++ w2).length), vR x6, vR x8, .unset] [(.ref x6)])) rfl (by rw [hml]; rfl) (argsL := [(.ref x6)]) (rest := []) (lenOf pd_22 rfl) rfl rfl (nle rfl) (hb hby at_343)
        obtain ⟨x10, y10, rfl, E10, A10, F10, S10⟩ := q10
        have z13 : h8.size ≤ h10.size := E10.1
        refine go (g' := (mkF m 346 #[vI p1, vI p2, vI p3, vI p4, vI p5, vI (1 : Int32), vI c1, vI c2, vI c3, vI qv, vI ld, vI tr, vR x4, vI (Int32.ofNat (w1 ++ body ++ w2).length), vR x6, vR x8, .unset] [(.ref x10)])) (st10) ?_
        refine go (g' := (mkF m 350 #[vI p1, vI p2, vI p3, vI p4, vI p5, vI (1 : Int32), vI c1, vI c2, vI c3, vI qv, vI ld, vI tr, vR x4, vI (Int32.ofNat (w1 ++ body ++ w2).length), vR x6, vR x8, vR x10] [(.ref x10)])) (fun _ k => XS.astore W10.here hx rfl (hb hby at_346) rfl rfl (l' := #[vI p1, vI p2, vI p3, vI p4, vI p5, vI (1 : Int32), vI c1, vI c2, vI c3, vI qv, vI ld, vI tr, vR x4, vI (Int32.ofNat (w1 ++ body ++ w2).length), vR x6, vR x8, vR x10]) rfl (XS.aload W10.here hx rfl (hb hby at_348) rfl rfl k)) ?_
        obtain ⟨v14, so14, vm14, T14, h14, W14, C14, q14, hso14, st14⟩ := own_virtual W10 hx (y := (⟨"com/example/inchworm/inchworm/core/IdempotencyKey", "value", "()Ljava/lang/String;"⟩ : MethodName)) (z := (⟨"com/example/inchworm/inchworm/core/IdempotencyKey", "value", "()Ljava/lang/String;"⟩ : MethodName)) (w132 C) (w133 C) (w135 C) (w134 C) (w57 C) (w136 C) (by decide) (own_nf W10 (w135 C)) A10 (rm_get27 C h10 x10 (.ref y10) rfl F10) (fun _ q => nomatch q) (Wd := 0) (nle rfl) (nle rfl) (nle rfl) (nle rfl) (g := (mkF m 350 #[vI p1, vI p2, vI p3, vI p4, vI p5, vI (1 : Int32), vI c1, vI c2, vI c3, vI qv, vI ld, vI tr, vR x4, vI (Int32.ofNat (w1 ++ body ++ w2).length), vR x6, vR x8, vR x10] [(.ref x10)])) rfl (by rw [hml]; rfl) (argsL := []) (rest := []) (lenOf pd_19 rfl) rfl rfl (nle rfl) (hb hby at_350)
        obtain ⟨rfl, rfl⟩ := q14
        refine go (g' := (mkF m 353 #[vI p1, vI p2, vI p3, vI p4, vI p5, vI (1 : Int32), vI c1, vI c2, vI c3, vI qv, vI ld, vI tr, vR x4, vI (Int32.ofNat (w1 ++ body ++ w2).length), vR x6, vR x8, vR x10] [(.ref y10)])) (st14) ?_
        refine go (g' := (mkF m 355 #[vI p1, vI p2, vI p3, vI p4, vI p5, vI (1 : Int32), vI c1, vI c2, vI c3, vI qv, vI ld, vI tr, vR x4, vI (Int32.ofNat (w1 ++ body ++ w2).length), vR x6, vR x8, vR x10] [(.ref x8), (.ref y10)])) (fun _ k => XS.aload W14.here hx rfl (hb hby at_353) rfl rfl k) ?_
        have X16 : Ext h8 h10 := own_xt (own_xr h8) E10
        have f17 : Str Z h10 x8 [c1] := S8.ext X16
        obtain ⟨b15, T15, hb15, W15, st15⟩ := own_seq W14 hx (own_weq C) (w137 C) (w138 C) (w140 C) (w139 C) (w13 C) S10 f17 C.cs (nle rfl) (nle rfl) (Wd := 0) (nle rfl) (nle rfl) (nle rfl) (nle rfl) (g := (mkF m 355 #[vI p1, vI p2, vI p3, vI p4, vI p5, vI (1 : Int32), vI c1, vI c2, vI c3, vI qv, vI ld, vI tr, vR x4, vI (Int32.ofNat (w1 ++ body ++ w2).length), vR x6, vR x8, vR x10] [(.ref x8), (.ref y10)])) rfl (by rw [hml]; rfl) rfl (nle rfl) (hb hby at_355)
        refine go (g' := (mkF m 358 #[vI p1, vI p2, vI p3, vI p4, vI p5, vI (1 : Int32), vI c1, vI c2, vI c3, vI qv, vI ld, vI tr, vR x4, vI (Int32.ofNat (w1 ++ body ++ w2).length), vR x6, vR x8, vR x10] [(.int b15)])) (st15) ?_
        exact fin (v := some (.int b15)) (so := []) W15 (nle rfl) (nle rfl) (own_b1r hb15) (fun _ q => nomatch q) (fun q => nomatch q) (own_retI W15 hx hret (by decide) (own_bz hb15).1 (hb hby at_358))
      · show G T6 (mkF m 267 #[vI p1, vI p2, vI p3, vI p4, vI p5, vI (2 : Int32), vI c1, vI c2, vI c3, vI qv, vI ld, vI tr, vR x4, vI (Int32.ofNat (w1 ++ body ++ w2).length), vR x6, .unset, .unset] [])
        refine go (g' := (mkF m 289 #[vI p1, vI p2, vI p3, vI p4, vI p5, vI (2 : Int32), vI c1, vI c2, vI c3, vI qv, vI ld, vI tr, vR x4, vI (Int32.ofNat (w1 ++ body ++ w2).length), vR x6, .unset, .unset] [])) (fun _ k => XS.iload W6.here hx rfl (hb hby at_267) rfl (XS.iconst W6.here hx rfl (hb hby at_269) (XS.icmpYes W6.here hx rfl (pc0 := 270) (pc' := 283) rfl (hb hby at_270) rfl (feq ((by decide) : ¬ ((2 : Int32) = (1 : Int32)))).2 (by decide) (by decide) (XS.iload W6.here hx rfl (hb hby at_283) rfl (XS.iconst W6.here hx rfl (hb hby at_285) (XS.icmpNo W6.here hx rfl (hb hby at_286) rfl (teq ((by decide) : (2 : Int32) = (2 : Int32))).2 k)))))) ?_
        obtain ⟨x18, T18, h18, g18, W18, E18, A18, D18, U18, st18⟩ := own_new W6 hx (w12 C) (w13 C) (w14 C) (g := (mkF m 289 #[vI p1, vI p2, vI p3, vI p4, vI p5, vI (2 : Int32), vI c1, vI c2, vI c3, vI qv, vI ld, vI tr, vR x4, vI (Int32.ofNat (w1 ++ body ++ w2).length), vR x6, .unset, .unset] [])) rfl (hb hby at_289) (nle rfl) (nle rfl)
        have z19 : h6.size ≤ h18.size := E18.1
        have l18 : ltN x18 h18.size := A18.lt
        have F18_coder : Fld Z h18 x18 "java/lang/String" "coder" "B" vZ := D18 (Or.inr (w38 C)) (ty := .byte) (by decide)
        have F18_value : Fld Z h18 x18 "java/lang/String" "value" "[B" .null := D18 (Or.inr (w40 C)) (ty := (.array .byte)) (by decide)
        refine go (g' := (mkF m 292 #[vI p1, vI p2, vI p3, vI p4, vI p5, vI (2 : Int32), vI c1, vI c2, vI c3, vI qv, vI ld, vI tr, vR x4, vI (Int32.ofNat (w1 ++ body ++ w2).length), vR x6, .unset, .unset] [(.ref x18)])) (st18) ?_
        refine go (g' := (mkF m 294 #[vI p1, vI p2, vI p3, vI p4, vI p5, vI (2 : Int32), vI c1, vI c2, vI c3, vI qv, vI ld, vI tr, vR x4, vI (Int32.ofNat (w1 ++ body ++ w2).length), vR x6, .unset, .unset] [(.int (2 : Int32)), (.ref x18), (.ref x18)])) (fun _ k => XS.dup W18.here hx rfl (hb hby at_292) rfl rfl (XS.iconst W18.here hx rfl (hb hby at_293) k)) ?_
        obtain ⟨x20, T20, h20, k20, g20, W20, E20, A20, st20⟩ := own_newP W18 hx (aty := .char) (w5 C) (g := (mkF m 294 #[vI p1, vI p2, vI p3, vI p4, vI p5, vI (2 : Int32), vI c1, vI c2, vI c3, vI qv, vI ld, vI tr, vR x4, vI (Int32.ofNat (w1 ++ body ++ w2).length), vR x6, .unset, .unset] [(.int (2 : Int32)), (.ref x18), (.ref x18)])) rfl (hb hby at_294) rfl (by decide) (cap := 2) (by decide) (nle rfl) (nle rfl) (nle rfl)
        have z21 : h18.size ≤ h20.size := E20.1
        have l20 : ltN x20 h20.size := A20.lt
        have V20 : Arv Z h20 x20 k20 .char (2 : Int32) [vZ, vZ] vZ := A20.pad (pad_rep [] vZ 2)
        refine go (g' := (mkF m 296 #[vI p1, vI p2, vI p3, vI p4, vI p5, vI (2 : Int32), vI c1, vI c2, vI c3, vI qv, vI ld, vI tr, vR x4, vI (Int32.ofNat (w1 ++ body ++ w2).length), vR x6, .unset, .unset] [(.ref x20), (.ref x18), (.ref x18)])) (st20) ?_
        refine go (g' := (mkF m 300 #[vI p1, vI p2, vI p3, vI p4, vI p5, vI (2 : Int32), vI c1, vI c2, vI c3, vI qv, vI ld, vI tr, vR x4, vI (Int32.ofNat (w1 ++ body ++ w2).length), vR x6, .unset, .unset] [(.int c1), vZ, (.ref x20), (.ref x20), (.ref x18), (.ref x18)])) (fun _ k => XS.dup W20.here hx rfl (hb hby at_296) rfl rfl (XS.iconst W20.here hx rfl (hb hby at_297) (XS.iload W20.here hx rfl (hb hby at_298) rfl k))) ?_
        obtain ⟨T22, h22, W22, R22, V22, st22⟩ := own_stC W20 hx V20 (by omega) (j := (0 : Int32)) (i := 0) ⟨by decide, by decide⟩ rfl (nle rfl) (own_up (own_pr hk1)) (g := (mkF m 300 #[vI p1, vI p2, vI p3, vI p4, vI p5, vI (2 : Int32), vI c1, vI c2, vI c3, vI qv, vI ld, vI tr, vR x4, vI (Int32.ofNat (w1 ++ body ++ w2).length), vR x6, .unset, .unset] [(.int c1), vZ, (.ref x20), (.ref x20), (.ref x18), (.ref x18)])) rfl rfl (hb hby at_300)
        have z23 : h22.size = h20.size := R22.size
        have U22 : Arv Z h22 x20 k20 .char (2 : Int32) [(.int c1), vZ] vZ := V22
        refine go (g' := (mkF m 301 #[vI p1, vI p2, vI p3, vI p4, vI p5, vI (2 : Int32), vI c1, vI c2, vI c3, vI qv, vI ld, vI tr, vR x4, vI (Int32.ofNat (w1 ++ body ++ w2).length), vR x6, .unset, .unset] [(.ref x20), (.ref x18), (.ref x18)])) (st22) ?_
        refine go (g' := (mkF m 305 #[vI p1, vI p2, vI p3, vI p4, vI p5, vI (2 : Int32), vI c1, vI c2, vI c3, vI qv, vI ld, vI tr, vR x4, vI (Int32.ofNat (w1 ++ body ++ w2).length), vR x6, .unset, .unset] [(.int c2), (.int (1 : Int32)), (.ref x20), (.ref x20), (.ref x18), (.ref x18)])) (fun _ k => XS.dup W22.here hx rfl (hb hby at_301) rfl rfl (XS.iconst W22.here hx rfl (hb hby at_302) (XS.iload W22.here hx rfl (hb hby at_303) rfl k))) ?_
        obtain ⟨T24, h24, W24, R24, V24, st24⟩ := own_stC W22 hx U22 (by omega) (j := (1 : Int32)) (i := 1) ⟨by decide, by decide⟩ rfl (nle rfl) (own_up (own_pr hk2)) (g := (mkF m 305 #[vI p1, vI p2, vI p3, vI p4, vI p5, vI (2 : Int32), vI c1, vI c2, vI c3, vI qv, vI ld, vI tr, vR x4, vI (Int32.ofNat (w1 ++ body ++ w2).length), vR x6, .unset, .unset] [(.int c2), (.int (1 : Int32)), (.ref x20), (.ref x20), (.ref x18), (.ref x18)])) rfl rfl (hb hby at_305)
        have z25 : h24.size = h22.size := R24.size
        have U24 : Arv Z h24 x20 k20 .char (2 : Int32) [(.int c1), (.int c2)] vZ := V24
        refine go (g' := (mkF m 306 #[vI p1, vI p2, vI p3, vI p4, vI p5, vI (2 : Int32), vI c1, vI c2, vI c3, vI qv, vI ld, vI tr, vR x4, vI (Int32.ofNat (w1 ++ body ++ w2).length), vR x6, .unset, .unset] [(.ref x20), (.ref x18), (.ref x18)])) (st24) ?_
        have X27 : Ext h6 h18 := own_xt (own_xr h6) E18
        have X28 : Ext h6 h20 := own_xt X27 E20
        have X29 : Ext h6 h22 := own_xw X28 R22 (by omega)
        have X30 : Ext h6 h24 := own_xw X29 R24 (by omega)
        have X31 : Ext h18 h20 := own_xt (own_xr h18) E20
        have X32 : Ext h18 h22 := own_xw X31 R22 (by omega)
        have X33 : Ext h18 h24 := own_xw X32 R24 (by omega)
        have f34 : Exa Z h24 x18 "java/lang/String" := A18.ext X33
        have f35 : Fld Z h24 x18 "java/lang/String" "value" "[B" .null := F18_value.ext X33
        have f36 : Fld Z h24 x18 "java/lang/String" "coder" "B" vZ := F18_coder.ext X33
        obtain ⟨T26, h26, W26, K26, S26, st26⟩ := own_strNew W24 hx (own_ws C) (w15 C) (w16 C) (w17 C) (w13 C) f34 f35 f36 (cs := [c1, c2]) U24 rfl C.cs (nle rfl) (nle rfl) (own_alS (own_pr hk1) (own_alS (own_pr hk2) own_al0)) (own_safeB W6 X30 (by omega)) (by omega) (Wd := 1) (nle rfl) (nle rfl) (nle rfl) (nle rfl) (g := (mkF m 306 #[vI p1, vI p2, vI p3, vI p4, vI p5, vI (2 : Int32), vI c1, vI c2, vI c3, vI qv, vI ld, vI tr, vR x4, vI (Int32.ofNat (w1 ++ body ++ w2).length), vR x6, .unset, .unset] [(.ref x20), (.ref x18), (.ref x18)])) rfl (by rw [hml]; rfl) rfl (nle rfl) (hb hby at_306)
        have z37 : h24.size ≤ h26.size := K26.1
        refine go (g' := (mkF m 309 #[vI p1, vI p2, vI p3, vI p4, vI p5, vI (2 : Int32), vI c1, vI c2, vI c3, vI qv, vI ld, vI tr, vR x4, vI (Int32.ofNat (w1 ++ body ++ w2).length), vR x6, .unset, .unset] [(.ref x18)])) (st26) ?_
        refine go (g' := (mkF m 343 #[vI p1, vI p2, vI p3, vI p4, vI p5, vI (2 : Int32), vI c1, vI c2, vI c3, vI qv, vI ld, vI tr, vR x4, vI (Int32.ofNat (w1 ++ body ++ w2).length), vR x6, vR x18, .unset] [(.ref x6)])) (fun _ k => XS.astore W26.here hx rfl (hb hby at_309) rfl rfl (l' := #[vI p1, vI p2, vI p3, vI p4, vI p5, vI (2 : Int32), vI c1, vI c2, vI c3, vI qv, vI ld, vI tr, vR x4, vI (Int32.ofNat (w1 ++ body ++ w2).length), vR x6, vR x18, .unset]) rfl (XS.goto W26.here hx rfl (pc0 := 311) (pc' := 341) rfl (hb hby at_311) (by decide) (by decide) (XS.aload W26.here hx rfl (hb hby at_341) rfl rfl k))) ?_
        have X39 : Ext h6 h26 := own_xk X30 K26 (allS (by omega) all0)
        have f40 : Str Z h26 x6 (w1 ++ body ++ w2) := S6.ext X39
        obtain ⟨v38, so38, vm38, T38, h38, W38, C38, q38, hso38, st38⟩ := own_static W26 hx (y := (⟨"com/example/inchworm/inchworm/core/IdempotencyKey", "parseHeader", "(Ljava/lang/String;)Lcom/example/inchworm/inchworm/core/IdempotencyKey;"⟩ : MethodName)) (w55 C) (w56 C) (w57 C) (w58 C) (by decide) (rm_parse C h26 x6 _ [c1, c2] _ f40 _ _ (own_lay hw1 hw2 hB hk hkz hLL) (own_mid _ _ _) hB hk hkz) (fun _ q => nomatch q) (Wd := 0) (nle rfl) (nle rfl) (nle rfl) (nle rfl) (g := (mkF m 343 #[vI p1, vI p2, vI p3, vI p4, vI p5, vI (2 : Int32), vI c1, vI c2, vI c3, vI qv, vI ld, vI tr, vR x4, vI (Int32.ofNat (w1 ++ body ++ w2).length), vR x6, vR x18, .unset] [(.ref x6)])) rfl (by rw [hml]; rfl) (argsL := [(.ref x6)]) (rest := []) (lenOf pd_22 rfl) rfl rfl (nle rfl) (hb hby at_343)
        obtain ⟨x38, y38, rfl, E38, A38, F38, S38⟩ := q38
        have z41 : h26.size ≤ h38.size := E38.1
        refine go (g' := (mkF m 346 #[vI p1, vI p2, vI p3, vI p4, vI p5, vI (2 : Int32), vI c1, vI c2, vI c3, vI qv, vI ld, vI tr, vR x4, vI (Int32.ofNat (w1 ++ body ++ w2).length), vR x6, vR x18, .unset] [(.ref x38)])) (st38) ?_
        refine go (g' := (mkF m 350 #[vI p1, vI p2, vI p3, vI p4, vI p5, vI (2 : Int32), vI c1, vI c2, vI c3, vI qv, vI ld, vI tr, vR x4, vI (Int32.ofNat (w1 ++ body ++ w2).length), vR x6, vR x18, vR x38] [(.ref x38)])) (fun _ k => XS.astore W38.here hx rfl (hb hby at_346) rfl rfl (l' := #[vI p1, vI p2, vI p3, vI p4, vI p5, vI (2 : Int32), vI c1, vI c2, vI c3, vI qv, vI ld, vI tr, vR x4, vI (Int32.ofNat (w1 ++ body ++ w2).length), vR x6, vR x18, vR x38]) rfl (XS.aload W38.here hx rfl (hb hby at_348) rfl rfl k)) ?_
        obtain ⟨v42, so42, vm42, T42, h42, W42, C42, q42, hso42, st42⟩ := own_virtual W38 hx (y := (⟨"com/example/inchworm/inchworm/core/IdempotencyKey", "value", "()Ljava/lang/String;"⟩ : MethodName)) (z := (⟨"com/example/inchworm/inchworm/core/IdempotencyKey", "value", "()Ljava/lang/String;"⟩ : MethodName)) (w132 C) (w133 C) (w135 C) (w134 C) (w57 C) (w136 C) (by decide) (own_nf W38 (w135 C)) A38 (rm_get27 C h38 x38 (.ref y38) rfl F38) (fun _ q => nomatch q) (Wd := 0) (nle rfl) (nle rfl) (nle rfl) (nle rfl) (g := (mkF m 350 #[vI p1, vI p2, vI p3, vI p4, vI p5, vI (2 : Int32), vI c1, vI c2, vI c3, vI qv, vI ld, vI tr, vR x4, vI (Int32.ofNat (w1 ++ body ++ w2).length), vR x6, vR x18, vR x38] [(.ref x38)])) rfl (by rw [hml]; rfl) (argsL := []) (rest := []) (lenOf pd_19 rfl) rfl rfl (nle rfl) (hb hby at_350)
        obtain ⟨rfl, rfl⟩ := q42
        refine go (g' := (mkF m 353 #[vI p1, vI p2, vI p3, vI p4, vI p5, vI (2 : Int32), vI c1, vI c2, vI c3, vI qv, vI ld, vI tr, vR x4, vI (Int32.ofNat (w1 ++ body ++ w2).length), vR x6, vR x18, vR x38] [(.ref y38)])) (st42) ?_
        refine go (g' := (mkF m 355 #[vI p1, vI p2, vI p3, vI p4, vI p5, vI (2 : Int32), vI c1, vI c2, vI c3, vI qv, vI ld, vI tr, vR x4, vI (Int32.ofNat (w1 ++ body ++ w2).length), vR x6, vR x18, vR x38] [(.ref x18), (.ref y38)])) (fun _ k => XS.aload W42.here hx rfl (hb hby at_353) rfl rfl k) ?_
        have X44 : Ext h26 h38 := own_xt (own_xr h26) E38
        have f45 : Str Z h38 x18 [c1, c2] := S26.ext X44
        obtain ⟨b43, T43, hb43, W43, st43⟩ := own_seq W42 hx (own_weq C) (w137 C) (w138 C) (w140 C) (w139 C) (w13 C) S38 f45 C.cs (nle rfl) (nle rfl) (Wd := 0) (nle rfl) (nle rfl) (nle rfl) (nle rfl) (g := (mkF m 355 #[vI p1, vI p2, vI p3, vI p4, vI p5, vI (2 : Int32), vI c1, vI c2, vI c3, vI qv, vI ld, vI tr, vR x4, vI (Int32.ofNat (w1 ++ body ++ w2).length), vR x6, vR x18, vR x38] [(.ref x18), (.ref y38)])) rfl (by rw [hml]; rfl) rfl (nle rfl) (hb hby at_355)
        refine go (g' := (mkF m 358 #[vI p1, vI p2, vI p3, vI p4, vI p5, vI (2 : Int32), vI c1, vI c2, vI c3, vI qv, vI ld, vI tr, vR x4, vI (Int32.ofNat (w1 ++ body ++ w2).length), vR x6, vR x18, vR x38] [(.int b43)])) (st43) ?_
        exact fin (v := some (.int b43)) (so := []) W43 (nle rfl) (nle rfl) (own_b1r hb43) (fun _ q => nomatch q) (fun q => nomatch q) (own_retI W43 hx hret (by decide) (own_bz hb43).1 (hb hby at_358))
      · show G T6 (mkF m 267 #[vI p1, vI p2, vI p3, vI p4, vI p5, vI (3 : Int32), vI c1, vI c2, vI c3, vI qv, vI ld, vI tr, vR x4, vI (Int32.ofNat (w1 ++ body ++ w2).length), vR x6, .unset, .unset] [])
        refine go (g' := (mkF m 314 #[vI p1, vI p2, vI p3, vI p4, vI p5, vI (3 : Int32), vI c1, vI c2, vI c3, vI qv, vI ld, vI tr, vR x4, vI (Int32.ofNat (w1 ++ body ++ w2).length), vR x6, .unset, .unset] [])) (fun _ k => XS.iload W6.here hx rfl (hb hby at_267) rfl (XS.iconst W6.here hx rfl (hb hby at_269) (XS.icmpYes W6.here hx rfl (pc0 := 270) (pc' := 283) rfl (hb hby at_270) rfl (feq ((by decide) : ¬ ((3 : Int32) = (1 : Int32)))).2 (by decide) (by decide) (XS.iload W6.here hx rfl (hb hby at_283) rfl (XS.iconst W6.here hx rfl (hb hby at_285) (XS.icmpYes W6.here hx rfl (pc0 := 286) (pc' := 314) rfl (hb hby at_286) rfl (feq ((by decide) : ¬ ((3 : Int32) = (2 : Int32)))).2 (by decide) (by decide) k)))))) ?_
        obtain ⟨x46, T46, h46, g46, W46, E46, A46, D46, U46, st46⟩ := own_new W6 hx (w12 C) (w13 C) (w14 C) (g := (mkF m 314 #[vI p1, vI p2, vI p3, vI p4, vI p5, vI (3 : Int32), vI c1, vI c2, vI c3, vI qv, vI ld, vI tr, vR x4, vI (Int32.ofNat (w1 ++ body ++ w2).length), vR x6, .unset, .unset] [])) rfl (hb hby at_314) (nle rfl) (nle rfl)
        have z47 : h6.size ≤ h46.size := E46.1
        have l46 : ltN x46 h46.size := A46.lt
        have F46_coder : Fld Z h46 x46 "java/lang/String" "coder" "B" vZ := D46 (Or.inr (w38 C)) (ty := .byte) (by decide)
        have F46_value : Fld Z h46 x46 "java/lang/String" "value" "[B" .null := D46 (Or.inr (w40 C)) (ty := (.array .byte)) (by decide)
        refine go (g' := (mkF m 317 #[vI p1, vI p2, vI p3, vI p4, vI p5, vI (3 : Int32), vI c1, vI c2, vI c3, vI qv, vI ld, vI tr, vR x4, vI (Int32.ofNat (w1 ++ body ++ w2).length), vR x6, .unset, .unset] [(.ref x46)])) (st46) ?_
        refine go (g' := (mkF m 319 #[vI p1, vI p2, vI p3, vI p4, vI p5, vI (3 : Int32), vI c1, vI c2, vI c3, vI qv, vI ld, vI tr, vR x4, vI (Int32.ofNat (w1 ++ body ++ w2).length), vR x6, .unset, .unset] [(.int (3 : Int32)), (.ref x46), (.ref x46)])) (fun _ k => XS.dup W46.here hx rfl (hb hby at_317) rfl rfl (XS.iconst W46.here hx rfl (hb hby at_318) k)) ?_
        obtain ⟨x48, T48, h48, k48, g48, W48, E48, A48, st48⟩ := own_newP W46 hx (aty := .char) (w5 C) (g := (mkF m 319 #[vI p1, vI p2, vI p3, vI p4, vI p5, vI (3 : Int32), vI c1, vI c2, vI c3, vI qv, vI ld, vI tr, vR x4, vI (Int32.ofNat (w1 ++ body ++ w2).length), vR x6, .unset, .unset] [(.int (3 : Int32)), (.ref x46), (.ref x46)])) rfl (hb hby at_319) rfl (by decide) (cap := 3) (by decide) (nle rfl) (nle rfl) (nle rfl)
        have z49 : h46.size ≤ h48.size := E48.1
        have l48 : ltN x48 h48.size := A48.lt
        have V48 : Arv Z h48 x48 k48 .char (3 : Int32) [vZ, vZ, vZ] vZ := A48.pad (pad_rep [] vZ 3)
        refine go (g' := (mkF m 321 #[vI p1, vI p2, vI p3, vI p4, vI p5, vI (3 : Int32), vI c1, vI c2, vI c3, vI qv, vI ld, vI tr, vR x4, vI (Int32.ofNat (w1 ++ body ++ w2).length), vR x6, .unset, .unset] [(.ref x48), (.ref x46), (.ref x46)])) (st48) ?_
        refine go (g' := (mkF m 325 #[vI p1, vI p2, vI p3, vI p4, vI p5, vI (3 : Int32), vI c1, vI c2, vI c3, vI qv, vI ld, vI tr, vR x4, vI (Int32.ofNat (w1 ++ body ++ w2).length), vR x6, .unset, .unset] [(.int c1), vZ, (.ref x48), (.ref x48), (.ref x46), (.ref x46)])) (fun _ k => XS.dup W48.here hx rfl (hb hby at_321) rfl rfl (XS.iconst W48.here hx rfl (hb hby at_322) (XS.iload W48.here hx rfl (hb hby at_323) rfl k))) ?_
        obtain ⟨T50, h50, W50, R50, V50, st50⟩ := own_stC W48 hx V48 (by omega) (j := (0 : Int32)) (i := 0) ⟨by decide, by decide⟩ rfl (nle rfl) (own_up (own_pr hk1)) (g := (mkF m 325 #[vI p1, vI p2, vI p3, vI p4, vI p5, vI (3 : Int32), vI c1, vI c2, vI c3, vI qv, vI ld, vI tr, vR x4, vI (Int32.ofNat (w1 ++ body ++ w2).length), vR x6, .unset, .unset] [(.int c1), vZ, (.ref x48), (.ref x48), (.ref x46), (.ref x46)])) rfl rfl (hb hby at_325)
        have z51 : h50.size = h48.size := R50.size
        have U50 : Arv Z h50 x48 k48 .char (3 : Int32) [(.int c1), vZ, vZ] vZ := V50
        refine go (g' := (mkF m 326 #[vI p1, vI p2, vI p3, vI p4, vI p5, vI (3 : Int32), vI c1, vI c2, vI c3, vI qv, vI ld, vI tr, vR x4, vI (Int32.ofNat (w1 ++ body ++ w2).length), vR x6, .unset, .unset] [(.ref x48), (.ref x46), (.ref x46)])) (st50) ?_
        refine go (g' := (mkF m 330 #[vI p1, vI p2, vI p3, vI p4, vI p5, vI (3 : Int32), vI c1, vI c2, vI c3, vI qv, vI ld, vI tr, vR x4, vI (Int32.ofNat (w1 ++ body ++ w2).length), vR x6, .unset, .unset] [(.int c2), (.int (1 : Int32)), (.ref x48), (.ref x48), (.ref x46), (.ref x46)])) (fun _ k => XS.dup W50.here hx rfl (hb hby at_326) rfl rfl (XS.iconst W50.here hx rfl (hb hby at_327) (XS.iload W50.here hx rfl (hb hby at_328) rfl k))) ?_
        obtain ⟨T52, h52, W52, R52, V52, st52⟩ := own_stC W50 hx U50 (by omega) (j := (1 : Int32)) (i := 1) ⟨by decide, by decide⟩ rfl (nle rfl) (own_up (own_pr hk2)) (g := (mkF m 330 #[vI p1, vI p2, vI p3, vI p4, vI p5, vI (3 : Int32), vI c1, vI c2, vI c3, vI qv, vI ld, vI tr, vR x4, vI (Int32.ofNat (w1 ++ body ++ w2).length), vR x6, .unset, .unset] [(.int c2), (.int (1 : Int32)), (.ref x48), (.ref x48), (.ref x46), (.ref x46)])) rfl rfl (hb hby at_330)
        have z53 : h52.size = h50.size := R52.size
        have U52 : Arv Z h52 x48 k48 .char (3 : Int32) [(.int c1), (.int c2), vZ] vZ := V52
        refine go (g' := (mkF m 331 #[vI p1, vI p2, vI p3, vI p4, vI p5, vI (3 : Int32), vI c1, vI c2, vI c3, vI qv, vI ld, vI tr, vR x4, vI (Int32.ofNat (w1 ++ body ++ w2).length), vR x6, .unset, .unset] [(.ref x48), (.ref x46), (.ref x46)])) (st52) ?_
        refine go (g' := (mkF m 335 #[vI p1, vI p2, vI p3, vI p4, vI p5, vI (3 : Int32), vI c1, vI c2, vI c3, vI qv, vI ld, vI tr, vR x4, vI (Int32.ofNat (w1 ++ body ++ w2).length), vR x6, .unset, .unset] [(.int c3), (.int (2 : Int32)), (.ref x48), (.ref x48), (.ref x46), (.ref x46)])) (fun _ k => XS.dup W52.here hx rfl (hb hby at_331) rfl rfl (XS.iconst W52.here hx rfl (hb hby at_332) (XS.iload W52.here hx rfl (hb hby at_333) rfl k))) ?_
        obtain ⟨T54, h54, W54, R54, V54, st54⟩ := own_stC W52 hx U52 (by omega) (j := (2 : Int32)) (i := 2) ⟨by decide, by decide⟩ rfl (nle rfl) (own_up (own_pr hk3)) (g := (mkF m 335 #[vI p1, vI p2, vI p3, vI p4, vI p5, vI (3 : Int32), vI c1, vI c2, vI c3, vI qv, vI ld, vI tr, vR x4, vI (Int32.ofNat (w1 ++ body ++ w2).length), vR x6, .unset, .unset] [(.int c3), (.int (2 : Int32)), (.ref x48), (.ref x48), (.ref x46), (.ref x46)])) rfl rfl (hb hby at_335)
        have z55 : h54.size = h52.size := R54.size
        have U54 : Arv Z h54 x48 k48 .char (3 : Int32) [(.int c1), (.int c2), (.int c3)] vZ := V54
        refine go (g' := (mkF m 336 #[vI p1, vI p2, vI p3, vI p4, vI p5, vI (3 : Int32), vI c1, vI c2, vI c3, vI qv, vI ld, vI tr, vR x4, vI (Int32.ofNat (w1 ++ body ++ w2).length), vR x6, .unset, .unset] [(.ref x48), (.ref x46), (.ref x46)])) (st54) ?_
        have X57 : Ext h6 h46 := own_xt (own_xr h6) E46
        have X58 : Ext h6 h48 := own_xt X57 E48
        have X59 : Ext h6 h50 := own_xw X58 R50 (by omega)
        have X60 : Ext h6 h52 := own_xw X59 R52 (by omega)
        have X61 : Ext h6 h54 := own_xw X60 R54 (by omega)
        have X62 : Ext h46 h48 := own_xt (own_xr h46) E48
        have X63 : Ext h46 h50 := own_xw X62 R50 (by omega)
        have X64 : Ext h46 h52 := own_xw X63 R52 (by omega)
        have X65 : Ext h46 h54 := own_xw X64 R54 (by omega)
        have f66 : Exa Z h54 x46 "java/lang/String" := A46.ext X65
        have f67 : Fld Z h54 x46 "java/lang/String" "value" "[B" .null := F46_value.ext X65
        have f68 : Fld Z h54 x46 "java/lang/String" "coder" "B" vZ := F46_coder.ext X65
        obtain ⟨T56, h56, W56, K56, S56, st56⟩ := own_strNew W54 hx (own_ws C) (w15 C) (w16 C) (w17 C) (w13 C) f66 f67 f68 (cs := [c1, c2, c3]) U54 rfl C.cs (nle rfl) (nle rfl) (own_alS (own_pr hk1) (own_alS (own_pr hk2) (own_alS (own_pr hk3) own_al0))) (own_safeB W6 X61 (by omega)) (by omega) (Wd := 1) (nle rfl) (nle rfl) (nle rfl) (nle rfl) (g := (mkF m 336 #[vI p1, vI p2, vI p3, vI p4, vI p5, vI (3 : Int32), vI c1, vI c2, vI c3, vI qv, vI ld, vI tr, vR x4, vI (Int32.ofNat (w1 ++ body ++ w2).length), vR x6, .unset, .unset] [(.ref x48), (.ref x46), (.ref x46)])) rfl (by rw [hml]; rfl) rfl (nle rfl) (hb hby at_336)
        have z69 : h54.size ≤ h56.size := K56.1
        refine go (g' := (mkF m 339 #[vI p1, vI p2, vI p3, vI p4, vI p5, vI (3 : Int32), vI c1, vI c2, vI c3, vI qv, vI ld, vI tr, vR x4, vI (Int32.ofNat (w1 ++ body ++ w2).length), vR x6, .unset, .unset] [(.ref x46)])) (st56) ?_
        refine go (g' := (mkF m 343 #[vI p1, vI p2, vI p3, vI p4, vI p5, vI (3 : Int32), vI c1, vI c2, vI c3, vI qv, vI ld, vI tr, vR x4, vI (Int32.ofNat (w1 ++ body ++ w2).length), vR x6, vR x46, .unset] [(.ref x6)])) (fun _ k => XS.astore W56.here hx rfl (hb hby at_339) rfl rfl (l' := #[vI p1, vI p2, vI p3, vI p4, vI p5, vI (3 : Int32), vI c1, vI c2, vI c3, vI qv, vI ld, vI tr, vR x4, vI (Int32.ofNat (w1 ++ body ++ w2).length), vR x6, vR x46, .unset]) rfl (XS.aload W56.here hx rfl (hb hby at_341) rfl rfl k)) ?_
        have X71 : Ext h6 h56 := own_xk X61 K56 (allS (by omega) all0)
        have f72 : Str Z h56 x6 (w1 ++ body ++ w2) := S6.ext X71
        obtain ⟨v70, so70, vm70, T70, h70, W70, C70, q70, hso70, st70⟩ := own_static W56 hx (y := (⟨"com/example/inchworm/inchworm/core/IdempotencyKey", "parseHeader", "(Ljava/lang/String;)Lcom/example/inchworm/inchworm/core/IdempotencyKey;"⟩ : MethodName)) (w55 C) (w56 C) (w57 C) (w58 C) (by decide) (rm_parse C h56 x6 _ [c1, c2, c3] _ f72 _ _ (own_lay hw1 hw2 hB hk hkz hLL) (own_mid _ _ _) hB hk hkz) (fun _ q => nomatch q) (Wd := 0) (nle rfl) (nle rfl) (nle rfl) (nle rfl) (g := (mkF m 343 #[vI p1, vI p2, vI p3, vI p4, vI p5, vI (3 : Int32), vI c1, vI c2, vI c3, vI qv, vI ld, vI tr, vR x4, vI (Int32.ofNat (w1 ++ body ++ w2).length), vR x6, vR x46, .unset] [(.ref x6)])) rfl (by rw [hml]; rfl) (argsL := [(.ref x6)]) (rest := []) (lenOf pd_22 rfl) rfl rfl (nle rfl) (hb hby at_343)
        obtain ⟨x70, y70, rfl, E70, A70, F70, S70⟩ := q70
        have z73 : h56.size ≤ h70.size := E70.1
        refine go (g' := (mkF m 346 #[vI p1, vI p2, vI p3, vI p4, vI p5, vI (3 : Int32), vI c1, vI c2, vI c3, vI qv, vI ld, vI tr, vR x4, vI (Int32.ofNat (w1 ++ body ++ w2).length), vR x6, vR x46, .unset] [(.ref x70)])) (st70) ?_
        refine go (g' := (mkF m 350 #[vI p1, vI p2, vI p3, vI p4, vI p5, vI (3 : Int32), vI c1, vI c2, vI c3, vI qv, vI ld, vI tr, vR x4, vI (Int32.ofNat (w1 ++ body ++ w2).length), vR x6, vR x46, vR x70] [(.ref x70)])) (fun _ k => XS.astore W70.here hx rfl (hb hby at_346) rfl rfl (l' := #[vI p1, vI p2, vI p3, vI p4, vI p5, vI (3 : Int32), vI c1, vI c2, vI c3, vI qv, vI ld, vI tr, vR x4, vI (Int32.ofNat (w1 ++ body ++ w2).length), vR x6, vR x46, vR x70]) rfl (XS.aload W70.here hx rfl (hb hby at_348) rfl rfl k)) ?_
        obtain ⟨v74, so74, vm74, T74, h74, W74, C74, q74, hso74, st74⟩ := own_virtual W70 hx (y := (⟨"com/example/inchworm/inchworm/core/IdempotencyKey", "value", "()Ljava/lang/String;"⟩ : MethodName)) (z := (⟨"com/example/inchworm/inchworm/core/IdempotencyKey", "value", "()Ljava/lang/String;"⟩ : MethodName)) (w132 C) (w133 C) (w135 C) (w134 C) (w57 C) (w136 C) (by decide) (own_nf W70 (w135 C)) A70 (rm_get27 C h70 x70 (.ref y70) rfl F70) (fun _ q => nomatch q) (Wd := 0) (nle rfl) (nle rfl) (nle rfl) (nle rfl) (g := (mkF m 350 #[vI p1, vI p2, vI p3, vI p4, vI p5, vI (3 : Int32), vI c1, vI c2, vI c3, vI qv, vI ld, vI tr, vR x4, vI (Int32.ofNat (w1 ++ body ++ w2).length), vR x6, vR x46, vR x70] [(.ref x70)])) rfl (by rw [hml]; rfl) (argsL := []) (rest := []) (lenOf pd_19 rfl) rfl rfl (nle rfl) (hb hby at_350)
        obtain ⟨rfl, rfl⟩ := q74
        refine go (g' := (mkF m 353 #[vI p1, vI p2, vI p3, vI p4, vI p5, vI (3 : Int32), vI c1, vI c2, vI c3, vI qv, vI ld, vI tr, vR x4, vI (Int32.ofNat (w1 ++ body ++ w2).length), vR x6, vR x46, vR x70] [(.ref y70)])) (st74) ?_
        refine go (g' := (mkF m 355 #[vI p1, vI p2, vI p3, vI p4, vI p5, vI (3 : Int32), vI c1, vI c2, vI c3, vI qv, vI ld, vI tr, vR x4, vI (Int32.ofNat (w1 ++ body ++ w2).length), vR x6, vR x46, vR x70] [(.ref x46), (.ref y70)])) (fun _ k => XS.aload W74.here hx rfl (hb hby at_353) rfl rfl k) ?_
        have X76 : Ext h56 h70 := own_xt (own_xr h56) E70
        have f77 : Str Z h70 x46 [c1, c2, c3] := S56.ext X76
        obtain ⟨b75, T75, hb75, W75, st75⟩ := own_seq W74 hx (own_weq C) (w137 C) (w138 C) (w140 C) (w139 C) (w13 C) S70 f77 C.cs (nle rfl) (nle rfl) (Wd := 0) (nle rfl) (nle rfl) (nle rfl) (nle rfl) (g := (mkF m 355 #[vI p1, vI p2, vI p3, vI p4, vI p5, vI (3 : Int32), vI c1, vI c2, vI c3, vI qv, vI ld, vI tr, vR x4, vI (Int32.ofNat (w1 ++ body ++ w2).length), vR x6, vR x46, vR x70] [(.ref x46), (.ref y70)])) rfl (by rw [hml]; rfl) rfl (nle rfl) (hb hby at_355)
        refine go (g' := (mkF m 358 #[vI p1, vI p2, vI p3, vI p4, vI p5, vI (3 : Int32), vI c1, vI c2, vI c3, vI qv, vI ld, vI tr, vR x4, vI (Int32.ofNat (w1 ++ body ++ w2).length), vR x6, vR x46, vR x70] [(.int b75)])) (st75) ?_
        exact fin (v := some (.int b75)) (so := []) W75 (nle rfl) (nle rfl) (own_b1r hb75) (fun _ q => nomatch q) (fun q => nomatch q) (own_retI W75 hx hret (by decide) (own_bz hb75).1 (hb hby at_358))
    have J212 : ∀ (w1 ks body : List Int32) (vmJ : Vm) (TJ : State) (hJ : Heap), (∀ c ∈ w1, Ows c) → w1.length ≤ 2 → ((kv = (1 : Int32) ∧ ks = [c1]) ∨ (kv = (2 : Int32) ∧ ks = [c1, c2]) ∨ (kv = (3 : Int32) ∧ ks = [c1, c2, c3])) → ((body = ks ∧ ¬ ks.getD 0 0 = 34) ∨ body = 34 :: (enc ks ++ [34])) → Wk Z a0 own_EL "com/example/inchworm/inchworm/core/IdempotencyKeyParseHeaderPinLaw" p l e room_1 s m #[(.int p1), (.int p2), (.int p3), (.int p4), (.int p5)] below meth c vmJ TJ hJ 1 12 → Arv Z hJ x4 k4 .char (12 : Int32) ((w1 ++ body).map Value.int) vZ → G TJ (mkF m 212 #[vI p1, vI p2, vI p3, vI p4, vI p5, vI kv, vI c1, vI c2, vI c3, vI qv, vI ld, vI tr, vR x4, vI (Int32.ofNat (w1 ++ body).length), .unset, .unset, .unset] []) := by
      intro w1 ks body vmJ TJ hJ hw1 hl1 hK hB WJ VJ
      have zJ : Z.heap.size ≤ hJ.size := WJ.sz
      have lJ : ltN x4 hJ.size := VJ.lt
      obtain ⟨hkz, hkm⟩ := own_kl hK
      have hbl := own_bodyl hB hkz hkm
      rcases htr with rfl | rfl | rfl
      · show G TJ (mkF m 212 #[vI p1, vI p2, vI p3, vI p4, vI p5, vI kv, vI c1, vI c2, vI c3, vI qv, vI ld, .val vZ, vR x4, vI (Int32.ofNat (w1 ++ body).length), .unset, .unset, .unset] [])
        refine go (g' := (mkF m 258 #[vI p1, vI p2, vI p3, vI p4, vI p5, vI kv, vI c1, vI c2, vI c3, vI qv, vI ld, .val vZ, vR x4, vI (Int32.ofNat (w1 ++ body).length), .unset, .unset, .unset] [])) (fun _ k => XS.iload WJ.here hx rfl (hb hby at_212) rfl (XS.iconst WJ.here hx rfl (hb hby at_214) (XS.icmpYes WJ.here hx rfl (pc0 := 215) (pc' := 235) rfl (hb hby at_215) rfl (tlt ((by decide) : (0 : Int32) < (1 : Int32))).1 (by decide) (by decide) (XS.iload WJ.here hx rfl (hb hby at_235) rfl (XS.iconst WJ.here hx rfl (hb hby at_237) (XS.icmpYes WJ.here hx rfl (pc0 := 238) (pc' := 258) rfl (hb hby at_238) rfl (tlt ((by decide) : (0 : Int32) < (2 : Int32))).1 (by decide) (by decide) k)))))) ?_
        have e78 : (w1 ++ body) = w1 ++ body ++ ([] : List Int32) := by simp
        rw [e78]
        have V78 := VJ
        rw [e78] at V78
        exact J258 w1 ks body ([] : List Int32) _ _ _ hw1 hl1 hK hB own_al0 (nle rfl) (own_more WJ (nle rfl) (nle rfl)) V78
      · show G TJ (mkF m 212 #[vI p1, vI p2, vI p3, vI p4, vI p5, vI kv, vI c1, vI c2, vI c3, vI qv, vI ld, vI (1 : Int32), vR x4, vI (Int32.ofNat (w1 ++ body).length), .unset, .unset, .unset] [])
        refine go (g' := (mkF m 225 #[vI p1, vI p2, vI p3, vI p4, vI p5, vI kv, vI c1, vI c2, vI c3, vI qv, vI ld, vI (1 : Int32), vR x4, vI (Int32.ofNat (w1 ++ body).length), .unset, .unset, .unset] [(.int (18 : Int32)), (.int p2), (.int (Int32.ofNat (w1 ++ body).length)), (.ref x4)])) (fun _ k => XS.iload WJ.here hx rfl (hb hby at_212) rfl (XS.iconst WJ.here hx rfl (hb hby at_214) (XS.icmpNo WJ.here hx rfl (hb hby at_215) rfl (flt ((by decide) : ¬ ((1 : Int32) < (1 : Int32)))).1 (XS.aload WJ.here hx rfl (hb hby at_218) rfl rfl (XS.iload WJ.here hx rfl (hb hby at_220) rfl (XS.iloadN WJ.here hx rfl (hb hby at_222) rfl (XS.bipush WJ.here hx rfl (hb hby at_223) k))))))) ?_
        obtain ⟨v79, so79, vm79, T79, h79, W79, C79, q79, hso79, st79⟩ := own_static WJ hx (y := (⟨"com/example/inchworm/inchworm/core/IdempotencyKeyParseHeaderPinLaw", "wsChar", "(II)C"⟩ : MethodName)) (w145 C) (w146 C) (w3 C) (w147 C) (by decide) (rm_wsc18 C hJ p2) (fun _ q => nomatch q) (Wd := 2) (nle rfl) (nle rfl) (nle rfl) (nle rfl) (g := (mkF m 225 #[vI p1, vI p2, vI p3, vI p4, vI p5, vI kv, vI c1, vI c2, vI c3, vI qv, vI ld, vI (1 : Int32), vR x4, vI (Int32.ofNat (w1 ++ body).length), .unset, .unset, .unset] [(.int (18 : Int32)), (.int p2), (.int (Int32.ofNat (w1 ++ body).length)), (.ref x4)])) rfl (by rw [hml]; rfl) (argsL := [(.int p2), (.int (18 : Int32))]) (rest := [(.int (Int32.ofNat (w1 ++ body).length)), (.ref x4)]) (lenOf pd_26 rfl) rfl rfl (nle rfl) (hb hby at_225)
        obtain ⟨c79, rfl, rfl, hw79⟩ := q79
        refine go (g' := (mkF m 228 #[vI p1, vI p2, vI p3, vI p4, vI p5, vI kv, vI c1, vI c2, vI c3, vI qv, vI ld, vI (1 : Int32), vR x4, vI (Int32.ofNat (w1 ++ body).length), .unset, .unset, .unset] [(.int c79), (.int (Int32.ofNat (w1 ++ body).length)), (.ref x4)])) (st79) ?_
        have P80 : Arv Z hJ x4 k4 .char (12 : Int32) ((w1 ++ body).map Value.int ++ List.replicate 1 vZ) vZ := VJ.pad (pad_rep _ _ 1)
        obtain ⟨T80, h80, W80, R80, V80, st80⟩ := own_stC W79 hx P80 (by omega) (j := (Int32.ofNat (w1 ++ body).length)) (i := (w1 ++ body).length) (own_inb (n := 12) (by (try simp only [List.length_append, List.length_cons, List.length_nil]) <;> omega) (by decide)) (own_cl (by (try simp only [List.length_append, List.length_cons, List.length_nil]) <;> omega)) (by simp) (own_up (own_wsr hw79)) (g := (mkF m 228 #[vI p1, vI p2, vI p3, vI p4, vI p5, vI kv, vI c1, vI c2, vI c3, vI qv, vI ld, vI (1 : Int32), vR x4, vI (Int32.ofNat (w1 ++ body).length), .unset, .unset, .unset] [(.int c79), (.int (Int32.ofNat (w1 ++ body).length)), (.ref x4)])) rfl rfl (hb hby at_228)
        have z81 : h80.size = hJ.size := R80.size
        have U80 : Arv Z h80 x4 k4 .char (12 : Int32) (((w1 ++ body) ++ [c79]).map Value.int) vZ := by have q := V80; rw [own_setl] at q; exact q
        refine go (g' := (mkF m 229 #[vI p1, vI p2, vI p3, vI p4, vI p5, vI kv, vI c1, vI c2, vI c3, vI qv, vI ld, vI (1 : Int32), vR x4, vI (Int32.ofNat (w1 ++ body).length), .unset, .unset, .unset] [])) (st80) ?_
        refine go (g' := (mkF m 233 #[vI p1, vI p2, vI p3, vI p4, vI p5, vI kv, vI c1, vI c2, vI c3, vI qv, vI ld, vI (1 : Int32), vR x4, vI (Int32.ofNat (w1 ++ body).length), .unset, .unset, .unset] [(.int ((Int32.ofNat (w1 ++ body).length) + (1 : Int32)))])) (fun _ k => XS.iload W80.here hx rfl (hb hby at_229) rfl (XS.iconst W80.here hx rfl (hb hby at_231) (XS.iadd W80.here hx rfl (hb hby at_232) rfl k))) ?_
        rw [show ((Int32.ofNat (w1 ++ body).length) + (1 : Int32)) = (Int32.ofNat ((w1 ++ body) ++ [c79]).length) from own_len1 _ _]
        refine go (g' := (mkF m 258 #[vI p1, vI p2, vI p3, vI p4, vI p5, vI kv, vI c1, vI c2, vI c3, vI qv, vI ld, vI (1 : Int32), vR x4, vI (Int32.ofNat ((w1 ++ body) ++ [c79]).length), .unset, .unset, .unset] [])) (fun _ k => XS.istore W80.here hx rfl (hb hby at_233) rfl (l' := #[vI p1, vI p2, vI p3, vI p4, vI p5, vI kv, vI c1, vI c2, vI c3, vI qv, vI ld, vI (1 : Int32), vR x4, vI (Int32.ofNat ((w1 ++ body) ++ [c79]).length), .unset, .unset, .unset]) rfl (XS.iload W80.here hx rfl (hb hby at_235) rfl (XS.iconst W80.here hx rfl (hb hby at_237) (XS.icmpYes W80.here hx rfl (pc0 := 238) (pc' := 258) rfl (hb hby at_238) rfl (tlt ((by decide) : (1 : Int32) < (2 : Int32))).1 (by decide) (by decide) k)))) ?_
        have e82 : ((w1 ++ body) ++ [c79]) = w1 ++ body ++ (([] : List Int32) ++ [c79]) := by simp
        rw [e82]
        have V82 := U80
        rw [e82] at V82
        exact J258 w1 ks body (([] : List Int32) ++ [c79]) _ _ _ hw1 hl1 hK hB (own_alS hw79 own_al0) (nle rfl) (own_more W80 (nle rfl) (nle rfl)) V82
      · show G TJ (mkF m 212 #[vI p1, vI p2, vI p3, vI p4, vI p5, vI kv, vI c1, vI c2, vI c3, vI qv, vI ld, vI (2 : Int32), vR x4, vI (Int32.ofNat (w1 ++ body).length), .unset, .unset, .unset] [])
        refine go (g' := (mkF m 225 #[vI p1, vI p2, vI p3, vI p4, vI p5, vI kv, vI c1, vI c2, vI c3, vI qv, vI ld, vI (2 : Int32), vR x4, vI (Int32.ofNat (w1 ++ body).length), .unset, .unset, .unset] [(.int (18 : Int32)), (.int p2), (.int (Int32.ofNat (w1 ++ body).length)), (.ref x4)])) (fun _ k => XS.iload WJ.here hx rfl (hb hby at_212) rfl (XS.iconst WJ.here hx rfl (hb hby at_214) (XS.icmpNo WJ.here hx rfl (hb hby at_215) rfl (flt ((by decide) : ¬ ((2 : Int32) < (1 : Int32)))).1 (XS.aload WJ.here hx rfl (hb hby at_218) rfl rfl (XS.iload WJ.here hx rfl (hb hby at_220) rfl (XS.iloadN WJ.here hx rfl (hb hby at_222) rfl (XS.bipush WJ.here hx rfl (hb hby at_223) k))))))) ?_
        obtain ⟨v83, so83, vm83, T83, h83, W83, C83, q83, hso83, st83⟩ := own_static WJ hx (y := (⟨"com/example/inchworm/inchworm/core/IdempotencyKeyParseHeaderPinLaw", "wsChar", "(II)C"⟩ : MethodName)) (w145 C) (w146 C) (w3 C) (w147 C) (by decide) (rm_wsc18 C hJ p2) (fun _ q => nomatch q) (Wd := 2) (nle rfl) (nle rfl) (nle rfl) (nle rfl) (g := (mkF m 225 #[vI p1, vI p2, vI p3, vI p4, vI p5, vI kv, vI c1, vI c2, vI c3, vI qv, vI ld, vI (2 : Int32), vR x4, vI (Int32.ofNat (w1 ++ body).length), .unset, .unset, .unset] [(.int (18 : Int32)), (.int p2), (.int (Int32.ofNat (w1 ++ body).length)), (.ref x4)])) rfl (by rw [hml]; rfl) (argsL := [(.int p2), (.int (18 : Int32))]) (rest := [(.int (Int32.ofNat (w1 ++ body).length)), (.ref x4)]) (lenOf pd_26 rfl) rfl rfl (nle rfl) (hb hby at_225)
        obtain ⟨c83, rfl, rfl, hw83⟩ := q83
        refine go (g' := (mkF m 228 #[vI p1, vI p2, vI p3, vI p4, vI p5, vI kv, vI c1, vI c2, vI c3, vI qv, vI ld, vI (2 : Int32), vR x4, vI (Int32.ofNat (w1 ++ body).length), .unset, .unset, .unset] [(.int c83), (.int (Int32.ofNat (w1 ++ body).length)), (.ref x4)])) (st83) ?_
        have P84 : Arv Z hJ x4 k4 .char (12 : Int32) ((w1 ++ body).map Value.int ++ List.replicate 1 vZ) vZ := VJ.pad (pad_rep _ _ 1)
        obtain ⟨T84, h84, W84, R84, V84, st84⟩ := own_stC W83 hx P84 (by omega) (j := (Int32.ofNat (w1 ++ body).length)) (i := (w1 ++ body).length) (own_inb (n := 12) (by (try simp only [List.length_append, List.length_cons, List.length_nil]) <;> omega) (by decide)) (own_cl (by (try simp only [List.length_append, List.length_cons, List.length_nil]) <;> omega)) (by simp) (own_up (own_wsr hw83)) (g := (mkF m 228 #[vI p1, vI p2, vI p3, vI p4, vI p5, vI kv, vI c1, vI c2, vI c3, vI qv, vI ld, vI (2 : Int32), vR x4, vI (Int32.ofNat (w1 ++ body).length), .unset, .unset, .unset] [(.int c83), (.int (Int32.ofNat (w1 ++ body).length)), (.ref x4)])) rfl rfl (hb hby at_228)
        have z85 : h84.size = hJ.size := R84.size
        have U84 : Arv Z h84 x4 k4 .char (12 : Int32) (((w1 ++ body) ++ [c83]).map Value.int) vZ := by have q := V84; rw [own_setl] at q; exact q
        refine go (g' := (mkF m 229 #[vI p1, vI p2, vI p3, vI p4, vI p5, vI kv, vI c1, vI c2, vI c3, vI qv, vI ld, vI (2 : Int32), vR x4, vI (Int32.ofNat (w1 ++ body).length), .unset, .unset, .unset] [])) (st84) ?_
        refine go (g' := (mkF m 233 #[vI p1, vI p2, vI p3, vI p4, vI p5, vI kv, vI c1, vI c2, vI c3, vI qv, vI ld, vI (2 : Int32), vR x4, vI (Int32.ofNat (w1 ++ body).length), .unset, .unset, .unset] [(.int ((Int32.ofNat (w1 ++ body).length) + (1 : Int32)))])) (fun _ k => XS.iload W84.here hx rfl (hb hby at_229) rfl (XS.iconst W84.here hx rfl (hb hby at_231) (XS.iadd W84.here hx rfl (hb hby at_232) rfl k))) ?_
        rw [show ((Int32.ofNat (w1 ++ body).length) + (1 : Int32)) = (Int32.ofNat ((w1 ++ body) ++ [c83]).length) from own_len1 _ _]
        refine go (g' := (mkF m 248 #[vI p1, vI p2, vI p3, vI p4, vI p5, vI kv, vI c1, vI c2, vI c3, vI qv, vI ld, vI (2 : Int32), vR x4, vI (Int32.ofNat ((w1 ++ body) ++ [c83]).length), .unset, .unset, .unset] [(.int (19 : Int32)), (.int p2), (.int (Int32.ofNat ((w1 ++ body) ++ [c83]).length)), (.ref x4)])) (fun _ k => XS.istore W84.here hx rfl (hb hby at_233) rfl (l' := #[vI p1, vI p2, vI p3, vI p4, vI p5, vI kv, vI c1, vI c2, vI c3, vI qv, vI ld, vI (2 : Int32), vR x4, vI (Int32.ofNat ((w1 ++ body) ++ [c83]).length), .unset, .unset, .unset]) rfl (XS.iload W84.here hx rfl (hb hby at_235) rfl (XS.iconst W84.here hx rfl (hb hby at_237) (XS.icmpNo W84.here hx rfl (hb hby at_238) rfl (flt ((by decide) : ¬ ((2 : Int32) < (2 : Int32)))).1 (XS.aload W84.here hx rfl (hb hby at_241) rfl rfl (XS.iload W84.here hx rfl (hb hby at_243) rfl (XS.iloadN W84.here hx rfl (hb hby at_245) rfl (XS.bipush W84.here hx rfl (hb hby at_246) k)))))))) ?_
        obtain ⟨v86, so86, vm86, T86, h86, W86, C86, q86, hso86, st86⟩ := own_static W84 hx (y := (⟨"com/example/inchworm/inchworm/core/IdempotencyKeyParseHeaderPinLaw", "wsChar", "(II)C"⟩ : MethodName)) (w145 C) (w146 C) (w3 C) (w147 C) (by decide) (rm_wsc19 C h84 p2) (fun _ q => nomatch q) (Wd := 2) (nle rfl) (nle rfl) (nle rfl) (nle rfl) (g := (mkF m 248 #[vI p1, vI p2, vI p3, vI p4, vI p5, vI kv, vI c1, vI c2, vI c3, vI qv, vI ld, vI (2 : Int32), vR x4, vI (Int32.ofNat ((w1 ++ body) ++ [c83]).length), .unset, .unset, .unset] [(.int (19 : Int32)), (.int p2), (.int (Int32.ofNat ((w1 ++ body) ++ [c83]).length)), (.ref x4)])) rfl (by rw [hml]; rfl) (argsL := [(.int p2), (.int (19 : Int32))]) (rest := [(.int (Int32.ofNat ((w1 ++ body) ++ [c83]).length)), (.ref x4)]) (lenOf pd_26 rfl) rfl rfl (nle rfl) (hb hby at_248)
        obtain ⟨c86, rfl, rfl, hw86⟩ := q86
        refine go (g' := (mkF m 251 #[vI p1, vI p2, vI p3, vI p4, vI p5, vI kv, vI c1, vI c2, vI c3, vI qv, vI ld, vI (2 : Int32), vR x4, vI (Int32.ofNat ((w1 ++ body) ++ [c83]).length), .unset, .unset, .unset] [(.int c86), (.int (Int32.ofNat ((w1 ++ body) ++ [c83]).length)), (.ref x4)])) (st86) ?_
        have P87 : Arv Z h84 x4 k4 .char (12 : Int32) (((w1 ++ body) ++ [c83]).map Value.int ++ List.replicate 1 vZ) vZ := U84.pad (pad_rep _ _ 1)
        obtain ⟨T87, h87, W87, R87, V87, st87⟩ := own_stC W86 hx P87 (by omega) (j := (Int32.ofNat ((w1 ++ body) ++ [c83]).length)) (i := ((w1 ++ body) ++ [c83]).length) (own_inb (n := 12) (by (try simp only [List.length_append, List.length_cons, List.length_nil]) <;> omega) (by decide)) (own_cl (by (try simp only [List.length_append, List.length_cons, List.length_nil]) <;> omega)) (by simp) (own_up (own_wsr hw86)) (g := (mkF m 251 #[vI p1, vI p2, vI p3, vI p4, vI p5, vI kv, vI c1, vI c2, vI c3, vI qv, vI ld, vI (2 : Int32), vR x4, vI (Int32.ofNat ((w1 ++ body) ++ [c83]).length), .unset, .unset, .unset] [(.int c86), (.int (Int32.ofNat ((w1 ++ body) ++ [c83]).length)), (.ref x4)])) rfl rfl (hb hby at_251)
        have z88 : h87.size = h84.size := R87.size
        have U87 : Arv Z h87 x4 k4 .char (12 : Int32) ((((w1 ++ body) ++ [c83]) ++ [c86]).map Value.int) vZ := by have q := V87; rw [own_setl] at q; exact q
        refine go (g' := (mkF m 252 #[vI p1, vI p2, vI p3, vI p4, vI p5, vI kv, vI c1, vI c2, vI c3, vI qv, vI ld, vI (2 : Int32), vR x4, vI (Int32.ofNat ((w1 ++ body) ++ [c83]).length), .unset, .unset, .unset] [])) (st87) ?_
        refine go (g' := (mkF m 256 #[vI p1, vI p2, vI p3, vI p4, vI p5, vI kv, vI c1, vI c2, vI c3, vI qv, vI ld, vI (2 : Int32), vR x4, vI (Int32.ofNat ((w1 ++ body) ++ [c83]).length), .unset, .unset, .unset] [(.int ((Int32.ofNat ((w1 ++ body) ++ [c83]).length) + (1 : Int32)))])) (fun _ k => XS.iload W87.here hx rfl (hb hby at_252) rfl (XS.iconst W87.here hx rfl (hb hby at_254) (XS.iadd W87.here hx rfl (hb hby at_255) rfl k))) ?_
        rw [show ((Int32.ofNat ((w1 ++ body) ++ [c83]).length) + (1 : Int32)) = (Int32.ofNat (((w1 ++ body) ++ [c83]) ++ [c86]).length) from own_len1 _ _]
        refine go (g' := (mkF m 258 #[vI p1, vI p2, vI p3, vI p4, vI p5, vI kv, vI c1, vI c2, vI c3, vI qv, vI ld, vI (2 : Int32), vR x4, vI (Int32.ofNat (((w1 ++ body) ++ [c83]) ++ [c86]).length), .unset, .unset, .unset] [])) (fun _ k => XS.istore W87.here hx rfl (hb hby at_256) rfl (l' := #[vI p1, vI p2, vI p3, vI p4, vI p5, vI kv, vI c1, vI c2, vI c3, vI qv, vI ld, vI (2 : Int32), vR x4, vI (Int32.ofNat (((w1 ++ body) ++ [c83]) ++ [c86]).length), .unset, .unset, .unset]) rfl k) ?_
        have e89 : (((w1 ++ body) ++ [c83]) ++ [c86]) = w1 ++ body ++ ((([] : List Int32) ++ [c83]) ++ [c86]) := by simp
        rw [e89]
        have V89 := U87
        rw [e89] at V89
        exact J258 w1 ks body ((([] : List Int32) ++ [c83]) ++ [c86]) _ _ _ hw1 hl1 hK hB (own_alS hw83 (own_alS hw86 own_al0)) (nle rfl) (own_more W87 (nle rfl) (nle rfl)) V89
    have J125 : ∀ (w1 : List Int32) (vmJ : Vm) (TJ : State) (hJ : Heap), (∀ c ∈ w1, Ows c) → w1.length ≤ 2 → Wk Z a0 own_EL "com/example/inchworm/inchworm/core/IdempotencyKeyParseHeaderPinLaw" p l e room_1 s m #[(.int p1), (.int p2), (.int p3), (.int p4), (.int p5)] below meth c vmJ TJ hJ 1 12 → Arv Z hJ x4 k4 .char (12 : Int32) (w1.map Value.int) vZ → G TJ (mkF m 125 #[vI p1, vI p2, vI p3, vI p4, vI p5, vI kv, vI c1, vI c2, vI c3, vI qv, vI ld, vI tr, vR x4, vI (Int32.ofNat w1.length), .unset, .unset, .unset] []) := by
      intro w1 vmJ TJ hJ hw1 hl1 WJ VJ
      have zJ : Z.heap.size ≤ hJ.size := WJ.sz
      have lJ : ltN x4 hJ.size := VJ.lt
      have hpl0 := own_put1l c1
      have hpl1 := own_put1l c2
      have hpl2 := own_put1l c3
      have hqz0 := own_put0l c1
      have hqz1 := own_put0l c2
      have hqz2 := own_put0l c3
      rcases hq with rfl | ⟨rfl, hn34⟩
      · show G TJ (mkF m 125 #[vI p1, vI p2, vI p3, vI p4, vI p5, vI kv, vI c1, vI c2, vI c3, vI (1 : Int32), vI ld, vI tr, vR x4, vI (Int32.ofNat w1.length), .unset, .unset, .unset] [])
        refine go (g' := (mkF m 136 #[vI p1, vI p2, vI p3, vI p4, vI p5, vI kv, vI c1, vI c2, vI c3, vI (1 : Int32), vI ld, vI tr, vR x4, vI (Int32.ofNat w1.length), .unset, .unset, .unset] [(.int (34 : Int32)), (.int (Int32.ofNat w1.length)), (.ref x4)])) (fun _ k => XS.iload WJ.here hx rfl (hb hby at_125) rfl (XS.ifNo WJ.here hx rfl (hb hby at_127) rfl ((if0 _ _).trans (feq ((by decide) : ¬ ((1 : Int32) = (0 : Int32)))).1) (XS.aload WJ.here hx rfl (hb hby at_130) rfl rfl (XS.iload WJ.here hx rfl (hb hby at_132) rfl (XS.bipush WJ.here hx rfl (hb hby at_134) k))))) ?_
        have P90 : Arv Z hJ x4 k4 .char (12 : Int32) (w1.map Value.int ++ List.replicate 1 vZ) vZ := VJ.pad (pad_rep _ _ 1)
        obtain ⟨T90, h90, W90, R90, V90, st90⟩ := own_stC WJ hx P90 (by omega) (j := (Int32.ofNat w1.length)) (i := w1.length) (own_inb (n := 12) (by (try simp only [List.length_append, List.length_cons, List.length_nil]) <;> omega) (by decide)) (own_cl (by (try simp only [List.length_append, List.length_cons, List.length_nil]) <;> omega)) (by simp) ⟨by decide, by decide⟩ (g := (mkF m 136 #[vI p1, vI p2, vI p3, vI p4, vI p5, vI kv, vI c1, vI c2, vI c3, vI (1 : Int32), vI ld, vI tr, vR x4, vI (Int32.ofNat w1.length), .unset, .unset, .unset] [(.int (34 : Int32)), (.int (Int32.ofNat w1.length)), (.ref x4)])) rfl rfl (hb hby at_136)
        have z91 : h90.size = hJ.size := R90.size
        have U90 : Arv Z h90 x4 k4 .char (12 : Int32) ((w1 ++ [(34 : Int32)]).map Value.int) vZ := by have q := V90; rw [own_setl] at q; exact q
        refine go (g' := (mkF m 137 #[vI p1, vI p2, vI p3, vI p4, vI p5, vI kv, vI c1, vI c2, vI c3, vI (1 : Int32), vI ld, vI tr, vR x4, vI (Int32.ofNat w1.length), .unset, .unset, .unset] [])) (st90) ?_
        refine go (g' := (mkF m 141 #[vI p1, vI p2, vI p3, vI p4, vI p5, vI kv, vI c1, vI c2, vI c3, vI (1 : Int32), vI ld, vI tr, vR x4, vI (Int32.ofNat w1.length), .unset, .unset, .unset] [(.int ((Int32.ofNat w1.length) + (1 : Int32)))])) (fun _ k => XS.iload W90.here hx rfl (hb hby at_137) rfl (XS.iconst W90.here hx rfl (hb hby at_139) (XS.iadd W90.here hx rfl (hb hby at_140) rfl k))) ?_
        rw [show ((Int32.ofNat w1.length) + (1 : Int32)) = (Int32.ofNat (w1 ++ [(34 : Int32)]).length) from own_len1 _ _]
        refine go (g' := (mkF m 151 #[vI p1, vI p2, vI p3, vI p4, vI p5, vI kv, vI c1, vI c2, vI c3, vI (1 : Int32), vI ld, vI tr, vR x4, vI (Int32.ofNat (w1 ++ [(34 : Int32)]).length), .unset, .unset, .unset] [(.int (1 : Int32)), (.int c1), (.int (Int32.ofNat (w1 ++ [(34 : Int32)]).length)), (.ref x4)])) (fun _ k => XS.istore W90.here hx rfl (hb hby at_141) rfl (l' := #[vI p1, vI p2, vI p3, vI p4, vI p5, vI kv, vI c1, vI c2, vI c3, vI (1 : Int32), vI ld, vI tr, vR x4, vI (Int32.ofNat (w1 ++ [(34 : Int32)]).length), .unset, .unset, .unset]) rfl (XS.aload W90.here hx rfl (hb hby at_143) rfl rfl (XS.iload W90.here hx rfl (hb hby at_145) rfl (XS.iload W90.here hx rfl (hb hby at_147) rfl (XS.iload W90.here hx rfl (hb hby at_149) rfl k))))) ?_
        obtain ⟨v92, so92, vm92, T92, h92, W92, C92, q92, hso92, st92⟩ := own_static W90 hx (y := (⟨"com/example/inchworm/inchworm/core/IdempotencyKeyParseHeaderPinLaw", "put", "([CICZ)I"⟩ : MethodName)) (w6 C) (w7 C) (w3 C) (w8 C) (by decide) (rm_put1 C h90 x4 k4 (w1 ++ [(34 : Int32)]) c1 hk1 (by (try simp only [List.length_append, List.length_cons, List.length_nil]) <;> omega) U90 (by omega)) (fun _ q => nomatch q) (Wd := 0) (nle rfl) (nle rfl) (nle rfl) (nle rfl) (g := (mkF m 151 #[vI p1, vI p2, vI p3, vI p4, vI p5, vI kv, vI c1, vI c2, vI c3, vI (1 : Int32), vI ld, vI tr, vR x4, vI (Int32.ofNat (w1 ++ [(34 : Int32)]).length), .unset, .unset, .unset] [(.int (1 : Int32)), (.int c1), (.int (Int32.ofNat (w1 ++ [(34 : Int32)]).length)), (.ref x4)])) rfl (by rw [hml]; rfl) (argsL := [(.ref x4), (.int (Int32.ofNat (w1 ++ [(34 : Int32)]).length)), (.int c1), (.int (1 : Int32))]) (rest := []) (lenOf pd_27 rfl) rfl rfl (nle rfl) (hb hby at_151)
        obtain ⟨n92, rfl, K92, rfl, V92⟩ := q92
        have z93 : h90.size ≤ h92.size := K92.1
        refine go (g' := (mkF m 154 #[vI p1, vI p2, vI p3, vI p4, vI p5, vI kv, vI c1, vI c2, vI c3, vI (1 : Int32), vI ld, vI tr, vR x4, vI (Int32.ofNat (w1 ++ [(34 : Int32)]).length), .unset, .unset, .unset] [(.int (Int32.ofNat ((w1 ++ [(34 : Int32)]) ++ put1 c1).length))])) (st92) ?_
        refine go (g' := (mkF m 156 #[vI p1, vI p2, vI p3, vI p4, vI p5, vI kv, vI c1, vI c2, vI c3, vI (1 : Int32), vI ld, vI tr, vR x4, vI (Int32.ofNat ((w1 ++ [(34 : Int32)]) ++ put1 c1).length), .unset, .unset, .unset] [])) (fun _ k => XS.istore W92.here hx rfl (hb hby at_154) rfl (l' := #[vI p1, vI p2, vI p3, vI p4, vI p5, vI kv, vI c1, vI c2, vI c3, vI (1 : Int32), vI ld, vI tr, vR x4, vI (Int32.ofNat ((w1 ++ [(34 : Int32)]) ++ put1 c1).length), .unset, .unset, .unset]) rfl k) ?_
        rcases hkv with rfl | rfl | rfl
        · show G T92 (mkF m 156 #[vI p1, vI p2, vI p3, vI p4, vI p5, vI (1 : Int32), vI c1, vI c2, vI c3, vI (1 : Int32), vI ld, vI tr, vR x4, vI (Int32.ofNat ((w1 ++ [(34 : Int32)]) ++ put1 c1).length), .unset, .unset, .unset] [])
          refine go (g' := (mkF m 199 #[vI p1, vI p2, vI p3, vI p4, vI p5, vI (1 : Int32), vI c1, vI c2, vI c3, vI (1 : Int32), vI ld, vI tr, vR x4, vI (Int32.ofNat ((w1 ++ [(34 : Int32)]) ++ put1 c1).length), .unset, .unset, .unset] [])) (fun _ k => XS.iload W92.here hx rfl (hb hby at_156) rfl (XS.iconst W92.here hx rfl (hb hby at_158) (XS.icmpYes W92.here hx rfl (pc0 := 159) (pc' := 175) rfl (hb hby at_159) rfl (tlt ((by decide) : (1 : Int32) < (2 : Int32))).1 (by decide) (by decide) (XS.iload W92.here hx rfl (hb hby at_175) rfl (XS.iconst W92.here hx rfl (hb hby at_177) (XS.icmpYes W92.here hx rfl (pc0 := 178) (pc' := 194) rfl (hb hby at_178) rfl (tlt ((by decide) : (1 : Int32) < (3 : Int32))).1 (by decide) (by decide) (XS.iload W92.here hx rfl (hb hby at_194) rfl (XS.ifNo W92.here hx rfl (hb hby at_196) rfl ((if0 _ _).trans (feq ((by decide) : ¬ ((1 : Int32) = (0 : Int32)))).1) k)))))))) ?_
          refine go (g' := (mkF m 205 #[vI p1, vI p2, vI p3, vI p4, vI p5, vI (1 : Int32), vI c1, vI c2, vI c3, vI (1 : Int32), vI ld, vI tr, vR x4, vI (Int32.ofNat ((w1 ++ [(34 : Int32)]) ++ put1 c1).length), .unset, .unset, .unset] [(.int (34 : Int32)), (.int (Int32.ofNat ((w1 ++ [(34 : Int32)]) ++ put1 c1).length)), (.ref x4)])) (fun _ k => XS.aload W92.here hx rfl (hb hby at_199) rfl rfl (XS.iload W92.here hx rfl (hb hby at_201) rfl (XS.bipush W92.here hx rfl (hb hby at_203) k))) ?_
          have P94 : Arv Z h92 x4 k4 .char (12 : Int32) (((w1 ++ [(34 : Int32)]) ++ put1 c1).map Value.int ++ List.replicate 1 vZ) vZ := V92.pad (pad_rep _ _ 1)
          obtain ⟨T94, h94, W94, R94, V94, st94⟩ := own_stC W92 hx P94 (by omega) (j := (Int32.ofNat ((w1 ++ [(34 : Int32)]) ++ put1 c1).length)) (i := ((w1 ++ [(34 : Int32)]) ++ put1 c1).length) (own_inb (n := 12) (by (try simp only [List.length_append, List.length_cons, List.length_nil]) <;> omega) (by decide)) (own_cl (by (try simp only [List.length_append, List.length_cons, List.length_nil]) <;> omega)) (by simp) ⟨by decide, by decide⟩ (g := (mkF m 205 #[vI p1, vI p2, vI p3, vI p4, vI p5, vI (1 : Int32), vI c1, vI c2, vI c3, vI (1 : Int32), vI ld, vI tr, vR x4, vI (Int32.ofNat ((w1 ++ [(34 : Int32)]) ++ put1 c1).length), .unset, .unset, .unset] [(.int (34 : Int32)), (.int (Int32.ofNat ((w1 ++ [(34 : Int32)]) ++ put1 c1).length)), (.ref x4)])) rfl rfl (hb hby at_205)
          have z95 : h94.size = h92.size := R94.size
          have U94 : Arv Z h94 x4 k4 .char (12 : Int32) ((((w1 ++ [(34 : Int32)]) ++ put1 c1) ++ [(34 : Int32)]).map Value.int) vZ := by have q := V94; rw [own_setl] at q; exact q
          refine go (g' := (mkF m 206 #[vI p1, vI p2, vI p3, vI p4, vI p5, vI (1 : Int32), vI c1, vI c2, vI c3, vI (1 : Int32), vI ld, vI tr, vR x4, vI (Int32.ofNat ((w1 ++ [(34 : Int32)]) ++ put1 c1).length), .unset, .unset, .unset] [])) (st94) ?_
          refine go (g' := (mkF m 210 #[vI p1, vI p2, vI p3, vI p4, vI p5, vI (1 : Int32), vI c1, vI c2, vI c3, vI (1 : Int32), vI ld, vI tr, vR x4, vI (Int32.ofNat ((w1 ++ [(34 : Int32)]) ++ put1 c1).length), .unset, .unset, .unset] [(.int ((Int32.ofNat ((w1 ++ [(34 : Int32)]) ++ put1 c1).length) + (1 : Int32)))])) (fun _ k => XS.iload W94.here hx rfl (hb hby at_206) rfl (XS.iconst W94.here hx rfl (hb hby at_208) (XS.iadd W94.here hx rfl (hb hby at_209) rfl k))) ?_
          rw [show ((Int32.ofNat ((w1 ++ [(34 : Int32)]) ++ put1 c1).length) + (1 : Int32)) = (Int32.ofNat (((w1 ++ [(34 : Int32)]) ++ put1 c1) ++ [(34 : Int32)]).length) from own_len1 _ _]
          refine go (g' := (mkF m 212 #[vI p1, vI p2, vI p3, vI p4, vI p5, vI (1 : Int32), vI c1, vI c2, vI c3, vI (1 : Int32), vI ld, vI tr, vR x4, vI (Int32.ofNat (((w1 ++ [(34 : Int32)]) ++ put1 c1) ++ [(34 : Int32)]).length), .unset, .unset, .unset] [])) (fun _ k => XS.istore W94.here hx rfl (hb hby at_210) rfl (l' := #[vI p1, vI p2, vI p3, vI p4, vI p5, vI (1 : Int32), vI c1, vI c2, vI c3, vI (1 : Int32), vI ld, vI tr, vR x4, vI (Int32.ofNat (((w1 ++ [(34 : Int32)]) ++ put1 c1) ++ [(34 : Int32)]).length), .unset, .unset, .unset]) rfl k) ?_
          have e96 : (((w1 ++ [(34 : Int32)]) ++ put1 c1) ++ [(34 : Int32)]) = w1 ++ (34 :: (enc [c1] ++ [34])) := by simp [enc, put0]
          rw [e96]
          have V96 := U94
          rw [e96] at V96
          exact J212 w1 [c1] (34 :: (enc [c1] ++ [34])) _ _ _ hw1 hl1 (Or.inl ⟨rfl, rfl⟩) (Or.inr rfl) (own_more W94 (nle rfl) (nle rfl)) V96
        · show G T92 (mkF m 156 #[vI p1, vI p2, vI p3, vI p4, vI p5, vI (2 : Int32), vI c1, vI c2, vI c3, vI (1 : Int32), vI ld, vI tr, vR x4, vI (Int32.ofNat ((w1 ++ [(34 : Int32)]) ++ put1 c1).length), .unset, .unset, .unset] [])
          refine go (g' := (mkF m 170 #[vI p1, vI p2, vI p3, vI p4, vI p5, vI (2 : Int32), vI c1, vI c2, vI c3, vI (1 : Int32), vI ld, vI tr, vR x4, vI (Int32.ofNat ((w1 ++ [(34 : Int32)]) ++ put1 c1).length), .unset, .unset, .unset] [(.int (1 : Int32)), (.int c2), (.int (Int32.ofNat ((w1 ++ [(34 : Int32)]) ++ put1 c1).length)), (.ref x4)])) (fun _ k => XS.iload W92.here hx rfl (hb hby at_156) rfl (XS.iconst W92.here hx rfl (hb hby at_158) (XS.icmpNo W92.here hx rfl (hb hby at_159) rfl (flt ((by decide) : ¬ ((2 : Int32) < (2 : Int32)))).1 (XS.aload W92.here hx rfl (hb hby at_162) rfl rfl (XS.iload W92.here hx rfl (hb hby at_164) rfl (XS.iload W92.here hx rfl (hb hby at_166) rfl (XS.iload W92.here hx rfl (hb hby at_168) rfl k))))))) ?_
          obtain ⟨v97, so97, vm97, T97, h97, W97, C97, q97, hso97, st97⟩ := own_static W92 hx (y := (⟨"com/example/inchworm/inchworm/core/IdempotencyKeyParseHeaderPinLaw", "put", "([CICZ)I"⟩ : MethodName)) (w6 C) (w7 C) (w3 C) (w8 C) (by decide) (rm_put1 C h92 x4 k4 ((w1 ++ [(34 : Int32)]) ++ put1 c1) c2 hk2 (by (try simp only [List.length_append, List.length_cons, List.length_nil]) <;> omega) V92 (by omega)) (fun _ q => nomatch q) (Wd := 0) (nle rfl) (nle rfl) (nle rfl) (nle rfl) (g := (mkF m 170 #[vI p1, vI p2, vI p3, vI p4, vI p5, vI (2 : Int32), vI c1, vI c2, vI c3, vI (1 : Int32), vI ld, vI tr, vR x4, vI (Int32.ofNat ((w1 ++ [(34 : Int32)]) ++ put1 c1).length), .unset, .unset, .unset] [(.int (1 : Int32)), (.int c2), (.int (Int32.ofNat ((w1 ++ [(34 : Int32)]) ++ put1 c1).length)), (.ref x4)])) rfl (by rw [hml]; rfl) (argsL := [(.ref x4), (.int (Int32.ofNat ((w1 ++ [(34 : Int32)]) ++ put1 c1).length)), (.int c2), (.int (1 : Int32))]) (rest := []) (lenOf pd_27 rfl) rfl rfl (nle rfl) (hb hby at_170)
          obtain ⟨n97, rfl, K97, rfl, V97⟩ := q97
          have z98 : h92.size ≤ h97.size := K97.1
          refine go (g' := (mkF m 173 #[vI p1, vI p2, vI p3, vI p4, vI p5, vI (2 : Int32), vI c1, vI c2, vI c3, vI (1 : Int32), vI ld, vI tr, vR x4, vI (Int32.ofNat ((w1 ++ [(34 : Int32)]) ++ put1 c1).length), .unset, .unset, .unset] [(.int (Int32.ofNat (((w1 ++ [(34 : Int32)]) ++ put1 c1) ++ put1 c2).length))])) (st97) ?_
          refine go (g' := (mkF m 203 #[vI p1, vI p2, vI p3, vI p4, vI p5, vI (2 : Int32), vI c1, vI c2, vI c3, vI (1 : Int32), vI ld, vI tr, vR x4, vI (Int32.ofNat (((w1 ++ [(34 : Int32)]) ++ put1 c1) ++ put1 c2).length), .unset, .unset, .unset] [(.int (Int32.ofNat (((w1 ++ [(34 : Int32)]) ++ put1 c1) ++ put1 c2).length)), (.ref x4)])) (fun _ k => XS.istore W97.here hx rfl (hb hby at_173) rfl (l' := #[vI p1, vI p2, vI p3, vI p4, vI p5, vI (2 : Int32), vI c1, vI c2, vI c3, vI (1 : Int32), vI ld, vI tr, vR x4, vI (Int32.ofNat (((w1 ++ [(34 : Int32)]) ++ put1 c1) ++ put1 c2).length), .unset, .unset, .unset]) rfl (XS.iload W97.here hx rfl (hb hby at_175) rfl (XS.iconst W97.here hx rfl (hb hby at_177) (XS.icmpYes W97.here hx rfl (pc0 := 178) (pc' := 194) rfl (hb hby at_178) rfl (tlt ((by decide) : (2 : Int32) < (3 : Int32))).1 (by decide) (by decide) (XS.iload W97.here hx rfl (hb hby at_194) rfl (XS.ifNo W97.here hx rfl (hb hby at_196) rfl ((if0 _ _).trans (feq ((by decide) : ¬ ((1 : Int32) = (0 : Int32)))).1) (XS.aload W97.here hx rfl (hb hby at_199) rfl rfl (XS.iload W97.here hx rfl (hb hby at_201) rfl k)))))))) ?_
          refine go (g' := (mkF m 205 #[vI p1, vI p2, vI p3, vI p4, vI p5, vI (2 : Int32), vI c1, vI c2, vI c3, vI (1 : Int32), vI ld, vI tr, vR x4, vI (Int32.ofNat (((w1 ++ [(34 : Int32)]) ++ put1 c1) ++ put1 c2).length), .unset, .unset, .unset] [(.int (34 : Int32)), (.int (Int32.ofNat (((w1 ++ [(34 : Int32)]) ++ put1 c1) ++ put1 c2).length)), (.ref x4)])) (fun _ k => XS.bipush W97.here hx rfl (hb hby at_203) k) ?_
          have P99 : Arv Z h97 x4 k4 .char (12 : Int32) ((((w1 ++ [(34 : Int32)]) ++ put1 c1) ++ put1 c2).map Value.int ++ List.replicate 1 vZ) vZ := V97.pad (pad_rep _ _ 1)
          obtain ⟨T99, h99, W99, R99, V99, st99⟩ := own_stC W97 hx P99 (by omega) (j := (Int32.ofNat (((w1 ++ [(34 : Int32)]) ++ put1 c1) ++ put1 c2).length)) (i := (((w1 ++ [(34 : Int32)]) ++ put1 c1) ++ put1 c2).length) (own_inb (n := 12) (by (try simp only [List.length_append, List.length_cons, List.length_nil]) <;> omega) (by decide)) (own_cl (by (try simp only [List.length_append, List.length_cons, List.length_nil]) <;> omega)) (by simp) ⟨by decide, by decide⟩ (g := (mkF m 205 #[vI p1, vI p2, vI p3, vI p4, vI p5, vI (2 : Int32), vI c1, vI c2, vI c3, vI (1 : Int32), vI ld, vI tr, vR x4, vI (Int32.ofNat (((w1 ++ [(34 : Int32)]) ++ put1 c1) ++ put1 c2).length), .unset, .unset, .unset] [(.int (34 : Int32)), (.int (Int32.ofNat (((w1 ++ [(34 : Int32)]) ++ put1 c1) ++ put1 c2).length)), (.ref x4)])) rfl rfl (hb hby at_205)
          have z100 : h99.size = h97.size := R99.size
          have U99 : Arv Z h99 x4 k4 .char (12 : Int32) (((((w1 ++ [(34 : Int32)]) ++ put1 c1) ++ put1 c2) ++ [(34 : Int32)]).map Value.int) vZ := by have q := V99; rw [own_setl] at q; exact q
          refine go (g' := (mkF m 206 #[vI p1, vI p2, vI p3, vI p4, vI p5, vI (2 : Int32), vI c1, vI c2, vI c3, vI (1 : Int32), vI ld, vI tr, vR x4, vI (Int32.ofNat (((w1 ++ [(34 : Int32)]) ++ put1 c1) ++ put1 c2).length), .unset, .unset, .unset] [])) (st99) ?_
          refine go (g' := (mkF m 210 #[vI p1, vI p2, vI p3, vI p4, vI p5, vI (2 : Int32), vI c1, vI c2, vI c3, vI (1 : Int32), vI ld, vI tr, vR x4, vI (Int32.ofNat (((w1 ++ [(34 : Int32)]) ++ put1 c1) ++ put1 c2).length), .unset, .unset, .unset] [(.int ((Int32.ofNat (((w1 ++ [(34 : Int32)]) ++ put1 c1) ++ put1 c2).length) + (1 : Int32)))])) (fun _ k => XS.iload W99.here hx rfl (hb hby at_206) rfl (XS.iconst W99.here hx rfl (hb hby at_208) (XS.iadd W99.here hx rfl (hb hby at_209) rfl k))) ?_
          rw [show ((Int32.ofNat (((w1 ++ [(34 : Int32)]) ++ put1 c1) ++ put1 c2).length) + (1 : Int32)) = (Int32.ofNat ((((w1 ++ [(34 : Int32)]) ++ put1 c1) ++ put1 c2) ++ [(34 : Int32)]).length) from own_len1 _ _]
          refine go (g' := (mkF m 212 #[vI p1, vI p2, vI p3, vI p4, vI p5, vI (2 : Int32), vI c1, vI c2, vI c3, vI (1 : Int32), vI ld, vI tr, vR x4, vI (Int32.ofNat ((((w1 ++ [(34 : Int32)]) ++ put1 c1) ++ put1 c2) ++ [(34 : Int32)]).length), .unset, .unset, .unset] [])) (fun _ k => XS.istore W99.here hx rfl (hb hby at_210) rfl (l' := #[vI p1, vI p2, vI p3, vI p4, vI p5, vI (2 : Int32), vI c1, vI c2, vI c3, vI (1 : Int32), vI ld, vI tr, vR x4, vI (Int32.ofNat ((((w1 ++ [(34 : Int32)]) ++ put1 c1) ++ put1 c2) ++ [(34 : Int32)]).length), .unset, .unset, .unset]) rfl k) ?_
          have e101 : ((((w1 ++ [(34 : Int32)]) ++ put1 c1) ++ put1 c2) ++ [(34 : Int32)]) = w1 ++ (34 :: (enc [c1, c2] ++ [34])) := by simp [enc, put0]
          rw [e101]
          have V101 := U99
          rw [e101] at V101
          exact J212 w1 [c1, c2] (34 :: (enc [c1, c2] ++ [34])) _ _ _ hw1 hl1 (Or.inr (Or.inl ⟨rfl, rfl⟩)) (Or.inr rfl) (own_more W99 (nle rfl) (nle rfl)) V101
        · show G T92 (mkF m 156 #[vI p1, vI p2, vI p3, vI p4, vI p5, vI (3 : Int32), vI c1, vI c2, vI c3, vI (1 : Int32), vI ld, vI tr, vR x4, vI (Int32.ofNat ((w1 ++ [(34 : Int32)]) ++ put1 c1).length), .unset, .unset, .unset] [])
          refine go (g' := (mkF m 170 #[vI p1, vI p2, vI p3, vI p4, vI p5, vI (3 : Int32), vI c1, vI c2, vI c3, vI (1 : Int32), vI ld, vI tr, vR x4, vI (Int32.ofNat ((w1 ++ [(34 : Int32)]) ++ put1 c1).length), .unset, .unset, .unset] [(.int (1 : Int32)), (.int c2), (.int (Int32.ofNat ((w1 ++ [(34 : Int32)]) ++ put1 c1).length)), (.ref x4)])) (fun _ k => XS.iload W92.here hx rfl (hb hby at_156) rfl (XS.iconst W92.here hx rfl (hb hby at_158) (XS.icmpNo W92.here hx rfl (hb hby at_159) rfl (flt ((by decide) : ¬ ((3 : Int32) < (2 : Int32)))).1 (XS.aload W92.here hx rfl (hb hby at_162) rfl rfl (XS.iload W92.here hx rfl (hb hby at_164) rfl (XS.iload W92.here hx rfl (hb hby at_166) rfl (XS.iload W92.here hx rfl (hb hby at_168) rfl k))))))) ?_
          obtain ⟨v102, so102, vm102, T102, h102, W102, C102, q102, hso102, st102⟩ := own_static W92 hx (y := (⟨"com/example/inchworm/inchworm/core/IdempotencyKeyParseHeaderPinLaw", "put", "([CICZ)I"⟩ : MethodName)) (w6 C) (w7 C) (w3 C) (w8 C) (by decide) (rm_put1 C h92 x4 k4 ((w1 ++ [(34 : Int32)]) ++ put1 c1) c2 hk2 (by (try simp only [List.length_append, List.length_cons, List.length_nil]) <;> omega) V92 (by omega)) (fun _ q => nomatch q) (Wd := 0) (nle rfl) (nle rfl) (nle rfl) (nle rfl) (g := (mkF m 170 #[vI p1, vI p2, vI p3, vI p4, vI p5, vI (3 : Int32), vI c1, vI c2, vI c3, vI (1 : Int32), vI ld, vI tr, vR x4, vI (Int32.ofNat ((w1 ++ [(34 : Int32)]) ++ put1 c1).length), .unset, .unset, .unset] [(.int (1 : Int32)), (.int c2), (.int (Int32.ofNat ((w1 ++ [(34 : Int32)]) ++ put1 c1).length)), (.ref x4)])) rfl (by rw [hml]; rfl) (argsL := [(.ref x4), (.int (Int32.ofNat ((w1 ++ [(34 : Int32)]) ++ put1 c1).length)), (.int c2), (.int (1 : Int32))]) (rest := []) (lenOf pd_27 rfl) rfl rfl (nle rfl) (hb hby at_170)
          obtain ⟨n102, rfl, K102, rfl, V102⟩ := q102
          have z103 : h92.size ≤ h102.size := K102.1
          refine go (g' := (mkF m 173 #[vI p1, vI p2, vI p3, vI p4, vI p5, vI (3 : Int32), vI c1, vI c2, vI c3, vI (1 : Int32), vI ld, vI tr, vR x4, vI (Int32.ofNat ((w1 ++ [(34 : Int32)]) ++ put1 c1).length), .unset, .unset, .unset] [(.int (Int32.ofNat (((w1 ++ [(34 : Int32)]) ++ put1 c1) ++ put1 c2).length))])) (st102) ?_
          refine go (g' := (mkF m 189 #[vI p1, vI p2, vI p3, vI p4, vI p5, vI (3 : Int32), vI c1, vI c2, vI c3, vI (1 : Int32), vI ld, vI tr, vR x4, vI (Int32.ofNat (((w1 ++ [(34 : Int32)]) ++ put1 c1) ++ put1 c2).length), .unset, .unset, .unset] [(.int (1 : Int32)), (.int c3), (.int (Int32.ofNat (((w1 ++ [(34 : Int32)]) ++ put1 c1) ++ put1 c2).length)), (.ref x4)])) (fun _ k => XS.istore W102.here hx rfl (hb hby at_173) rfl (l' := #[vI p1, vI p2, vI p3, vI p4, vI p5, vI (3 : Int32), vI c1, vI c2, vI c3, vI (1 : Int32), vI ld, vI tr, vR x4, vI (Int32.ofNat (((w1 ++ [(34 : Int32)]) ++ put1 c1) ++ put1 c2).length), .unset, .unset, .unset]) rfl (XS.iload W102.here hx rfl (hb hby at_175) rfl (XS.iconst W102.here hx rfl (hb hby at_177) (XS.icmpNo W102.here hx rfl (hb hby at_178) rfl (flt ((by decide) : ¬ ((3 : Int32) < (3 : Int32)))).1 (XS.aload W102.here hx rfl (hb hby at_181) rfl rfl (XS.iload W102.here hx rfl (hb hby at_183) rfl (XS.iload W102.here hx rfl (hb hby at_185) rfl (XS.iload W102.here hx rfl (hb hby at_187) rfl k)))))))) ?_
          obtain ⟨v104, so104, vm104, T104, h104, W104, C104, q104, hso104, st104⟩ := own_static W102 hx (y := (⟨"com/example/inchworm/inchworm/core/IdempotencyKeyParseHeaderPinLaw", "put", "([CICZ)I"⟩ : MethodName)) (w6 C) (w7 C) (w3 C) (w8 C) (by decide) (rm_put1 C h102 x4 k4 (((w1 ++ [(34 : Int32)]) ++ put1 c1) ++ put1 c2) c3 hk3 (by (try simp only [List.length_append, List.length_cons, List.length_nil]) <;> omega) V102 (by omega)) (fun _ q => nomatch q) (Wd := 0) (nle rfl) (nle rfl) (nle rfl) (nle rfl) (g := (mkF m 189 #[vI p1, vI p2, vI p3, vI p4, vI p5, vI (3 : Int32), vI c1, vI c2, vI c3, vI (1 : Int32), vI ld, vI tr, vR x4, vI (Int32.ofNat (((w1 ++ [(34 : Int32)]) ++ put1 c1) ++ put1 c2).length), .unset, .unset, .unset] [(.int (1 : Int32)), (.int c3), (.int (Int32.ofNat (((w1 ++ [(34 : Int32)]) ++ put1 c1) ++ put1 c2).length)), (.ref x4)])) rfl (by rw [hml]; rfl) (argsL := [(.ref x4), (.int (Int32.ofNat (((w1 ++ [(34 : Int32)]) ++ put1 c1) ++ put1 c2).length)), (.int c3), (.int (1 : Int32))]) (rest := []) (lenOf pd_27 rfl) rfl rfl (nle rfl) (hb hby at_189)
          obtain ⟨n104, rfl, K104, rfl, V104⟩ := q104
          have z105 : h102.size ≤ h104.size := K104.1
          refine go (g' := (mkF m 192 #[vI p1, vI p2, vI p3, vI p4, vI p5, vI (3 : Int32), vI c1, vI c2, vI c3, vI (1 : Int32), vI ld, vI tr, vR x4, vI (Int32.ofNat (((w1 ++ [(34 : Int32)]) ++ put1 c1) ++ put1 c2).length), .unset, .unset, .unset] [(.int (Int32.ofNat ((((w1 ++ [(34 : Int32)]) ++ put1 c1) ++ put1 c2) ++ put1 c3).length))])) (st104) ?_
          refine go (g' := (mkF m 205 #[vI p1, vI p2, vI p3, vI p4, vI p5, vI (3 : Int32), vI c1, vI c2, vI c3, vI (1 : Int32), vI ld, vI tr, vR x4, vI (Int32.ofNat ((((w1 ++ [(34 : Int32)]) ++ put1 c1) ++ put1 c2) ++ put1 c3).length), .unset, .unset, .unset] [(.int (34 : Int32)), (.int (Int32.ofNat ((((w1 ++ [(34 : Int32)]) ++ put1 c1) ++ put1 c2) ++ put1 c3).length)), (.ref x4)])) (fun _ k => XS.istore W104.here hx rfl (hb hby at_192) rfl (l' := #[vI p1, vI p2, vI p3, vI p4, vI p5, vI (3 : Int32), vI c1, vI c2, vI c3, vI (1 : Int32), vI ld, vI tr, vR x4, vI (Int32.ofNat ((((w1 ++ [(34 : Int32)]) ++ put1 c1) ++ put1 c2) ++ put1 c3).length), .unset, .unset, .unset]) rfl (XS.iload W104.here hx rfl (hb hby at_194) rfl (XS.ifNo W104.here hx rfl (hb hby at_196) rfl ((if0 _ _).trans (feq ((by decide) : ¬ ((1 : Int32) = (0 : Int32)))).1) (XS.aload W104.here hx rfl (hb hby at_199) rfl rfl (XS.iload W104.here hx rfl (hb hby at_201) rfl (XS.bipush W104.here hx rfl (hb hby at_203) k)))))) ?_
          have P106 : Arv Z h104 x4 k4 .char (12 : Int32) (((((w1 ++ [(34 : Int32)]) ++ put1 c1) ++ put1 c2) ++ put1 c3).map Value.int ++ List.replicate 1 vZ) vZ := V104.pad (pad_rep _ _ 1)
          obtain ⟨T106, h106, W106, R106, V106, st106⟩ := own_stC W104 hx P106 (by omega) (j := (Int32.ofNat ((((w1 ++ [(34 : Int32)]) ++ put1 c1) ++ put1 c2) ++ put1 c3).length)) (i := ((((w1 ++ [(34 : Int32)]) ++ put1 c1) ++ put1 c2) ++ put1 c3).length) (own_inb (n := 12) (by (try simp only [List.length_append, List.length_cons, List.length_nil]) <;> omega) (by decide)) (own_cl (by (try simp only [List.length_append, List.length_cons, List.length_nil]) <;> omega)) (by simp) ⟨by decide, by decide⟩ (g := (mkF m 205 #[vI p1, vI p2, vI p3, vI p4, vI p5, vI (3 : Int32), vI c1, vI c2, vI c3, vI (1 : Int32), vI ld, vI tr, vR x4, vI (Int32.ofNat ((((w1 ++ [(34 : Int32)]) ++ put1 c1) ++ put1 c2) ++ put1 c3).length), .unset, .unset, .unset] [(.int (34 : Int32)), (.int (Int32.ofNat ((((w1 ++ [(34 : Int32)]) ++ put1 c1) ++ put1 c2) ++ put1 c3).length)), (.ref x4)])) rfl rfl (hb hby at_205)
          have z107 : h106.size = h104.size := R106.size
          have U106 : Arv Z h106 x4 k4 .char (12 : Int32) ((((((w1 ++ [(34 : Int32)]) ++ put1 c1) ++ put1 c2) ++ put1 c3) ++ [(34 : Int32)]).map Value.int) vZ := by have q := V106; rw [own_setl] at q; exact q
          refine go (g' := (mkF m 206 #[vI p1, vI p2, vI p3, vI p4, vI p5, vI (3 : Int32), vI c1, vI c2, vI c3, vI (1 : Int32), vI ld, vI tr, vR x4, vI (Int32.ofNat ((((w1 ++ [(34 : Int32)]) ++ put1 c1) ++ put1 c2) ++ put1 c3).length), .unset, .unset, .unset] [])) (st106) ?_
          refine go (g' := (mkF m 210 #[vI p1, vI p2, vI p3, vI p4, vI p5, vI (3 : Int32), vI c1, vI c2, vI c3, vI (1 : Int32), vI ld, vI tr, vR x4, vI (Int32.ofNat ((((w1 ++ [(34 : Int32)]) ++ put1 c1) ++ put1 c2) ++ put1 c3).length), .unset, .unset, .unset] [(.int ((Int32.ofNat ((((w1 ++ [(34 : Int32)]) ++ put1 c1) ++ put1 c2) ++ put1 c3).length) + (1 : Int32)))])) (fun _ k => XS.iload W106.here hx rfl (hb hby at_206) rfl (XS.iconst W106.here hx rfl (hb hby at_208) (XS.iadd W106.here hx rfl (hb hby at_209) rfl k))) ?_
          rw [show ((Int32.ofNat ((((w1 ++ [(34 : Int32)]) ++ put1 c1) ++ put1 c2) ++ put1 c3).length) + (1 : Int32)) = (Int32.ofNat (((((w1 ++ [(34 : Int32)]) ++ put1 c1) ++ put1 c2) ++ put1 c3) ++ [(34 : Int32)]).length) from own_len1 _ _]
          refine go (g' := (mkF m 212 #[vI p1, vI p2, vI p3, vI p4, vI p5, vI (3 : Int32), vI c1, vI c2, vI c3, vI (1 : Int32), vI ld, vI tr, vR x4, vI (Int32.ofNat (((((w1 ++ [(34 : Int32)]) ++ put1 c1) ++ put1 c2) ++ put1 c3) ++ [(34 : Int32)]).length), .unset, .unset, .unset] [])) (fun _ k => XS.istore W106.here hx rfl (hb hby at_210) rfl (l' := #[vI p1, vI p2, vI p3, vI p4, vI p5, vI (3 : Int32), vI c1, vI c2, vI c3, vI (1 : Int32), vI ld, vI tr, vR x4, vI (Int32.ofNat (((((w1 ++ [(34 : Int32)]) ++ put1 c1) ++ put1 c2) ++ put1 c3) ++ [(34 : Int32)]).length), .unset, .unset, .unset]) rfl k) ?_
          have e108 : (((((w1 ++ [(34 : Int32)]) ++ put1 c1) ++ put1 c2) ++ put1 c3) ++ [(34 : Int32)]) = w1 ++ (34 :: (enc [c1, c2, c3] ++ [34])) := by simp [enc, put0]
          rw [e108]
          have V108 := U106
          rw [e108] at V108
          exact J212 w1 [c1, c2, c3] (34 :: (enc [c1, c2, c3] ++ [34])) _ _ _ hw1 hl1 (Or.inr (Or.inr ⟨rfl, rfl⟩)) (Or.inr rfl) (own_more W106 (nle rfl) (nle rfl)) V108
      · show G TJ (mkF m 125 #[vI p1, vI p2, vI p3, vI p4, vI p5, vI kv, vI c1, vI c2, vI c3, .val vZ, vI ld, vI tr, vR x4, vI (Int32.ofNat w1.length), .unset, .unset, .unset] [])
        refine go (g' := (mkF m 151 #[vI p1, vI p2, vI p3, vI p4, vI p5, vI kv, vI c1, vI c2, vI c3, .val vZ, vI ld, vI tr, vR x4, vI (Int32.ofNat w1.length), .unset, .unset, .unset] [vZ, (.int c1), (.int (Int32.ofNat w1.length)), (.ref x4)])) (fun _ k => XS.iload WJ.here hx rfl (hb hby at_125) rfl (XS.ifYes WJ.here hx rfl (pc0 := 127) (pc' := 143) rfl (hb hby at_127) rfl ((if0 _ _).trans (teq ((by decide) : (0 : Int32) = (0 : Int32))).1) (by decide) (by decide) (XS.aload WJ.here hx rfl (hb hby at_143) rfl rfl (XS.iload WJ.here hx rfl (hb hby at_145) rfl (XS.iload WJ.here hx rfl (hb hby at_147) rfl (XS.iload WJ.here hx rfl (hb hby at_149) rfl k)))))) ?_
        obtain ⟨v109, so109, vm109, T109, h109, W109, C109, q109, hso109, st109⟩ := own_static WJ hx (y := (⟨"com/example/inchworm/inchworm/core/IdempotencyKeyParseHeaderPinLaw", "put", "([CICZ)I"⟩ : MethodName)) (w6 C) (w7 C) (w3 C) (w8 C) (by decide) (rm_put0 C hJ x4 k4 w1 c1 hk1 (by (try simp only [List.length_append, List.length_cons, List.length_nil]) <;> omega) VJ (by omega)) (fun _ q => nomatch q) (Wd := 0) (nle rfl) (nle rfl) (nle rfl) (nle rfl) (g := (mkF m 151 #[vI p1, vI p2, vI p3, vI p4, vI p5, vI kv, vI c1, vI c2, vI c3, .val vZ, vI ld, vI tr, vR x4, vI (Int32.ofNat w1.length), .unset, .unset, .unset] [vZ, (.int c1), (.int (Int32.ofNat w1.length)), (.ref x4)])) rfl (by rw [hml]; rfl) (argsL := [(.ref x4), (.int (Int32.ofNat w1.length)), (.int c1), vZ]) (rest := []) (lenOf pd_27 rfl) rfl rfl (nle rfl) (hb hby at_151)
        obtain ⟨n109, rfl, K109, rfl, V109⟩ := q109
        have z110 : hJ.size ≤ h109.size := K109.1
        refine go (g' := (mkF m 154 #[vI p1, vI p2, vI p3, vI p4, vI p5, vI kv, vI c1, vI c2, vI c3, .val vZ, vI ld, vI tr, vR x4, vI (Int32.ofNat w1.length), .unset, .unset, .unset] [(.int (Int32.ofNat (w1 ++ put0 c1).length))])) (st109) ?_
        refine go (g' := (mkF m 156 #[vI p1, vI p2, vI p3, vI p4, vI p5, vI kv, vI c1, vI c2, vI c3, .val vZ, vI ld, vI tr, vR x4, vI (Int32.ofNat (w1 ++ put0 c1).length), .unset, .unset, .unset] [])) (fun _ k => XS.istore W109.here hx rfl (hb hby at_154) rfl (l' := #[vI p1, vI p2, vI p3, vI p4, vI p5, vI kv, vI c1, vI c2, vI c3, .val vZ, vI ld, vI tr, vR x4, vI (Int32.ofNat (w1 ++ put0 c1).length), .unset, .unset, .unset]) rfl k) ?_
        rcases hkv with rfl | rfl | rfl
        · show G T109 (mkF m 156 #[vI p1, vI p2, vI p3, vI p4, vI p5, vI (1 : Int32), vI c1, vI c2, vI c3, .val vZ, vI ld, vI tr, vR x4, vI (Int32.ofNat (w1 ++ put0 c1).length), .unset, .unset, .unset] [])
          refine go (g' := (mkF m 212 #[vI p1, vI p2, vI p3, vI p4, vI p5, vI (1 : Int32), vI c1, vI c2, vI c3, .val vZ, vI ld, vI tr, vR x4, vI (Int32.ofNat (w1 ++ put0 c1).length), .unset, .unset, .unset] [])) (fun _ k => XS.iload W109.here hx rfl (hb hby at_156) rfl (XS.iconst W109.here hx rfl (hb hby at_158) (XS.icmpYes W109.here hx rfl (pc0 := 159) (pc' := 175) rfl (hb hby at_159) rfl (tlt ((by decide) : (1 : Int32) < (2 : Int32))).1 (by decide) (by decide) (XS.iload W109.here hx rfl (hb hby at_175) rfl (XS.iconst W109.here hx rfl (hb hby at_177) (XS.icmpYes W109.here hx rfl (pc0 := 178) (pc' := 194) rfl (hb hby at_178) rfl (tlt ((by decide) : (1 : Int32) < (3 : Int32))).1 (by decide) (by decide) (XS.iload W109.here hx rfl (hb hby at_194) rfl (XS.ifYes W109.here hx rfl (pc0 := 196) (pc' := 212) rfl (hb hby at_196) rfl ((if0 _ _).trans (teq ((by decide) : (0 : Int32) = (0 : Int32))).1) (by decide) (by decide) k)))))))) ?_
          have e111 : (w1 ++ put0 c1) = w1 ++ [c1] := by simp [enc, put0]
          rw [e111]
          have V111 := V109
          rw [e111] at V111
          exact J212 w1 [c1] [c1] _ _ _ hw1 hl1 (Or.inl ⟨rfl, rfl⟩) (Or.inl ⟨rfl, hn34⟩) (own_more W109 (nle rfl) (nle rfl)) V111
        · show G T109 (mkF m 156 #[vI p1, vI p2, vI p3, vI p4, vI p5, vI (2 : Int32), vI c1, vI c2, vI c3, .val vZ, vI ld, vI tr, vR x4, vI (Int32.ofNat (w1 ++ put0 c1).length), .unset, .unset, .unset] [])
          refine go (g' := (mkF m 170 #[vI p1, vI p2, vI p3, vI p4, vI p5, vI (2 : Int32), vI c1, vI c2, vI c3, .val vZ, vI ld, vI tr, vR x4, vI (Int32.ofNat (w1 ++ put0 c1).length), .unset, .unset, .unset] [vZ, (.int c2), (.int (Int32.ofNat (w1 ++ put0 c1).length)), (.ref x4)])) (fun _ k => XS.iload W109.here hx rfl (hb hby at_156) rfl (XS.iconst W109.here hx rfl (hb hby at_158) (XS.icmpNo W109.here hx rfl (hb hby at_159) rfl (flt ((by decide) : ¬ ((2 : Int32) < (2 : Int32)))).1 (XS.aload W109.here hx rfl (hb hby at_162) rfl rfl (XS.iload W109.here hx rfl (hb hby at_164) rfl (XS.iload W109.here hx rfl (hb hby at_166) rfl (XS.iload W109.here hx rfl (hb hby at_168) rfl k))))))) ?_
          obtain ⟨v112, so112, vm112, T112, h112, W112, C112, q112, hso112, st112⟩ := own_static W109 hx (y := (⟨"com/example/inchworm/inchworm/core/IdempotencyKeyParseHeaderPinLaw", "put", "([CICZ)I"⟩ : MethodName)) (w6 C) (w7 C) (w3 C) (w8 C) (by decide) (rm_put0 C h109 x4 k4 (w1 ++ put0 c1) c2 hk2 (by (try simp only [List.length_append, List.length_cons, List.length_nil]) <;> omega) V109 (by omega)) (fun _ q => nomatch q) (Wd := 0) (nle rfl) (nle rfl) (nle rfl) (nle rfl) (g := (mkF m 170 #[vI p1, vI p2, vI p3, vI p4, vI p5, vI (2 : Int32), vI c1, vI c2, vI c3, .val vZ, vI ld, vI tr, vR x4, vI (Int32.ofNat (w1 ++ put0 c1).length), .unset, .unset, .unset] [vZ, (.int c2), (.int (Int32.ofNat (w1 ++ put0 c1).length)), (.ref x4)])) rfl (by rw [hml]; rfl) (argsL := [(.ref x4), (.int (Int32.ofNat (w1 ++ put0 c1).length)), (.int c2), vZ]) (rest := []) (lenOf pd_27 rfl) rfl rfl (nle rfl) (hb hby at_170)
          obtain ⟨n112, rfl, K112, rfl, V112⟩ := q112
          have z113 : h109.size ≤ h112.size := K112.1
          refine go (g' := (mkF m 173 #[vI p1, vI p2, vI p3, vI p4, vI p5, vI (2 : Int32), vI c1, vI c2, vI c3, .val vZ, vI ld, vI tr, vR x4, vI (Int32.ofNat (w1 ++ put0 c1).length), .unset, .unset, .unset] [(.int (Int32.ofNat ((w1 ++ put0 c1) ++ put0 c2).length))])) (st112) ?_
          refine go (g' := (mkF m 212 #[vI p1, vI p2, vI p3, vI p4, vI p5, vI (2 : Int32), vI c1, vI c2, vI c3, .val vZ, vI ld, vI tr, vR x4, vI (Int32.ofNat ((w1 ++ put0 c1) ++ put0 c2).length), .unset, .unset, .unset] [])) (fun _ k => XS.istore W112.here hx rfl (hb hby at_173) rfl (l' := #[vI p1, vI p2, vI p3, vI p4, vI p5, vI (2 : Int32), vI c1, vI c2, vI c3, .val vZ, vI ld, vI tr, vR x4, vI (Int32.ofNat ((w1 ++ put0 c1) ++ put0 c2).length), .unset, .unset, .unset]) rfl (XS.iload W112.here hx rfl (hb hby at_175) rfl (XS.iconst W112.here hx rfl (hb hby at_177) (XS.icmpYes W112.here hx rfl (pc0 := 178) (pc' := 194) rfl (hb hby at_178) rfl (tlt ((by decide) : (2 : Int32) < (3 : Int32))).1 (by decide) (by decide) (XS.iload W112.here hx rfl (hb hby at_194) rfl (XS.ifYes W112.here hx rfl (pc0 := 196) (pc' := 212) rfl (hb hby at_196) rfl ((if0 _ _).trans (teq ((by decide) : (0 : Int32) = (0 : Int32))).1) (by decide) (by decide) k)))))) ?_
          have e114 : ((w1 ++ put0 c1) ++ put0 c2) = w1 ++ [c1, c2] := by simp [enc, put0]
          rw [e114]
          have V114 := V112
          rw [e114] at V114
          exact J212 w1 [c1, c2] [c1, c2] _ _ _ hw1 hl1 (Or.inr (Or.inl ⟨rfl, rfl⟩)) (Or.inl ⟨rfl, hn34⟩) (own_more W112 (nle rfl) (nle rfl)) V114
        · show G T109 (mkF m 156 #[vI p1, vI p2, vI p3, vI p4, vI p5, vI (3 : Int32), vI c1, vI c2, vI c3, .val vZ, vI ld, vI tr, vR x4, vI (Int32.ofNat (w1 ++ put0 c1).length), .unset, .unset, .unset] [])
          refine go (g' := (mkF m 170 #[vI p1, vI p2, vI p3, vI p4, vI p5, vI (3 : Int32), vI c1, vI c2, vI c3, .val vZ, vI ld, vI tr, vR x4, vI (Int32.ofNat (w1 ++ put0 c1).length), .unset, .unset, .unset] [vZ, (.int c2), (.int (Int32.ofNat (w1 ++ put0 c1).length)), (.ref x4)])) (fun _ k => XS.iload W109.here hx rfl (hb hby at_156) rfl (XS.iconst W109.here hx rfl (hb hby at_158) (XS.icmpNo W109.here hx rfl (hb hby at_159) rfl (flt ((by decide) : ¬ ((3 : Int32) < (2 : Int32)))).1 (XS.aload W109.here hx rfl (hb hby at_162) rfl rfl (XS.iload W109.here hx rfl (hb hby at_164) rfl (XS.iload W109.here hx rfl (hb hby at_166) rfl (XS.iload W109.here hx rfl (hb hby at_168) rfl k))))))) ?_
          obtain ⟨v115, so115, vm115, T115, h115, W115, C115, q115, hso115, st115⟩ := own_static W109 hx (y := (⟨"com/example/inchworm/inchworm/core/IdempotencyKeyParseHeaderPinLaw", "put", "([CICZ)I"⟩ : MethodName)) (w6 C) (w7 C) (w3 C) (w8 C) (by decide) (rm_put0 C h109 x4 k4 (w1 ++ put0 c1) c2 hk2 (by (try simp only [List.length_append, List.length_cons, List.length_nil]) <;> omega) V109 (by omega)) (fun _ q => nomatch q) (Wd := 0) (nle rfl) (nle rfl) (nle rfl) (nle rfl) (g := (mkF m 170 #[vI p1, vI p2, vI p3, vI p4, vI p5, vI (3 : Int32), vI c1, vI c2, vI c3, .val vZ, vI ld, vI tr, vR x4, vI (Int32.ofNat (w1 ++ put0 c1).length), .unset, .unset, .unset] [vZ, (.int c2), (.int (Int32.ofNat (w1 ++ put0 c1).length)), (.ref x4)])) rfl (by rw [hml]; rfl) (argsL := [(.ref x4), (.int (Int32.ofNat (w1 ++ put0 c1).length)), (.int c2), vZ]) (rest := []) (lenOf pd_27 rfl) rfl rfl (nle rfl) (hb hby at_170)
          obtain ⟨n115, rfl, K115, rfl, V115⟩ := q115
          have z116 : h109.size ≤ h115.size := K115.1
          refine go (g' := (mkF m 173 #[vI p1, vI p2, vI p3, vI p4, vI p5, vI (3 : Int32), vI c1, vI c2, vI c3, .val vZ, vI ld, vI tr, vR x4, vI (Int32.ofNat (w1 ++ put0 c1).length), .unset, .unset, .unset] [(.int (Int32.ofNat ((w1 ++ put0 c1) ++ put0 c2).length))])) (st115) ?_
          refine go (g' := (mkF m 189 #[vI p1, vI p2, vI p3, vI p4, vI p5, vI (3 : Int32), vI c1, vI c2, vI c3, .val vZ, vI ld, vI tr, vR x4, vI (Int32.ofNat ((w1 ++ put0 c1) ++ put0 c2).length), .unset, .unset, .unset] [vZ, (.int c3), (.int (Int32.ofNat ((w1 ++ put0 c1) ++ put0 c2).length)), (.ref x4)])) (fun _ k => XS.istore W115.here hx rfl (hb hby at_173) rfl (l' := #[vI p1, vI p2, vI p3, vI p4, vI p5, vI (3 : Int32), vI c1, vI c2, vI c3, .val vZ, vI ld, vI tr, vR x4, vI (Int32.ofNat ((w1 ++ put0 c1) ++ put0 c2).length), .unset, .unset, .unset]) rfl (XS.iload W115.here hx rfl (hb hby at_175) rfl (XS.iconst W115.here hx rfl (hb hby at_177) (XS.icmpNo W115.here hx rfl (hb hby at_178) rfl (flt ((by decide) : ¬ ((3 : Int32) < (3 : Int32)))).1 (XS.aload W115.here hx rfl (hb hby at_181) rfl rfl (XS.iload W115.here hx rfl (hb hby at_183) rfl (XS.iload W115.here hx rfl (hb hby at_185) rfl (XS.iload W115.here hx rfl (hb hby at_187) rfl k)))))))) ?_
          obtain ⟨v117, so117, vm117, T117, h117, W117, C117, q117, hso117, st117⟩ := own_static W115 hx (y := (⟨"com/example/inchworm/inchworm/core/IdempotencyKeyParseHeaderPinLaw", "put", "([CICZ)I"⟩ : MethodName)) (w6 C) (w7 C) (w3 C) (w8 C) (by decide) (rm_put0 C h115 x4 k4 ((w1 ++ put0 c1) ++ put0 c2) c3 hk3 (by (try simp only [List.length_append, List.length_cons, List.length_nil]) <;> omega) V115 (by omega)) (fun _ q => nomatch q) (Wd := 0) (nle rfl) (nle rfl) (nle rfl) (nle rfl) (g := (mkF m 189 #[vI p1, vI p2, vI p3, vI p4, vI p5, vI (3 : Int32), vI c1, vI c2, vI c3, .val vZ, vI ld, vI tr, vR x4, vI (Int32.ofNat ((w1 ++ put0 c1) ++ put0 c2).length), .unset, .unset, .unset] [vZ, (.int c3), (.int (Int32.ofNat ((w1 ++ put0 c1) ++ put0 c2).length)), (.ref x4)])) rfl (by rw [hml]; rfl) (argsL := [(.ref x4), (.int (Int32.ofNat ((w1 ++ put0 c1) ++ put0 c2).length)), (.int c3), vZ]) (rest := []) (lenOf pd_27 rfl) rfl rfl (nle rfl) (hb hby at_189)
          obtain ⟨n117, rfl, K117, rfl, V117⟩ := q117
          have z118 : h115.size ≤ h117.size := K117.1
          refine go (g' := (mkF m 192 #[vI p1, vI p2, vI p3, vI p4, vI p5, vI (3 : Int32), vI c1, vI c2, vI c3, .val vZ, vI ld, vI tr, vR x4, vI (Int32.ofNat ((w1 ++ put0 c1) ++ put0 c2).length), .unset, .unset, .unset] [(.int (Int32.ofNat (((w1 ++ put0 c1) ++ put0 c2) ++ put0 c3).length))])) (st117) ?_
          refine go (g' := (mkF m 212 #[vI p1, vI p2, vI p3, vI p4, vI p5, vI (3 : Int32), vI c1, vI c2, vI c3, .val vZ, vI ld, vI tr, vR x4, vI (Int32.ofNat (((w1 ++ put0 c1) ++ put0 c2) ++ put0 c3).length), .unset, .unset, .unset] [])) (fun _ k => XS.istore W117.here hx rfl (hb hby at_192) rfl (l' := #[vI p1, vI p2, vI p3, vI p4, vI p5, vI (3 : Int32), vI c1, vI c2, vI c3, .val vZ, vI ld, vI tr, vR x4, vI (Int32.ofNat (((w1 ++ put0 c1) ++ put0 c2) ++ put0 c3).length), .unset, .unset, .unset]) rfl (XS.iload W117.here hx rfl (hb hby at_194) rfl (XS.ifYes W117.here hx rfl (pc0 := 196) (pc' := 212) rfl (hb hby at_196) rfl ((if0 _ _).trans (teq ((by decide) : (0 : Int32) = (0 : Int32))).1) (by decide) (by decide) k))) ?_
          have e119 : (((w1 ++ put0 c1) ++ put0 c2) ++ put0 c3) = w1 ++ [c1, c2, c3] := by simp [enc, put0]
          rw [e119]
          have V119 := V117
          rw [e119] at V119
          exact J212 w1 [c1, c2, c3] [c1, c2, c3] _ _ _ hw1 hl1 (Or.inr (Or.inr ⟨rfl, rfl⟩)) (Or.inl ⟨rfl, hn34⟩) (own_more W117 (nle rfl) (nle rfl)) V119
    rcases hld with rfl | rfl | rfl
    · show G T4 (mkF m 79 #[vI p1, vI p2, vI p3, vI p4, vI p5, vI kv, vI c1, vI c2, vI c3, vI qv, .val vZ, vI tr, vR x4, vI (Int32.ofNat ([] : List Int32).length), .unset, .unset, .unset] [])
      refine go (g' := (mkF m 125 #[vI p1, vI p2, vI p3, vI p4, vI p5, vI kv, vI c1, vI c2, vI c3, vI qv, .val vZ, vI tr, vR x4, vI (Int32.ofNat ([] : List Int32).length), .unset, .unset, .unset] [])) (fun _ k => XS.iload W4.here hx rfl (hb hby at_79) rfl (XS.iconst W4.here hx rfl (hb hby at_81) (XS.icmpYes W4.here hx rfl (pc0 := 82) (pc' := 102) rfl (hb hby at_82) rfl (tlt ((by decide) : (0 : Int32) < (1 : Int32))).1 (by decide) (by decide) (XS.iload W4.here hx rfl (hb hby at_102) rfl (XS.iconst W4.here hx rfl (hb hby at_104) (XS.icmpYes W4.here hx rfl (pc0 := 105) (pc' := 125) rfl (hb hby at_105) rfl (tlt ((by decide) : (0 : Int32) < (2 : Int32))).1 (by decide) (by decide) k)))))) ?_
      exact J125 ([] : List Int32) _ _ _ own_al0 (nle rfl) (own_more W4 (nle rfl) (nle rfl)) VL
    · show G T4 (mkF m 79 #[vI p1, vI p2, vI p3, vI p4, vI p5, vI kv, vI c1, vI c2, vI c3, vI qv, vI (1 : Int32), vI tr, vR x4, vI (Int32.ofNat ([] : List Int32).length), .unset, .unset, .unset] [])
      refine go (g' := (mkF m 92 #[vI p1, vI p2, vI p3, vI p4, vI p5, vI kv, vI c1, vI c2, vI c3, vI qv, vI (1 : Int32), vI tr, vR x4, vI (Int32.ofNat ([] : List Int32).length), .unset, .unset, .unset] [(.int (16 : Int32)), (.int p2), (.int (Int32.ofNat ([] : List Int32).length)), (.ref x4)])) (fun _ k => XS.iload W4.here hx rfl (hb hby at_79) rfl (XS.iconst W4.here hx rfl (hb hby at_81) (XS.icmpNo W4.here hx rfl (hb hby at_82) rfl (flt ((by decide) : ¬ ((1 : Int32) < (1 : Int32)))).1 (XS.aload W4.here hx rfl (hb hby at_85) rfl rfl (XS.iload W4.here hx rfl (hb hby at_87) rfl (XS.iloadN W4.here hx rfl (hb hby at_89) rfl (XS.bipush W4.here hx rfl (hb hby at_90) k))))))) ?_
      obtain ⟨v120, so120, vm120, T120, h120, W120, C120, q120, hso120, st120⟩ := own_static W4 hx (y := (⟨"com/example/inchworm/inchworm/core/IdempotencyKeyParseHeaderPinLaw", "wsChar", "(II)C"⟩ : MethodName)) (w145 C) (w146 C) (w3 C) (w147 C) (by decide) (rm_wsc16 C h4 p2) (fun _ q => nomatch q) (Wd := 2) (nle rfl) (nle rfl) (nle rfl) (nle rfl) (g := (mkF m 92 #[vI p1, vI p2, vI p3, vI p4, vI p5, vI kv, vI c1, vI c2, vI c3, vI qv, vI (1 : Int32), vI tr, vR x4, vI (Int32.ofNat ([] : List Int32).length), .unset, .unset, .unset] [(.int (16 : Int32)), (.int p2), (.int (Int32.ofNat ([] : List Int32).length)), (.ref x4)])) rfl (by rw [hml]; rfl) (argsL := [(.int p2), (.int (16 : Int32))]) (rest := [(.int (Int32.ofNat ([] : List Int32).length)), (.ref x4)]) (lenOf pd_26 rfl) rfl rfl (nle rfl) (hb hby at_92)
      obtain ⟨c120, rfl, rfl, hw120⟩ := q120
      refine go (g' := (mkF m 95 #[vI p1, vI p2, vI p3, vI p4, vI p5, vI kv, vI c1, vI c2, vI c3, vI qv, vI (1 : Int32), vI tr, vR x4, vI (Int32.ofNat ([] : List Int32).length), .unset, .unset, .unset] [(.int c120), (.int (Int32.ofNat ([] : List Int32).length)), (.ref x4)])) (st120) ?_
      have P121 : Arv Z h4 x4 k4 .char (12 : Int32) (([] : List Int32).map Value.int ++ List.replicate 1 vZ) vZ := VL.pad (pad_rep _ _ 1)
      obtain ⟨T121, h121, W121, R121, V121, st121⟩ := own_stC W120 hx P121 (by omega) (j := (Int32.ofNat ([] : List Int32).length)) (i := ([] : List Int32).length) (own_inb (n := 12) (by (try simp only [List.length_append, List.length_cons, List.length_nil]) <;> omega) (by decide)) (own_cl (by (try simp only [List.length_append, List.length_cons, List.length_nil]) <;> omega)) (by simp) (own_up (own_wsr hw120)) (g := (mkF m 95 #[vI p1, vI p2, vI p3, vI p4, vI p5, vI kv, vI c1, vI c2, vI c3, vI qv, vI (1 : Int32), vI tr, vR x4, vI (Int32.ofNat ([] : List Int32).length), .unset, .unset, .unset] [(.int c120), (.int (Int32.ofNat ([] : List Int32).length)), (.ref x4)])) rfl rfl (hb hby at_95)
      have z122 : h121.size = h4.size := R121.size
      have U121 : Arv Z h121 x4 k4 .char (12 : Int32) ((([] : List Int32) ++ [c120]).map Value.int) vZ := by have q := V121; rw [own_setl] at q; exact q
      refine go (g' := (mkF m 96 #[vI p1, vI p2, vI p3, vI p4, vI p5, vI kv, vI c1, vI c2, vI c3, vI qv, vI (1 : Int32), vI tr, vR x4, vI (Int32.ofNat ([] : List Int32).length), .unset, .unset, .unset] [])) (st121) ?_
      refine go (g' := (mkF m 100 #[vI p1, vI p2, vI p3, vI p4, vI p5, vI kv, vI c1, vI c2, vI c3, vI qv, vI (1 : Int32), vI tr, vR x4, vI (Int32.ofNat ([] : List Int32).length), .unset, .unset, .unset] [(.int ((Int32.ofNat ([] : List Int32).length) + (1 : Int32)))])) (fun _ k => XS.iload W121.here hx rfl (hb hby at_96) rfl (XS.iconst W121.here hx rfl (hb hby at_98) (XS.iadd W121.here hx rfl (hb hby at_99) rfl k))) ?_
      rw [show ((Int32.ofNat ([] : List Int32).length) + (1 : Int32)) = (Int32.ofNat (([] : List Int32) ++ [c120]).length) from own_len1 _ _]
      refine go (g' := (mkF m 125 #[vI p1, vI p2, vI p3, vI p4, vI p5, vI kv, vI c1, vI c2, vI c3, vI qv, vI (1 : Int32), vI tr, vR x4, vI (Int32.ofNat (([] : List Int32) ++ [c120]).length), .unset, .unset, .unset] [])) (fun _ k => XS.istore W121.here hx rfl (hb hby at_100) rfl (l' := #[vI p1, vI p2, vI p3, vI p4, vI p5, vI kv, vI c1, vI c2, vI c3, vI qv, vI (1 : Int32), vI tr, vR x4, vI (Int32.ofNat (([] : List Int32) ++ [c120]).length), .unset, .unset, .unset]) rfl (XS.iload W121.here hx rfl (hb hby at_102) rfl (XS.iconst W121.here hx rfl (hb hby at_104) (XS.icmpYes W121.here hx rfl (pc0 := 105) (pc' := 125) rfl (hb hby at_105) rfl (tlt ((by decide) : (1 : Int32) < (2 : Int32))).1 (by decide) (by decide) k)))) ?_
      exact J125 (([] : List Int32) ++ [c120]) _ _ _ (own_alS hw120 own_al0) (nle rfl) (own_more W121 (nle rfl) (nle rfl)) U121
    · show G T4 (mkF m 79 #[vI p1, vI p2, vI p3, vI p4, vI p5, vI kv, vI c1, vI c2, vI c3, vI qv, vI (2 : Int32), vI tr, vR x4, vI (Int32.ofNat ([] : List Int32).length), .unset, .unset, .unset] [])
      refine go (g' := (mkF m 92 #[vI p1, vI p2, vI p3, vI p4, vI p5, vI kv, vI c1, vI c2, vI c3, vI qv, vI (2 : Int32), vI tr, vR x4, vI (Int32.ofNat ([] : List Int32).length), .unset, .unset, .unset] [(.int (16 : Int32)), (.int p2), (.int (Int32.ofNat ([] : List Int32).length)), (.ref x4)])) (fun _ k => XS.iload W4.here hx rfl (hb hby at_79) rfl (XS.iconst W4.here hx rfl (hb hby at_81) (XS.icmpNo W4.here hx rfl (hb hby at_82) rfl (flt ((by decide) : ¬ ((2 : Int32) < (1 : Int32)))).1 (XS.aload W4.here hx rfl (hb hby at_85) rfl rfl (XS.iload W4.here hx rfl (hb hby at_87) rfl (XS.iloadN W4.here hx rfl (hb hby at_89) rfl (XS.bipush W4.here hx rfl (hb hby at_90) k))))))) ?_
      obtain ⟨v123, so123, vm123, T123, h123, W123, C123, q123, hso123, st123⟩ := own_static W4 hx (y := (⟨"com/example/inchworm/inchworm/core/IdempotencyKeyParseHeaderPinLaw", "wsChar", "(II)C"⟩ : MethodName)) (w145 C) (w146 C) (w3 C) (w147 C) (by decide) (rm_wsc16 C h4 p2) (fun _ q => nomatch q) (Wd := 2) (nle rfl) (nle rfl) (nle rfl) (nle rfl) (g := (mkF m 92 #[vI p1, vI p2, vI p3, vI p4, vI p5, vI kv, vI c1, vI c2, vI c3, vI qv, vI (2 : Int32), vI tr, vR x4, vI (Int32.ofNat ([] : List Int32).length), .unset, .unset, .unset] [(.int (16 : Int32)), (.int p2), (.int (Int32.ofNat ([] : List Int32).length)), (.ref x4)])) rfl (by rw [hml]; rfl) (argsL := [(.int p2), (.int (16 : Int32))]) (rest := [(.int (Int32.ofNat ([] : List Int32).length)), (.ref x4)]) (lenOf pd_26 rfl) rfl rfl (nle rfl) (hb hby at_92)
      obtain ⟨c123, rfl, rfl, hw123⟩ := q123
      refine go (g' := (mkF m 95 #[vI p1, vI p2, vI p3, vI p4, vI p5, vI kv, vI c1, vI c2, vI c3, vI qv, vI (2 : Int32), vI tr, vR x4, vI (Int32.ofNat ([] : List Int32).length), .unset, .unset, .unset] [(.int c123), (.int (Int32.ofNat ([] : List Int32).length)), (.ref x4)])) (st123) ?_
      have P124 : Arv Z h4 x4 k4 .char (12 : Int32) (([] : List Int32).map Value.int ++ List.replicate 1 vZ) vZ := VL.pad (pad_rep _ _ 1)
      obtain ⟨T124, h124, W124, R124, V124, st124⟩ := own_stC W123 hx P124 (by omega) (j := (Int32.ofNat ([] : List Int32).length)) (i := ([] : List Int32).length) (own_inb (n := 12) (by (try simp only [List.length_append, List.length_cons, List.length_nil]) <;> omega) (by decide)) (own_cl (by (try simp only [List.length_append, List.length_cons, List.length_nil]) <;> omega)) (by simp) (own_up (own_wsr hw123)) (g := (mkF m 95 #[vI p1, vI p2, vI p3, vI p4, vI p5, vI kv, vI c1, vI c2, vI c3, vI qv, vI (2 : Int32), vI tr, vR x4, vI (Int32.ofNat ([] : List Int32).length), .unset, .unset, .unset] [(.int c123), (.int (Int32.ofNat ([] : List Int32).length)), (.ref x4)])) rfl rfl (hb hby at_95)
      have z125 : h124.size = h4.size := R124.size
      have U124 : Arv Z h124 x4 k4 .char (12 : Int32) ((([] : List Int32) ++ [c123]).map Value.int) vZ := by have q := V124; rw [own_setl] at q; exact q
      refine go (g' := (mkF m 96 #[vI p1, vI p2, vI p3, vI p4, vI p5, vI kv, vI c1, vI c2, vI c3, vI qv, vI (2 : Int32), vI tr, vR x4, vI (Int32.ofNat ([] : List Int32).length), .unset, .unset, .unset] [])) (st124) ?_
      refine go (g' := (mkF m 100 #[vI p1, vI p2, vI p3, vI p4, vI p5, vI kv, vI c1, vI c2, vI c3, vI qv, vI (2 : Int32), vI tr, vR x4, vI (Int32.ofNat ([] : List Int32).length), .unset, .unset, .unset] [(.int ((Int32.ofNat ([] : List Int32).length) + (1 : Int32)))])) (fun _ k => XS.iload W124.here hx rfl (hb hby at_96) rfl (XS.iconst W124.here hx rfl (hb hby at_98) (XS.iadd W124.here hx rfl (hb hby at_99) rfl k))) ?_
      rw [show ((Int32.ofNat ([] : List Int32).length) + (1 : Int32)) = (Int32.ofNat (([] : List Int32) ++ [c123]).length) from own_len1 _ _]
      refine go (g' := (mkF m 115 #[vI p1, vI p2, vI p3, vI p4, vI p5, vI kv, vI c1, vI c2, vI c3, vI qv, vI (2 : Int32), vI tr, vR x4, vI (Int32.ofNat (([] : List Int32) ++ [c123]).length), .unset, .unset, .unset] [(.int (17 : Int32)), (.int p2), (.int (Int32.ofNat (([] : List Int32) ++ [c123]).length)), (.ref x4)])) (fun _ k => XS.istore W124.here hx rfl (hb hby at_100) rfl (l' := #[vI p1, vI p2, vI p3, vI p4, vI p5, vI kv, vI c1, vI c2, vI c3, vI qv, vI (2 : Int32), vI tr, vR x4, vI (Int32.ofNat (([] : List Int32) ++ [c123]).length), .unset, .unset, .unset]) rfl (XS.iload W124.here hx rfl (hb hby at_102) rfl (XS.iconst W124.here hx rfl (hb hby at_104) (XS.icmpNo W124.here hx rfl (hb hby at_105) rfl (flt ((by decide) : ¬ ((2 : Int32) < (2 : Int32)))).1 (XS.aload W124.here hx rfl (hb hby at_108) rfl rfl (XS.iload W124.here hx rfl (hb hby at_110) rfl (XS.iloadN W124.here hx rfl (hb hby at_112) rfl (XS.bipush W124.here hx rfl (hb hby at_113) k)))))))) ?_
      obtain ⟨v126, so126, vm126, T126, h126, W126, C126, q126, hso126, st126⟩ := own_static W124 hx (y := (⟨"com/example/inchworm/inchworm/core/IdempotencyKeyParseHeaderPinLaw", "wsChar", "(II)C"⟩ : MethodName)) (w145 C) (w146 C) (w3 C) (w147 C) (by decide) (rm_wsc17 C h124 p2) (fun _ q => nomatch q) (Wd := 2) (nle rfl) (nle rfl) (nle rfl) (nle rfl) (g := (mkF m 115 #[vI p1, vI p2, vI p3, vI p4, vI p5, vI kv, vI c1, vI c2, vI c3, vI qv, vI (2 : Int32), vI tr, vR x4, vI (Int32.ofNat (([] : List Int32) ++ [c123]).length), .unset, .unset, .unset] [(.int (17 : Int32)), (.int p2), (.int (Int32.ofNat (([] : List Int32) ++ [c123]).length)), (.ref x4)])) rfl (by rw [hml]; rfl) (argsL := [(.int p2), (.int (17 : Int32))]) (rest := [(.int (Int32.ofNat (([] : List Int32) ++ [c123]).length)), (.ref x4)]) (lenOf pd_26 rfl) rfl rfl (nle rfl) (hb hby at_115)
      obtain ⟨c126, rfl, rfl, hw126⟩ := q126
      refine go (g' := (mkF m 118 #[vI p1, vI p2, vI p3, vI p4, vI p5, vI kv, vI c1, vI c2, vI c3, vI qv, vI (2 : Int32), vI tr, vR x4, vI (Int32.ofNat (([] : List Int32) ++ [c123]).length), .unset, .unset, .unset] [(.int c126), (.int (Int32.ofNat (([] : List Int32) ++ [c123]).length)), (.ref x4)])) (st126) ?_
      have P127 : Arv Z h124 x4 k4 .char (12 : Int32) ((([] : List Int32) ++ [c123]).map Value.int ++ List.replicate 1 vZ) vZ := U124.pad (pad_rep _ _ 1)
      obtain ⟨T127, h127, W127, R127, V127, st127⟩ := own_stC W126 hx P127 (by omega) (j := (Int32.ofNat (([] : List Int32) ++ [c123]).length)) (i := (([] : List Int32) ++ [c123]).length) (own_inb (n := 12) (by (try simp only [List.length_append, List.length_cons, List.length_nil]) <;> omega) (by decide)) (own_cl (by (try simp only [List.length_append, List.length_cons, List.length_nil]) <;> omega)) (by simp) (own_up (own_wsr hw126)) (g := (mkF m 118 #[vI p1, vI p2, vI p3, vI p4, vI p5, vI kv, vI c1, vI c2, vI c3, vI qv, vI (2 : Int32), vI tr, vR x4, vI (Int32.ofNat (([] : List Int32) ++ [c123]).length), .unset, .unset, .unset] [(.int c126), (.int (Int32.ofNat (([] : List Int32) ++ [c123]).length)), (.ref x4)])) rfl rfl (hb hby at_118)
      have z128 : h127.size = h124.size := R127.size
      have U127 : Arv Z h127 x4 k4 .char (12 : Int32) (((([] : List Int32) ++ [c123]) ++ [c126]).map Value.int) vZ := by have q := V127; rw [own_setl] at q; exact q
      refine go (g' := (mkF m 119 #[vI p1, vI p2, vI p3, vI p4, vI p5, vI kv, vI c1, vI c2, vI c3, vI qv, vI (2 : Int32), vI tr, vR x4, vI (Int32.ofNat (([] : List Int32) ++ [c123]).length), .unset, .unset, .unset] [])) (st127) ?_
      refine go (g' := (mkF m 123 #[vI p1, vI p2, vI p3, vI p4, vI p5, vI kv, vI c1, vI c2, vI c3, vI qv, vI (2 : Int32), vI tr, vR x4, vI (Int32.ofNat (([] : List Int32) ++ [c123]).length), .unset, .unset, .unset] [(.int ((Int32.ofNat (([] : List Int32) ++ [c123]).length) + (1 : Int32)))])) (fun _ k => XS.iload W127.here hx rfl (hb hby at_119) rfl (XS.iconst W127.here hx rfl (hb hby at_121) (XS.iadd W127.here hx rfl (hb hby at_122) rfl k))) ?_
      rw [show ((Int32.ofNat (([] : List Int32) ++ [c123]).length) + (1 : Int32)) = (Int32.ofNat ((([] : List Int32) ++ [c123]) ++ [c126]).length) from own_len1 _ _]
      refine go (g' := (mkF m 125 #[vI p1, vI p2, vI p3, vI p4, vI p5, vI kv, vI c1, vI c2, vI c3, vI qv, vI (2 : Int32), vI tr, vR x4, vI (Int32.ofNat ((([] : List Int32) ++ [c123]) ++ [c126]).length), .unset, .unset, .unset] [])) (fun _ k => XS.istore W127.here hx rfl (hb hby at_123) rfl (l' := #[vI p1, vI p2, vI p3, vI p4, vI p5, vI kv, vI c1, vI c2, vI c3, vI qv, vI (2 : Int32), vI tr, vR x4, vI (Int32.ofNat ((([] : List Int32) ++ [c123]) ++ [c126]).length), .unset, .unset, .unset]) rfl k) ?_
      exact J125 ((([] : List Int32) ++ [c123]) ++ [c126]) _ _ _ (own_alS hw123 (own_alS hw126 own_al0)) (nle rfl) (own_more W127 (nle rfl) (nle rfl)) U127
  refine go (g' := (mkF m 32 #[vI p1, vI p2, vI p3, vI p4, vI p5, vI kv, vI c1, vI c2, vI c3, .unset, .unset, .unset, .unset, .unset, .unset, .unset, .unset] [(.int (p1 &&& (4 : Int32)))])) (fun _ k => XS.iloadN W3.here hx rfl (hb hby at_29) rfl (XS.iconst W3.here hx rfl (hb hby at_30) (XS.iand W3.here hx rfl (hb hby at_31) rfl k))) ?_
  by_cases kb129 : (p1 &&& (4 : Int32)) = (0 : Int32)
  · refine go (g' := (mkF m 39 #[vI p1, vI p2, vI p3, vI p4, vI p5, vI kv, vI c1, vI c2, vI c3, .unset, .unset, .unset, .unset, .unset, .unset, .unset, .unset] [(.int (34 : Int32)), (.int c1)])) (fun _ k => XS.ifNo W3.here hx rfl (hb hby at_32) rfl ((if0 _ _).trans (teq kb129).2) (XS.iload W3.here hx rfl (hb hby at_35) rfl (XS.bipush W3.here hx rfl (hb hby at_37) k))) ?_
    by_cases kb130 : c1 = (34 : Int32)
    · refine go (g' := (mkF m 47 #[vI p1, vI p2, vI p3, vI p4, vI p5, vI kv, vI c1, vI c2, vI c3, .unset, .unset, .unset, .unset, .unset, .unset, .unset, .unset] [(.int (1 : Int32))])) (fun _ k => XS.icmpNo W3.here hx rfl (hb hby at_39) rfl (teq kb130).2 (XS.iconst W3.here hx rfl (hb hby at_42) (XS.goto W3.here hx rfl (pc0 := 43) (pc' := 47) rfl (hb hby at_43) (by decide) (by decide) k))) ?_
      exact J47 _ (Or.inl rfl)
    · refine go (g' := (mkF m 47 #[vI p1, vI p2, vI p3, vI p4, vI p5, vI kv, vI c1, vI c2, vI c3, .unset, .unset, .unset, .unset, .unset, .unset, .unset, .unset] [vZ])) (fun _ k => XS.icmpYes W3.here hx rfl (pc0 := 39) (pc' := 46) rfl (hb hby at_39) rfl (feq kb130).2 (by decide) (by decide) (XS.iconst W3.here hx rfl (hb hby at_46) k)) ?_
      exact J47 _ (Or.inr ⟨rfl, kb130⟩)
  · refine go (g' := (mkF m 47 #[vI p1, vI p2, vI p3, vI p4, vI p5, vI kv, vI c1, vI c2, vI c3, .unset, .unset, .unset, .unset, .unset, .unset, .unset, .unset] [(.int (1 : Int32))])) (fun _ k => XS.ifYes W3.here hx rfl (pc0 := 32) (pc' := 42) rfl (hb hby at_32) rfl ((if0 _ _).trans (feq kb129).2) (by decide) (by decide) (XS.iconst W3.here hx rfl (hb hby at_42) (XS.goto W3.here hx rfl (pc0 := 43) (pc' := 47) rfl (hb hby at_43) (by decide) (by decide) k))) ?_
    exact J47 _ (Or.inl rfl)
set_option maxRecDepth 65536 in
set_option maxHeartbeats 40000000 in
theorem comes_1 {Post : Tables → Env → Array Value → State → Outcome → State → Prop} (hpost : ∀ tb e args s v u, (limb_1_1.after args s (.returned v) u = true ∧ limb_1_2.after args s (.returned v) u = true ∧ True) → ReturnedEndW s (.returned v) u (Jvm.fieldLocs frame_1_writes args s ++ Jvm.arrayLocs frame_1_arrays args s ++ Jvm.staticLocs frame_1_statics s) 40 2304 → Post tb e args s (.returned v) u) :
    ArmFor flags0 classFile x code maxLocals ret World_1 tables_1 room_1 Calls_1 rest_1 Pre_1 Post := by
  intro l hfl _ _ p e ha hc hk s m args below hf hA hF happ hP
  obtain ⟨hcalls, hrest, hpre⟩ := hP
  obtain ⟨-, -, -, hnamed, -, -, -, hat⟩ := (Spec.applies_iff hf).mp happ
  obtain ⟨hg, hn⟩ := and_e (Cond.before_iff.mp (show (Jvm.Cond.and given_1 narrow_1).before args s = true from hpre))
  obtain ⟨gg1, gg2⟩ := and_e hg
  obtain ⟨gg3, gg4⟩ := and_e gg2
  obtain ⟨gg5, gg6⟩ := and_e gg4
  obtain ⟨gg7, gg8⟩ := and_e gg6
  obtain ⟨gg9, gg10⟩ := and_e gg8
  obtain ⟨w0, w1, w2, w3, w4, rfl⟩ : ∃ w0 w1 w2 w3 w4 : Value, args = #[w0, w1, w2, w3, w4] := by
    have hs : args.size = 5 := by simpa [Cond.value, given_1] using gg1
    obtain ⟨L⟩ := args
    match L, hs with
    | [w0, w1, w2, w3, w4], _ => exact ⟨w0, w1, w2, w3, w4, rfl⟩
  have hw := fun d (hd : d ∈ tables_1) => atoms_spec (ws := Jvm.Cond.code x code maxLocals ret :: tables_1) hat d (List.mem_cons_of_mem _ hd)
  obtain ⟨hsets, hown0⟩ := atoms_of _ (rest_1_c_eq ▸ (show rest_1_c.before _ s = true from hrest))
  have n3 := not_v (Cond.before_iff.mp (hsets _ (List.mem_of_getElem? (i := 2) rfl)))
  obtain ⟨i0, ei0⟩ := is_v gg3
  obtain rfl : w0 = (.int i0) := Option.some.inj ei0
  obtain ⟨i1, ei1⟩ := is_v gg5
  obtain rfl : w1 = (.int i1) := Option.some.inj ei1
  obtain ⟨i2, ei2⟩ := is_v gg7
  obtain rfl : w2 = (.int i2) := Option.some.inj ei2
  obtain ⟨i3, ei3⟩ := is_v gg9
  obtain rfl : w3 = (.int i3) := Option.some.inj ei3
  obtain ⟨i4, ei4⟩ := is_v gg10
  obtain rfl : w4 = (.int i4) := Option.some.inj ei4
  obtain ⟨gz, egz⟩ := is_v (Cond.before_iff.mp (hsets _ (List.mem_of_getElem? (i := 1) rfl)))
  have S8 : Sta s s.heap "java/lang/String" "COMPACT_STRINGS" "Z" (.int gz) := Sta.start egz (Or.inl (hsets _ (List.mem_of_getElem? (i := 0) rfl)))
  obtain ⟨gf, egf, rgf⟩ := isR_v (Cond.before_iff.mp (hsets _ (List.mem_of_getElem? (i := 8) rfl)))
  have S12 : Sta s s.heap "jdk/internal/util/Preconditions" "SIOOBE_FORMATTER" "Ljava/util/function/BiFunction;" gf := Sta.start egf (Or.inl (hsets _ (List.mem_of_getElem? (i := 7) rfl)))
  have c13 : ¬ (gz = (0 : Int32)) := gotF (Cond.eq_ints egz (Term.int_eval (0))) n3
  have hEW : EW s #[(.int i0), (.int i1), (.int i2), (.int i3), (.int i4)] own_EL := EW.nil
  have CX : Cx s _ := ⟨hw, hEW, ⟨gz, S8, c13⟩, ⟨gf, S12, rgf⟩⟩
  have hCH : CHv s own_EL s.vm s.heap := fun _ q => nomatch q
  obtain ⟨n, o, h1, h2, h3, v, L, so, rfl, hQ, N, -, -, -, hq⟩ := rm0 (l := l) CX s.heap i0 i1 i2 i3 i4 (own_xr _) p e ha hc hk s m _ below hf ((Spec.applies_iff_loose hf).mp happ).1 ⟨rfl, State.Warmed39.refl s, rfl, hCH, fun _ q => nomatch q⟩ trivial
  subst hQ
  refine ⟨n, _, h1, h2, h3, hpost _ _ _ _ _ _ ⟨Cond.after_iff.mpr rfl, Cond.after_iff.mpr (eq_i res_at (Term.int_eval (1)) rfl), trivial⟩ ⟨hq.1, hq.2.1, hq.2.2.1, (hq.2.2.2.sift fun y hy => Or.inr (N y hy)).mono (by decide) (by decide)⟩⟩
theorem main_1_1 : Claimed_1_1 := comes_1 fun _ _ _ _ _ _ h hF => ⟨h.1, hF⟩
theorem main_1_2 : Claimed_1_2 := comes_1 fun _ _ _ _ _ _ h hF => ⟨h.2.1, hF⟩
end Jvm.Pilot.@@N@@
namespace Jvm.Pilot.@@N@@
open Jvm Jvm.ClassFile Sem Op Lib Jvm.Free Jvm.Stand Jvm.Pilot.@@N@@.Jvm.D
/-! MADE BY PROGRAM (witnessworld.py) out of the Statement's table words and the real class files: 27 classes; the members and pool entries that the words name. The judged class is class 1, her method 1. -/
namespace start1
open Jvm.ClassFile
def u (s : String) : CpInfo := .utf8 (stringToUtf16 s)
/-- a pool by its gaps: so many unusable entries, then the entry; so many at the end -/
def gap : Nat → List CpInfo → List CpInfo
  | 0, r => r
  | n + 1, r => .unusable :: gap n r
def poolList (es : List (Nat × CpInfo)) (last : Nat) : List CpInfo := es.foldr (fun e r => gap e.1 (e.2 :: r)) (gap last [])
def pool (es : List (Nat × CpInfo)) (last : Nat) : Array CpInfo := ⟨poolList es last⟩
def fileOf (pool : Array CpInfo) (this : Nat) (attrs : Array Attribute := #[]) (ms : Array MethodInfo := #[]) (fl : Nat := 33) (sup : Nat := 0) (ifs : Array Nat := #[]) (fds : Array FieldInfo := #[]) : ClassFile where
  minorVersion := 0
  majorVersion := 65
  constantPool := pool
  accessFlags := fl
  thisClass := this
  superClass := sup
  interfaces := ifs
  fields := fds
  methods := ms
  attributes := attrs
def plain (name : String) (sup : Option ClassId) : Class where
  name := name
  kind := .ordinary
  loader := none
  accessFlags := 33
  super := sup
  interfaces := #[]
  cf := none
  fields := #[]
  methods := #[]
  instanceTypes := #[]
  staticTypes := #[]
  resolved := #[]
  callSites := []
  init := .initialized
  statics := none
  mirror := none

def pool0 : Array CpInfo := pool [(5, u "<init>"), (0, u "()V"), (1, .class_ 10), (1, u "java/lang/Object")] 113

def k0c0 : Code := { maxStack := 0, maxLocals := 1, code := object_method_1_code, exceptionTable := #[], attributes := #[] }
def k0m0 : Method := { name := "<init>", desc := "()V", sig := { parameters := [], returnType := none }, accessFlags := 1, code := some k0c0 }
/-- java/lang/Object -/
def k0 : Class := { plain "java/lang/Object" none with
  accessFlags := 33
  interfaces := #[]
  cf := some (fileOf pool0 8 #[] #[{ accessFlags := 1, nameIndex := 5, descriptorIndex := 6, attributes := #[] }] 33 0 #[] #[])
  fields := #[]
  methods := #[k0m0]
  instanceTypes := #[]
  staticTypes := #[]
  resolved := Array.replicate 124 none
  statics := none }

def pool1 : Array CpInfo := pool [(2, .class_ 4), (1, u "java/lang/Object"), (0, u "<init>"), (0, u "()V"), (0, .integer 2147483647), (0, .methodref 9 10), (0, .class_ 11), (0, .nameAndType 12 13), (0, u "com/example/inchworm/inchworm/core/IdempotencyKeyParseHeaderPinLaw"), (0, u "keyChar"), (0, u "(I)C"), (0, .methodref 9 15), (0, .nameAndType 16 17), (0, u "wsChar"), (0, u "(II)C"), (0, .methodref 9 19), (0, .nameAndType 20 21), (0, u "put"), (0, u "([CICZ)I"), (0, .methodref 9 23), (0, .nameAndType 24 25), (0, u "take"), (0, u "([CI)Ljava/lang/String;"), (0, .methodref 27 28), (0, .class_ 29), (0, .nameAndType 30 31), (0, u "java/lang/String"), (0, u "valueOf"), (0, u "(C)Ljava/lang/String;"), (0, .methodref 27 33), (0, .nameAndType 5 34), (0, u "([C)V"), (0, .methodref 36 37), (0, .class_ 38), (0, .nameAndType 39 40), (0, u "com/example/inchworm/inchworm/core/IdempotencyKey"), (0, u "parseHeader"), (0, u "(Ljava/lang/String;)Lcom/example/inchworm/inchworm/core/IdempotencyKey;"), (0, .methodref 36 42), (0, .nameAndType 43 44), (0, u "value"), (0, u "()Ljava/lang/String;"), (0, .methodref 27 46), (0, .nameAndType 47 48), (0, u "equals"), (0, u "(Ljava/lang/Object;)Z"), (2, u "law"), (0, u "(IIIII)Z")] 5

def k1m0 : Method := { name := "<init>", desc := "()V", sig := { parameters := [], returnType := none }, accessFlags := 1, code := none }
def k1c1 : Code := { maxStack := 6, maxLocals := 17, code := code, exceptionTable := #[], attributes := #[] }
def k1m1 : Method := { name := "law", desc := "(IIIII)Z", sig := { parameters := [.int, .int, .int, .int, .int], returnType := some .boolean }, accessFlags := 9, code := some k1c1 }
def k1c2 : Code := { maxStack := 3, maxLocals := 1, code := method_3_code, exceptionTable := #[], attributes := #[] }
def k1m2 : Method := { name := "keyChar", desc := "(I)C", sig := { parameters := [.int], returnType := some .char }, accessFlags := 10, code := some k1c2 }
def k1c3 : Code := { maxStack := 2, maxLocals := 2, code := method_4_code, exceptionTable := #[], attributes := #[] }
def k1m3 : Method := { name := "wsChar", desc := "(II)C", sig := { parameters := [.int, .int], returnType := some .char }, accessFlags := 10, code := some k1c3 }
def k1c4 : Code := { maxStack := 3, maxLocals := 5, code := method_5_code, exceptionTable := #[], attributes := #[] }
def k1m4 : Method := { name := "put", desc := "([CICZ)I", sig := { parameters := [(.array .char), .int, .char, .boolean], returnType := some .int }, accessFlags := 10, code := some k1c4 }
def k1c5 : Code := { maxStack := 7, maxLocals := 2, code := method_6_code, exceptionTable := #[], attributes := #[] }
def k1m5 : Method := { name := "take", desc := "([CI)Ljava/lang/String;", sig := { parameters := [(.array .char), .int], returnType := some (.object "java/lang/String") }, accessFlags := 10, code := some k1c5 }
/-- com/example/inchworm/inchworm/core/IdempotencyKeyParseHeaderPinLaw -/
def k1 : Class := { plain "com/example/inchworm/inchworm/core/IdempotencyKeyParseHeaderPinLaw" (some 0) with
  accessFlags := 49
  interfaces := #[]
  cf := some (fileOf pool1 9 #[] #[{ accessFlags := 1, nameIndex := 5, descriptorIndex := 6, attributes := #[] }, { accessFlags := 9, nameIndex := 51, descriptorIndex := 52, attributes := #[] }, { accessFlags := 10, nameIndex := 12, descriptorIndex := 13, attributes := #[] }, { accessFlags := 10, nameIndex := 16, descriptorIndex := 17, attributes := #[] }, { accessFlags := 10, nameIndex := 20, descriptorIndex := 21, attributes := #[] }, { accessFlags := 10, nameIndex := 24, descriptorIndex := 25, attributes := #[] }] 49 2 #[] #[])
  fields := #[]
  methods := #[k1m0, k1m1, k1m2, k1m3, k1m4, k1m5]
  instanceTypes := #[]
  staticTypes := #[]
  resolved := Array.replicate 58 none
  statics := none }

def pool2 : Array CpInfo := pool [(1, .class_ 2), (0, u "java/io/Serializable"), (0, .class_ 4), (0, u "java/lang/Object")] 2

/-- java/io/Serializable -/
def k2 : Class := { plain "java/io/Serializable" (some 0) with
  accessFlags := 1537
  interfaces := #[]
  cf := some (fileOf pool2 1 #[] #[] 1537 3 #[] #[])
  fields := #[]
  methods := #[]
  instanceTypes := #[]
  staticTypes := #[]
  resolved := Array.replicate 7 none
  statics := none }

def pool3 : Array CpInfo := pool [(1, .class_ 2), (0, u "java/lang/Comparable"), (0, .class_ 4), (0, u "java/lang/Object")] 7

/-- java/lang/Comparable -/
def k3 : Class := { plain "java/lang/Comparable" (some 0) with
  accessFlags := 1537
  interfaces := #[]
  cf := some (fileOf pool3 1 #[] #[] 1537 3 #[] #[])
  fields := #[]
  methods := #[]
  instanceTypes := #[]
  staticTypes := #[]
  resolved := Array.replicate 12 none
  statics := none }

def pool4 : Array CpInfo := pool [(2, .class_ 4), (1, u "java/lang/CharSequence"), (42, .class_ 48), (0, u "java/lang/CharSequence$1CodePointIterator"), (10, .class_ 60), (0, u "java/lang/CharSequence$1CharIterator"), (5, .class_ 67), (0, u "java/lang/Object")] 63

/-- java/lang/CharSequence -/
def k4 : Class := { plain "java/lang/CharSequence" (some 0) with
  accessFlags := 1537
  interfaces := #[]
  cf := some (fileOf pool4 2 #[.nestMembers #[47, 59]] #[] 1537 66 #[] #[])
  fields := #[]
  methods := #[]
  instanceTypes := #[]
  staticTypes := #[]
  resolved := Array.replicate 131 none
  statics := none }

def pool5 : Array CpInfo := pool [(1, .class_ 2), (0, u "java/lang/constant/Constable"), (0, .class_ 4), (0, u "java/lang/Object")] 6

/-- java/lang/constant/Constable -/
def k5 : Class := { plain "java/lang/constant/Constable" (some 0) with
  accessFlags := 1537
  interfaces := #[]
  cf := some (fileOf pool5 1 #[] #[] 1537 3 #[] #[])
  fields := #[]
  methods := #[]
  instanceTypes := #[]
  staticTypes := #[]
  resolved := Array.replicate 11 none
  statics := none }

def pool6 : Array CpInfo := pool [(1, .class_ 2), (0, u "java/lang/constant/ConstantDesc"), (0, .class_ 4), (0, u "java/lang/Object")] 32

/-- java/lang/constant/ConstantDesc -/
def k6 : Class := { plain "java/lang/constant/ConstantDesc" (some 0) with
  accessFlags := 1537
  interfaces := #[]
  cf := some (fileOf pool6 1 #[] #[] 1537 3 #[] #[])
  fields := #[]
  methods := #[]
  instanceTypes := #[]
  staticTypes := #[]
  resolved := Array.replicate 37 none
  statics := none }

def pool7 : Array CpInfo := pool [(1, .methodref 2 3), (0, .class_ 4), (0, .nameAndType 5 6), (0, u "java/lang/Object"), (0, u "<init>"), (0, u "()V"), (2, .fieldref 10 11), (0, .class_ 12), (0, .nameAndType 13 14), (0, u "java/lang/String"), (0, u "value"), (0, u "[B"), (0, .fieldref 10 16), (0, .nameAndType 17 18), (0, u "coder"), (0, u "B"), (2, u "hash"), (0, u "I"), (2, u "hashIsZero"), (0, u "Z"), (0, .methodref 10 28), (0, .nameAndType 5 29), (0, u "([CIILjava/lang/Void;)V"), (8, .fieldref 10 39), (0, .nameAndType 40 26), (0, u "COMPACT_STRINGS"), (1, .class_ 44), (1, u "java/lang/StringUTF16"), (0, u "compress"), (1, .methodref 42 48), (0, .nameAndType 49 50), (0, u "coderFromArrayLen"), (0, u "([BI)B"), (2, u "toBytes"), (0, .methodref 55 56), (0, .class_ 57), (0, .nameAndType 58 59), (0, u "java/util/Arrays"), (0, u "copyOfRange"), (0, u "([BII)[B"), (47, .class_ 109), (1, u "java/lang/StringLatin1"), (32, u "()Z"), (34, .methodref 42 178), (0, .nameAndType 45 179), (0, u "([CII)[B"), (29, .methodref 10 210), (0, .nameAndType 5 211), (0, u "([BB)V"), (122, u "()I"), (0, .methodref 10 336), (0, .nameAndType 17 337), (0, u "()B"), (2, u "()[B"), (22, u "([BI)C"), (5, u "(C)Z"), (21, u "(II)V"), (35, u "(I)C"), (61, .methodref 10 490), (0, .nameAndType 5 491), (0, u "(Ljava/lang/AbstractStringBuilder;Ljava/lang/Void;)V"), (0, .methodref 10 493), (0, .nameAndType 494 142), (0, u "isLatin1"), (0, .methodref 107 496), (0, .nameAndType 497 363), (0, u "charAt"), (3, u "checkIndex"), (3, .methodref 10 506), (0, .nameAndType 507 334), (0, u "length"), (5, u "checkFromToIndex"), (7, .methodref 10 522), (0, .nameAndType 523 524), (0, u "checkBoundsBeginEnd"), (0, u "(III)V"), (16, .methodref 107 542), (0, .nameAndType 543 544), (0, u "equals"), (0, u "([B[B)Z"), (4, .methodref 550 506), (0, .class_ 551), (0, u "java/lang/AbstractStringBuilder"), (0, .methodref 550 553), (0, .nameAndType 554 340), (0, u "getValue"), (18, u "(Ljava/lang/Object;)Z"), (1, .class_ 576), (0, u "java/lang/CharSequence"), (22, u "CASE_INSENSITIVE_ORDER"), (0, u "Ljava/util/Comparator;"), (82, u "substring"), (0, u "(II)Ljava/lang/String;"), (0, .methodref 107 686), (0, .nameAndType 687 688), (0, u "newString"), (0, u "([BII)Ljava/lang/String;"), (3, u "isEmpty"), (89, u "valueOf"), (0, u "(C)Ljava/lang/String;"), (226, u "([C)V"), (4, .methodref 107 1016), (0, .nameAndType 1017 369), (0, u "canEncode"), (0, .methodref 107 1019), (0, .nameAndType 53 1020), (0, u "(C)[B"), (26, .methodref 550 493), (5, .fieldref 1054 1055), (0, .class_ 1056), (0, .nameAndType 1057 1058), (0, u "jdk/internal/util/Preconditions"), (0, u "SIOOBE_FORMATTER"), (0, u "Ljava/util/function/BiFunction;"), (0, .methodref 1054 1060), (0, .nameAndType 501 1061), (0, u "(IILjava/util/function/BiFunction;)I"), (0, .methodref 1054 1063), (0, .nameAndType 513 1064), (0, u "(IIILjava/util/function/BiFunction;)I"), (36, u "serialPersistentFields"), (0, u "[Ljava/io/ObjectStreamField;"), (0, .class_ 1104), (0, u "java/lang/String$CaseInsensitiveComparator"), (1, .class_ 1107), (0, u "java/io/Serializable"), (0, .class_ 1109), (0, u "java/lang/Comparable"), (0, .class_ 1111), (0, u "java/lang/constant/Constable"), (0, .class_ 1113), (0, u "java/lang/constant/ConstantDesc"), (2, u "serialVersionUID"), (0, u "J"), (3, u "REPL"), (0, u "C"), (2, u "LATIN1"), (1, u "UTF16"), (105, u "(Ljava/lang/StringBuilder;)V")] 217

def k7m0 : Method := { name := "<init>", desc := "()V", sig := { parameters := [], returnType := none }, accessFlags := 1, code := none }
def k7c1 : Code := { maxStack := 5, maxLocals := 2, code := jdk_42_method_3_code, exceptionTable := #[], attributes := #[] }
def k7m1 : Method := { name := "<init>", desc := "([C)V", sig := { parameters := [(.array .char)], returnType := none }, accessFlags := 1, code := some k7c1 }
def k7c2 : Code := { maxStack := 3, maxLocals := 2, code := jdk_42_method_53_code, exceptionTable := #[], attributes := #[] }
def k7m2 : Method := { name := "<init>", desc := "(Ljava/lang/StringBuilder;)V", sig := { parameters := [(.object "java/lang/StringBuilder")], returnType := none }, accessFlags := 1, code := some k7c2 }
def k7c3 : Code := { maxStack := 2, maxLocals := 1, code := jdk_42_method_54_code, exceptionTable := #[], attributes := #[] }
def k7m3 : Method := { name := "length", desc := "()I", sig := { parameters := [], returnType := some .int }, accessFlags := 1, code := some k7c3 }
def k7c4 : Code := { maxStack := 1, maxLocals := 1, code := jdk_42_method_55_code, exceptionTable := #[], attributes := #[] }
def k7m4 : Method := { name := "isEmpty", desc := "()Z", sig := { parameters := [], returnType := some .boolean }, accessFlags := 1, code := some k7c4 }
def k7c5 : Code := { maxStack := 2, maxLocals := 2, code := jdk_42_method_56_code, exceptionTable := #[], attributes := #[] }
def k7m5 : Method := { name := "charAt", desc := "(I)C", sig := { parameters := [.int], returnType := some .char }, accessFlags := 1, code := some k7c5 }
def k7c6 : Code := { maxStack := 2, maxLocals := 3, code := jdk_42_method_66_code, exceptionTable := #[], attributes := #[] }
def k7m6 : Method := { name := "equals", desc := "(Ljava/lang/Object;)Z", sig := { parameters := [(.object "java/lang/Object")], returnType := some .boolean }, accessFlags := 1, code := some k7c6 }
def k7c7 : Code := { maxStack := 3, maxLocals := 5, code := jdk_42_method_92_code, exceptionTable := #[], attributes := #[] }
def k7m7 : Method := { name := "substring", desc := "(II)Ljava/lang/String;", sig := { parameters := [.int, .int], returnType := some (.object "java/lang/String") }, accessFlags := 1, code := some k7c7 }
def k7c8 : Code := { maxStack := 4, maxLocals := 1, code := jdk_42_method_139_code, exceptionTable := #[], attributes := #[] }
def k7m8 : Method := { name := "valueOf", desc := "(C)Ljava/lang/String;", sig := { parameters := [.char], returnType := some (.object "java/lang/String") }, accessFlags := 9, code := some k7c8 }
def k7c9 : Code := { maxStack := 4, maxLocals := 6, code := jdk_42_method_149_code, exceptionTable := #[], attributes := #[] }
def k7m9 : Method := { name := "<init>", desc := "([CIILjava/lang/Void;)V", sig := { parameters := [(.array .char), .int, .int, (.object "java/lang/Void")], returnType := none }, accessFlags := 2, code := some k7c9 }
def k7c10 : Code := { maxStack := 5, maxLocals := 5, code := jdk_42_method_150_code, exceptionTable := #[], attributes := #[] }
def k7m10 : Method := { name := "<init>", desc := "(Ljava/lang/AbstractStringBuilder;Ljava/lang/Void;)V", sig := { parameters := [(.object "java/lang/AbstractStringBuilder"), (.object "java/lang/Void")], returnType := none }, accessFlags := 0, code := some k7c10 }
def k7c11 : Code := { maxStack := 2, maxLocals := 3, code := jdk_42_method_151_code, exceptionTable := #[], attributes := #[] }
def k7m11 : Method := { name := "<init>", desc := "([BB)V", sig := { parameters := [(.array .byte), .byte], returnType := none }, accessFlags := 0, code := some k7c11 }
def k7c12 : Code := { maxStack := 1, maxLocals := 1, code := jdk_42_method_152_code, exceptionTable := #[], attributes := #[] }
def k7m12 : Method := { name := "coder", desc := "()B", sig := { parameters := [], returnType := some .byte }, accessFlags := 0, code := some k7c12 }
def k7c13 : Code := { maxStack := 1, maxLocals := 1, code := jdk_42_method_154_code, exceptionTable := #[], attributes := #[] }
def k7m13 : Method := { name := "isLatin1", desc := "()Z", sig := { parameters := [], returnType := some .boolean }, accessFlags := 0, code := some k7c13 }
def k7c14 : Code := { maxStack := 3, maxLocals := 2, code := jdk_42_method_155_code, exceptionTable := #[], attributes := #[] }
def k7m14 : Method := { name := "checkIndex", desc := "(II)V", sig := { parameters := [.int, .int], returnType := none }, accessFlags := 8, code := some k7c14 }
def k7c15 : Code := { maxStack := 4, maxLocals := 3, code := jdk_42_method_158_code, exceptionTable := #[], attributes := #[] }
def k7m15 : Method := { name := "checkBoundsBeginEnd", desc := "(III)V", sig := { parameters := [.int, .int, .int], returnType := none }, accessFlags := 8, code := some k7c15 }
/-- java/lang/String -/
def k7 : Class := { plain "java/lang/String" (some 0) with
  accessFlags := 49
  interfaces := #[2, 3, 4, 5, 6]
  cf := some (fileOf pool7 10 #[.nestMembers #[1103]] #[{ accessFlags := 1, nameIndex := 5, descriptorIndex := 6, attributes := #[] }, { accessFlags := 1, nameIndex := 5, descriptorIndex := 1010, attributes := #[] }, { accessFlags := 1, nameIndex := 5, descriptorIndex := 1233, attributes := #[] }, { accessFlags := 1, nameIndex := 507, descriptorIndex := 334, attributes := #[] }, { accessFlags := 1, nameIndex := 692, descriptorIndex := 142, attributes := #[] }, { accessFlags := 1, nameIndex := 497, descriptorIndex := 427, attributes := #[] }, { accessFlags := 1, nameIndex := 543, descriptorIndex := 573, attributes := #[] }, { accessFlags := 1, nameIndex := 683, descriptorIndex := 684, attributes := #[] }, { accessFlags := 9, nameIndex := 782, descriptorIndex := 783, attributes := #[] }, { accessFlags := 2, nameIndex := 5, descriptorIndex := 29, attributes := #[] }, { accessFlags := 0, nameIndex := 5, descriptorIndex := 491, attributes := #[] }, { accessFlags := 0, nameIndex := 5, descriptorIndex := 211, attributes := #[] }, { accessFlags := 0, nameIndex := 17, descriptorIndex := 337, attributes := #[] }, { accessFlags := 0, nameIndex := 494, descriptorIndex := 142, attributes := #[] }, { accessFlags := 8, nameIndex := 501, descriptorIndex := 391, attributes := #[] }, { accessFlags := 8, nameIndex := 523, descriptorIndex := 524, attributes := #[] }] 49 2 #[1106, 1108, 575, 1110, 1112] #[{ accessFlags := 18, nameIndex := 13, descriptorIndex := 14, attributes := #[] }, { accessFlags := 18, nameIndex := 17, descriptorIndex := 18, attributes := #[] }, { accessFlags := 2, nameIndex := 21, descriptorIndex := 22, attributes := #[] }, { accessFlags := 2, nameIndex := 25, descriptorIndex := 26, attributes := #[] }, { accessFlags := 26, nameIndex := 1116, descriptorIndex := 1117, attributes := #[] }, { accessFlags := 24, nameIndex := 40, descriptorIndex := 26, attributes := #[] }, { accessFlags := 26, nameIndex := 1101, descriptorIndex := 1102, attributes := #[] }, { accessFlags := 26, nameIndex := 1121, descriptorIndex := 1122, attributes := #[] }, { accessFlags := 25, nameIndex := 599, descriptorIndex := 600, attributes := #[] }, { accessFlags := 24, nameIndex := 1125, descriptorIndex := 18, attributes := #[] }, { accessFlags := 24, nameIndex := 1127, descriptorIndex := 18, attributes := #[] }])
  fields := #[{ name := "value", type := (.array .byte), accessFlags := 18, slot := 0, constantValue := 0 }, { name := "coder", type := .byte, accessFlags := 18, slot := 1, constantValue := 0 }, { name := "hash", type := .int, accessFlags := 2, slot := 2, constantValue := 0 }, { name := "hashIsZero", type := .boolean, accessFlags := 2, slot := 3, constantValue := 0 }, { name := "serialVersionUID", type := .long, accessFlags := 26, slot := 0, constantValue := 0 }, { name := "COMPACT_STRINGS", type := .boolean, accessFlags := 24, slot := 1, constantValue := 0 }, { name := "serialPersistentFields", type := (.array (.object "java/io/ObjectStreamField")), accessFlags := 26, slot := 2, constantValue := 0 }, { name := "REPL", type := .char, accessFlags := 26, slot := 3, constantValue := 0 }, { name := "CASE_INSENSITIVE_ORDER", type := (.object "java/util/Comparator"), accessFlags := 25, slot := 4, constantValue := 0 }, { name := "LATIN1", type := .byte, accessFlags := 24, slot := 5, constantValue := 0 }, { name := "UTF16", type := .byte, accessFlags := 24, slot := 6, constantValue := 0 }]
  methods := #[k7m0, k7m1, k7m2, k7m3, k7m4, k7m5, k7m6, k7m7, k7m8, k7m9, k7m10, k7m11, k7m12, k7m13, k7m14, k7m15]
  instanceTypes := #[(.array .byte), .byte, .int, .boolean]
  staticTypes := #[.long, .boolean, (.array (.object "java/io/ObjectStreamField")), .char, (.object "java/util/Comparator"), .byte, .byte]
  resolved := Array.replicate 1451 none
  statics := some 0 }

def pool8 : Array CpInfo := pool [(6, .class_ 8), (1, u "java/lang/Object"), (0, u "<init>"), (0, u "()V"), (1, .class_ 14), (1, u "java/lang/StringUTF16"), (31, u "$assertionsDisabled"), (0, u "Z"), (13, u "HI_BYTE_SHIFT"), (0, u "I"), (2, u "LO_BYTE_SHIFT"), (49, .methodref 12 116), (0, .nameAndType 117 118), (0, u "compress"), (0, u "([CI[BII)I"), (3, u "([CII)[B"), (138, u "coderFromArrayLen"), (0, u "([BI)B"), (106, .class_ 371), (1, u "java/lang/StringUTF16$LinesSpliterator"), (58, u "MAX_LENGTH"), (196, .class_ 628), (0, u "java/lang/StringUTF16$CodePointsSpliterator"), (0, .class_ 630), (0, u "java/lang/StringUTF16$CharsSpliterator")] 4

def k8m0 : Method := { name := "<init>", desc := "()V", sig := { parameters := [], returnType := none }, accessFlags := 0, code := none }
def k8c1 : Code := { maxStack := 2, maxLocals := 2, code := jdk_52_method_15_code, exceptionTable := #[], attributes := #[] }
def k8m1 : Method := { name := "coderFromArrayLen", desc := "([BI)B", sig := { parameters := [(.array .byte), .int], returnType := some .byte }, accessFlags := 8, code := some k8c1 }
def k8c2 : Code := { maxStack := 5, maxLocals := 6, code := jdk_52_method_16_code, exceptionTable := #[], attributes := #[] }
def k8m2 : Method := { name := "compress", desc := "([CII)[B", sig := { parameters := [(.array .char), .int, .int], returnType := some (.array .byte) }, accessFlags := 9, code := some k8c2 }
def k8c3 : Code := { maxStack := 3, maxLocals := 7, code := jdk_52_method_21_code, exceptionTable := #[], attributes := #[] }
def k8m3 : Method := { name := "compress", desc := "([CI[BII)I", sig := { parameters := [(.array .char), .int, (.array .byte), .int, .int], returnType := some .int }, accessFlags := 9, code := some k8c3 }
/-- java/lang/StringUTF16 -/
def k8 : Class := { plain "java/lang/StringUTF16" (some 0) with
  accessFlags := 48
  interfaces := #[]
  cf := some (fileOf pool8 12 #[.nestMembers #[627, 629, 369]] #[{ accessFlags := 0, nameIndex := 9, descriptorIndex := 10, attributes := #[] }, { accessFlags := 8, nameIndex := 261, descriptorIndex := 262, attributes := #[] }, { accessFlags := 9, nameIndex := 117, descriptorIndex := 122, attributes := #[] }, { accessFlags := 9, nameIndex := 117, descriptorIndex := 118, attributes := #[] }] 48 6 #[] #[{ accessFlags := 26, nameIndex := 61, descriptorIndex := 62, attributes := #[] }, { accessFlags := 26, nameIndex := 65, descriptorIndex := 62, attributes := #[] }, { accessFlags := 24, nameIndex := 430, descriptorIndex := 62, attributes := #[] }, { accessFlags := 4120, nameIndex := 46, descriptorIndex := 47, attributes := #[] }])
  fields := #[{ name := "HI_BYTE_SHIFT", type := .int, accessFlags := 26, slot := 0, constantValue := 0 }, { name := "LO_BYTE_SHIFT", type := .int, accessFlags := 26, slot := 1, constantValue := 0 }, { name := "MAX_LENGTH", type := .int, accessFlags := 24, slot := 2, constantValue := 0 }, { name := "$assertionsDisabled", type := .boolean, accessFlags := 4120, slot := 3, constantValue := 0 }]
  methods := #[k8m0, k8m1, k8m2, k8m3]
  instanceTypes := #[]
  staticTypes := #[.int, .int, .int, .boolean]
  resolved := Array.replicate 635 none
  statics := none }

def pool9 : Array CpInfo := pool [(1, .class_ 2), (0, u "java/lang/String"), (1, .class_ 6), (1, u "java/lang/Object"), (0, u "<init>"), (0, u "()V"), (0, .methodref 1 10), (0, .nameAndType 11 12), (0, u "checkIndex"), (0, u "(II)V"), (1, .class_ 16), (1, u "java/lang/StringLatin1"), (36, u "([BI)C"), (36, u "canEncode"), (14, u "(C)Z"), (6, .methodref 1 113), (0, .nameAndType 7 114), (0, u "([BB)V"), (6, u "$assertionsDisabled"), (0, u "Z"), (8, .class_ 133), (1, u "java/util/Arrays"), (62, u "newString"), (0, u "([BII)Ljava/lang/String;"), (23, .class_ 223), (1, u "java/lang/StringLatin1$LinesSpliterator"), (8, .methodref 131 233), (0, .nameAndType 234 235), (0, u "copyOfRange"), (0, u "([BII)[B"), (16, u "charAt"), (28, u "equals"), (0, u "([B[B)Z"), (97, u "toBytes"), (1, u "(C)[B"), (7, .class_ 391), (0, u "java/lang/StringLatin1$CharsSpliterator")] 3

def k9m0 : Method := { name := "<init>", desc := "()V", sig := { parameters := [], returnType := none }, accessFlags := 0, code := none }
def k9c1 : Code := { maxStack := 2, maxLocals := 2, code := jdk_43_method_2_code, exceptionTable := #[], attributes := #[] }
def k9m1 : Method := { name := "charAt", desc := "([BI)C", sig := { parameters := [(.array .byte), .int], returnType := some .char }, accessFlags := 9, code := some k9c1 }
def k9c2 : Code := { maxStack := 2, maxLocals := 1, code := jdk_43_method_3_code, exceptionTable := #[], attributes := #[] }
def k9m2 : Method := { name := "canEncode", desc := "(C)Z", sig := { parameters := [.char], returnType := some .boolean }, accessFlags := 9, code := some k9c2 }
def k9c3 : Code := { maxStack := 3, maxLocals := 3, code := jdk_43_method_13_code, exceptionTable := #[], attributes := #[] }
def k9m3 : Method := { name := "equals", desc := "([B[B)Z", sig := { parameters := [(.array .byte), (.array .byte)], returnType := some .boolean }, accessFlags := 9, code := some k9c3 }
def k9c4 : Code := { maxStack := 4, maxLocals := 1, code := jdk_43_method_46_code, exceptionTable := #[], attributes := #[] }
def k9m4 : Method := { name := "toBytes", desc := "(C)[B", sig := { parameters := [.char], returnType := some (.array .byte) }, accessFlags := 9, code := some k9c4 }
def k9c5 : Code := { maxStack := 6, maxLocals := 3, code := jdk_43_method_47_code, exceptionTable := #[], attributes := #[] }
def k9m5 : Method := { name := "newString", desc := "([BII)Ljava/lang/String;", sig := { parameters := [(.array .byte), .int, .int], returnType := some (.object "java/lang/String") }, accessFlags := 9, code := some k9c5 }
/-- java/lang/StringLatin1 -/
def k9 : Class := { plain "java/lang/StringLatin1" (some 0) with
  accessFlags := 48
  interfaces := #[]
  cf := some (fileOf pool9 14 #[.nestMembers #[390, 221]] #[{ accessFlags := 0, nameIndex := 7, descriptorIndex := 8, attributes := #[] }, { accessFlags := 9, nameIndex := 252, descriptorIndex := 53, attributes := #[] }, { accessFlags := 9, nameIndex := 90, descriptorIndex := 105, attributes := #[] }, { accessFlags := 9, nameIndex := 281, descriptorIndex := 282, attributes := #[] }, { accessFlags := 9, nameIndex := 380, descriptorIndex := 382, attributes := #[] }, { accessFlags := 9, nameIndex := 196, descriptorIndex := 197, attributes := #[] }] 48 4 #[] #[{ accessFlags := 4120, nameIndex := 121, descriptorIndex := 122, attributes := #[] }])
  fields := #[{ name := "$assertionsDisabled", type := .boolean, accessFlags := 4120, slot := 0, constantValue := 0 }]
  methods := #[k9m0, k9m1, k9m2, k9m3, k9m4, k9m5]
  instanceTypes := #[]
  staticTypes := #[.boolean]
  resolved := Array.replicate 395 none
  statics := none }

def pool10 : Array CpInfo := pool [(1, .methodref 2 3), (0, .class_ 4), (0, .nameAndType 5 6), (0, u "java/lang/Object"), (0, u "<init>"), (0, u "()V"), (0, .fieldref 8 9), (0, .class_ 10), (0, .nameAndType 11 12), (0, u "com/example/inchworm/inchworm/core/IdempotencyKey"), (0, u "value"), (0, u "Ljava/lang/String;"), (0, .string 14), (0, u "key"), (0, .methodref 16 17), (0, .class_ 18), (0, .nameAndType 19 20), (0, u "java/util/Objects"), (0, u "requireNonNull"), (0, u "(Ljava/lang/Object;Ljava/lang/String;)Ljava/lang/Object;"), (0, .methodref 22 23), (0, .class_ 24), (0, .nameAndType 25 26), (0, u "java/lang/String"), (0, u "isEmpty"), (0, u "()Z"), (5, .nameAndType 5 33), (0, u "(Ljava/lang/String;)V"), (0, .methodref 22 35), (0, .nameAndType 36 37), (0, u "length"), (0, u "()I"), (4, .methodref 22 43), (0, .nameAndType 44 45), (0, u "charAt"), (0, u "(I)C"), (7, .methodref 8 32), (0, .string 55), (0, u "fieldValue"), (0, .methodref 8 57), (0, .nameAndType 58 59), (0, u "stripSurroundingWhitespace"), (0, u "(Ljava/lang/String;)Ljava/lang/String;"), (0, .methodref 8 61), (0, .nameAndType 62 59), (0, u "unquote"), (0, .methodref 8 64), (0, .nameAndType 65 66), (0, u "of"), (0, u "(Ljava/lang/String;)Lcom/example/inchworm/inchworm/core/IdempotencyKey;"), (0, .class_ 68), (0, u "java/lang/StringBuilder"), (0, .methodref 67 70), (0, .nameAndType 5 71), (0, u "(I)V"), (0, .methodref 67 73), (0, .nameAndType 74 75), (0, u "append"), (0, u "(C)Ljava/lang/StringBuilder;"), (0, .methodref 67 77), (0, .nameAndType 78 79), (0, u "toString"), (0, u "()Ljava/lang/String;"), (7, .methodref 8 88), (0, .nameAndType 89 90), (0, u "isOptionalWhitespace"), (0, u "(C)Z"), (0, .methodref 22 92), (0, .nameAndType 93 94), (0, u "substring"), (0, u "(II)Ljava/lang/String;"), (20, u "HEADER"), (3, u "MAX_LENGTH"), (0, u "I"), (1, u "FIRST_ALLOWED"), (0, u "C"), (1, u "LAST_ALLOWED"), (1, u "QUOTE"), (1, u "BACKSLASH"), (4, u "parseHeader")] 20

def k10c0 : Code := { maxStack := 2, maxLocals := 2, code := prog_18_method_1_code, exceptionTable := #[], attributes := #[] }
def k10m0 : Method := { name := "<init>", desc := "(Ljava/lang/String;)V", sig := { parameters := [(.object "java/lang/String")], returnType := none }, accessFlags := 2, code := some k10c0 }
def k10c1 : Code := { maxStack := 4, maxLocals := 3, code := prog_18_method_2_code, exceptionTable := #[], attributes := #[] }
def k10m1 : Method := { name := "of", desc := "(Ljava/lang/String;)Lcom/example/inchworm/inchworm/core/IdempotencyKey;", sig := { parameters := [(.object "java/lang/String")], returnType := some (.object "com/example/inchworm/inchworm/core/IdempotencyKey") }, accessFlags := 9, code := some k10c1 }
def k10c2 : Code := { maxStack := 2, maxLocals := 3, code := prog_18_method_3_code, exceptionTable := #[], attributes := #[] }
def k10m2 : Method := { name := "parseHeader", desc := "(Ljava/lang/String;)Lcom/example/inchworm/inchworm/core/IdempotencyKey;", sig := { parameters := [(.object "java/lang/String")], returnType := some (.object "com/example/inchworm/inchworm/core/IdempotencyKey") }, accessFlags := 9, code := some k10c2 }
def k10c3 : Code := { maxStack := 1, maxLocals := 1, code := prog_18_method_4_code, exceptionTable := #[], attributes := #[] }
def k10m3 : Method := { name := "value", desc := "()Ljava/lang/String;", sig := { parameters := [], returnType := some (.object "java/lang/String") }, accessFlags := 1, code := some k10c3 }
def k10c4 : Code := { maxStack := 3, maxLocals := 3, code := prog_18_method_9_code, exceptionTable := #[], attributes := #[] }
def k10m4 : Method := { name := "stripSurroundingWhitespace", desc := "(Ljava/lang/String;)Ljava/lang/String;", sig := { parameters := [(.object "java/lang/String")], returnType := some (.object "java/lang/String") }, accessFlags := 10, code := some k10c4 }
def k10c5 : Code := { maxStack := 2, maxLocals := 1, code := prog_18_method_10_code, exceptionTable := #[], attributes := #[] }
def k10m5 : Method := { name := "isOptionalWhitespace", desc := "(C)Z", sig := { parameters := [.char], returnType := some .boolean }, accessFlags := 10, code := some k10c5 }
def k10c6 : Code := { maxStack := 3, maxLocals := 5, code := prog_18_method_11_code, exceptionTable := #[], attributes := #[] }
def k10m6 : Method := { name := "unquote", desc := "(Ljava/lang/String;)Ljava/lang/String;", sig := { parameters := [(.object "java/lang/String")], returnType := some (.object "java/lang/String") }, accessFlags := 10, code := some k10c6 }
/-- com/example/inchworm/inchworm/core/IdempotencyKey -/
def k10 : Class := { plain "com/example/inchworm/inchworm/core/IdempotencyKey" (some 0) with
  accessFlags := 49
  interfaces := #[]
  cf := some (fileOf pool10 8 #[] #[{ accessFlags := 2, nameIndex := 5, descriptorIndex := 33, attributes := #[] }, { accessFlags := 9, nameIndex := 65, descriptorIndex := 66, attributes := #[] }, { accessFlags := 9, nameIndex := 134, descriptorIndex := 66, attributes := #[] }, { accessFlags := 1, nameIndex := 11, descriptorIndex := 79, attributes := #[] }, { accessFlags := 10, nameIndex := 58, descriptorIndex := 59, attributes := #[] }, { accessFlags := 10, nameIndex := 89, descriptorIndex := 90, attributes := #[] }, { accessFlags := 10, nameIndex := 62, descriptorIndex := 59, attributes := #[] }] 49 2 #[] #[{ accessFlags := 25, nameIndex := 115, descriptorIndex := 12, attributes := #[] }, { accessFlags := 25, nameIndex := 119, descriptorIndex := 120, attributes := #[] }, { accessFlags := 26, nameIndex := 122, descriptorIndex := 123, attributes := #[] }, { accessFlags := 26, nameIndex := 125, descriptorIndex := 123, attributes := #[] }, { accessFlags := 26, nameIndex := 127, descriptorIndex := 123, attributes := #[] }, { accessFlags := 26, nameIndex := 129, descriptorIndex := 123, attributes := #[] }, { accessFlags := 18, nameIndex := 11, descriptorIndex := 12, attributes := #[] }])
  fields := #[{ name := "HEADER", type := (.object "java/lang/String"), accessFlags := 25, slot := 0, constantValue := 0 }, { name := "MAX_LENGTH", type := .int, accessFlags := 25, slot := 1, constantValue := 0 }, { name := "FIRST_ALLOWED", type := .char, accessFlags := 26, slot := 2, constantValue := 0 }, { name := "LAST_ALLOWED", type := .char, accessFlags := 26, slot := 3, constantValue := 0 }, { name := "QUOTE", type := .char, accessFlags := 26, slot := 4, constantValue := 0 }, { name := "BACKSLASH", type := .char, accessFlags := 26, slot := 5, constantValue := 0 }, { name := "value", type := (.object "java/lang/String"), accessFlags := 18, slot := 0, constantValue := 0 }]
  methods := #[k10m0, k10m1, k10m2, k10m3, k10m4, k10m5, k10m6]
  instanceTypes := #[(.object "java/lang/String")]
  staticTypes := #[(.object "java/lang/String"), .int, .char, .char, .char, .char]
  resolved := Array.replicate 155 none
  statics := none }

def pool11 : Array CpInfo := pool [(2, .class_ 4), (1, u "java/lang/Object"), (0, u "<init>"), (0, u "()V"), (35, .class_ 44), (1, u "java/util/Objects"), (0, u "requireNonNull"), (48, u "(Ljava/lang/Object;Ljava/lang/String;)Ljava/lang/Object;")] 89

def k11m0 : Method := { name := "<init>", desc := "()V", sig := { parameters := [], returnType := none }, accessFlags := 2, code := none }
def k11c1 : Code := { maxStack := 3, maxLocals := 2, code := jdk_31_method_11_code, exceptionTable := #[], attributes := #[] }
def k11m1 : Method := { name := "requireNonNull", desc := "(Ljava/lang/Object;Ljava/lang/String;)Ljava/lang/Object;", sig := { parameters := [(.object "java/lang/Object"), (.object "java/lang/String")], returnType := some (.object "java/lang/Object") }, accessFlags := 9, code := some k11c1 }
/-- java/util/Objects -/
def k11 : Class := { plain "java/util/Objects" (some 0) with
  accessFlags := 49
  interfaces := #[]
  cf := some (fileOf pool11 42 #[] #[{ accessFlags := 2, nameIndex := 5, descriptorIndex := 6, attributes := #[] }, { accessFlags := 9, nameIndex := 45, descriptorIndex := 94, attributes := #[] }] 49 2 #[] #[])
  fields := #[]
  methods := #[k11m0, k11m1]
  instanceTypes := #[]
  staticTypes := #[]
  resolved := Array.replicate 184 none
  statics := none }

def pool12 : Array CpInfo := pool [(2, .class_ 4), (1, u "java/lang/Object"), (0, u "<init>"), (0, u "()V"), (17, .class_ 26), (1, u "jdk/internal/util/Preconditions"), (6, u "checkIndex"), (13, u "checkFromToIndex"), (7, .class_ 56), (0, u "jdk/internal/util/Preconditions$4"), (57, .class_ 115), (0, u "jdk/internal/util/Preconditions$1"), (7, u "SIOOBE_FORMATTER"), (0, u "Ljava/util/function/BiFunction;"), (0, .class_ 126), (0, u "jdk/internal/util/Preconditions$2"), (3, u "AIOOBE_FORMATTER"), (0, .class_ 132), (0, u "jdk/internal/util/Preconditions$3"), (3, u "IOOBE_FORMATTER"), (41, u "(IILjava/util/function/BiFunction;)I"), (4, u "(IIILjava/util/function/BiFunction;)I")] 10

def k12m0 : Method := { name := "<init>", desc := "()V", sig := { parameters := [], returnType := none }, accessFlags := 1, code := none }
def k12c1 : Code := { maxStack := 3, maxLocals := 3, code := jdk_41_method_11_code, exceptionTable := #[], attributes := #[] }
def k12m1 : Method := { name := "checkIndex", desc := "(IILjava/util/function/BiFunction;)I", sig := { parameters := [.int, .int, (.object "java/util/function/BiFunction")], returnType := some .int }, accessFlags := 9, code := some k12c1 }
def k12c2 : Code := { maxStack := 4, maxLocals := 4, code := jdk_41_method_12_code, exceptionTable := #[], attributes := #[] }
def k12m2 : Method := { name := "checkFromToIndex", desc := "(IIILjava/util/function/BiFunction;)I", sig := { parameters := [.int, .int, .int, (.object "java/util/function/BiFunction")], returnType := some .int }, accessFlags := 9, code := some k12c2 }
/-- jdk/internal/util/Preconditions -/
def k12 : Class := { plain "jdk/internal/util/Preconditions" (some 0) with
  accessFlags := 33
  interfaces := #[]
  cf := some (fileOf pool12 24 #[.nestMembers #[55, 131, 125, 114]] #[{ accessFlags := 1, nameIndex := 5, descriptorIndex := 6, attributes := #[] }, { accessFlags := 9, nameIndex := 33, descriptorIndex := 178, attributes := #[] }, { accessFlags := 9, nameIndex := 47, descriptorIndex := 183, attributes := #[] }] 33 2 #[] #[{ accessFlags := 25, nameIndex := 123, descriptorIndex := 124, attributes := #[] }, { accessFlags := 25, nameIndex := 130, descriptorIndex := 124, attributes := #[] }, { accessFlags := 25, nameIndex := 136, descriptorIndex := 124, attributes := #[] }])
  fields := #[{ name := "SIOOBE_FORMATTER", type := (.object "java/util/function/BiFunction"), accessFlags := 25, slot := 0, constantValue := 0 }, { name := "AIOOBE_FORMATTER", type := (.object "java/util/function/BiFunction"), accessFlags := 25, slot := 1, constantValue := 0 }, { name := "IOOBE_FORMATTER", type := (.object "java/util/function/BiFunction"), accessFlags := 25, slot := 2, constantValue := 0 }]
  methods := #[k12m0, k12m1, k12m2]
  instanceTypes := #[]
  staticTypes := #[(.object "java/util/function/BiFunction"), (.object "java/util/function/BiFunction"), (.object "java/util/function/BiFunction")]
  resolved := Array.replicate 194 none
  statics := some 1 }

def pool13 : Array CpInfo := pool [(2, .class_ 4), (1, u "java/lang/Object"), (0, u "<init>"), (0, u "()V"), (7, .class_ 16), (1, u "java/util/Arrays"), (57, .class_ 76), (1, u "java/util/Arrays$NaturalOrder"), (36, .class_ 115), (1, u "java/util/Arrays$LegacyMergeSort"), (1, u "Z"), (21, u "copyOfRange"), (10, .methodref 151 152), (0, .class_ 153), (0, .nameAndType 154 155), (0, u "java/lang/System"), (0, u "arraycopy"), (0, u "(Ljava/lang/Object;ILjava/lang/Object;II)V"), (148, .methodref 305 306), (0, .class_ 307), (0, .nameAndType 308 309), (0, u "java/lang/Math"), (0, u "min"), (0, u "(II)I"), (29, .methodref 14 340), (0, .nameAndType 341 342), (0, u "copyOfRangeByte"), (0, u "([BII)[B"), (0, .methodref 14 344), (0, .nameAndType 345 346), (0, u "checkLength"), (0, u "(II)V"), (28, .class_ 376), (0, u "java/util/Arrays$ArrayList"), (68, u "$assertionsDisabled"), (269, u "MIN_ARRAY_SORT_GRAN"), (0, u "I"), (2, u "INSERTIONSORT_THRESHOLD"), (255, .class_ 976), (0, u "java/util/Arrays$ArrayItr")] 52

def k13m0 : Method := { name := "<init>", desc := "()V", sig := { parameters := [], returnType := none }, accessFlags := 2, code := none }
def k13c1 : Code := { maxStack := 4, maxLocals := 2, code := jdk_65_method_131_code, exceptionTable := #[], attributes := #[] }
def k13m1 : Method := { name := "checkLength", desc := "(II)V", sig := { parameters := [.int, .int], returnType := none }, accessFlags := 10, code := some k13c1 }
def k13c2 : Code := { maxStack := 3, maxLocals := 3, code := jdk_65_method_132_code, exceptionTable := #[], attributes := #[] }
def k13m2 : Method := { name := "copyOfRange", desc := "([BII)[B", sig := { parameters := [(.array .byte), .int, .int], returnType := some (.array .byte) }, accessFlags := 9, code := some k13c2 }
def k13c3 : Code := { maxStack := 6, maxLocals := 5, code := jdk_65_method_133_code, exceptionTable := #[], attributes := #[] }
def k13m3 : Method := { name := "copyOfRangeByte", desc := "([BII)[B", sig := { parameters := [(.array .byte), .int, .int], returnType := some (.array .byte) }, accessFlags := 10, code := some k13c3 }
/-- java/util/Arrays -/
def k13 : Class := { plain "java/util/Arrays" (some 0) with
  accessFlags := 49
  interfaces := #[]
  cf := some (fileOf pool13 14 #[.nestMembers #[975, 375, 113, 74]] #[{ accessFlags := 2, nameIndex := 5, descriptorIndex := 6, attributes := #[] }, { accessFlags := 10, nameIndex := 345, descriptorIndex := 346, attributes := #[] }, { accessFlags := 9, nameIndex := 139, descriptorIndex := 342, attributes := #[] }, { accessFlags := 10, nameIndex := 341, descriptorIndex := 342, attributes := #[] }] 49 2 #[] #[{ accessFlags := 26, nameIndex := 715, descriptorIndex := 716, attributes := #[] }, { accessFlags := 26, nameIndex := 719, descriptorIndex := 716, attributes := #[] }, { accessFlags := 4120, nameIndex := 445, descriptorIndex := 117, attributes := #[] }])
  fields := #[{ name := "MIN_ARRAY_SORT_GRAN", type := .int, accessFlags := 26, slot := 0, constantValue := 0 }, { name := "INSERTIONSORT_THRESHOLD", type := .int, accessFlags := 26, slot := 1, constantValue := 0 }, { name := "$assertionsDisabled", type := .boolean, accessFlags := 4120, slot := 2, constantValue := 0 }]
  methods := #[k13m0, k13m1, k13m2, k13m3]
  instanceTypes := #[]
  staticTypes := #[.int, .int, .boolean]
  resolved := Array.replicate 1029 none
  statics := none }

def pool14 : Array CpInfo := pool [(1, .class_ 2), (0, u "java/lang/Math"), (1, .class_ 6), (1, u "java/lang/Object"), (0, u "<init>"), (0, u "()V"), (89, .class_ 100), (1, u "java/lang/Math$RandomNumberGeneratorHolder"), (71, u "negativeZeroFloatBits"), (0, u "J"), (2, u "negativeZeroDoubleBits"), (24, u "min"), (43, u "$assertionsDisabled"), (0, u "Z"), (88, u "(II)I"), (2, u "twoToTheDoubleScaleDown"), (0, u "D"), (4, u "twoToTheDoubleScaleUp"), (9, u "E"), (3, u "PI"), (2, u "TAU"), (2, u "DEGREES_TO_RADIANS"), (0, u "RADIANS_TO_DEGREES")] 94

def k14m0 : Method := { name := "<init>", desc := "()V", sig := { parameters := [], returnType := none }, accessFlags := 2, code := none }
def k14c1 : Code := { maxStack := 2, maxLocals := 2, code := jdk_29_method_69_code, exceptionTable := #[], attributes := #[] }
def k14m1 : Method := { name := "min", desc := "(II)I", sig := { parameters := [.int, .int], returnType := some .int }, accessFlags := 9, code := some k14c1 }
/-- java/lang/Math -/
def k14 : Class := { plain "java/lang/Math" (some 0) with
  accessFlags := 49
  interfaces := #[]
  cf := some (fileOf pool14 1 #[.nestMembers #[98]] #[{ accessFlags := 2, nameIndex := 7, descriptorIndex := 8, attributes := #[] }, { accessFlags := 9, nameIndex := 201, descriptorIndex := 335, attributes := #[] }] 49 4 #[] #[{ accessFlags := 25, nameIndex := 354, descriptorIndex := 339, attributes := #[] }, { accessFlags := 25, nameIndex := 358, descriptorIndex := 339, attributes := #[] }, { accessFlags := 25, nameIndex := 361, descriptorIndex := 339, attributes := #[] }, { accessFlags := 26, nameIndex := 364, descriptorIndex := 339, attributes := #[] }, { accessFlags := 26, nameIndex := 365, descriptorIndex := 339, attributes := #[] }, { accessFlags := 26, nameIndex := 172, descriptorIndex := 173, attributes := #[] }, { accessFlags := 26, nameIndex := 176, descriptorIndex := 173, attributes := #[] }, { accessFlags := 8, nameIndex := 344, descriptorIndex := 339, attributes := #[] }, { accessFlags := 8, nameIndex := 338, descriptorIndex := 339, attributes := #[] }, { accessFlags := 4120, nameIndex := 245, descriptorIndex := 246, attributes := #[] }])
  fields := #[{ name := "E", type := .double, accessFlags := 25, slot := 0, constantValue := 0 }, { name := "PI", type := .double, accessFlags := 25, slot := 1, constantValue := 0 }, { name := "TAU", type := .double, accessFlags := 25, slot := 2, constantValue := 0 }, { name := "DEGREES_TO_RADIANS", type := .double, accessFlags := 26, slot := 3, constantValue := 0 }, { name := "RADIANS_TO_DEGREES", type := .double, accessFlags := 26, slot := 4, constantValue := 0 }, { name := "negativeZeroFloatBits", type := .long, accessFlags := 26, slot := 5, constantValue := 0 }, { name := "negativeZeroDoubleBits", type := .long, accessFlags := 26, slot := 6, constantValue := 0 }, { name := "twoToTheDoubleScaleUp", type := .double, accessFlags := 8, slot := 7, constantValue := 0 }, { name := "twoToTheDoubleScaleDown", type := .double, accessFlags := 8, slot := 8, constantValue := 0 }, { name := "$assertionsDisabled", type := .boolean, accessFlags := 4120, slot := 9, constantValue := 0 }]
  methods := #[k14m0, k14m1]
  instanceTypes := #[]
  staticTypes := #[.double, .double, .double, .double, .double, .long, .long, .double, .double, .boolean]
  resolved := Array.replicate 460 none
  statics := none }

def pool15 : Array CpInfo := pool [(2, .class_ 4), (1, u "java/lang/Object"), (0, u "<init>"), (0, u "()V"), (1, .class_ 10), (1, u "java/lang/System"), (0, u "allowSecurityManager"), (0, u "I"), (16, u "cons"), (0, u "Ljava/io/Console;"), (77, .class_ 110), (1, u "java/lang/System$CallersHolder"), (43, u "initialErrStream"), (0, u "Ljava/io/PrintStream;"), (19, u "security"), (0, u "Ljava/lang/SecurityManager;"), (31, .class_ 209), (0, u "java/lang/System$1"), (7, u "props"), (0, u "Ljava/util/Properties;"), (2, u "lineSeparator"), (0, u "Ljava/lang/String;"), (96, .class_ 321), (1, u "java/lang/System$LoggerFinder"), (5, .class_ 328), (0, u "java/lang/System$Logger"), (67, u "err"), (2, u "out"), (91, u "notSupportedJnuEncoding"), (15, u "in"), (17, u "initialIn"), (0, u "Ljava/io/InputStream;"), (35, u "bootLayer"), (0, u "Ljava/lang/ModuleLayer;"), (99, .class_ 664), (0, u "java/lang/System$2"), (9, u "NEVER"), (2, u "MAYBE"), (49, u "arraycopy"), (0, u "(Ljava/lang/Object;ILjava/lang/Object;II)V"), (72, .class_ 802), (0, u "java/lang/System$Logger$Level")] 31

def k15m0 : Method := { name := "<init>", desc := "()V", sig := { parameters := [], returnType := none }, accessFlags := 2, code := none }
def k15m1 : Method := { name := "arraycopy", desc := "(Ljava/lang/Object;ILjava/lang/Object;II)V", sig := { parameters := [(.object "java/lang/Object"), .int, (.object "java/lang/Object"), .int, .int], returnType := none }, accessFlags := 265, code := none }
/-- java/lang/System -/
def k15 : Class := { plain "java/lang/System" (some 0) with
  accessFlags := 49
  interfaces := #[]
  cf := some (fileOf pool15 8 #[.nestMembers #[319, 327, 801, 108, 663, 208]] #[{ accessFlags := 2, nameIndex := 5, descriptorIndex := 6, attributes := #[] }, { accessFlags := 265, nameIndex := 727, descriptorIndex := 728, attributes := #[] }] 49 2 #[] #[{ accessFlags := 25, nameIndex := 507, descriptorIndex := 526, attributes := #[] }, { accessFlags := 25, nameIndex := 399, descriptorIndex := 155, attributes := #[] }, { accessFlags := 25, nameIndex := 396, descriptorIndex := 155, attributes := #[] }, { accessFlags := 10, nameIndex := 525, descriptorIndex := 526, attributes := #[] }, { accessFlags := 26, nameIndex := 674, descriptorIndex := 12, attributes := #[] }, { accessFlags := 26, nameIndex := 677, descriptorIndex := 12, attributes := #[] }, { accessFlags := 10, nameIndex := 11, descriptorIndex := 12, attributes := #[] }, { accessFlags := 74, nameIndex := 175, descriptorIndex := 176, attributes := #[] }, { accessFlags := 10, nameIndex := 491, descriptorIndex := 222, attributes := #[] }, { accessFlags := 74, nameIndex := 29, descriptorIndex := 30, attributes := #[] }, { accessFlags := 74, nameIndex := 154, descriptorIndex := 155, attributes := #[] }, { accessFlags := 10, nameIndex := 217, descriptorIndex := 218, attributes := #[] }, { accessFlags := 10, nameIndex := 221, descriptorIndex := 222, attributes := #[] }, { accessFlags := 8, nameIndex := 562, descriptorIndex := 563, attributes := #[] }])
  fields := #[{ name := "in", type := (.object "java/io/InputStream"), accessFlags := 25, slot := 0, constantValue := 0 }, { name := "out", type := (.object "java/io/PrintStream"), accessFlags := 25, slot := 1, constantValue := 0 }, { name := "err", type := (.object "java/io/PrintStream"), accessFlags := 25, slot := 2, constantValue := 0 }, { name := "initialIn", type := (.object "java/io/InputStream"), accessFlags := 10, slot := 3, constantValue := 0 }, { name := "NEVER", type := .int, accessFlags := 26, slot := 4, constantValue := 0 }, { name := "MAYBE", type := .int, accessFlags := 26, slot := 5, constantValue := 0 }, { name := "allowSecurityManager", type := .int, accessFlags := 10, slot := 6, constantValue := 0 }, { name := "security", type := (.object "java/lang/SecurityManager"), accessFlags := 74, slot := 7, constantValue := 0 }, { name := "notSupportedJnuEncoding", type := (.object "java/lang/String"), accessFlags := 10, slot := 8, constantValue := 0 }, { name := "cons", type := (.object "java/io/Console"), accessFlags := 74, slot := 9, constantValue := 0 }, { name := "initialErrStream", type := (.object "java/io/PrintStream"), accessFlags := 74, slot := 10, constantValue := 0 }, { name := "props", type := (.object "java/util/Properties"), accessFlags := 10, slot := 11, constantValue := 0 }, { name := "lineSeparator", type := (.object "java/lang/String"), accessFlags := 10, slot := 12, constantValue := 0 }, { name := "bootLayer", type := (.object "java/lang/ModuleLayer"), accessFlags := 8, slot := 13, constantValue := 0 }]
  methods := #[k15m0, k15m1]
  instanceTypes := #[]
  staticTypes := #[(.object "java/io/InputStream"), (.object "java/io/PrintStream"), (.object "java/io/PrintStream"), (.object "java/io/InputStream"), .int, .int, .int, (.object "java/lang/SecurityManager"), (.object "java/lang/String"), (.object "java/io/Console"), (.object "java/io/PrintStream"), (.object "java/util/Properties"), (.object "java/lang/String"), (.object "java/lang/ModuleLayer")]
  resolved := Array.replicate 834 none
  statics := none }

def pool16 : Array CpInfo := pool [(1, .class_ 2), (0, u "java/lang/Appendable"), (0, .class_ 4), (0, u "java/lang/Object")] 9

/-- java/lang/Appendable -/
def k16 : Class := { plain "java/lang/Appendable" (some 0) with
  accessFlags := 1537
  interfaces := #[]
  cf := some (fileOf pool16 1 #[] #[] 1537 3 #[] #[])
  fields := #[]
  methods := #[]
  instanceTypes := #[]
  staticTypes := #[]
  resolved := Array.replicate 14 none
  statics := none }

def pool17 : Array CpInfo := pool [(1, .class_ 2), (0, u "java/lang/String"), (0, .methodref 4 5), (0, .class_ 6), (0, .nameAndType 7 8), (0, u "java/lang/Object"), (0, u "<init>"), (0, u "()V"), (1, .class_ 12), (1, u "java/lang/AbstractStringBuilder"), (0, u "EMPTYVALUE"), (0, u "[B"), (0, .fieldref 10 16), (0, .nameAndType 17 14), (0, u "value"), (0, .fieldref 1 19), (0, .nameAndType 20 21), (0, u "COMPACT_STRINGS"), (0, u "Z"), (0, .fieldref 10 23), (0, .nameAndType 24 25), (0, u "coder"), (0, u "B"), (8, u "length"), (0, u "()I"), (9, u "append"), (2, .class_ 49), (0, u "java/lang/CharSequence"), (25, u "maybeLatin1"), (3, .fieldref 10 80), (0, .nameAndType 81 82), (0, u "count"), (0, u "I"), (0, .methodref 10 84), (0, .nameAndType 85 86), (0, u "isLatin1"), (0, u "()Z"), (1, .class_ 90), (1, u "java/lang/StringLatin1"), (9, .methodref 10 101), (0, .nameAndType 102 103), (0, u "ensureCapacityInternal"), (0, u "(I)V"), (87, .methodref 88 192), (0, .nameAndType 193 194), (0, u "canEncode"), (0, u "(C)Z"), (97, u "(C)Ljava/lang/AbstractStringBuilder;"), (110, u "()[B"), (40, .class_ 445), (0, u "java/lang/Appendable"), (106, u "getValue")] 56

def k17m0 : Method := { name := "<init>", desc := "()V", sig := { parameters := [], returnType := none }, accessFlags := 0, code := none }
def k17c1 : Code := { maxStack := 2, maxLocals := 2, code := jdk_68_method_2_code, exceptionTable := #[], attributes := #[] }
def k17m1 : Method := { name := "<init>", desc := "(I)V", sig := { parameters := [.int], returnType := none }, accessFlags := 0, code := some k17c1 }
def k17c2 : Code := { maxStack := 1, maxLocals := 1, code := jdk_68_method_6_code, exceptionTable := #[], attributes := #[] }
def k17m2 : Method := { name := "length", desc := "()I", sig := { parameters := [], returnType := some .int }, accessFlags := 1, code := some k17c2 }
def k17c3 : Code := { maxStack := 4, maxLocals := 3, code := jdk_68_method_9_code, exceptionTable := #[], attributes := #[] }
def k17m3 : Method := { name := "ensureCapacityInternal", desc := "(I)V", sig := { parameters := [.int], returnType := none }, accessFlags := 2, code := some k17c3 }
def k17c4 : Code := { maxStack := 5, maxLocals := 2, code := jdk_68_method_31_code, exceptionTable := #[], attributes := #[] }
def k17m4 : Method := { name := "append", desc := "(C)Ljava/lang/AbstractStringBuilder;", sig := { parameters := [.char], returnType := some (.object "java/lang/AbstractStringBuilder") }, accessFlags := 1, code := some k17c4 }
def k17c5 : Code := { maxStack := 1, maxLocals := 1, code := jdk_68_method_64_code, exceptionTable := #[], attributes := #[] }
def k17m5 : Method := { name := "getValue", desc := "()[B", sig := { parameters := [], returnType := some (.array .byte) }, accessFlags := 16, code := some k17c5 }
def k17c6 : Code := { maxStack := 1, maxLocals := 1, code := jdk_68_method_68_code, exceptionTable := #[], attributes := #[] }
def k17m6 : Method := { name := "isLatin1", desc := "()Z", sig := { parameters := [], returnType := some .boolean }, accessFlags := 16, code := some k17c6 }
/-- java/lang/AbstractStringBuilder -/
def k17 : Class := { plain "java/lang/AbstractStringBuilder" (some 0) with
  accessFlags := 1056
  interfaces := #[16, 4]
  cf := some (fileOf pool17 10 #[] #[{ accessFlags := 0, nameIndex := 7, descriptorIndex := 8, attributes := #[] }, { accessFlags := 0, nameIndex := 7, descriptorIndex := 103, attributes := #[] }, { accessFlags := 1, nameIndex := 34, descriptorIndex := 35, attributes := #[] }, { accessFlags := 2, nameIndex := 102, descriptorIndex := 103, attributes := #[] }, { accessFlags := 1, nameIndex := 45, descriptorIndex := 292, attributes := #[] }, { accessFlags := 16, nameIndex := 552, descriptorIndex := 403, attributes := #[] }, { accessFlags := 16, nameIndex := 85, descriptorIndex := 86, attributes := #[] }] 1056 4 #[444, 48] #[{ accessFlags := 0, nameIndex := 17, descriptorIndex := 14, attributes := #[] }, { accessFlags := 0, nameIndex := 24, descriptorIndex := 25, attributes := #[] }, { accessFlags := 0, nameIndex := 75, descriptorIndex := 21, attributes := #[] }, { accessFlags := 0, nameIndex := 81, descriptorIndex := 82, attributes := #[] }, { accessFlags := 26, nameIndex := 13, descriptorIndex := 14, attributes := #[] }])
  fields := #[{ name := "value", type := (.array .byte), accessFlags := 0, slot := 0, constantValue := 0 }, { name := "coder", type := .byte, accessFlags := 0, slot := 1, constantValue := 0 }, { name := "maybeLatin1", type := .boolean, accessFlags := 0, slot := 2, constantValue := 0 }, { name := "count", type := .int, accessFlags := 0, slot := 3, constantValue := 0 }, { name := "EMPTYVALUE", type := (.array .byte), accessFlags := 26, slot := 0, constantValue := 0 }]
  methods := #[k17m0, k17m1, k17m2, k17m3, k17m4, k17m5, k17m6]
  instanceTypes := #[(.array .byte), .byte, .boolean, .int]
  staticTypes := #[(.array .byte)]
  resolved := Array.replicate 609 none
  statics := none }

def pool18 : Array CpInfo := pool [(1, .methodref 2 3), (0, .class_ 4), (0, .nameAndType 5 6), (0, u "java/lang/AbstractStringBuilder"), (0, u "<init>"), (0, u "(I)V"), (11, .class_ 20), (1, u "java/lang/String"), (3, .class_ 26), (1, u "java/lang/StringBuilder"), (0, u "append"), (22, .methodref 2 51), (0, .nameAndType 27 52), (0, u "(C)Ljava/lang/AbstractStringBuilder;"), (84, .methodref 18 138), (0, .nameAndType 5 139), (0, u "(Ljava/lang/StringBuilder;)V"), (5, u "()V"), (10, u "()I"), (129, u "(C)Ljava/lang/StringBuilder;"), (56, .methodref 2 344), (0, .nameAndType 345 156), (0, u "length"), (3, .class_ 350), (0, u "java/lang/Appendable"), (0, .class_ 352), (0, u "java/io/Serializable"), (0, .class_ 354), (0, u "java/lang/Comparable"), (0, .class_ 356), (0, u "java/lang/CharSequence"), (0, u "serialVersionUID"), (0, u "J"), (40, u "toString"), (0, u "()Ljava/lang/String;")] 21

def k18m0 : Method := { name := "<init>", desc := "()V", sig := { parameters := [], returnType := none }, accessFlags := 1, code := none }
def k18c1 : Code := { maxStack := 2, maxLocals := 2, code := jdk_67_method_2_code, exceptionTable := #[], attributes := #[] }
def k18m1 : Method := { name := "<init>", desc := "(I)V", sig := { parameters := [.int], returnType := none }, accessFlags := 1, code := some k18c1 }
def k18c2 : Code := { maxStack := 2, maxLocals := 2, code := jdk_67_method_14_code, exceptionTable := #[], attributes := #[] }
def k18m2 : Method := { name := "append", desc := "(C)Ljava/lang/StringBuilder;", sig := { parameters := [.char], returnType := some (.object "java/lang/StringBuilder") }, accessFlags := 1, code := some k18c2 }
def k18c3 : Code := { maxStack := 3, maxLocals := 1, code := jdk_67_method_42_code, exceptionTable := #[], attributes := #[] }
def k18m3 : Method := { name := "toString", desc := "()Ljava/lang/String;", sig := { parameters := [], returnType := some (.object "java/lang/String") }, accessFlags := 1, code := some k18c3 }
def k18c4 : Code := { maxStack := 1, maxLocals := 1, code := jdk_67_method_93_code, exceptionTable := #[], attributes := #[] }
def k18m4 : Method := { name := "length", desc := "()I", sig := { parameters := [], returnType := some .int }, accessFlags := 4161, code := some k18c4 }
/-- java/lang/StringBuilder -/
def k18 : Class := { plain "java/lang/StringBuilder" (some 17) with
  accessFlags := 49
  interfaces := #[16, 2, 3, 4]
  cf := some (fileOf pool18 24 #[] #[{ accessFlags := 1, nameIndex := 5, descriptorIndex := 145, attributes := #[] }, { accessFlags := 1, nameIndex := 5, descriptorIndex := 6, attributes := #[] }, { accessFlags := 1, nameIndex := 27, descriptorIndex := 286, attributes := #[] }, { accessFlags := 1, nameIndex := 399, descriptorIndex := 400, attributes := #[] }, { accessFlags := 4161, nameIndex := 345, descriptorIndex := 156, attributes := #[] }] 49 2 #[349, 351, 353, 355] #[{ accessFlags := 24, nameIndex := 357, descriptorIndex := 358, attributes := #[] }])
  fields := #[{ name := "serialVersionUID", type := .long, accessFlags := 24, slot := 0, constantValue := 0 }]
  methods := #[k18m0, k18m1, k18m2, k18m3, k18m4]
  instanceTypes := #[(.array .byte), .byte, .boolean, .int]
  staticTypes := #[.long]
  resolved := Array.replicate 422 none
  statics := none }

def pool19 : Array CpInfo := pool [(9, u "<init>"), (6, .class_ 18), (1, u "java/lang/Object"), (0, u "()V"), (1, .class_ 23), (1, u "jdk/internal/util/ArraysSupport"), (0, u "LOG2_ARRAY_LONG_INDEX_SCALE"), (0, u "I"), (2, u "U"), (0, u "Ljdk/internal/misc/Unsafe;"), (8, u "BIG_ENDIAN"), (0, u "Z"), (8, u "LOG2_BYTE_BIT_SIZE"), (4, u "LOG2_ARRAY_INT_INDEX_SCALE"), (54, u "JLA"), (0, u "Ljdk/internal/access/JavaLangAccess;"), (11, u "LOG2_ARRAY_BOOLEAN_INDEX_SCALE"), (9, u "LOG2_ARRAY_BYTE_INDEX_SCALE"), (5, u "LOG2_ARRAY_CHAR_INDEX_SCALE"), (5, u "LOG2_ARRAY_SHORT_INDEX_SCALE"), (18, u "LOG2_ARRAY_FLOAT_INDEX_SCALE"), (24, u "LOG2_ARRAY_DOUBLE_INDEX_SCALE"), (89, u "T_BOOLEAN"), (2, u "T_CHAR"), (1, u "T_FLOAT"), (1, u "T_DOUBLE"), (1, u "T_BYTE"), (1, u "T_SHORT"), (1, u "T_INT"), (1, u "T_LONG"), (1, u "SOFT_MAX_ARRAY_LENGTH")] 83

def k19m0 : Method := { name := "<init>", desc := "()V", sig := { parameters := [], returnType := none }, accessFlags := 2, code := none }
/-- jdk/internal/util/ArraysSupport -/
def k19 : Class := { plain "jdk/internal/util/ArraysSupport" (some 0) with
  accessFlags := 33
  interfaces := #[]
  cf := some (fileOf pool19 21 #[] #[{ accessFlags := 2, nameIndex := 9, descriptorIndex := 19, attributes := #[] }] 33 16 #[] #[{ accessFlags := 24, nameIndex := 28, descriptorIndex := 29, attributes := #[] }, { accessFlags := 26, nameIndex := 38, descriptorIndex := 39, attributes := #[] }, { accessFlags := 25, nameIndex := 121, descriptorIndex := 25, attributes := #[] }, { accessFlags := 25, nameIndex := 131, descriptorIndex := 25, attributes := #[] }, { accessFlags := 25, nameIndex := 137, descriptorIndex := 25, attributes := #[] }, { accessFlags := 25, nameIndex := 143, descriptorIndex := 25, attributes := #[] }, { accessFlags := 25, nameIndex := 53, descriptorIndex := 25, attributes := #[] }, { accessFlags := 25, nameIndex := 24, descriptorIndex := 25, attributes := #[] }, { accessFlags := 25, nameIndex := 162, descriptorIndex := 25, attributes := #[] }, { accessFlags := 25, nameIndex := 187, descriptorIndex := 25, attributes := #[] }, { accessFlags := 26, nameIndex := 48, descriptorIndex := 25, attributes := #[] }, { accessFlags := 25, nameIndex := 277, descriptorIndex := 25, attributes := #[] }, { accessFlags := 25, nameIndex := 280, descriptorIndex := 25, attributes := #[] }, { accessFlags := 25, nameIndex := 282, descriptorIndex := 25, attributes := #[] }, { accessFlags := 25, nameIndex := 284, descriptorIndex := 25, attributes := #[] }, { accessFlags := 25, nameIndex := 286, descriptorIndex := 25, attributes := #[] }, { accessFlags := 25, nameIndex := 288, descriptorIndex := 25, attributes := #[] }, { accessFlags := 25, nameIndex := 290, descriptorIndex := 25, attributes := #[] }, { accessFlags := 25, nameIndex := 292, descriptorIndex := 25, attributes := #[] }, { accessFlags := 26, nameIndex := 108, descriptorIndex := 109, attributes := #[] }, { accessFlags := 25, nameIndex := 294, descriptorIndex := 25, attributes := #[] }])
  fields := #[{ name := "U", type := (.object "jdk/internal/misc/Unsafe"), accessFlags := 24, slot := 0, constantValue := 0 }, { name := "BIG_ENDIAN", type := .boolean, accessFlags := 26, slot := 1, constantValue := 0 }, { name := "LOG2_ARRAY_BOOLEAN_INDEX_SCALE", type := .int, accessFlags := 25, slot := 2, constantValue := 0 }, { name := "LOG2_ARRAY_BYTE_INDEX_SCALE", type := .int, accessFlags := 25, slot := 3, constantValue := 0 }, { name := "LOG2_ARRAY_CHAR_INDEX_SCALE", type := .int, accessFlags := 25, slot := 4, constantValue := 0 }, { name := "LOG2_ARRAY_SHORT_INDEX_SCALE", type := .int, accessFlags := 25, slot := 5, constantValue := 0 }, { name := "LOG2_ARRAY_INT_INDEX_SCALE", type := .int, accessFlags := 25, slot := 6, constantValue := 0 }, { name := "LOG2_ARRAY_LONG_INDEX_SCALE", type := .int, accessFlags := 25, slot := 7, constantValue := 0 }, { name := "LOG2_ARRAY_FLOAT_INDEX_SCALE", type := .int, accessFlags := 25, slot := 8, constantValue := 0 }, { name := "LOG2_ARRAY_DOUBLE_INDEX_SCALE", type := .int, accessFlags := 25, slot := 9, constantValue := 0 }, { name := "LOG2_BYTE_BIT_SIZE", type := .int, accessFlags := 26, slot := 10, constantValue := 0 }, { name := "T_BOOLEAN", type := .int, accessFlags := 25, slot := 11, constantValue := 0 }, { name := "T_CHAR", type := .int, accessFlags := 25, slot := 12, constantValue := 0 }, { name := "T_FLOAT", type := .int, accessFlags := 25, slot := 13, constantValue := 0 }, { name := "T_DOUBLE", type := .int, accessFlags := 25, slot := 14, constantValue := 0 }, { name := "T_BYTE", type := .int, accessFlags := 25, slot := 15, constantValue := 0 }, { name := "T_SHORT", type := .int, accessFlags := 25, slot := 16, constantValue := 0 }, { name := "T_INT", type := .int, accessFlags := 25, slot := 17, constantValue := 0 }, { name := "T_LONG", type := .int, accessFlags := 25, slot := 18, constantValue := 0 }, { name := "JLA", type := (.object "jdk/internal/access/JavaLangAccess"), accessFlags := 26, slot := 19, constantValue := 0 }, { name := "SOFT_MAX_ARRAY_LENGTH", type := .int, accessFlags := 25, slot := 20, constantValue := 0 }]
  methods := #[k19m0]
  instanceTypes := #[]
  staticTypes := #[(.object "jdk/internal/misc/Unsafe"), .boolean, .int, .int, .int, .int, .int, .int, .int, .int, .int, .int, .int, .int, .int, .int, .int, .int, .int, (.object "jdk/internal/access/JavaLangAccess"), .int]
  resolved := Array.replicate 378 none
  statics := none }

def pool20 : Array CpInfo := pool [(1, u "java/lang/Cloneable"), (0, .class_ 1), (0, u "java/lang/Object"), (0, .class_ 3)] 3

/-- java/lang/Cloneable -/
def k20 : Class := { plain "java/lang/Cloneable" (some 0) with
  accessFlags := 1537
  interfaces := #[]
  cf := some (fileOf pool20 2 #[] #[] 1537 4 #[] #[])
  fields := #[]
  methods := #[]
  instanceTypes := #[]
  staticTypes := #[]
  resolved := Array.replicate 8 none
  statics := none }

/-- the primitive byte -/
def k21 : Class := { plain "byte" none with kind := .primitive 'B', accessFlags := 0x411 }
/-- [B -/
def k22 : Class := { plain "[B" (some 0) with kind := .array 21 .byte, interfaces := #[20, 2], accessFlags := 1041 }

/-- the primitive char -/
def k23 : Class := { plain "char" none with kind := .primitive 'C', accessFlags := 0x411 }
/-- [C -/
def k24 : Class := { plain "[C" (some 0) with kind := .array 23 .char, interfaces := #[20, 2], accessFlags := 1041 }

/-- the primitive int -/
def k25 : Class := { plain "int" none with kind := .primitive 'I', accessFlags := 0x411 }
/-- [I -/
def k26 : Class := { plain "[I" (some 0) with kind := .array 25 .int, interfaces := #[20, 2], accessFlags := 1041 }

def heap : Heap := #[{ cls := 7, slots := #[.long 0, .int 1, .null, .int 0, .null, .int 0, .int 0], vm := .statics 7 },
  { cls := 12, slots := #[.null, .null, .null], vm := .statics 12 }]
def classes : Array Class := #[k0, k1, k2, k3, k4, k5, k6, k7, k8, k9, k10, k11, k12, k13, k14, k15, k16, k17, k18, k19, k20, k21, k22, k23, k24, k25, k26]
def interned : List (Array UInt16 × Addr) := []
def slotsUsed : Nat := 10
def theMethod : MethodId := ⟨1, 1⟩
def args0 : Array Value := #[.int 5, .int 5, .int 5, .int 5, .int 5]
def aboutOver (below : List Frame) : State where
  vm := { classes := classes, interned := interned.toArray }
  heap := heap
  slotsUsed := slotsUsed
  threads := #[{ frames := .invoking theMethod args0 :: below }]
def below0 : List Frame := [.native { method := ⟨0, 0⟩, args := #[] }]
def about1 : State := aboutOver below0
def p0 : Program := .bare "" "" ""
def e0 : Env := launch0.env 0 0 0
theorem w_frames : about1.frames = Frame.invoking theMethod args0 :: below0 := rfl
set_option maxRecDepth 65536 in
theorem w_args : argsFit about1.vm theMethod args0 = true := by decide +kernel
set_option maxRecDepth 65536 in
theorem w_heap : heapFits about1 = true := by decide +kernel
set_option maxRecDepth 65536 in
theorem w_runnable : about1.curStatus? = some .runnable := by decide +kernel
set_option maxRecDepth 65536 in
theorem w_alone : about1.alone = true := by decide +kernel
set_option maxRecDepth 65536 in
theorem w_named : about1.methodNamed? x = some theMethod := by decide +kernel
set_option maxRecDepth 65536 in
theorem w_hears : about1.hears theMethod below0 = true := by decide +kernel
set_option maxRecDepth 65536 in
theorem w_ripe : about1.ripe theMethod args0 below0 = true := by decide +kernel
theorem w_running : about1.status = .running := rfl
set_option maxRecDepth 65536 in
theorem w_room : about1.hasRoom e0.platform room_1 = true :=
  launch0.hasRoom_least _ room_1 (by decide +kernel) (by decide +kernel) (by decide +kernel) (by decide +kernel) (by decide +kernel) (by decide +kernel)
theorem allAtoms_all (ts : List Jvm.Cond) (a : Array Jvm.Value) (st : Jvm.State) : (allAtoms ts).before a st = ts.all (fun c => c.before a st) := by
  induction ts with
  | nil => rfl
  | cons c t ih =>
    show (Jvm.Cond.and c (allAtoms t)).before a st = _
    rw [Jvm.Cond.before_and, ih, List.all_cons]
def words1 : List Jvm.Cond := Jvm.Cond.code x code maxLocals ret :: tables_1
/-- a 'code' word, met by the world's own term for the bytes: nothing is compared byte by byte -/
theorem code_word {y : MethodName} {bytes : ByteArray} {mx : Nat} {rt : Option FieldType} {a : Array Value} {s : State} {m : MethodId} {meth : Method} {c : Code} (h1 : s.methodNamed? y = some m) (h2 : s.vm.method? m = some meth) (h3 : meth.code = some c) (h4 : c.code = bytes)
    (h5 : (c.maxLocals == mx && c.exceptionTable.isEmpty && decide (c.maxStack ≤ mostOperands) && decide (meth.sig.returnType = rt) && !meth.locks && decide (parseMethodDescriptor y.desc = some meth.sig)) = true) : (Jvm.Cond.code y bytes mx rt).before a s = true := by
  simp only [Bool.and_eq_true, beq_iff_eq, Bool.not_eq_true', decide_eq_true_eq] at h5
  obtain ⟨⟨⟨⟨⟨g1, g2⟩, g3⟩, g4⟩, g5⟩, g6⟩ := h5
  simp [Cond.before, Cond.holds, Cond.value, h1, h2, h3, h4, g1, g2, g3, g4, g5, g6]
def isCode : Jvm.Cond → Bool
  | .code _ _ _ _ => true
  | _ => false
theorem all_split {L : List Jvm.Cond} {P : Jvm.Cond → Bool} (h1 : L.all (fun c => isCode c || P c) = true) (h2 : ∀ c ∈ L.filter isCode, P c = true) : L.all P = true := by
  refine List.all_eq_true.mpr fun c hc => ?_
  have h := List.all_eq_true.mp h1 c hc
  rcases Bool.eq_false_or_eq_true (isCode c) with hi | hi
  · exact h2 c (List.mem_filter.mpr ⟨hc, hi⟩)
  · simpa [hi] using h
set_option maxRecDepth 65536 in
theorem w_c0 : (Jvm.Cond.code x code maxLocals ret).before args0 about1 = true := code_word (m := ⟨1, 1⟩) (meth := k1m1) (c := k1c1) (by decide +kernel) rfl rfl rfl (by decide +kernel)
set_option maxRecDepth 65536 in
theorem w_c1 : (Jvm.Cond.code ({ cls := "com/example/inchworm/inchworm/core/IdempotencyKeyParseHeaderPinLaw", name := "keyChar", desc := "(I)C" } : Jvm.MethodName) method_3_code (1 : Nat) (Option.some Jvm.ClassFile.FieldType.char)).before args0 about1 = true := code_word (m := ⟨1, 2⟩) (meth := k1m2) (c := k1c2) (by decide +kernel) rfl rfl rfl (by decide +kernel)
set_option maxRecDepth 65536 in
theorem w_c2 : (Jvm.Cond.code ({ cls := "com/example/inchworm/inchworm/core/IdempotencyKeyParseHeaderPinLaw", name := "put", desc := "([CICZ)I" } : Jvm.MethodName) method_5_code (5 : Nat) (Option.some Jvm.ClassFile.FieldType.int)).before args0 about1 = true := code_word (m := ⟨1, 4⟩) (meth := k1m4) (c := k1c4) (by decide +kernel) rfl rfl rfl (by decide +kernel)
set_option maxRecDepth 65536 in
theorem w_c3 : (Jvm.Cond.code ({ cls := "com/example/inchworm/inchworm/core/IdempotencyKeyParseHeaderPinLaw", name := "take", desc := "([CI)Ljava/lang/String;" } : Jvm.MethodName) method_6_code (2 : Nat) (Option.some (Jvm.ClassFile.FieldType.object "java/lang/String"))).before args0 about1 = true := code_word (m := ⟨1, 5⟩) (meth := k1m5) (c := k1c5) (by decide +kernel) rfl rfl rfl (by decide +kernel)
set_option maxRecDepth 65536 in
theorem w_c4 : (Jvm.Cond.code ({ cls := "java/lang/String", name := "<init>", desc := "([C)V" } : Jvm.MethodName) jdk_42_method_3_code (2 : Nat) (Option.none : Option Jvm.ClassFile.FieldType)).before args0 about1 = true := code_word (m := ⟨7, 1⟩) (meth := k7m1) (c := k7c1) (by decide +kernel) rfl rfl rfl (by decide +kernel)
set_option maxRecDepth 65536 in
theorem w_c5 : (Jvm.Cond.code ({ cls := "java/lang/String", name := "<init>", desc := "([CIILjava/lang/Void;)V" } : Jvm.MethodName) jdk_42_method_149_code (6 : Nat) (Option.none : Option Jvm.ClassFile.FieldType)).before args0 about1 = true := code_word (m := ⟨7, 9⟩) (meth := k7m9) (c := k7c9) (by decide +kernel) rfl rfl rfl (by decide +kernel)
set_option maxRecDepth 65536 in
theorem w_c6 : (Jvm.Cond.code ({ cls := "java/lang/Object", name := "<init>", desc := "()V" } : Jvm.MethodName) object_method_1_code (1 : Nat) (Option.none : Option Jvm.ClassFile.FieldType)).before args0 about1 = true := code_word (m := ⟨0, 0⟩) (meth := k0m0) (c := k0c0) (by decide +kernel) rfl rfl rfl (by decide +kernel)
set_option maxRecDepth 65536 in
theorem w_c7 : (Jvm.Cond.code ({ cls := "java/lang/StringUTF16", name := "compress", desc := "([CII)[B" } : Jvm.MethodName) jdk_52_method_16_code (6 : Nat) (Option.some (Jvm.ClassFile.FieldType.array Jvm.ClassFile.FieldType.byte))).before args0 about1 = true := code_word (m := ⟨8, 2⟩) (meth := k8m2) (c := k8c2) (by decide +kernel) rfl rfl rfl (by decide +kernel)
set_option maxRecDepth 65536 in
theorem w_c8 : (Jvm.Cond.code ({ cls := "java/lang/StringUTF16", name := "compress", desc := "([CI[BII)I" } : Jvm.MethodName) jdk_52_method_21_code (7 : Nat) (Option.some Jvm.ClassFile.FieldType.int)).before args0 about1 = true := code_word (m := ⟨8, 3⟩) (meth := k8m3) (c := k8c3) (by decide +kernel) rfl rfl rfl (by decide +kernel)
set_option maxRecDepth 65536 in
theorem w_c9 : (Jvm.Cond.code ({ cls := "java/lang/StringUTF16", name := "coderFromArrayLen", desc := "([BI)B" } : Jvm.MethodName) jdk_52_method_15_code (2 : Nat) (Option.some Jvm.ClassFile.FieldType.byte)).before args0 about1 = true := code_word (m := ⟨8, 1⟩) (meth := k8m1) (c := k8c1) (by decide +kernel) rfl rfl rfl (by decide +kernel)
set_option maxRecDepth 65536 in
theorem w_c10 : (Jvm.Cond.code ({ cls := "java/lang/String", name := "valueOf", desc := "(C)Ljava/lang/String;" } : Jvm.MethodName) jdk_42_method_139_code (1 : Nat) (Option.some (Jvm.ClassFile.FieldType.object "java/lang/String"))).before args0 about1 = true := code_word (m := ⟨7, 8⟩) (meth := k7m8) (c := k7c8) (by decide +kernel) rfl rfl rfl (by decide +kernel)
set_option maxRecDepth 65536 in
theorem w_c11 : (Jvm.Cond.code ({ cls := "java/lang/StringLatin1", name := "canEncode", desc := "(C)Z" } : Jvm.MethodName) jdk_43_method_3_code (1 : Nat) (Option.some Jvm.ClassFile.FieldType.boolean)).before args0 about1 = true := code_word (m := ⟨9, 2⟩) (meth := k9m2) (c := k9c2) (by decide +kernel) rfl rfl rfl (by decide +kernel)
set_option maxRecDepth 65536 in
theorem w_c12 : (Jvm.Cond.code ({ cls := "java/lang/StringLatin1", name := "toBytes", desc := "(C)[B" } : Jvm.MethodName) jdk_43_method_46_code (1 : Nat) (Option.some (Jvm.ClassFile.FieldType.array Jvm.ClassFile.FieldType.byte))).before args0 about1 = true := code_word (m := ⟨9, 4⟩) (meth := k9m4) (c := k9c4) (by decide +kernel) rfl rfl rfl (by decide +kernel)
set_option maxRecDepth 65536 in
theorem w_c13 : (Jvm.Cond.code ({ cls := "java/lang/String", name := "<init>", desc := "([BB)V" } : Jvm.MethodName) jdk_42_method_151_code (3 : Nat) (Option.none : Option Jvm.ClassFile.FieldType)).before args0 about1 = true := code_word (m := ⟨7, 11⟩) (meth := k7m11) (c := k7c11) (by decide +kernel) rfl rfl rfl (by decide +kernel)
set_option maxRecDepth 65536 in
theorem w_c14 : (Jvm.Cond.code ({ cls := "com/example/inchworm/inchworm/core/IdempotencyKey", name := "parseHeader", desc := "(Ljava/lang/String;)Lcom/example/inchworm/inchworm/core/IdempotencyKey;" } : Jvm.MethodName) prog_18_method_3_code (3 : Nat) (Option.some (Jvm.ClassFile.FieldType.object "com/example/inchworm/inchworm/core/IdempotencyKey"))).before args0 about1 = true := code_word (m := ⟨10, 2⟩) (meth := k10m2) (c := k10c2) (by decide +kernel) rfl rfl rfl (by decide +kernel)
set_option maxRecDepth 65536 in
theorem w_c15 : (Jvm.Cond.code ({ cls := "java/util/Objects", name := "requireNonNull", desc := "(Ljava/lang/Object;Ljava/lang/String;)Ljava/lang/Object;" } : Jvm.MethodName) jdk_31_method_11_code (2 : Nat) (Option.some (Jvm.ClassFile.FieldType.object "java/lang/Object"))).before args0 about1 = true := code_word (m := ⟨11, 1⟩) (meth := k11m1) (c := k11c1) (by decide +kernel) rfl rfl rfl (by decide +kernel)
set_option maxRecDepth 65536 in
theorem w_c16 : (Jvm.Cond.code ({ cls := "com/example/inchworm/inchworm/core/IdempotencyKey", name := "stripSurroundingWhitespace", desc := "(Ljava/lang/String;)Ljava/lang/String;" } : Jvm.MethodName) prog_18_method_9_code (3 : Nat) (Option.some (Jvm.ClassFile.FieldType.object "java/lang/String"))).before args0 about1 = true := code_word (m := ⟨10, 4⟩) (meth := k10m4) (c := k10c4) (by decide +kernel) rfl rfl rfl (by decide +kernel)
set_option maxRecDepth 65536 in
theorem w_c17 : (Jvm.Cond.code ({ cls := "java/lang/String", name := "length", desc := "()I" } : Jvm.MethodName) jdk_42_method_54_code (1 : Nat) (Option.some Jvm.ClassFile.FieldType.int)).before args0 about1 = true := code_word (m := ⟨7, 3⟩) (meth := k7m3) (c := k7c3) (by decide +kernel) rfl rfl rfl (by decide +kernel)
set_option maxRecDepth 65536 in
theorem w_c18 : (Jvm.Cond.code ({ cls := "java/lang/String", name := "coder", desc := "()B" } : Jvm.MethodName) jdk_42_method_152_code (1 : Nat) (Option.some Jvm.ClassFile.FieldType.byte)).before args0 about1 = true := code_word (m := ⟨7, 12⟩) (meth := k7m12) (c := k7c12) (by decide +kernel) rfl rfl rfl (by decide +kernel)
set_option maxRecDepth 65536 in
theorem w_c19 : (Jvm.Cond.code ({ cls := "java/lang/String", name := "charAt", desc := "(I)C" } : Jvm.MethodName) jdk_42_method_56_code (2 : Nat) (Option.some Jvm.ClassFile.FieldType.char)).before args0 about1 = true := code_word (m := ⟨7, 5⟩) (meth := k7m5) (c := k7c5) (by decide +kernel) rfl rfl rfl (by decide +kernel)
set_option maxRecDepth 65536 in
theorem w_c20 : (Jvm.Cond.code ({ cls := "java/lang/String", name := "isLatin1", desc := "()Z" } : Jvm.MethodName) jdk_42_method_154_code (1 : Nat) (Option.some Jvm.ClassFile.FieldType.boolean)).before args0 about1 = true := code_word (m := ⟨7, 13⟩) (meth := k7m13) (c := k7c13) (by decide +kernel) rfl rfl rfl (by decide +kernel)
set_option maxRecDepth 65536 in
theorem w_c21 : (Jvm.Cond.code ({ cls := "java/lang/StringLatin1", name := "charAt", desc := "([BI)C" } : Jvm.MethodName) jdk_43_method_2_code (2 : Nat) (Option.some Jvm.ClassFile.FieldType.char)).before args0 about1 = true := code_word (m := ⟨9, 1⟩) (meth := k9m1) (c := k9c1) (by decide +kernel) rfl rfl rfl (by decide +kernel)
set_option maxRecDepth 65536 in
theorem w_c22 : (Jvm.Cond.code ({ cls := "java/lang/String", name := "checkIndex", desc := "(II)V" } : Jvm.MethodName) jdk_42_method_155_code (2 : Nat) (Option.none : Option Jvm.ClassFile.FieldType)).before args0 about1 = true := code_word (m := ⟨7, 14⟩) (meth := k7m14) (c := k7c14) (by decide +kernel) rfl rfl rfl (by decide +kernel)
set_option maxRecDepth 65536 in
theorem w_c23 : (Jvm.Cond.code ({ cls := "jdk/internal/util/Preconditions", name := "checkIndex", desc := "(IILjava/util/function/BiFunction;)I" } : Jvm.MethodName) jdk_41_method_11_code (3 : Nat) (Option.some Jvm.ClassFile.FieldType.int)).before args0 about1 = true := code_word (m := ⟨12, 1⟩) (meth := k12m1) (c := k12c1) (by decide +kernel) rfl rfl rfl (by decide +kernel)
set_option maxRecDepth 65536 in
theorem w_c24 : (Jvm.Cond.code ({ cls := "com/example/inchworm/inchworm/core/IdempotencyKey", name := "isOptionalWhitespace", desc := "(C)Z" } : Jvm.MethodName) prog_18_method_10_code (1 : Nat) (Option.some Jvm.ClassFile.FieldType.boolean)).before args0 about1 = true := code_word (m := ⟨10, 5⟩) (meth := k10m5) (c := k10c5) (by decide +kernel) rfl rfl rfl (by decide +kernel)
set_option maxRecDepth 65536 in
theorem w_c25 : (Jvm.Cond.code ({ cls := "java/lang/String", name := "substring", desc := "(II)Ljava/lang/String;" } : Jvm.MethodName) jdk_42_method_92_code (5 : Nat) (Option.some (Jvm.ClassFile.FieldType.object "java/lang/String"))).before args0 about1 = true := code_word (m := ⟨7, 7⟩) (meth := k7m7) (c := k7c7) (by decide +kernel) rfl rfl rfl (by decide +kernel)
set_option maxRecDepth 65536 in
theorem w_c26 : (Jvm.Cond.code ({ cls := "java/lang/String", name := "checkBoundsBeginEnd", desc := "(III)V" } : Jvm.MethodName) jdk_42_method_158_code (3 : Nat) (Option.none : Option Jvm.ClassFile.FieldType)).before args0 about1 = true := code_word (m := ⟨7, 15⟩) (meth := k7m15) (c := k7c15) (by decide +kernel) rfl rfl rfl (by decide +kernel)
set_option maxRecDepth 65536 in
theorem w_c27 : (Jvm.Cond.code ({ cls := "jdk/internal/util/Preconditions", name := "checkFromToIndex", desc := "(IIILjava/util/function/BiFunction;)I" } : Jvm.MethodName) jdk_41_method_12_code (4 : Nat) (Option.some Jvm.ClassFile.FieldType.int)).before args0 about1 = true := code_word (m := ⟨12, 2⟩) (meth := k12m2) (c := k12c2) (by decide +kernel) rfl rfl rfl (by decide +kernel)
set_option maxRecDepth 65536 in
theorem w_c28 : (Jvm.Cond.code ({ cls := "java/lang/String", name := "isEmpty", desc := "()Z" } : Jvm.MethodName) jdk_42_method_55_code (1 : Nat) (Option.some Jvm.ClassFile.FieldType.boolean)).before args0 about1 = true := code_word (m := ⟨7, 4⟩) (meth := k7m4) (c := k7c4) (by decide +kernel) rfl rfl rfl (by decide +kernel)
set_option maxRecDepth 65536 in
theorem w_c29 : (Jvm.Cond.code ({ cls := "com/example/inchworm/inchworm/core/IdempotencyKey", name := "of", desc := "(Ljava/lang/String;)Lcom/example/inchworm/inchworm/core/IdempotencyKey;" } : Jvm.MethodName) prog_18_method_2_code (3 : Nat) (Option.some (Jvm.ClassFile.FieldType.object "com/example/inchworm/inchworm/core/IdempotencyKey"))).before args0 about1 = true := code_word (m := ⟨10, 1⟩) (meth := k10m1) (c := k10c1) (by decide +kernel) rfl rfl rfl (by decide +kernel)
set_option maxRecDepth 65536 in
theorem w_c30 : (Jvm.Cond.code ({ cls := "com/example/inchworm/inchworm/core/IdempotencyKey", name := "<init>", desc := "(Ljava/lang/String;)V" } : Jvm.MethodName) prog_18_method_1_code (2 : Nat) (Option.none : Option Jvm.ClassFile.FieldType)).before args0 about1 = true := code_word (m := ⟨10, 0⟩) (meth := k10m0) (c := k10c0) (by decide +kernel) rfl rfl rfl (by decide +kernel)
set_option maxRecDepth 65536 in
theorem w_c31 : (Jvm.Cond.code ({ cls := "com/example/inchworm/inchworm/core/IdempotencyKey", name := "value", desc := "()Ljava/lang/String;" } : Jvm.MethodName) prog_18_method_4_code (1 : Nat) (Option.some (Jvm.ClassFile.FieldType.object "java/lang/String"))).before args0 about1 = true := code_word (m := ⟨10, 3⟩) (meth := k10m3) (c := k10c3) (by decide +kernel) rfl rfl rfl (by decide +kernel)
set_option maxRecDepth 65536 in
theorem w_c32 : (Jvm.Cond.code ({ cls := "java/lang/String", name := "equals", desc := "(Ljava/lang/Object;)Z" } : Jvm.MethodName) jdk_42_method_66_code (3 : Nat) (Option.some Jvm.ClassFile.FieldType.boolean)).before args0 about1 = true := code_word (m := ⟨7, 6⟩) (meth := k7m6) (c := k7c6) (by decide +kernel) rfl rfl rfl (by decide +kernel)
set_option maxRecDepth 65536 in
theorem w_c33 : (Jvm.Cond.code ({ cls := "java/lang/StringLatin1", name := "equals", desc := "([B[B)Z" } : Jvm.MethodName) jdk_43_method_13_code (3 : Nat) (Option.some Jvm.ClassFile.FieldType.boolean)).before args0 about1 = true := code_word (m := ⟨9, 3⟩) (meth := k9m3) (c := k9c3) (by decide +kernel) rfl rfl rfl (by decide +kernel)
set_option maxRecDepth 65536 in
theorem w_c34 : (Jvm.Cond.code ({ cls := "com/example/inchworm/inchworm/core/IdempotencyKeyParseHeaderPinLaw", name := "wsChar", desc := "(II)C" } : Jvm.MethodName) method_4_code (2 : Nat) (Option.some Jvm.ClassFile.FieldType.char)).before args0 about1 = true := code_word (m := ⟨1, 3⟩) (meth := k1m3) (c := k1c3) (by decide +kernel) rfl rfl rfl (by decide +kernel)
set_option maxRecDepth 65536 in
theorem w_c35 : (Jvm.Cond.code ({ cls := "java/lang/StringLatin1", name := "newString", desc := "([BII)Ljava/lang/String;" } : Jvm.MethodName) jdk_43_method_47_code (3 : Nat) (Option.some (Jvm.ClassFile.FieldType.object "java/lang/String"))).before args0 about1 = true := code_word (m := ⟨9, 5⟩) (meth := k9m5) (c := k9c5) (by decide +kernel) rfl rfl rfl (by decide +kernel)
set_option maxRecDepth 65536 in
theorem w_c36 : (Jvm.Cond.code ({ cls := "java/util/Arrays", name := "copyOfRange", desc := "([BII)[B" } : Jvm.MethodName) jdk_65_method_132_code (3 : Nat) (Option.some (Jvm.ClassFile.FieldType.array Jvm.ClassFile.FieldType.byte))).before args0 about1 = true := code_word (m := ⟨13, 2⟩) (meth := k13m2) (c := k13c2) (by decide +kernel) rfl rfl rfl (by decide +kernel)
set_option maxRecDepth 65536 in
theorem w_c37 : (Jvm.Cond.code ({ cls := "java/util/Arrays", name := "copyOfRangeByte", desc := "([BII)[B" } : Jvm.MethodName) jdk_65_method_133_code (5 : Nat) (Option.some (Jvm.ClassFile.FieldType.array Jvm.ClassFile.FieldType.byte))).before args0 about1 = true := code_word (m := ⟨13, 3⟩) (meth := k13m3) (c := k13c3) (by decide +kernel) rfl rfl rfl (by decide +kernel)
set_option maxRecDepth 65536 in
theorem w_c38 : (Jvm.Cond.code ({ cls := "java/util/Arrays", name := "checkLength", desc := "(II)V" } : Jvm.MethodName) jdk_65_method_131_code (2 : Nat) (Option.none : Option Jvm.ClassFile.FieldType)).before args0 about1 = true := code_word (m := ⟨13, 1⟩) (meth := k13m1) (c := k13c1) (by decide +kernel) rfl rfl rfl (by decide +kernel)
set_option maxRecDepth 65536 in
theorem w_c39 : (Jvm.Cond.code ({ cls := "java/lang/Math", name := "min", desc := "(II)I" } : Jvm.MethodName) jdk_29_method_69_code (2 : Nat) (Option.some Jvm.ClassFile.FieldType.int)).before args0 about1 = true := code_word (m := ⟨14, 1⟩) (meth := k14m1) (c := k14c1) (by decide +kernel) rfl rfl rfl (by decide +kernel)
set_option maxRecDepth 65536 in
theorem w_c40 : (Jvm.Cond.code ({ cls := "com/example/inchworm/inchworm/core/IdempotencyKey", name := "unquote", desc := "(Ljava/lang/String;)Ljava/lang/String;" } : Jvm.MethodName) prog_18_method_11_code (5 : Nat) (Option.some (Jvm.ClassFile.FieldType.object "java/lang/String"))).before args0 about1 = true := code_word (m := ⟨10, 6⟩) (meth := k10m6) (c := k10c6) (by decide +kernel) rfl rfl rfl (by decide +kernel)
set_option maxRecDepth 65536 in
theorem w_c41 : (Jvm.Cond.code ({ cls := "java/lang/StringBuilder", name := "<init>", desc := "(I)V" } : Jvm.MethodName) jdk_67_method_2_code (2 : Nat) (Option.none : Option Jvm.ClassFile.FieldType)).before args0 about1 = true := code_word (m := ⟨18, 1⟩) (meth := k18m1) (c := k18c1) (by decide +kernel) rfl rfl rfl (by decide +kernel)
set_option maxRecDepth 65536 in
theorem w_c42 : (Jvm.Cond.code ({ cls := "java/lang/AbstractStringBuilder", name := "<init>", desc := "(I)V" } : Jvm.MethodName) jdk_68_method_2_code (2 : Nat) (Option.none : Option Jvm.ClassFile.FieldType)).before args0 about1 = true := code_word (m := ⟨17, 1⟩) (meth := k17m1) (c := k17c1) (by decide +kernel) rfl rfl rfl (by decide +kernel)
set_option maxRecDepth 65536 in
theorem w_c43 : (Jvm.Cond.code ({ cls := "java/lang/StringBuilder", name := "append", desc := "(C)Ljava/lang/StringBuilder;" } : Jvm.MethodName) jdk_67_method_14_code (2 : Nat) (Option.some (Jvm.ClassFile.FieldType.object "java/lang/StringBuilder"))).before args0 about1 = true := code_word (m := ⟨18, 2⟩) (meth := k18m2) (c := k18c2) (by decide +kernel) rfl rfl rfl (by decide +kernel)
set_option maxRecDepth 65536 in
theorem w_c44 : (Jvm.Cond.code ({ cls := "java/lang/AbstractStringBuilder", name := "append", desc := "(C)Ljava/lang/AbstractStringBuilder;" } : Jvm.MethodName) jdk_68_method_31_code (2 : Nat) (Option.some (Jvm.ClassFile.FieldType.object "java/lang/AbstractStringBuilder"))).before args0 about1 = true := code_word (m := ⟨17, 4⟩) (meth := k17m4) (c := k17c4) (by decide +kernel) rfl rfl rfl (by decide +kernel)
set_option maxRecDepth 65536 in
theorem w_c45 : (Jvm.Cond.code ({ cls := "java/lang/AbstractStringBuilder", name := "ensureCapacityInternal", desc := "(I)V" } : Jvm.MethodName) jdk_68_method_9_code (3 : Nat) (Option.none : Option Jvm.ClassFile.FieldType)).before args0 about1 = true := code_word (m := ⟨17, 3⟩) (meth := k17m3) (c := k17c3) (by decide +kernel) rfl rfl rfl (by decide +kernel)
set_option maxRecDepth 65536 in
theorem w_c46 : (Jvm.Cond.code ({ cls := "java/lang/AbstractStringBuilder", name := "isLatin1", desc := "()Z" } : Jvm.MethodName) jdk_68_method_68_code (1 : Nat) (Option.some Jvm.ClassFile.FieldType.boolean)).before args0 about1 = true := code_word (m := ⟨17, 6⟩) (meth := k17m6) (c := k17c6) (by decide +kernel) rfl rfl rfl (by decide +kernel)
set_option maxRecDepth 65536 in
theorem w_c47 : (Jvm.Cond.code ({ cls := "java/lang/StringBuilder", name := "toString", desc := "()Ljava/lang/String;" } : Jvm.MethodName) jdk_67_method_42_code (1 : Nat) (Option.some (Jvm.ClassFile.FieldType.object "java/lang/String"))).before args0 about1 = true := code_word (m := ⟨18, 3⟩) (meth := k18m3) (c := k18c3) (by decide +kernel) rfl rfl rfl (by decide +kernel)
set_option maxRecDepth 65536 in
theorem w_c48 : (Jvm.Cond.code ({ cls := "java/lang/String", name := "<init>", desc := "(Ljava/lang/StringBuilder;)V" } : Jvm.MethodName) jdk_42_method_53_code (2 : Nat) (Option.none : Option Jvm.ClassFile.FieldType)).before args0 about1 = true := code_word (m := ⟨7, 2⟩) (meth := k7m2) (c := k7c2) (by decide +kernel) rfl rfl rfl (by decide +kernel)
set_option maxRecDepth 65536 in
theorem w_c49 : (Jvm.Cond.code ({ cls := "java/lang/String", name := "<init>", desc := "(Ljava/lang/AbstractStringBuilder;Ljava/lang/Void;)V" } : Jvm.MethodName) jdk_42_method_150_code (5 : Nat) (Option.none : Option Jvm.ClassFile.FieldType)).before args0 about1 = true := code_word (m := ⟨7, 10⟩) (meth := k7m10) (c := k7c10) (by decide +kernel) rfl rfl rfl (by decide +kernel)
set_option maxRecDepth 65536 in
theorem w_c50 : (Jvm.Cond.code ({ cls := "java/lang/AbstractStringBuilder", name := "getValue", desc := "()[B" } : Jvm.MethodName) jdk_68_method_64_code (1 : Nat) (Option.some (Jvm.ClassFile.FieldType.array Jvm.ClassFile.FieldType.byte))).before args0 about1 = true := code_word (m := ⟨17, 5⟩) (meth := k17m5) (c := k17c5) (by decide +kernel) rfl rfl rfl (by decide +kernel)
set_option maxRecDepth 65536 in
theorem w_c51 : (Jvm.Cond.code ({ cls := "java/lang/StringBuilder", name := "length", desc := "()I" } : Jvm.MethodName) jdk_67_method_93_code (1 : Nat) (Option.some Jvm.ClassFile.FieldType.int)).before args0 about1 = true := code_word (m := ⟨18, 4⟩) (meth := k18m4) (c := k18c4) (by decide +kernel) rfl rfl rfl (by decide +kernel)
set_option maxRecDepth 65536 in
theorem w_c52 : (Jvm.Cond.code ({ cls := "java/lang/AbstractStringBuilder", name := "length", desc := "()I" } : Jvm.MethodName) jdk_68_method_6_code (1 : Nat) (Option.some Jvm.ClassFile.FieldType.int)).before args0 about1 = true := code_word (m := ⟨17, 2⟩) (meth := k17m2) (c := k17c2) (by decide +kernel) rfl rfl rfl (by decide +kernel)
def codes1 : List Jvm.Cond := [Jvm.Cond.code x code maxLocals ret, Jvm.Cond.code ({ cls := "com/example/inchworm/inchworm/core/IdempotencyKeyParseHeaderPinLaw", name := "keyChar", desc := "(I)C" } : Jvm.MethodName) method_3_code (1 : Nat) (Option.some Jvm.ClassFile.FieldType.char), Jvm.Cond.code ({ cls := "com/example/inchworm/inchworm/core/IdempotencyKeyParseHeaderPinLaw", name := "put", desc := "([CICZ)I" } : Jvm.MethodName) method_5_code (5 : Nat) (Option.some Jvm.ClassFile.FieldType.int), Jvm.Cond.code ({ cls := "com/example/inchworm/inchworm/core/IdempotencyKeyParseHeaderPinLaw", name := "take", desc := "([CI)Ljava/lang/String;" } : Jvm.MethodName) method_6_code (2 : Nat) (Option.some (Jvm.ClassFile.FieldType.object "java/lang/String")), Jvm.Cond.code ({ cls := "java/lang/String", name := "<init>", desc := "([C)V" } : Jvm.MethodName) jdk_42_method_3_code (2 : Nat) (Option.none : Option Jvm.ClassFile.FieldType), Jvm.Cond.code ({ cls := "java/lang/String", name := "<init>", desc := "([CIILjava/lang/Void;)V" } : Jvm.MethodName) jdk_42_method_149_code (6 : Nat) (Option.none : Option Jvm.ClassFile.FieldType), Jvm.Cond.code ({ cls := "java/lang/Object", name := "<init>", desc := "()V" } : Jvm.MethodName) object_method_1_code (1 : Nat) (Option.none : Option Jvm.ClassFile.FieldType), Jvm.Cond.code ({ cls := "java/lang/StringUTF16", name := "compress", desc := "([CII)[B" } : Jvm.MethodName) jdk_52_method_16_code (6 : Nat) (Option.some (Jvm.ClassFile.FieldType.array Jvm.ClassFile.FieldType.byte)), Jvm.Cond.code ({ cls := "java/lang/StringUTF16", name := "compress", desc := "([CI[BII)I" } : Jvm.MethodName) jdk_52_method_21_code (7 : Nat) (Option.some Jvm.ClassFile.FieldType.int), Jvm.Cond.code ({ cls := "java/lang/StringUTF16", name := "coderFromArrayLen", desc := "([BI)B" } : Jvm.MethodName) jdk_52_method_15_code (2 : Nat) (Option.some Jvm.ClassFile.FieldType.byte), Jvm.Cond.code ({ cls := "java/lang/String", name := "valueOf", desc := "(C)Ljava/lang/String;" } : Jvm.MethodName) jdk_42_method_139_code (1 : Nat) (Option.some (Jvm.ClassFile.FieldType.object "java/lang/String")), Jvm.Cond.code ({ cls := "java/lang/StringLatin1", name := "canEncode", desc := "(C)Z" } : Jvm.MethodName) jdk_43_method_3_code (1 : Nat) (Option.some Jvm.ClassFile.FieldType.boolean), Jvm.Cond.code ({ cls := "java/lang/StringLatin1", name := "toBytes", desc := "(C)[B" } : Jvm.MethodName) jdk_43_method_46_code (1 : Nat) (Option.some (Jvm.ClassFile.FieldType.array Jvm.ClassFile.FieldType.byte)), Jvm.Cond.code ({ cls := "java/lang/String", name := "<init>", desc := "([BB)V" } : Jvm.MethodName) jdk_42_method_151_code (3 : Nat) (Option.none : Option Jvm.ClassFile.FieldType), Jvm.Cond.code ({ cls := "com/example/inchworm/inchworm/core/IdempotencyKey", name := "parseHeader", desc := "(Ljava/lang/String;)Lcom/example/inchworm/inchworm/core/IdempotencyKey;" } : Jvm.MethodName) prog_18_method_3_code (3 : Nat) (Option.some (Jvm.ClassFile.FieldType.object "com/example/inchworm/inchworm/core/IdempotencyKey")), Jvm.Cond.code ({ cls := "java/util/Objects", name := "requireNonNull", desc := "(Ljava/lang/Object;Ljava/lang/String;)Ljava/lang/Object;" } : Jvm.MethodName) jdk_31_method_11_code (2 : Nat) (Option.some (Jvm.ClassFile.FieldType.object "java/lang/Object")), Jvm.Cond.code ({ cls := "com/example/inchworm/inchworm/core/IdempotencyKey", name := "stripSurroundingWhitespace", desc := "(Ljava/lang/String;)Ljava/lang/String;" } : Jvm.MethodName) prog_18_method_9_code (3 : Nat) (Option.some (Jvm.ClassFile.FieldType.object "java/lang/String")), Jvm.Cond.code ({ cls := "java/lang/String", name := "length", desc := "()I" } : Jvm.MethodName) jdk_42_method_54_code (1 : Nat) (Option.some Jvm.ClassFile.FieldType.int), Jvm.Cond.code ({ cls := "java/lang/String", name := "coder", desc := "()B" } : Jvm.MethodName) jdk_42_method_152_code (1 : Nat) (Option.some Jvm.ClassFile.FieldType.byte), Jvm.Cond.code ({ cls := "java/lang/String", name := "charAt", desc := "(I)C" } : Jvm.MethodName) jdk_42_method_56_code (2 : Nat) (Option.some Jvm.ClassFile.FieldType.char), Jvm.Cond.code ({ cls := "java/lang/String", name := "isLatin1", desc := "()Z" } : Jvm.MethodName) jdk_42_method_154_code (1 : Nat) (Option.some Jvm.ClassFile.FieldType.boolean), Jvm.Cond.code ({ cls := "java/lang/StringLatin1", name := "charAt", desc := "([BI)C" } : Jvm.MethodName) jdk_43_method_2_code (2 : Nat) (Option.some Jvm.ClassFile.FieldType.char), Jvm.Cond.code ({ cls := "java/lang/String", name := "checkIndex", desc := "(II)V" } : Jvm.MethodName) jdk_42_method_155_code (2 : Nat) (Option.none : Option Jvm.ClassFile.FieldType), Jvm.Cond.code ({ cls := "jdk/internal/util/Preconditions", name := "checkIndex", desc := "(IILjava/util/function/BiFunction;)I" } : Jvm.MethodName) jdk_41_method_11_code (3 : Nat) (Option.some Jvm.ClassFile.FieldType.int), Jvm.Cond.code ({ cls := "com/example/inchworm/inchworm/core/IdempotencyKey", name := "isOptionalWhitespace", desc := "(C)Z" } : Jvm.MethodName) prog_18_method_10_code (1 : Nat) (Option.some Jvm.ClassFile.FieldType.boolean), Jvm.Cond.code ({ cls := "java/lang/String", name := "substring", desc := "(II)Ljava/lang/String;" } : Jvm.MethodName) jdk_42_method_92_code (5 : Nat) (Option.some (Jvm.ClassFile.FieldType.object "java/lang/String")), Jvm.Cond.code ({ cls := "java/lang/String", name := "checkBoundsBeginEnd", desc := "(III)V" } : Jvm.MethodName) jdk_42_method_158_code (3 : Nat) (Option.none : Option Jvm.ClassFile.FieldType), Jvm.Cond.code ({ cls := "jdk/internal/util/Preconditions", name := "checkFromToIndex", desc := "(IIILjava/util/function/BiFunction;)I" } : Jvm.MethodName) jdk_41_method_12_code (4 : Nat) (Option.some Jvm.ClassFile.FieldType.int), Jvm.Cond.code ({ cls := "java/lang/String", name := "isEmpty", desc := "()Z" } : Jvm.MethodName) jdk_42_method_55_code (1 : Nat) (Option.some Jvm.ClassFile.FieldType.boolean), Jvm.Cond.code ({ cls := "com/example/inchworm/inchworm/core/IdempotencyKey", name := "of", desc := "(Ljava/lang/String;)Lcom/example/inchworm/inchworm/core/IdempotencyKey;" } : Jvm.MethodName) prog_18_method_2_code (3 : Nat) (Option.some (Jvm.ClassFile.FieldType.object "com/example/inchworm/inchworm/core/IdempotencyKey")), Jvm.Cond.code ({ cls := "com/example/inchworm/inchworm/core/IdempotencyKey", name := "<init>", desc := "(Ljava/lang/String;)V" } : Jvm.MethodName) prog_18_method_1_code (2 : Nat) (Option.none : Option Jvm.ClassFile.FieldType), Jvm.Cond.code ({ cls := "com/example/inchworm/inchworm/core/IdempotencyKey", name := "value", desc := "()Ljava/lang/String;" } : Jvm.MethodName) prog_18_method_4_code (1 : Nat) (Option.some (Jvm.ClassFile.FieldType.object "java/lang/String")), Jvm.Cond.code ({ cls := "java/lang/String", name := "equals", desc := "(Ljava/lang/Object;)Z" } : Jvm.MethodName) jdk_42_method_66_code (3 : Nat) (Option.some Jvm.ClassFile.FieldType.boolean), Jvm.Cond.code ({ cls := "java/lang/StringLatin1", name := "equals", desc := "([B[B)Z" } : Jvm.MethodName) jdk_43_method_13_code (3 : Nat) (Option.some Jvm.ClassFile.FieldType.boolean), Jvm.Cond.code ({ cls := "com/example/inchworm/inchworm/core/IdempotencyKeyParseHeaderPinLaw", name := "wsChar", desc := "(II)C" } : Jvm.MethodName) method_4_code (2 : Nat) (Option.some Jvm.ClassFile.FieldType.char), Jvm.Cond.code ({ cls := "java/lang/StringLatin1", name := "newString", desc := "([BII)Ljava/lang/String;" } : Jvm.MethodName) jdk_43_method_47_code (3 : Nat) (Option.some (Jvm.ClassFile.FieldType.object "java/lang/String")), Jvm.Cond.code ({ cls := "java/util/Arrays", name := "copyOfRange", desc := "([BII)[B" } : Jvm.MethodName) jdk_65_method_132_code (3 : Nat) (Option.some (Jvm.ClassFile.FieldType.array Jvm.ClassFile.FieldType.byte)), Jvm.Cond.code ({ cls := "java/util/Arrays", name := "copyOfRangeByte", desc := "([BII)[B" } : Jvm.MethodName) jdk_65_method_133_code (5 : Nat) (Option.some (Jvm.ClassFile.FieldType.array Jvm.ClassFile.FieldType.byte)), Jvm.Cond.code ({ cls := "java/util/Arrays", name := "checkLength", desc := "(II)V" } : Jvm.MethodName) jdk_65_method_131_code (2 : Nat) (Option.none : Option Jvm.ClassFile.FieldType), Jvm.Cond.code ({ cls := "java/lang/Math", name := "min", desc := "(II)I" } : Jvm.MethodName) jdk_29_method_69_code (2 : Nat) (Option.some Jvm.ClassFile.FieldType.int), Jvm.Cond.code ({ cls := "com/example/inchworm/inchworm/core/IdempotencyKey", name := "unquote", desc := "(Ljava/lang/String;)Ljava/lang/String;" } : Jvm.MethodName) prog_18_method_11_code (5 : Nat) (Option.some (Jvm.ClassFile.FieldType.object "java/lang/String")), Jvm.Cond.code ({ cls := "java/lang/StringBuilder", name := "<init>", desc := "(I)V" } : Jvm.MethodName) jdk_67_method_2_code (2 : Nat) (Option.none : Option Jvm.ClassFile.FieldType), Jvm.Cond.code ({ cls := "java/lang/AbstractStringBuilder", name := "<init>", desc := "(I)V" } : Jvm.MethodName) jdk_68_method_2_code (2 : Nat) (Option.none : Option Jvm.ClassFile.FieldType), Jvm.Cond.code ({ cls := "java/lang/StringBuilder", name := "append", desc := "(C)Ljava/lang/StringBuilder;" } : Jvm.MethodName) jdk_67_method_14_code (2 : Nat) (Option.some (Jvm.ClassFile.FieldType.object "java/lang/StringBuilder")), Jvm.Cond.code ({ cls := "java/lang/AbstractStringBuilder", name := "append", desc := "(C)Ljava/lang/AbstractStringBuilder;" } : Jvm.MethodName) jdk_68_method_31_code (2 : Nat) (Option.some (Jvm.ClassFile.FieldType.object "java/lang/AbstractStringBuilder")), Jvm.Cond.code ({ cls := "java/lang/AbstractStringBuilder", name := "ensureCapacityInternal", desc := "(I)V" } : Jvm.MethodName) jdk_68_method_9_code (3 : Nat) (Option.none : Option Jvm.ClassFile.FieldType), Jvm.Cond.code ({ cls := "java/lang/AbstractStringBuilder", name := "isLatin1", desc := "()Z" } : Jvm.MethodName) jdk_68_method_68_code (1 : Nat) (Option.some Jvm.ClassFile.FieldType.boolean), Jvm.Cond.code ({ cls := "java/lang/StringBuilder", name := "toString", desc := "()Ljava/lang/String;" } : Jvm.MethodName) jdk_67_method_42_code (1 : Nat) (Option.some (Jvm.ClassFile.FieldType.object "java/lang/String")), Jvm.Cond.code ({ cls := "java/lang/String", name := "<init>", desc := "(Ljava/lang/StringBuilder;)V" } : Jvm.MethodName) jdk_42_method_53_code (2 : Nat) (Option.none : Option Jvm.ClassFile.FieldType), Jvm.Cond.code ({ cls := "java/lang/String", name := "<init>", desc := "(Ljava/lang/AbstractStringBuilder;Ljava/lang/Void;)V" } : Jvm.MethodName) jdk_42_method_150_code (5 : Nat) (Option.none : Option Jvm.ClassFile.FieldType), Jvm.Cond.code ({ cls := "java/lang/AbstractStringBuilder", name := "getValue", desc := "()[B" } : Jvm.MethodName) jdk_68_method_64_code (1 : Nat) (Option.some (Jvm.ClassFile.FieldType.array Jvm.ClassFile.FieldType.byte)), Jvm.Cond.code ({ cls := "java/lang/StringBuilder", name := "length", desc := "()I" } : Jvm.MethodName) jdk_67_method_93_code (1 : Nat) (Option.some Jvm.ClassFile.FieldType.int), Jvm.Cond.code ({ cls := "java/lang/AbstractStringBuilder", name := "length", desc := "()I" } : Jvm.MethodName) jdk_68_method_6_code (1 : Nat) (Option.some Jvm.ClassFile.FieldType.int)]
set_option maxRecDepth 65536 in
theorem codes_eq : words1.filter isCode = codes1 := rfl
theorem w_codes : ∀ c ∈ words1.filter isCode, c.before args0 about1 = true := by
  rw [codes_eq]
  intro c hc
  simp only [codes1, List.mem_cons, List.not_mem_nil, or_false] at hc
  rcases hc with rfl | rfl | rfl | rfl | rfl | rfl | rfl | rfl | rfl | rfl | rfl | rfl | rfl | rfl | rfl | rfl | rfl | rfl | rfl | rfl | rfl | rfl | rfl | rfl | rfl | rfl | rfl | rfl | rfl | rfl | rfl | rfl | rfl | rfl | rfl | rfl | rfl | rfl | rfl | rfl | rfl | rfl | rfl | rfl | rfl | rfl | rfl | rfl | rfl | rfl | rfl | rfl | rfl
  · exact w_c0
  · exact w_c1
  · exact w_c2
  · exact w_c3
  · exact w_c4
  · exact w_c5
  · exact w_c6
  · exact w_c7
  · exact w_c8
  · exact w_c9
  · exact w_c10
  · exact w_c11
  · exact w_c12
  · exact w_c13
  · exact w_c14
  · exact w_c15
  · exact w_c16
  · exact w_c17
  · exact w_c18
  · exact w_c19
  · exact w_c20
  · exact w_c21
  · exact w_c22
  · exact w_c23
  · exact w_c24
  · exact w_c25
  · exact w_c26
  · exact w_c27
  · exact w_c28
  · exact w_c29
  · exact w_c30
  · exact w_c31
  · exact w_c32
  · exact w_c33
  · exact w_c34
  · exact w_c35
  · exact w_c36
  · exact w_c37
  · exact w_c38
  · exact w_c39
  · exact w_c40
  · exact w_c41
  · exact w_c42
  · exact w_c43
  · exact w_c44
  · exact w_c45
  · exact w_c46
  · exact w_c47
  · exact w_c48
  · exact w_c49
  · exact w_c50
  · exact w_c51
  · exact w_c52
set_option maxRecDepth 65536 in
theorem w_t1 : (words1.take 24).all (fun c => isCode c || c.before args0 about1) = true := by decide +kernel
set_option maxRecDepth 65536 in
theorem w_t2 : ((words1.drop 24).take 24).all (fun c => isCode c || c.before args0 about1) = true := by decide +kernel
set_option maxRecDepth 65536 in
theorem w_t3 : (((words1.drop 24).drop 24).take 24).all (fun c => isCode c || c.before args0 about1) = true := by decide +kernel
set_option maxRecDepth 65536 in
theorem w_t4 : ((((words1.drop 24).drop 24).drop 24).take 24).all (fun c => isCode c || c.before args0 about1) = true := by decide +kernel
set_option maxRecDepth 65536 in
theorem w_t5 : (((((words1.drop 24).drop 24).drop 24).drop 24).take 24).all (fun c => isCode c || c.before args0 about1) = true := by decide +kernel
set_option maxRecDepth 65536 in
theorem w_t6 : ((((((words1.drop 24).drop 24).drop 24).drop 24).drop 24).take 24).all (fun c => isCode c || c.before args0 about1) = true := by decide +kernel
set_option maxRecDepth 65536 in
theorem w_t7 : (((((((words1.drop 24).drop 24).drop 24).drop 24).drop 24).drop 24).take 24).all (fun c => isCode c || c.before args0 about1) = true := by decide +kernel
set_option maxRecDepth 65536 in
theorem w_t8 : ((((((((words1.drop 24).drop 24).drop 24).drop 24).drop 24).drop 24).drop 24).take 24).all (fun c => isCode c || c.before args0 about1) = true := by decide +kernel
set_option maxRecDepth 65536 in
theorem w_t9 : (((((((((words1.drop 24).drop 24).drop 24).drop 24).drop 24).drop 24).drop 24).drop 24).take 24).all (fun c => isCode c || c.before args0 about1) = true := by decide +kernel
set_option maxRecDepth 65536 in
theorem w_t10 : ((((((((((words1.drop 24).drop 24).drop 24).drop 24).drop 24).drop 24).drop 24).drop 24).drop 24).take 24).all (fun c => isCode c || c.before args0 about1) = true := by decide +kernel
set_option maxRecDepth 65536 in
theorem w_t11 : ((((((((((words1.drop 24).drop 24).drop 24).drop 24).drop 24).drop 24).drop 24).drop 24).drop 24).drop 24).all (fun c => isCode c || c.before args0 about1) = true := by decide +kernel
theorem w_tables : (allAtoms (Jvm.Cond.code x code maxLocals ret :: tables_1)).before args0 about1 = true := by
  rw [allAtoms_all]
  show words1.all (fun c => c.before args0 about1) = true
  refine all_split ?_ w_codes
  rw [← List.take_append_drop 24 words1, List.all_append, w_t1, ← List.take_append_drop 24 (words1.drop 24), List.all_append, w_t2, ← List.take_append_drop 24 ((words1.drop 24).drop 24), List.all_append, w_t3, ← List.take_append_drop 24 (((words1.drop 24).drop 24).drop 24), List.all_append, w_t4, ← List.take_append_drop 24 ((((words1.drop 24).drop 24).drop 24).drop 24), List.all_append, w_t5, ← List.take_append_drop 24 (((((words1.drop 24).drop 24).drop 24).drop 24).drop 24), List.all_append, w_t6, ← List.take_append_drop 24 ((((((words1.drop 24).drop 24).drop 24).drop 24).drop 24).drop 24), List.all_append, w_t7, ← List.take_append_drop 24 (((((((words1.drop 24).drop 24).drop 24).drop 24).drop 24).drop 24).drop 24), List.all_append, w_t8, ← List.take_append_drop 24 ((((((((words1.drop 24).drop 24).drop 24).drop 24).drop 24).drop 24).drop 24).drop 24), List.all_append, w_t9, ← List.take_append_drop 24 (((((((((words1.drop 24).drop 24).drop 24).drop 24).drop 24).drop 24).drop 24).drop 24).drop 24), List.all_append, w_t10, w_t11]
  rfl
set_option maxRecDepth 65536 in
theorem w_rest : rest_1_c.before args0 about1 = true := by decide +kernel
set_option maxRecDepth 65536 in
theorem w_case : (Jvm.Cond.and given_1 narrow_1).before args0 about1 = true := by decide +kernel
theorem w_applies : (headSpec (Jvm.Cond.code x code maxLocals ret :: tables_1) room_1).applies x e0.platform about1 = true :=
  (Spec.applies_iff w_frames).mpr ⟨w_running, w_runnable, w_alone, w_named, w_hears, w_ripe, w_room, w_tables⟩
theorem atStart : AtStart classFile x code maxLocals ret World_1 tables_1 room_1 Calls_1 rest_1 Pre_1 launch0 p0 e0 about1 theMethod args0 below0 :=
  ⟨lists_1, trivial, launch0.admits_env _ _ _, launch0.least_env, fairChoices_fair.cas, fairChoices_fair.clock, w_frames, w_args, w_heap, w_applies, trivial, w_rest, w_case⟩
end start1
theorem witness_1 : WitnessClaimed_1 := ⟨start1.p0, start1.e0, start1.about1, start1.theMethod, start1.args0, start1.below0, start1.atStart⟩
end Jvm.Pilot.@@N@@
