import JvmDerived
import JvmDerived.Pilot.@@N@@Statement
import JvmDerived.Pilot.@@N@@Code
set_option linter.unusedVariables false
set_option linter.unusedSimpArgs false
/- laws to paste: Road.backV, Road.lenW, Road.eqW, Road.codOf (cut by pick.py; bodies as the Statement names them) -/
namespace Jvm.Pilot.@@N@@
namespace StrChars
open Jvm Sem ClassFile Op Lib Jvm.Stand Jvm.Free.XT Jvm.Free.ALB Jvm.Free.JM Jvm.Free
open Jvm.Lib.Cold (StaticIs)
/-- a char array whose places are chars -/
def Ch (a : Addr) (A : Cell) (U : State) : Prop := Arr .char a A U ∧ Typed .char A
theorem Ch.mv {a : Addr} {A : Cell} {U U' : State} (h : Ch a A U) (hal : U.vm.Alike U'.vm) (hh : U'.heap = U.heap) : Ch a A U' := ⟨h.1.mv hal hh, h.2⟩
theorem Ch.keep {a : Addr} {A : Cell} {U U' : State} (h : Ch a A U) (hal : U.vm.Alike U'.vm) (hk : U'.heap[a]? = some A) : Ch a A U' := ⟨h.1.keep hal hk, h.2⟩
/-- what place i of a char[]'s cell holds -/
def cv (A : Cell) (i : Nat) : Int32 := match A.slots[i]? with | some (.int x) => x | _ => 0
theorem Ch.get {a : Addr} {A : Cell} {U : State} (h : Ch a A U) {i : Nat} (hi : i < A.slots.size) : A.slots[i]? = some (.int (cv A i)) := by
  have e := Array.getElem?_eq_getElem hi
  have f := h.2 i _ e
  unfold cv; rw [e]
  generalize A.slots[i] = v at f
  cases v <;> simp [fits] at f ⊢
/-- the byte that i2b leaves of a char -/
def lo8 (x : Int32) : Int32 := x.toInt8.toInt32
theorem fits_lo8 (y : Int32) : fits .byte (.int (lo8 y)) = true := by
  have h1 := y.toInt8.le_toInt
  have h2 := y.toInt8.toInt_lt
  simp only [lo8, fits, Bool.and_eq_true, decide_eq_true_eq, Int32.le_iff_toInt_le, Int8.toInt_toInt32, show (-128 : Int32).toInt = -128 from by decide, show (127 : Int32).toInt = 127 from by decide]
  omega
/-- A' is A but that each place j of lo .. hi - 1 holds f j -/
def Laid (A A' : Cell) (lo hi : Nat) (f : Nat → Value) : Prop := A'.cls = A.cls ∧ A'.vm = A.vm ∧ A'.slots.size = A.slots.size ∧ ∀ i, A'.slots[i]? = if lo ≤ i ∧ i < hi then some (f i) else A.slots[i]?
theorem Laid.zero (A : Cell) (lo : Nat) (f : Nat → Value) : Laid A A lo (lo + 0) f := ⟨rfl, rfl, rfl, fun i => by rw [if_neg (by omega)]⟩
theorem Laid.step {A Ak : Cell} {lo k : Nat} {f : Nat → Value} {v : Value} (h : Laid A Ak lo k f) (hlo : lo ≤ k) (hk : k < Ak.slots.size) (hv : v = f k) : Laid A (Ak.setSlot k v) lo (k + 1) f := by
  refine ⟨h.1, h.2.1, by simpa [Cell.setSlot] using h.2.2.1, fun i => ?_⟩
  by_cases e : k = i
  · subst e; rw [Cell.slots_setSlot_self v hk, if_pos (by omega), hv]
  · rw [Cell.slots_setSlot_ne v e, h.2.2.2 i]
    by_cases q : lo ≤ i ∧ i < k
    · rw [if_pos q, if_pos (by omega)]
    · rw [if_neg q, if_neg (by omega)]
def U16 : String := "java/lang/StringUTF16"
namespace Cmp5
def yN : MethodName := ⟨"java/lang/StringUTF16", "compress", "([CI[BII)I"⟩
abbrev yB : ByteArray := jdk_52_method_21_code
theorem d0 : decode yB 0 = .ok (.iconst 0, 1) := by decide +kernel
theorem d1 : decode yB 1 = .ok (.istore 5, 2) := by decide +kernel
theorem d3 : decode yB 3 = .ok (.iload 5, 2) := by decide +kernel
theorem d5 : decode yB 5 = .ok (.iload 4, 2) := by decide +kernel
theorem d7 : decode yB 7 = .ok (.if_icmp (.ge) 37, 3) := by decide +kernel
theorem d10 : decode yB 10 = .ok (.aload_n 0, 1) := by decide +kernel
theorem d11 : decode yB 11 = .ok (.iload_n 1, 1) := by decide +kernel
theorem d12 : decode yB 12 = .ok (.caload, 1) := by decide +kernel
theorem d13 : decode yB 13 = .ok (.istore 6, 2) := by decide +kernel
theorem d15 : decode yB 15 = .ok (.iload 6, 2) := by decide +kernel
theorem d17 : decode yB 17 = .ok (.sipush 255, 3) := by decide +kernel
theorem d20 : decode yB 20 = .ok (.if_icmp (.le) 6, 3) := by decide +kernel
theorem d26 : decode yB 26 = .ok (.aload_n 2, 1) := by decide +kernel
theorem d27 : decode yB 27 = .ok (.iload_n 3, 1) := by decide +kernel
theorem d28 : decode yB 28 = .ok (.iload 6, 2) := by decide +kernel
theorem d30 : decode yB 30 = .ok (.i2b, 1) := by decide +kernel
theorem d31 : decode yB 31 = .ok (.bastore, 1) := by decide +kernel
theorem d32 : decode yB 32 = .ok (.iinc 1 1, 3) := by decide +kernel
theorem d35 : decode yB 35 = .ok (.iinc 3 1, 3) := by decide +kernel
theorem d38 : decode yB 38 = .ok (.iinc 5 1, 3) := by decide +kernel
theorem d41 : decode yB 41 = .ok (.goto (-38), 3) := by decide +kernel
theorem d44 : decode yB 44 = .ok (.iload 4, 2) := by decide +kernel
theorem d46 : decode yB 46 = .ok (.ireturn, 1) := by decide +kernel
def site : List Cond := []
def tab : Cond := tabOf yN yB 7 (some .int) site
def P (b : Addr) (A : Cell) (d : Addr) (B : Cell) (o q len : Nat) (args : Array Value) (s : State) : Prop := args = #[.ref b, .int (Int32.ofNat o), .ref d, .int (Int32.ofNat q), .int (Int32.ofNat len)] ∧ Ch b A s ∧ Arr .byte d B s ∧ b ≠ d ∧ o + len ≤ A.slots.size ∧ q + len ≤ B.slots.size ∧ ∀ i, i < len → ¬ 255 < cv A (o + i)
def E (b : Addr) (A : Cell) (d : Addr) (B : Cell) (o q len : Nat) (r : Option Value) (s u : State) : Prop := r = some (.int (Int32.ofNat len)) ∧ ∃ B', Put d B' s u ∧ Laid B B' q (q + len) (fun j => Value.int (lo8 (cv A (o + (j - q)))))
/-- no char of the range above 255: len; the places written hold each char's low byte -/
theorem law (l : Launch) (b : Addr) (A : Cell) (d : Addr) (B : Cell) (o q len : Nat) : Law l yN 5 5 0 0 yB 7 (some .int) site (P b A d B o q len) (E b A d B o q len) (copyLocs d q len) 0 0 := by
  refine Law.of_walk (plainFor_of_name (by decide +kernel)) (by decide +kernel) (by decide +kernel) (by decide) (fun _ _ h => by rw [h.1]; rfl) (fun _ U U' hal hh h => ⟨h.1, h.2.1.mv hal hh, h.2.2.1.mv hal hh, h.2.2.2⟩) (fun r U U' V V' h1 hal h2 h => ⟨h.1, h.2.elim fun B' q => ⟨B', q.1.mv h1 h2, q.2⟩⟩) ?_
  intro p e s m args below meth c s₁ X0 hexec hbytes hml hret hlk hnm hown hh0 W hP
  obtain ⟨rfl, hA, hB, hne, l1, l2, hp⟩ := hP
  have c1 : Steps p.tables e below (s₁.setTop (entryFrame m #[.ref b, .int (Int32.ofNat o), .ref d, .int (Int32.ofNat q), .int (Int32.ofNat len)] 7)) (s₁.setTop (mkF m 0 #[.val (.ref b), .val (.int (Int32.ofNat o)), .val (.ref d), .val (.int (Int32.ofNat q)), .val (.int (Int32.ofNat len)), .unset, .unset] [])) := entry rfl
  have hA0 := hA.1.mv X0.warmed.alike hh0
  have hB0 := hB.mv X0.warmed.alike hh0
  have a31 := hA.1.2.2.2
  have c2 : Steps p.tables e below (s₁.setTop (entryFrame m #[.ref b, .int (Int32.ofNat o), .ref d, .int (Int32.ofNat q), .int (Int32.ofNat len)] 7)) (s₁.setTop (mkF m 3 #[.val (.ref b), .val (.int (Int32.ofNat o)), .val (.ref d), .val (.int (Int32.ofNat q)), .val (.int (Int32.ofNat len)), .val (.int 0), .unset] [])) := c1.trans (by
    refine iconstV X0.here hexec rfl 0 (hb hbytes d0) (by decide) ?_
    refine XS.istore X0.here hexec rfl (hb hbytes d1) rfl rfl ?_
    exact Steps.refl _)
  have loop : ∀ (r i : Nat), i + r = len → ∀ (z : Slot), (z = .unset ∨ ∃ w, z = .val w ∧ w.category = 1) → ∀ (Tl : State) (Bk : Cell), Stand p l e { frames := 0, locals := 0, cells := 0, slots := 0 } s m #[.ref b, .int (Int32.ofNat o), .ref d, .int (Int32.ofNat q), .int (Int32.ofNat len)] below meth c Tl ([] ++ copyLocs d q i) 0 0 → Put d Bk s₁ Tl → Laid B Bk q (q + i) (fun j => Value.int (lo8 (cv A (o + (j - q))))) →
      Steps p.tables e below (s₁.setTop (entryFrame m #[.ref b, .int (Int32.ofNat o), .ref d, .int (Int32.ofNat q), .int (Int32.ofNat len)] 7)) (Tl.setTop (mkF m 3 #[.val (.ref b), .val (.int (Int32.ofNat (o + i))), .val (.ref d), .val (.int (Int32.ofNat (q + i))), .val (.int (Int32.ofNat len)), .val (.int (Int32.ofNat i)), z] [])) → ∃ (T' : State) (B' : Cell) (z' : Slot), Stand p l e { frames := 0, locals := 0, cells := 0, slots := 0 } s m #[.ref b, .int (Int32.ofNat o), .ref d, .int (Int32.ofNat q), .int (Int32.ofNat len)] below meth c T' ([] ++ copyLocs d q len) 0 0 ∧ Put d B' s₁ T' ∧ Laid B B' q (q + len) (fun j => Value.int (lo8 (cv A (o + (j - q))))) ∧
      Steps p.tables e below (s₁.setTop (entryFrame m #[.ref b, .int (Int32.ofNat o), .ref d, .int (Int32.ofNat q), .int (Int32.ofNat len)] 7)) (T'.setTop (mkF m 3 #[.val (.ref b), .val (.int (Int32.ofNat (o + len))), .val (.ref d), .val (.int (Int32.ofNat (q + len))), .val (.int (Int32.ofNat len)), .val (.int (Int32.ofNat len)), z'] [])) := by
    intro r
    induction r with
    | zero =>
      intro i hi z hz Tl Bk Xl pl fl cl
      have hil : i = len := by omega
      rw [hil] at Xl fl cl
      exact ⟨Tl, Bk, z, Xl, pl, fl, cl⟩
    | succ r ih =>
      intro i hi z hz Tl Bk Xl pl fl cl
      have all := X0.warmed.alike.symm.trans Xl.warmed.alike
      have hAl := hA0.keep all (pl.other hne hA0.1)
      have hBk := hB0.like all pl.1 fl.1 fl.2.1 fl.2.2.1
      have hlt : q + i < Bk.slots.size := by rw [fl.2.2.1]; omega
      have c3 : Steps p.tables e below (s₁.setTop (entryFrame m #[.ref b, .int (Int32.ofNat o), .ref d, .int (Int32.ofNat q), .int (Int32.ofNat len)] 7)) (Tl.setTop (mkF m 12 #[.val (.ref b), .val (.int (Int32.ofNat (o + i))), .val (.ref d), .val (.int (Int32.ofNat (q + i))), .val (.int (Int32.ofNat len)), .val (.int (Int32.ofNat i)), z] [.int (Int32.ofNat (o + i)), .ref b])) := cl.trans (by
        refine XS.iload Xl.here hexec rfl (hb hbytes d3) rfl ?_
        refine XS.iload Xl.here hexec rfl (hb hbytes d5) rfl ?_
        refine XS.icmpNo Xl.here hexec rfl (hb hbytes d7) rfl (ii_ge_f (lt32 (by omega) (by omega))) ?_
        refine XS.aloadN Xl.here hexec rfl (hb hbytes d10) rfl rfl ?_
        refine XS.iloadN Xl.here hexec rfl (hb hbytes d11) rfl ?_
        exact Steps.refl _)
      have c4 : Steps p.tables e below (s₁.setTop (entryFrame m #[.ref b, .int (Int32.ofNat o), .ref d, .int (Int32.ofNat q), .int (Int32.ofNat len)] 7)) (Tl.setTop (mkF m 13 #[.val (.ref b), .val (.int (Int32.ofNat (o + i))), .val (.ref d), .val (.int (Int32.ofNat (q + i))), .val (.int (Int32.ofNat len)), .val (.int (Int32.ofNat i)), z] [.int (cv A (o + i))])) := c3.trans (by
        refine Xl.aget hexec hAl rfl (hA.get (i := o + i) (by omega)) rfl rfl (hb hbytes d12) ?_
        exact Steps.refl _)
      have c5 : Steps p.tables e below (s₁.setTop (entryFrame m #[.ref b, .int (Int32.ofNat o), .ref d, .int (Int32.ofNat q), .int (Int32.ofNat len)] 7)) (Tl.setTop (mkF m 15 #[.val (.ref b), .val (.int (Int32.ofNat (o + i))), .val (.ref d), .val (.int (Int32.ofNat (q + i))), .val (.int (Int32.ofNat len)), .val (.int (Int32.ofNat i)), .val (.int (cv A (o + i)))] [])) := c4.trans (by
        refine XS.istoreS Xl.here hexec rfl (hb hbytes d13) rfl rfl hz ?_
        exact Steps.refl _)
      have c6 : Steps p.tables e below (s₁.setTop (entryFrame m #[.ref b, .int (Int32.ofNat o), .ref d, .int (Int32.ofNat q), .int (Int32.ofNat len)] 7)) (Tl.setTop (mkF m 31 #[.val (.ref b), .val (.int (Int32.ofNat (o + i))), .val (.ref d), .val (.int (Int32.ofNat (q + i))), .val (.int (Int32.ofNat len)), .val (.int (Int32.ofNat i)), .val (.int (cv A (o + i)))] [.int (lo8 (cv A (o + i))), .int (Int32.ofNat (q + i)), .ref d])) := c5.trans (by
        refine XS.iload Xl.here hexec rfl (hb hbytes d15) rfl ?_
        refine sipushV Xl.here hexec rfl 255 (hb hbytes d17) (by decide) ?_
        refine XS.icmpYes Xl.here hexec rfl (pc0 := 20) rfl (hb hbytes d20) rfl (ii_le_t (hp i (by omega))) (by decide) rfl ?_
        refine XS.aloadN Xl.here hexec rfl (hb hbytes d26) rfl rfl ?_
        refine XS.iloadN Xl.here hexec rfl (hb hbytes d27) rfl ?_
        refine XS.iload Xl.here hexec rfl (hb hbytes d28) rfl ?_
        refine i2b Xl.here hexec rfl (hb hbytes d30) rfl ?_
        exact Steps.refl _)
      obtain ⟨T7, X7, p7, st7⟩ := Xl.aput hexec hBk rfl hlt rfl (fits_lo8 (cv A (o + i))) (g := (mkF m 31 #[.val (.ref b), .val (.int (Int32.ofNat (o + i))), .val (.ref d), .val (.int (Int32.ofNat (q + i))), .val (.int (Int32.ofNat len)), .val (.int (Int32.ofNat i)), .val (.int (cv A (o + i)))] [.int (lo8 (cv A (o + i))), .int (Int32.ofNat (q + i)), .ref d])) rfl (rest := []) rfl (hb hbytes d31)
      have c8 : Steps p.tables e below (s₁.setTop (entryFrame m #[.ref b, .int (Int32.ofNat o), .ref d, .int (Int32.ofNat q), .int (Int32.ofNat len)] 7)) (T7.setTop (mkF m 32 #[.val (.ref b), .val (.int (Int32.ofNat (o + i))), .val (.ref d), .val (.int (Int32.ofNat (q + i))), .val (.int (Int32.ofNat len)), .val (.int (Int32.ofNat i)), .val (.int (cv A (o + i)))] [])) := c6.trans (st7 _ (Steps.refl _))
      have c9 : Steps p.tables e below (s₁.setTop (entryFrame m #[.ref b, .int (Int32.ofNat o), .ref d, .int (Int32.ofNat q), .int (Int32.ofNat len)] 7)) (T7.setTop (mkF m 3 #[.val (.ref b), .val (.int (Int32.ofNat (o + i) + 1)), .val (.ref d), .val (.int (Int32.ofNat (q + i) + 1)), .val (.int (Int32.ofNat len)), .val (.int (Int32.ofNat i + 1)), .val (.int (cv A (o + i)))] [])) := c8.trans (by
        refine iincV X7.here hexec rfl 1 (hb hbytes d32) (by decide) rfl rfl ?_
        refine iincV X7.here hexec rfl 1 (hb hbytes d35) (by decide) rfl rfl ?_
        refine iincV X7.here hexec rfl 1 (hb hbytes d38) (by decide) rfl rfl ?_
        refine XS.goto X7.here hexec rfl (pc0 := 41) rfl (hb hbytes d41) (by decide) rfl ?_
        exact Steps.refl _)
      have c10 : Steps p.tables e below (s₁.setTop (entryFrame m #[.ref b, .int (Int32.ofNat o), .ref d, .int (Int32.ofNat q), .int (Int32.ofNat len)] 7)) (T7.setTop (mkF m 3 #[.val (.ref b), .val (.int (Int32.ofNat (o + (i + 1)))), .val (.ref d), .val (.int (Int32.ofNat (q + (i + 1)))), .val (.int (Int32.ofNat len)), .val (.int (Int32.ofNat (i + 1))), .val (.int (cv A (o + i)))] [])) := by
        have := c9
        rw [succ32, succ32, succ32] at this
        exact this
      exact ih (i + 1) (by omega) _ (Or.inr ⟨_, rfl, rfl⟩) T7 _ (by rw [copyLocs_step, ← List.append_assoc]; exact X7) (pl.trans p7) (fl.step (by omega) hlt (by simp)) c10
  obtain ⟨T9, B9, z9, X9, p9, f9, g9⟩ := loop len 0 (by omega) .unset (Or.inl rfl) s₁ B (by simpa [copyLocs] using X0) ⟨hB0.1, fun _ _ => rfl, rfl⟩ (Laid.zero _ _ _) c2
  have c11 : Steps p.tables e below (s₁.setTop (entryFrame m #[.ref b, .int (Int32.ofNat o), .ref d, .int (Int32.ofNat q), .int (Int32.ofNat len)] 7)) (T9.setTop (mkF m 46 #[.val (.ref b), .val (.int (Int32.ofNat (o + len))), .val (.ref d), .val (.int (Int32.ofNat (q + len))), .val (.int (Int32.ofNat len)), .val (.int (Int32.ofNat len)), z9] [.int (Int32.ofNat len)])) := g9.trans (by
    refine XS.iload X9.here hexec rfl (hb hbytes d3) rfl ?_
    refine XS.iload X9.here hexec rfl (hb hbytes d5) rfl ?_
    refine XS.icmpYes X9.here hexec rfl (pc0 := 7) rfl (hb hbytes d7) rfl (ii_ge_t (nlt32 (by omega) (Nat.le_refl _))) (by decide) rfl ?_
    refine XS.iload X9.here hexec rfl (hb hbytes d44) rfl ?_
    exact Steps.refl _)
  exact ⟨T9, some (.int (Int32.ofNat len)), _, _, _, X9, by simp, rfl, rfl, (fun h => by cases h), ⟨rfl, B9, p9.from hh0, f9⟩, fun fs hl => c11.trans (X9.ireturnOut hexec hret rfl (Or.inl rfl) (hb hbytes d46) hl)⟩
end Cmp5
namespace Cmp3
def yN : MethodName := ⟨"java/lang/StringUTF16", "compress", "([CII)[B"⟩
abbrev yB : ByteArray := jdk_52_method_16_code
theorem d0 : decode yB 0 = .ok (.iload_n 2, 1) := by decide +kernel
theorem d1 : decode yB 1 = .ok (.newarray .byte, 2) := by decide +kernel
theorem d3 : decode yB 3 = .ok (.astore_n 3, 1) := by decide +kernel
theorem d4 : decode yB 4 = .ok (.aload_n 0, 1) := by decide +kernel
theorem d5 : decode yB 5 = .ok (.iload_n 1, 1) := by decide +kernel
theorem d6 : decode yB 6 = .ok (.aload_n 3, 1) := by decide +kernel
theorem d7 : decode yB 7 = .ok (.iconst 0, 1) := by decide +kernel
theorem d8 : decode yB 8 = .ok (.iload_n 2, 1) := by decide +kernel
theorem d9 : decode yB 9 = .ok (.invokestatic 115, 3) := by decide +kernel
theorem d12 : decode yB 12 = .ok (.istore 4, 2) := by decide +kernel
theorem d14 : decode yB 14 = .ok (.iload 4, 2) := by decide +kernel
theorem d16 : decode yB 16 = .ok (.iload_n 2, 1) := by decide +kernel
theorem d17 : decode yB 17 = .ok (.if_icmp (.eq) 40, 3) := by decide +kernel
theorem d57 : decode yB 57 = .ok (.aload_n 3, 1) := by decide +kernel
theorem d58 : decode yB 58 = .ok (.areturn, 1) := by decide +kernel
def site : List Cond := [.arrayClass .byte, Cmp5.tab] ++ staticW U16 115 Cmp5.yN
def tab : Cond := tabOf yN yB 6 (some (.array .byte)) site
def P (b : Addr) (A : Cell) (o len : Nat) (args : Array Value) (s : State) : Prop := args = #[.ref b, .int (Int32.ofNat o), .int (Int32.ofNat len)] ∧ Ch b A s ∧ o + len ≤ A.slots.size ∧ len ≤ 536870912 ∧ ∀ i, i < len → ¬ 255 < cv A (o + i)
def E (b : Addr) (A : Cell) (o len : Nat) (r : Option Value) (s u : State) : Prop := NewArr .byte "[B" len (fun j => .int (lo8 (cv A (o + j)))) r s u ∧ u.heap.size = s.heap.size + 1
/-- no char of the range above 255: a new byte[] of their low bytes -/
theorem law (l : Launch) (b : Addr) (A : Cell) (o len : Nat) : Law l yN 3 3 1 18 yB 6 (some (.array .byte)) site (P b A o len) (E b A o len) [] 1 len := by
  refine Law.of_walk (plainFor_of_name (by decide +kernel)) (by decide +kernel) (by decide +kernel) (by decide) (fun _ _ h => by rw [h.1]; rfl) (fun _ U U' hal hh h => ⟨h.1, h.2.1.mv hal hh, h.2.2⟩) (fun r U U' V V' h1 hal h2 h => ⟨NewArr.mv r U U' V V' h1 hal h2 h.1, by rw [h1, h2]; exact h.2⟩) ?_
  intro p e s m args below meth c s₁ X0 hexec hbytes hml hret hlk hnm hown hh0 W hP
  obtain ⟨rfl, hA, l1, l2, hp⟩ := hP
  have a31 := hA.1.2.2.2
  have c1 : Steps p.tables e below (s₁.setTop (entryFrame m #[.ref b, .int (Int32.ofNat o), .int (Int32.ofNat len)] 6)) (s₁.setTop (mkF m 0 #[.val (.ref b), .val (.int (Int32.ofNat o)), .val (.int (Int32.ofNat len)), .unset, .unset, .unset] [])) := entry rfl
  have c2 : Steps p.tables e below (s₁.setTop (entryFrame m #[.ref b, .int (Int32.ofNat o), .int (Int32.ofNat len)] 6)) (s₁.setTop (mkF m 1 #[.val (.ref b), .val (.int (Int32.ofNat o)), .val (.int (Int32.ofNat len)), .unset, .unset, .unset] [.int (Int32.ofNat len)])) := c1.trans (by
    refine XS.iloadN X0.here hexec rfl (hb hbytes d0) rfl ?_
    exact Steps.refl _)
  obtain ⟨T3, B3, X3, ba3, bs3, bv3, bh3, bf3, st3⟩ := X0.anew hexec (atype := .byte) (wk W (.arrayClass .byte)) rfl (by show len * 1 ≤ _; omega) (by omega) (g := (mkF m 1 #[.val (.ref b), .val (.int (Int32.ofNat o)), .val (.int (Int32.ofNat len)), .unset, .unset, .unset] [.int (Int32.ofNat len)])) rfl (hb hbytes d1) (rest := []) rfl (Nat.le_refl _) (by show 0 + len ≤ len; omega)
  rw [hh0] at ba3 st3
  have kp3 : XT.Kept s T3 := (XT.Kept.of_eq hh0).push bh3
  have hA3 := hA.keep X3.warmed.alike (kp3 _ _ hA.1.1)
  have hne : b ≠ s.heap.size := hA.1.ne
  have c4 : Steps p.tables e below (s₁.setTop (entryFrame m #[.ref b, .int (Int32.ofNat o), .int (Int32.ofNat len)] 6)) (T3.setTop (mkF m 3 #[.val (.ref b), .val (.int (Int32.ofNat o)), .val (.int (Int32.ofNat len)), .unset, .unset, .unset] [.ref s.heap.size])) := c2.trans (st3 _ (Steps.refl _))
  have c5 : Steps p.tables e below (s₁.setTop (entryFrame m #[.ref b, .int (Int32.ofNat o), .int (Int32.ofNat len)] 6)) (T3.setTop (mkF m 9 #[.val (.ref b), .val (.int (Int32.ofNat o)), .val (.int (Int32.ofNat len)), .val (.ref s.heap.size), .unset, .unset] [.int (Int32.ofNat len), .int 0, .ref s.heap.size, .int (Int32.ofNat o), .ref b])) := c4.trans (by
    refine XS.astoreN X3.here hexec rfl (hb hbytes d3) rfl rfl rfl ?_
    refine XS.aloadN X3.here hexec rfl (hb hbytes d4) rfl rfl ?_
    refine XS.iloadN X3.here hexec rfl (hb hbytes d5) rfl ?_
    refine XS.aloadN X3.here hexec rfl (hb hbytes d6) rfl rfl ?_
    refine iconstV X3.here hexec rfl 0 (hb hbytes d7) (by decide) ?_
    refine XS.iloadN X3.here hexec rfl (hb hbytes d8) rfl ?_
    exact Steps.refl _)
  obtain ⟨v6, T6, X6, E6, g6⟩ := X3.callS hexec (Cmp5.law l b A s.heap.size B3 o 0 len) hown (wks W (staticW U16 115 Cmp5.yN)) (wk W Cmp5.tab) (W := 0) (Nat.le_of_ble_eq_true rfl) (Nat.le_of_ble_eq_true rfl) (Nat.le_refl _) (by show 0 + len + 0 ≤ len; omega) (g := (mkF m 9 #[.val (.ref b), .val (.int (Int32.ofNat o)), .val (.int (Int32.ofNat len)), .val (.ref s.heap.size), .unset, .unset] [.int (Int32.ofNat len), .int (Int32.ofNat 0), .ref s.heap.size, .int (Int32.ofNat o), .ref b])) rfl (by rw [hml]; rfl) c5 (argsL := [.ref b, .int (Int32.ofNat o), .ref s.heap.size, .int (Int32.ofNat 0), .int (Int32.ofNat len)]) (rest := []) rfl rfl (by show 2 * 0 + 0 ≤ _; decide) (hb hbytes d9) (⟨rfl, hA3, ba3, hne, l1, by rw [bs3]; simp, hp⟩)
  obtain ⟨rfl, B6, p6, f6⟩ := E6
  have c7 : Steps p.tables e below (s₁.setTop (entryFrame m #[.ref b, .int (Int32.ofNat o), .int (Int32.ofNat len)] 6)) (T6.setTop (mkF m 12 #[.val (.ref b), .val (.int (Int32.ofNat o)), .val (.int (Int32.ofNat len)), .val (.ref s.heap.size), .unset, .unset] [.int (Int32.ofNat len)])) := g6
  have c8 : Steps p.tables e below (s₁.setTop (entryFrame m #[.ref b, .int (Int32.ofNat o), .int (Int32.ofNat len)] 6)) (T6.setTop (mkF m 58 #[.val (.ref b), .val (.int (Int32.ofNat o)), .val (.int (Int32.ofNat len)), .val (.ref s.heap.size), .val (.int (Int32.ofNat len)), .unset] [.ref s.heap.size])) := c7.trans (by
    refine XS.istore X6.here hexec rfl (hb hbytes d12) rfl rfl ?_
    refine XS.iload X6.here hexec rfl (hb hbytes d14) rfl ?_
    refine XS.iloadN X6.here hexec rfl (hb hbytes d16) rfl ?_
    refine XS.icmpYes X6.here hexec rfl (pc0 := 17) rfl (hb hbytes d17) rfl (ii_eq_t rfl) (by decide) rfl ?_
    refine XS.aloadN X6.here hexec rfl (hb hbytes d57) rfl rfl ?_
    exact Steps.refl _)
  have X8 := X6.wide (L' := []) (cells' := 1) (slots' := len) (fun x hx hlt => by
    simp only [List.nil_append, copyLocs, List.mem_map, List.mem_range] at hx
    obtain ⟨i, -, rfl⟩ := hx
    exact absurd hlt (Nat.lt_irrefl _)) (Nat.le_refl _) (by omega)
  exact ⟨T6, some (.ref s.heap.size), _, _, _, X8, rfl, rfl, rfl, (fun h => by cases h), ⟨⟨rfl, B6, ba3.like (X3.warmed.alike.symm.trans X6.warmed.alike) p6.1 f6.1 f6.2.1 f6.2.2.1, f6.2.1.trans bv3, by rw [X6.warmed.alike.findClass, f6.1]; exact bf3, by rw [f6.2.2.1, bs3]; simp, fun j hj => by rw [f6.2.2.2 j, if_pos (by omega)]; rfl, kp3.put p6 (Nat.le_refl _)⟩, by rw [p6.2.2, bh3, hh0]; simp⟩, fun fs hl => c8.trans (X8.areturnOut hexec rfl hret rfl (hb hbytes d58) hl)⟩
end Cmp3
namespace CodL
def yN : MethodName := ⟨"java/lang/StringUTF16", "coderFromArrayLen", "([BI)B"⟩
abbrev yB : ByteArray := jdk_52_method_15_code
theorem d0 : decode yB 0 = .ok (.iload_n 1, 1) := by decide +kernel
theorem d1 : decode yB 1 = .ok (.aload_n 0, 1) := by decide +kernel
theorem d2 : decode yB 2 = .ok (.arraylength, 1) := by decide +kernel
theorem d3 : decode yB 3 = .ok (.isub, 1) := by decide +kernel
theorem d4 : decode yB 4 = .ok (.bipush 31, 2) := by decide +kernel
theorem d6 : decode yB 6 = .ok (.iushr, 1) := by decide +kernel
theorem d7 : decode yB 7 = .ok (.i2b, 1) := by decide +kernel
theorem d8 : decode yB 8 = .ok (.ireturn, 1) := by decide +kernel
def site : List Cond := []
def tab : Cond := tabOf yN yB 2 (some .byte) site
def P (d : Addr) (B : Cell) (args : Array Value) (s : State) : Prop := args = #[.ref d, .int (Int32.ofNat B.slots.size)] ∧ Arr .byte d B s
def E (r : Option Value) (s u : State) : Prop := XT.PureE (some (.int 0)) r s u
/-- an array as long as the number of chars: LATIN1 -/
theorem law (l : Launch) (d : Addr) (B : Cell) : Law l yN 2 2 0 0 yB 2 (some .byte) site (P d B) E [] 0 0 := by
  refine Law.of_walk (plainFor_of_name (by decide +kernel)) (by decide +kernel) (by decide +kernel) (by decide) (fun _ _ h => by rw [h.1]; rfl) (fun _ U U' hal hh h => ⟨h.1, h.2.mv hal hh⟩) (fun r U U' V V' h1 hal h2 h => XT.PureE.mv r U U' V V' h1 hal h2 h) ?_
  intro p e s m args below meth c s₁ X0 hexec hbytes hml hret hlk hnm hown hh0 W hP
  obtain ⟨rfl, hB⟩ := hP
  have hB0 := hB.mv X0.warmed.alike hh0
  have c1 : Steps p.tables e below (s₁.setTop (entryFrame m #[.ref d, .int (Int32.ofNat B.slots.size)] 2)) (s₁.setTop (mkF m 0 #[.val (.ref d), .val (.int (Int32.ofNat B.slots.size))] [])) := entry rfl
  have c2 : Steps p.tables e below (s₁.setTop (entryFrame m #[.ref d, .int (Int32.ofNat B.slots.size)] 2)) (s₁.setTop (mkF m 2 #[.val (.ref d), .val (.int (Int32.ofNat B.slots.size))] [.ref d, .int (Int32.ofNat B.slots.size)])) := c1.trans (by
    refine XS.iloadN X0.here hexec rfl (hb hbytes d0) rfl ?_
    refine XS.aloadN X0.here hexec rfl (hb hbytes d1) rfl rfl ?_
    exact Steps.refl _)
  have c3 : Steps p.tables e below (s₁.setTop (entryFrame m #[.ref d, .int (Int32.ofNat B.slots.size)] 2)) (s₁.setTop (mkF m 8 #[.val (.ref d), .val (.int (Int32.ofNat B.slots.size))] [.int (lo8 (ushr (Int32.ofNat B.slots.size - Int32.ofNat B.slots.size) 31))])) := c2.trans (by
    refine X0.alen hexec hB0 rfl rfl (hb hbytes d2) ?_
    refine XS.isub X0.here hexec rfl (hb hbytes d3) rfl ?_
    refine bipushV X0.here hexec rfl 31 (hb hbytes d4) (by decide) ?_
    refine iushr X0.here hexec rfl (hb hbytes d6) rfl ?_
    refine i2b X0.here hexec rfl (hb hbytes d7) rfl ?_
    exact Steps.refl _)
  have e0 : lo8 (ushr (Int32.ofNat B.slots.size - Int32.ofNat B.slots.size) 31) = 0 := by rw [Int32.sub_self]; decide
  rw [e0] at c3
  exact ⟨s₁, some (.int 0), _, _, _, X0, rfl, rfl, rfl, (fun h => by cases h), ⟨rfl, hh0⟩, fun fs hl => c3.trans (X0.ireturnOut hexec hret rfl (Or.inr (Or.inr (Or.inl rfl))) (hb hbytes d8) hl)⟩
end CodL
/-- the String at a is Latin-1 over a new byte[] (the heap's one new cell): the low bytes of the len chars of A from o on; every cell but a is kept -/
def Got (a : Addr) (D : Cell) (fV fC : Field) (A : Cell) (o len : Nat) (r : Option Value) (s u : State) : Prop := r = none ∧ ∃ D' V : Cell, Blank "java/lang/String" a D' u ∧ Same D D' [fV.slot, fC.slot] ∧ D'.slots[fV.slot]? = some (.ref s.heap.size) ∧ D'.slots[fC.slot]? = some (.int 0) ∧ Arr .byte s.heap.size V u ∧ V.vm = .none ∧ u.vm.findClass "[B" = some V.cls ∧ V.slots.size = len ∧ (∀ j, j < len → V.slots[j]? = some (.int (lo8 (cv A (o + j))))) ∧ (∀ (y : Addr) (c : Cell), y ≠ a → s.heap[y]? = some c → u.heap[y]? = some c) ∧ u.heap.size = s.heap.size + 1
theorem Got.mv {a : Addr} {D A : Cell} {fV fC : Field} {o len : Nat} : ∀ r (U U' V V' : State), U'.heap = U.heap → V.vm.Alike V'.vm → V'.heap = V.heap → Got a D fV fC A o len r U V → Got a D fV fC A o len r U' V' :=
  fun r U U' V V' h1 hal h2 ⟨e0, D', X, a1, a2, a3, a4, a5, a6, a7, a8, a9, a10, a11⟩ => ⟨e0, D', X, a1.mv hal h2, a2, by rw [h1]; exact a3, a4, by rw [h1]; exact a5.mv hal h2, a6, by rw [hal.findClass]; exact a7, a8, a9, by rw [h1, h2]; exact a10, by rw [h1, h2]; exact a11⟩
namespace New4
def yN : MethodName := ⟨"java/lang/String", "<init>", "([CIILjava/lang/Void;)V"⟩
abbrev yB : ByteArray := jdk_42_method_149_code
theorem d0 : decode yB 0 = .ok (.aload_n 0, 1) := by decide +kernel
theorem d1 : decode yB 1 = .ok (.invokespecial 1, 3) := by decide +kernel
theorem d4 : decode yB 4 = .ok (.iload_n 3, 1) := by decide +kernel
theorem d5 : decode yB 5 = .ok (.ifCond (.ne) 22, 3) := by decide +kernel
theorem d27 : decode yB 27 = .ok (.getstatic 38, 3) := by decide +kernel
theorem d30 : decode yB 30 = .ok (.ifCond (.eq) 28, 3) := by decide +kernel
theorem d33 : decode yB 33 = .ok (.aload_n 1, 1) := by decide +kernel
theorem d34 : decode yB 34 = .ok (.iload_n 2, 1) := by decide +kernel
theorem d35 : decode yB 35 = .ok (.iload_n 3, 1) := by decide +kernel
theorem d36 : decode yB 36 = .ok (.invokestatic 177, 3) := by decide +kernel
theorem d39 : decode yB 39 = .ok (.astore 5, 2) := by decide +kernel
theorem d41 : decode yB 41 = .ok (.aload_n 0, 1) := by decide +kernel
theorem d42 : decode yB 42 = .ok (.aload 5, 2) := by decide +kernel
theorem d44 : decode yB 44 = .ok (.iload_n 3, 1) := by decide +kernel
theorem d45 : decode yB 45 = .ok (.invokestatic 47, 3) := by decide +kernel
theorem d48 : decode yB 48 = .ok (.putfield 15, 3) := by decide +kernel
theorem d51 : decode yB 51 = .ok (.aload_n 0, 1) := by decide +kernel
theorem d52 : decode yB 52 = .ok (.aload 5, 2) := by decide +kernel
theorem d54 : decode yB 54 = .ok (.putfield 9, 3) := by decide +kernel
theorem d57 : decode yB 57 = .ok (.return_, 1) := by decide +kernel
def site : List Cond := [.fieldLink "java/lang/String" 38 "java/lang/String" "COMPACT_STRINGS" "Z", Cmp3.tab, CodL.tab, .laysFinal "java/lang/String" "java/lang/String" "value" "[B", .fieldLink "java/lang/String" 9 "java/lang/String" "value" "[B", .laysFinal "java/lang/String" "java/lang/String" "coder" "B", .fieldLink "java/lang/String" 15 "java/lang/String" "coder" "B"] ++ objW "java/lang/String" 1 ++ staticW "java/lang/String" 177 Cmp3.yN ++ staticW "java/lang/String" 47 CodL.yN
def tab : Cond := tabOf yN yB 6 none site
def P (a : Addr) (D : Cell) (fV fC : Field) (b : Addr) (A : Cell) (z : Int32) (o len : Nat) (args : Array Value) (s : State) : Prop := args = #[.ref a, .ref b, .int (Int32.ofNat o), .int (Int32.ofNat len), .null] ∧ Blank "java/lang/String" a D s ∧ Found "java/lang/String" "value" "[B" fV s ∧ Found "java/lang/String" "coder" "B" fC s ∧ Ch b A s ∧ StaticIs s "java/lang/String" "COMPACT_STRINGS" "Z" (.int z) ∧ ¬ z = 0 ∧ 0 < len ∧ o + len ≤ A.slots.size ∧ len ≤ 536870912 ∧ ∀ i, i < len → ¬ 255 < cv A (o + i)
def E (a : Addr) (D : Cell) (fV fC : Field) (A : Cell) (o len : Nat) (r : Option Value) (s u : State) : Prop := Got a D fV fC A o len r s u
/-- len > 0, no char of the range above 255: a Latin-1 String of their low bytes -/
theorem law (l : Launch) (a : Addr) (D : Cell) (fV fC : Field) (b : Addr) (A : Cell) (z : Int32) (o len : Nat) : Law l yN 5 4 2 35 yB 6 none site (P a D fV fC b A z o len) (E a D fV fC A o len) [⟨a, fC.slot⟩, ⟨a, fV.slot⟩] 1 len := by
  refine Law.of_walk (plainFor_of_name (by decide +kernel)) (by decide +kernel) (by decide +kernel) (by decide) (fun _ _ h => by rw [h.1]; rfl) (fun _ U U' hal hh h => ⟨h.1, h.2.1.mv hal hh, h.2.2.1.al hal, h.2.2.2.1.al hal, h.2.2.2.2.1.mv hal hh, h.2.2.2.2.2.1.there hal hh, h.2.2.2.2.2.2⟩) (fun r U U' V V' h1 hal h2 h => Got.mv r U U' V V' h1 hal h2 h) ?_
  intro p e s m args below meth c s₁ X0 hexec hbytes hml hret hlk hnm hown hh0 W hP
  obtain ⟨rfl, hB, f1, f2, hA, s1, hz, l0, l1, l2, hp⟩ := hP
  have a31 := hA.1.2.2.2
  have c1 : Steps p.tables e below (s₁.setTop (entryFrame m #[.ref a, .ref b, .int (Int32.ofNat o), .int (Int32.ofNat len), .null] 6)) (s₁.setTop (mkF m 0 #[.val (.ref a), .val (.ref b), .val (.int (Int32.ofNat o)), .val (.int (Int32.ofNat len)), .val .null, .unset] [])) := entry rfl
  have c2 : Steps p.tables e below (s₁.setTop (entryFrame m #[.ref a, .ref b, .int (Int32.ofNat o), .int (Int32.ofNat len), .null] 6)) (s₁.setTop (mkF m 1 #[.val (.ref a), .val (.ref b), .val (.int (Int32.ofNat o)), .val (.int (Int32.ofNat len)), .val .null, .unset] [.ref a])) := c1.trans (by
    refine XS.aloadN X0.here hexec rfl (hb hbytes d0) rfl rfl ?_
    exact Steps.refl _)
  obtain ⟨T3, X3, q3, st3⟩ := X0.oinit hexec hown (wks W (objW "java/lang/String" 1)) (g := (mkF m 1 #[.val (.ref a), .val (.ref b), .val (.int (Int32.ofNat o)), .val (.int (Int32.ofNat len)), .val .null, .unset] [.ref a])) rfl (by rw [hml]; rfl) (rest := []) rfl (hb hbytes d1) (W := 0) (by show 2 * 0 + 0 ≤ _; decide) (Nat.le_of_ble_eq_true rfl) (Nat.le_of_ble_eq_true rfl)
  have hh3 := q3.trans hh0
  have c4 : Steps p.tables e below (s₁.setTop (entryFrame m #[.ref a, .ref b, .int (Int32.ofNat o), .int (Int32.ofNat len), .null] 6)) (T3.setTop (mkF m 27 #[.val (.ref a), .val (.ref b), .val (.int (Int32.ofNat o)), .val (.int (Int32.ofNat len)), .val .null, .unset] [])) := (c2.trans (st3 _ (Steps.refl _))).trans (by
    refine XS.iloadN X3.here hexec rfl (hb hbytes d4) rfl ?_
    refine XS.ifYes X3.here hexec rfl (pc0 := 5) rfl (hb hbytes d5) rfl (i0_ne_t (nz32 (by omega) l0)) (by decide) rfl ?_
    exact Steps.refl _)
  obtain ⟨T5, X5, q5, st5⟩ := X3.sget hexec hown (wk W (.fieldLink "java/lang/String" 38 "java/lang/String" "COMPACT_STRINGS" "Z")) s1 (fun _ _ h => by rw [hh3]; exact h) (g := (mkF m 27 #[.val (.ref a), .val (.ref b), .val (.int (Int32.ofNat o)), .val (.int (Int32.ofNat len)), .val .null, .unset] [])) rfl (hb hbytes d27)
  have hh5 := q5.trans hh3
  have c6 : Steps p.tables e below (s₁.setTop (entryFrame m #[.ref a, .ref b, .int (Int32.ofNat o), .int (Int32.ofNat len), .null] 6)) (T5.setTop (mkF m 30 #[.val (.ref a), .val (.ref b), .val (.int (Int32.ofNat o)), .val (.int (Int32.ofNat len)), .val .null, .unset] [.int z])) := c4.trans (st5 _ (Steps.refl _))
  have c7 : Steps p.tables e below (s₁.setTop (entryFrame m #[.ref a, .ref b, .int (Int32.ofNat o), .int (Int32.ofNat len), .null] 6)) (T5.setTop (mkF m 36 #[.val (.ref a), .val (.ref b), .val (.int (Int32.ofNat o)), .val (.int (Int32.ofNat len)), .val .null, .unset] [.int (Int32.ofNat len), .int (Int32.ofNat o), .ref b])) := c6.trans (by
    refine XS.ifNo X5.here hexec rfl (hb hbytes d30) rfl (i0_eq_f hz) ?_
    refine XS.aloadN X5.here hexec rfl (hb hbytes d33) rfl rfl ?_
    refine XS.iloadN X5.here hexec rfl (hb hbytes d34) rfl ?_
    refine XS.iloadN X5.here hexec rfl (hb hbytes d35) rfl ?_
    exact Steps.refl _)
  obtain ⟨v8, T8, X8, E8, g8⟩ := X5.callS hexec (Cmp3.law l b A o len) hown (wks W (staticW "java/lang/String" 177 Cmp3.yN)) (wk W Cmp3.tab) (W := 0) (Nat.le_of_ble_eq_true rfl) (Nat.le_of_ble_eq_true rfl) (Nat.le_refl _) (by show 0 + len ≤ len; omega) (g := (mkF m 36 #[.val (.ref a), .val (.ref b), .val (.int (Int32.ofNat o)), .val (.int (Int32.ofNat len)), .val .null, .unset] [.int (Int32.ofNat len), .int (Int32.ofNat o), .ref b])) rfl (by rw [hml]; rfl) c7 (argsL := [.ref b, .int (Int32.ofNat o), .int (Int32.ofNat len)]) (rest := []) rfl rfl (by show 2 * 0 + 0 ≤ _; decide) (hb hbytes d36) (⟨rfl, hA.mv X5.warmed.alike hh5, l1, l2, hp⟩)
  obtain ⟨e8, z8⟩ := E8
  obtain ⟨rfl, N, n1, n2, n3, n4, n5, n6⟩ := NewArr.mv _ T5 s _ _ hh5.symm (Vm.Alike.refl _) rfl e8
  rw [hh5] at z8
  have hB1 := hB.keep X8.warmed.alike (n6 _ _ hB.1)
  have hne : s.heap.size ≠ a := (Nat.ne_of_lt (Array.getElem?_eq_some_iff.mp hB.1).1).symm
  have c9 : Steps p.tables e below (s₁.setTop (entryFrame m #[.ref a, .ref b, .int (Int32.ofNat o), .int (Int32.ofNat len), .null] 6)) (T8.setTop (mkF m 39 #[.val (.ref a), .val (.ref b), .val (.int (Int32.ofNat o)), .val (.int (Int32.ofNat len)), .val .null, .unset] [.ref s.heap.size])) := g8
  have c10 : Steps p.tables e below (s₁.setTop (entryFrame m #[.ref a, .ref b, .int (Int32.ofNat o), .int (Int32.ofNat len), .null] 6)) (T8.setTop (mkF m 45 #[.val (.ref a), .val (.ref b), .val (.int (Int32.ofNat o)), .val (.int (Int32.ofNat len)), .val .null, .val (.ref s.heap.size)] [.int (Int32.ofNat N.slots.size), .ref s.heap.size, .ref a])) := by
    have hc : Steps p.tables e below (s₁.setTop (entryFrame m #[.ref a, .ref b, .int (Int32.ofNat o), .int (Int32.ofNat len), .null] 6)) (T8.setTop (mkF m 45 #[.val (.ref a), .val (.ref b), .val (.int (Int32.ofNat o)), .val (.int (Int32.ofNat len)), .val .null, .val (.ref s.heap.size)] [.int (Int32.ofNat len), .ref s.heap.size, .ref a])) := c9.trans (by
      refine XS.astore X8.here hexec rfl (hb hbytes d39) rfl rfl rfl ?_
      refine XS.aloadN X8.here hexec rfl (hb hbytes d41) rfl rfl ?_
      refine XS.aload X8.here hexec rfl (hb hbytes d42) rfl rfl ?_
      refine XS.iloadN X8.here hexec rfl (hb hbytes d44) rfl ?_
      exact Steps.refl _)
    rw [n4]; exact hc
  obtain ⟨v11, T11, X11, E11, g11⟩ := X8.callS hexec (CodL.law l s.heap.size N) hown (wks W (staticW "java/lang/String" 47 CodL.yN)) (wk W CodL.tab) (W := 1) (Nat.le_of_ble_eq_true rfl) (Nat.le_of_ble_eq_true rfl) (Nat.le_refl _) (by show 0 + len + 0 ≤ len; omega) (g := (mkF m 45 #[.val (.ref a), .val (.ref b), .val (.int (Int32.ofNat o)), .val (.int (Int32.ofNat len)), .val .null, .val (.ref s.heap.size)] [.int (Int32.ofNat N.slots.size), .ref s.heap.size, .ref a])) rfl (by rw [hml]; rfl) c10 (argsL := [.ref s.heap.size, .int (Int32.ofNat N.slots.size)]) (rest := [.ref a]) rfl rfl (by show 2 * 0 + (1 + 0) ≤ _; decide) (hb hbytes d45) (⟨rfl, n1⟩)
  obtain ⟨rfl, q11⟩ := E11
  have hB11 := hB1.mv (X8.warmed.alike.symm.trans X11.warmed.alike) q11
  have c12 : Steps p.tables e below (s₁.setTop (entryFrame m #[.ref a, .ref b, .int (Int32.ofNat o), .int (Int32.ofNat len), .null] 6)) (T11.setTop (mkF m 48 #[.val (.ref a), .val (.ref b), .val (.int (Int32.ofNat o)), .val (.int (Int32.ofNat len)), .val .null, .val (.ref s.heap.size)] [.int 0, .ref a])) := g11
  obtain ⟨T13, X13, p13, bl13, sl13, st13⟩ := X11.finit hexec hown (wk W (.fieldLink "java/lang/String" 15 "java/lang/String" "coder" "B")) (Or.inr ⟨_, (wk W (.laysFinal "java/lang/String" "java/lang/String" "coder" "B"))⟩) (Or.inl ⟨rfl, hnm⟩) f2 (Or.inl rfl) hB11 (t := .byte) (by decide +kernel) rfl (g := (mkF m 48 #[.val (.ref a), .val (.ref b), .val (.int (Int32.ofNat o)), .val (.int (Int32.ofNat len)), .val .null, .val (.ref s.heap.size)] [.int 0, .ref a])) rfl (rest := []) rfl (hb hbytes d48)
  have c14 : Steps p.tables e below (s₁.setTop (entryFrame m #[.ref a, .ref b, .int (Int32.ofNat o), .int (Int32.ofNat len), .null] 6)) (T13.setTop (mkF m 54 #[.val (.ref a), .val (.ref b), .val (.int (Int32.ofNat o)), .val (.int (Int32.ofNat len)), .val .null, .val (.ref s.heap.size)] [.ref s.heap.size, .ref a])) := (c12.trans (st13 _ (Steps.refl _))).trans (by
    refine XS.aloadN X13.here hexec rfl (hb hbytes d51) rfl rfl ?_
    refine XS.aload X13.here hexec rfl (hb hbytes d52) rfl rfl ?_
    exact Steps.refl _)
  obtain ⟨T15, X15, p15, bl15, sl15, st15⟩ := X13.finit hexec hown (wk W (.fieldLink "java/lang/String" 9 "java/lang/String" "value" "[B")) (Or.inr ⟨_, (wk W (.laysFinal "java/lang/String" "java/lang/String" "value" "[B"))⟩) (Or.inl ⟨rfl, hnm⟩) f1 (Or.inl rfl) bl13 (t := (.array .byte)) (by decide +kernel) rfl (g := (mkF m 54 #[.val (.ref a), .val (.ref b), .val (.int (Int32.ofNat o)), .val (.int (Int32.ofNat len)), .val .null, .val (.ref s.heap.size)] [.ref s.heap.size, .ref a])) rfl (rest := []) rfl (hb hbytes d54)
  have c16 : Steps p.tables e below (s₁.setTop (entryFrame m #[.ref a, .ref b, .int (Int32.ofNat o), .int (Int32.ofNat len), .null] 6)) (T15.setTop (mkF m 57 #[.val (.ref a), .val (.ref b), .val (.int (Int32.ofNat o)), .val (.int (Int32.ofNat len)), .val .null, .val (.ref s.heap.size)] [])) := c14.trans (st15 _ (Steps.refl _))
  have ap := apart (Or.inr ⟨_, (wk W (.laysFinal "java/lang/String" "java/lang/String" "value" "[B"))⟩) (Or.inr ⟨_, (wk W (.laysFinal "java/lang/String" "java/lang/String" "coder" "B"))⟩) f1 f2 (t₁ := .array .byte) (t₂ := .byte) (by decide +kernel) (by decide +kernel) (by decide)
  have al := X8.warmed.alike.symm.trans X15.warmed.alike
  have n7 : T11.heap[s.heap.size]? = some N := by rw [q11]; exact n1.1
  exact ⟨T15, none, _, _, _, X15, by simp, rfl, by omega, (fun _ => rfl), ⟨rfl, _, N, bl15, ((Same.refl D _).set _ (by simp)).set _ (by simp), sl15, (Cell.slots_setSlot_ne _ ap).trans sl13, n1.keep al (p15.other hne (p13.other hne n7)), n2, by rw [al.findClass]; exact n3, n4, n5, fun y c h1 h2 => p15.other h1 (p13.other h1 (by rw [q11]; exact n6 y c h2)), by rw [p15.2.2, p13.2.2, q11]; exact z8⟩, fun fs hl => c16.trans (X15.returnOut hexec hret (hb hbytes d57) hl)⟩
end New4
namespace New1
def yN : MethodName := ⟨"java/lang/String", "<init>", "([C)V"⟩
abbrev yB : ByteArray := jdk_42_method_3_code
theorem d0 : decode yB 0 = .ok (.aload_n 0, 1) := by decide +kernel
theorem d1 : decode yB 1 = .ok (.aload_n 1, 1) := by decide +kernel
theorem d2 : decode yB 2 = .ok (.iconst 0, 1) := by decide +kernel
theorem d3 : decode yB 3 = .ok (.aload_n 1, 1) := by decide +kernel
theorem d4 : decode yB 4 = .ok (.arraylength, 1) := by decide +kernel
theorem d5 : decode yB 5 = .ok (.aconst_null, 1) := by decide +kernel
theorem d6 : decode yB 6 = .ok (.invokespecial 27, 3) := by decide +kernel
theorem d9 : decode yB 9 = .ok (.return_, 1) := by decide +kernel
def site : List Cond := [New4.tab] ++ initW "java/lang/String" 27 New4.yN
def tab : Cond := tabOf yN yB 2 none site
def P (a : Addr) (D : Cell) (fV fC : Field) (b : Addr) (A : Cell) (z : Int32) (args : Array Value) (s : State) : Prop := args = #[.ref a, .ref b] ∧ Blank "java/lang/String" a D s ∧ Found "java/lang/String" "value" "[B" fV s ∧ Found "java/lang/String" "coder" "B" fC s ∧ Ch b A s ∧ StaticIs s "java/lang/String" "COMPACT_STRINGS" "Z" (.int z) ∧ ¬ z = 0 ∧ 0 < A.slots.size ∧ A.slots.size ≤ 536870912 ∧ ∀ i, i < A.slots.size → ¬ 255 < cv A i
def E (a : Addr) (D : Cell) (fV fC : Field) (A : Cell) (r : Option Value) (s u : State) : Prop := Got a D fV fC A 0 A.slots.size r s u
/-- new String(chars), not empty, no char above 255: a Latin-1 String of their low bytes -/
theorem law (l : Launch) (a : Addr) (D : Cell) (fV fC : Field) (b : Addr) (A : Cell) (z : Int32) : Law l yN 2 1 3 52 yB 2 none site (P a D fV fC b A z) (E a D fV fC A) [⟨a, fC.slot⟩, ⟨a, fV.slot⟩] 1 A.slots.size := by
  refine Law.of_walk (plainFor_of_name (by decide +kernel)) (by decide +kernel) (by decide +kernel) (by decide) (fun _ _ h => by rw [h.1]; rfl) (fun _ U U' hal hh h => ⟨h.1, h.2.1.mv hal hh, h.2.2.1.al hal, h.2.2.2.1.al hal, h.2.2.2.2.1.mv hal hh, h.2.2.2.2.2.1.there hal hh, h.2.2.2.2.2.2⟩) (fun r U U' V V' h1 hal h2 h => Got.mv r U U' V V' h1 hal h2 h) ?_
  intro p e s m args below meth c s₁ X0 hexec hbytes hml hret hlk hnm hown hh0 W hP
  obtain ⟨rfl, hB, f1, f2, hA, s1, hz, l0, l2, hp⟩ := hP
  have c1 : Steps p.tables e below (s₁.setTop (entryFrame m #[.ref a, .ref b] 2)) (s₁.setTop (mkF m 0 #[.val (.ref a), .val (.ref b)] [])) := entry rfl
  have c2 : Steps p.tables e below (s₁.setTop (entryFrame m #[.ref a, .ref b] 2)) (s₁.setTop (mkF m 6 #[.val (.ref a), .val (.ref b)] [.null, .int (Int32.ofNat A.slots.size), .int 0, .ref b, .ref a])) := c1.trans (by
    refine XS.aloadN X0.here hexec rfl (hb hbytes d0) rfl rfl ?_
    refine XS.aloadN X0.here hexec rfl (hb hbytes d1) rfl rfl ?_
    refine iconstV X0.here hexec rfl 0 (hb hbytes d2) (by decide) ?_
    refine XS.aloadN X0.here hexec rfl (hb hbytes d3) rfl rfl ?_
    refine X0.alen hexec (hA.1.mv X0.warmed.alike hh0) rfl rfl (hb hbytes d4) ?_
    refine XS.aconstNull X0.here hexec rfl (hb hbytes d5) ?_
    exact Steps.refl _)
  obtain ⟨v3, T3, X3, E3, g3⟩ := X0.callN hexec (New4.law l a D fV fC b A z 0 A.slots.size) rfl hown (wks W (initW "java/lang/String" 27 New4.yN)) (W New4.tab (by simp only [site, List.mem_cons, List.mem_append, true_or, or_true])) (W := 0) (Nat.le_of_ble_eq_true rfl) (Nat.le_of_ble_eq_true rfl) (Nat.le_refl _) (by show 0 + A.slots.size ≤ A.slots.size; omega) (g := (mkF m 6 #[.val (.ref a), .val (.ref b)] [.null, .int (Int32.ofNat A.slots.size), .int (Int32.ofNat 0), .ref b, .ref a])) rfl (by rw [hml]; rfl) c2 (argsL := [.ref b, .int (Int32.ofNat 0), .int (Int32.ofNat A.slots.size), .null]) (rest := []) rfl rfl (by show 2 * 0 + 0 ≤ _; decide) (hb hbytes d6) (⟨rfl, hB.mv X0.warmed.alike hh0, f1.al X0.warmed.alike, f2.al X0.warmed.alike, hA.mv X0.warmed.alike hh0, s1.there X0.warmed.alike hh0, hz, l0, by omega, l2, fun i hi => by rw [Nat.zero_add]; exact hp i hi⟩)
  have e0 := Got.mv _ s₁ s _ _ hh0.symm (Vm.Alike.refl _) rfl E3
  obtain rfl := e0.1
  have c4 : Steps p.tables e below (s₁.setTop (entryFrame m #[.ref a, .ref b] 2)) (T3.setTop (mkF m 9 #[.val (.ref a), .val (.ref b)] [])) := g3
  exact ⟨T3, none, _, _, _, X3, by simp, rfl, by omega, (fun _ => rfl), e0, fun fs hl => c4.trans (X3.returnOut hexec hret (hb hbytes d9) hl)⟩
theorem pays {l : Launch} {R : Room} {p : Program} {e : Env} {below : List Frame} {s : State} {sargs : Array Value} {len W : Nat} (a : Addr) (D : Cell) (fV fC : Field) (b : Addr) (A : Cell) (z : Int32) (htab : tab.before sargs s = true) (hfr : 4 ≤ R.frames) (hlo : W + 65 ≤ R.locals) :
    Back l R p e below s sargs yN len W (fun A₁ a₁ => A₁.cells + 1 ≤ R.cells ∧ A₁.slots + A.slots.size ≤ R.slots ∧ P a D fV fC b A z a₁ A₁.U) (fun A₁ _ v₁ B₁ => E a D fV fC A v₁ A₁.U B₁.U ∧ B₁.locs = A₁.locs ++ [⟨a, fC.slot⟩, ⟨a, fV.slot⟩] ∧ B₁.cells = A₁.cells + 1 ∧ B₁.slots = A₁.slots + A.slots.size) :=
  (law l a D fV fC b A z).pays htab hfr (by omega)
end New1
/-- the byte, read back as charAt reads it, is the char -/
theorem lo8_mask {x : Int32} (h0 : ¬ x < 0) (h1 : ¬ 255 < x) : lo8 x &&& 255 = x := by
  have t : ∀ k : Fin 256, lo8 (Int32.ofNat k.val) &&& 255 = Int32.ofNat k.val := by decide +kernel
  rw [Int32.lt_iff_toInt_lt] at h0 h1
  have e0 : (0 : Int32).toInt = 0 := rfl
  have e1 : (255 : Int32).toInt = 255 := rfl
  obtain ⟨k, hk⟩ : ∃ k : Nat, x.toInt = k := ⟨x.toInt.toNat, by omega⟩
  have hx : x = Int32.ofNat k := Int32.toInt_inj.mp (by rw [hk, Int32.toInt_ofNat_small (by omega)])
  rw [hx]
  exact t ⟨k, by omega⟩
end StrChars
namespace StrChars.Road
open Jvm Sem ClassFile Op Lib Jvm.Stand Jvm.Free Jvm.Free.XT
open Jvm.Lib.Cold (StaticIs)
abbrev ST : String := "java/lang/String"
/-- every table word that New1's law asks, flat -/
abbrev words : List Jvm.Cond := [.code New1.yN New1.yB 2 none, .initialized ST, .methodLink ST 27 New4.yN, .instanceMethod New4.yN,
  .code New4.yN New4.yB 6 none, .fieldLink ST 38 ST "COMPACT_STRINGS" "Z", .laysFinal ST ST "value" "[B", .fieldLink ST 9 ST "value" "[B", .laysFinal ST ST "coder" "B", .fieldLink ST 15 ST "coder" "B",
  .methodLink ST 1 Lib.objectInit, .instanceMethod Lib.objectInit, .code Lib.objectInit ⟨#[0xb1]⟩ 1 none, .methodLink ST 177 Cmp3.yN, .static Cmp3.yN, .methodLink ST 47 CodL.yN, .static CodL.yN,
  .code Cmp3.yN Cmp3.yB 6 (some (.array .byte)), .initialized U16, .arrayClass .byte, .methodLink U16 115 Cmp5.yN, .static Cmp5.yN, .code Cmp5.yN Cmp5.yB 7 (some .int), .code CodL.yN CodL.yB 2 (some .byte)]
theorem tab_of {a : Array Value} {s : State} (h : ∀ w ∈ words, w.before a s = true) : New1.tab.before a s = true := by
  have h5 : Cmp5.tab.before a s = true := unparts (wk h (.code Cmp5.yN Cmp5.yB 7 (some .int))) (wks h (.initialized Cmp5.yN.cls :: Cmp5.site))
  have hc : CodL.tab.before a s = true := unparts (wk h (.code CodL.yN CodL.yB 2 (some .byte))) (wks h (.initialized CodL.yN.cls :: CodL.site))
  have q5 : ∀ w ∈ Cmp5.tab :: words, w.before a s = true := fun w hw => (List.mem_cons.mp hw).elim (fun e => e ▸ h5) (h w)
  have h3 : Cmp3.tab.before a s = true := unparts (wk q5 (.code Cmp3.yN Cmp3.yB 6 (some (.array .byte)))) (wks q5 (.initialized Cmp3.yN.cls :: Cmp3.site))
  have q3 : ∀ w ∈ Cmp3.tab :: CodL.tab :: words, w.before a s = true := fun w hw => (List.mem_cons.mp hw).elim (fun e => e ▸ h3) fun hw => (List.mem_cons.mp hw).elim (fun e => e ▸ hc) (h w)
  have h4 : New4.tab.before a s = true := unparts (wk q3 (.code New4.yN New4.yB 6 none)) (wks q3 (.initialized New4.yN.cls :: New4.site))
  have q4 : ∀ w ∈ New4.tab :: words, w.before a s = true := fun w hw => (List.mem_cons.mp hw).elim (fun e => e ▸ h4) (h w)
  exact unparts (wk q4 (.code New1.yN New1.yB 2 none)) (wks q4 (.initialized New1.yN.cls :: New1.site))
/-- the words ride from the start Z to the walk's own state -/
theorem moved {Z s : State} {a0 args : Array Value} (hZ : Z.Warmed39 s.vm) (hw : ∀ d ∈ words, d.before a0 Z = true) : ∀ d ∈ words, d.before args s = true := fun d hd => by
  have q := hw d hd
  have t : ∀ d ∈ words, d = .arrayClass .byte ∨ (d.onTables && d.keepsFace) = true := by decide +kernel
  rcases t d hd with rfl | t
  · exact RoadKit.mvA hZ q
  · exact RoadKit.mv hZ q t
/-- WHAT COMES BACK, over the tables of the start Z: h the heap at the call, h' behind it -/
def Q (Z : State) (x : Addr) (A : Cell) (h : Heap) (v : Option Value) (h' : Heap) (L : List Loc) : Prop := v = none ∧ (∀ y ∈ L, y.base = x) ∧ RoadKit.Keep h h' [x] ∧ h'.size = h.size + 1 ∧ RoadKit.Exa Z h' x ST ∧ RoadKit.Fld Z h' x ST "value" "[B" (.ref h.size) ∧ RoadKit.Fld Z h' x ST "coder" "B" (.int 0) ∧
  (∃ V : Cell, RoadKit.Arr Z h' h.size V .byte ∧ V.vm = .none ∧ Z.vm.findClass "[B" = some V.cls ∧ V.slots.size = A.slots.size ∧ ∀ j, j < A.slots.size → V.slots[j]? = some (.int (lo8 (cv A j)))) ∧
  ∀ (O n d : String) (w : Value), RoadKit.Fld Z h x O n d w → RoadKit.slotOf Z O n d ≠ RoadKit.slotOf Z ST "value" "[B" → RoadKit.slotOf Z O n d ≠ RoadKit.slotOf Z ST "coder" "B" → RoadKit.Fld Z h' x O n d w
/-- **new String(chars) AT A CALL, IN THE ROAD'S FORM**: for specialBack behind newO: x the fresh String, b the char[] with the cell A -/
theorem back {p : Program} {l : Launch} {e : Env} {R : Room} {s : State} {args : Array Value} {below : List Frame} {len W : Nat} {Z : State} {a0 : Array Value} {h : Heap} (hZ : Z.Warmed39 s.vm) (hw : ∀ d ∈ words, d.before a0 Z = true) {kI : Nat} (wi : (Jvm.Cond.instantiable ST kI).before a0 Z = true)
    {x b : Addr} {A : Cell} {z : Int32} {v0 c0 : Value} (E : RoadKit.Exa Z h x ST) (V : RoadKit.Fld Z h x ST "value" "[B" v0) (C : RoadKit.Fld Z h x ST "coder" "B" c0) (K : RoadKit.Arr Z h b A .char) (hty : Typed .char A) (S : RoadKit.Sta Z h ST "COMPACT_STRINGS" "Z" (.int z)) (hz : ¬ z = 0)
    (l0 : 0 < A.slots.size) (l2 : A.slots.size ≤ 536870912) (hp : ∀ i, i < A.slots.size → ¬ 255 < cv A i) (hfr : 4 ≤ R.frames) (hlo : W + 65 ≤ R.locals) :
    Back l R p e below s args New1.yN len W (fun P a => a = #[.ref x, .ref b] ∧ P.U.heap = h ∧ P.cells + 1 ≤ R.cells ∧ P.slots + A.slots.size ≤ R.slots)
      (fun P _ v B => ∃ L, Q Z x A h v B.U.heap L ∧ B.locs = P.locs ++ L ∧ B.cells = P.cells + 1 ∧ B.slots = P.slots + A.slots.size) := by
  intro m meth c P g ig mk a X hg hsize hdg hW hn hp'
  obtain ⟨rfl, rfl, r1, r2⟩ := hp'
  have al : Z.vm.Alike P.U.vm := hZ.alike.trans X.warmed.alike
  obtain ⟨D, cfV, kV, iV, fV, hD, gV, stV, knV, obV, asV, slV⟩ := id V
  obtain ⟨D', cfC, kC, iC, fC, hD', gC, stC, -, -, asC, slC⟩ := id C
  cases hD.symm.trans hD'
  obtain ⟨D2, kD, e1, e2, e3, e4, e5⟩ := id E
  cases hD.symm.trans e1
  obtain ⟨c2, k2, i1, i2, i3, -⟩ := Cond.instantiable_spec wi
  cases e2.symm.trans i1
  cases e3.symm.trans i2
  obtain ⟨kU, u1, u2⟩ := al.2.2 _ _ e3
  have hB : Blank ST x D P.U := ⟨hD, ⟨knV, fun q hq => by rw [hq] at obV; cases obV⟩, by rw [al.findClass]; exact e2, kU, u1, by rw [u2]; exact i3, by rw [u2]; exact e5 i3⟩
  have F1 : Found ST "value" "[B" fV P.U := ⟨SBG.found_only al ⟨cfV, kV, iV, gV⟩, stV⟩
  have F2 : Found ST "coder" "B" fC P.U := ⟨SBG.found_only al ⟨cfC, kC, iC, gC⟩, stC⟩
  have hA : Ch b A P.U := ⟨⟨K.1, State.isArrayOf_alike al K.2.1, K.2.2, by omega⟩, hty⟩
  have hS : StaticIs P.U ST "COMPACT_STRINGS" "Z" (.int z) := by
    obtain ⟨cfS, iS, kS, fS, st, cS, t1, t2, t3, t4, t5, t6, t7⟩ := S
    exact StaticIs.there (s := { Z with heap := P.U.heap }) ⟨cfS, iS, kS, fS, st, cS, t1, t2, t3, t4, t5, (fun q => by rw [q] at t6; cases t6), t7⟩ al rfl
  obtain ⟨v, B, X', ⟨⟨hv, E', V', q1, q2, q3, q4, q5, q6, q7, q8, q9, q10, q11⟩, hl, hc, hs⟩, st⟩ := New1.pays x D fV fC b A z (tab_of (moved hZ hw)) hfr hlo m meth c P g ig mk _ X hg hsize hdg hW hn ⟨r1, r2, rfl, hB, F1, F2, hA, hS, hz, l0, l2, hp⟩
  have al' : Z.vm.Alike B.U.vm := hZ.alike.trans X'.warmed.alike
  have hsz : E'.slots.size = D.slots.size := by
    obtain ⟨-, -, -, kB, w1, w2, w3⟩ := q1
    obtain ⟨kB', y1, y2⟩ := al'.2.2 _ _ e3
    rw [q2.2.1] at w1
    cases w1.symm.trans y1
    rw [w3, e5 i3, y2]
  refine ⟨v, B, X', ⟨_, ⟨hv, ?_, ⟨by omega, fun y cy hy hn' => q10 y cy (by simpa using hn') hy, fun y cy hy => ?_⟩, q11, ⟨E', _, q1.1, by rw [q2.2.1]; exact e2, by rw [q2.2.1]; exact e3, by rw [q2.1]; exact obV, fun _ => by rw [hsz]; exact e5 i3⟩,
    ⟨E', cfV, kV, iV, fV, q1.1, gV, stV, by rw [q2.1]; exact knV, by rw [q2.1]; exact obV, by rw [q2.2.1]; exact asV, q3⟩, ⟨E', cfC, kC, iC, fC, q1.1, gC, stC, by rw [q2.1]; exact knV, by rw [q2.1]; exact obV, by rw [q2.2.1]; exact asC, q4⟩,
    ⟨V', ⟨q5.1, State.isArrayOf_alike al'.symm q5.2.1, q5.2.2.1⟩, q6, by rw [← al'.findClass]; exact q7, q8, fun j hj => by have := q9 j hj; rwa [Nat.zero_add] at this⟩, fun O n d w F n1 n2 => ?_⟩, hl, hc, hs⟩, st⟩
  · intro y hy
    simp only [List.mem_cons, List.not_mem_nil, or_false] at hy
    rcases hy with rfl | rfl <;> rfl
  · by_cases q : y = x
    · subst q
      cases hD.symm.trans hy
      exact ⟨E', q1.1, q2.2.1, q2.1, hsz⟩
    · exact ⟨cy, q10 y cy q hy, rfl, rfl, rfl⟩
  · obtain ⟨D3, cf, k, i, f, g1, g2, g3, g4, g5, g6, g7⟩ := F
    cases hD.symm.trans g1
    simp only [RoadKit.slotOf, g2, gV, gC, Option.map_some, Option.getD_some] at n1 n2
    exact ⟨E', cf, k, i, f, q1.1, g2, g3, by rw [q2.1]; exact g4, by rw [q2.1]; exact g5, by rw [q2.2.1]; exact g6, by rw [q2.2.2 f.slot (by simp [n1, n2])]; exact g7⟩
end StrChars.Road
namespace StrChars.Road
open Jvm Sem ClassFile Op Lib Jvm.Stand Jvm.Free Jvm.Free.XT
/-- WHAT COMES BACK, the byte[] as a list of values -/
def QA (Z : State) (x : Addr) (zn : Int32) (cs : List Int32) (h : Heap) (v : Option Value) (h' : Heap) (L : List Loc) : Prop := v = none ∧ (∀ y ∈ L, y.base = x) ∧ RoadKit.Keep h h' [x] ∧ h'.size = h.size + 1 ∧ RoadKit.Exa Z h' x ST ∧ RoadKit.Fld Z h' x ST "value" "[B" (.ref h.size) ∧ RoadKit.Fld Z h' x ST "coder" "B" (.int 0) ∧
  (∃ kb, Z.vm.findClass "[B" = some kb ∧ RoadKit.Arv Z h' h.size kb .byte zn (cs.map fun c => .int (lo8 c)) (.int 0)) ∧
  ∀ (O n d : String) (w : Value), RoadKit.Fld Z h x O n d w → RoadKit.slotOf Z O n d ≠ RoadKit.slotOf Z ST "value" "[B" → RoadKit.slotOf Z O n d ≠ RoadKit.slotOf Z ST "coder" "B" → RoadKit.Fld Z h' x O n d w
/-- **new String(chars) AT A CALL, THE ARRAYS AS LISTS**: the char[] at b holds cs, not empty, no char above 255 -/
theorem backArv {p : Program} {l : Launch} {e : Env} {R : Room} {s : State} {args : Array Value} {below : List Frame} {len W : Nat} {Z : State} {a0 : Array Value} {h : Heap} (hZ : Z.Warmed39 s.vm) (hw : ∀ d ∈ words, d.before a0 Z = true) {kI : Nat} (wi : (Jvm.Cond.instantiable ST kI).before a0 Z = true)
    {x b : Addr} {k : ClassId} {zn z : Int32} {cs : List Int32} {dv v0 c0 : Value} (E : RoadKit.Exa Z h x ST) (V : RoadKit.Fld Z h x ST "value" "[B" v0) (C : RoadKit.Fld Z h x ST "coder" "B" c0) (K : RoadKit.Arv Z h b k .char zn (cs.map Value.int) dv) (S : RoadKit.Sta Z h ST "COMPACT_STRINGS" "Z" (.int z)) (hz : ¬ z = 0)
    (hlen : zn.toNatClampNeg = cs.length) (h0 : 0 < cs.length) (hbig : cs.length ≤ 536870912) (hall : ∀ c ∈ cs, ¬ 255 < c) (hfr : 4 ≤ R.frames) (hlo : W + 65 ≤ R.locals) :
    Back l R p e below s args New1.yN len W (fun P a => a = #[.ref x, .ref b] ∧ P.U.heap = h ∧ P.cells + 1 ≤ R.cells ∧ P.slots + cs.length ≤ R.slots)
      (fun P _ v B => ∃ L, QA Z x zn cs h v B.U.heap L ∧ B.locs = P.locs ++ L ∧ B.cells = P.cells + 1 ∧ B.slots = P.slots + cs.length) := by
  obtain ⟨A, K1, K2, K3, K4, K5, K6⟩ := K
  have e : A.slots.size = cs.length := K3.trans hlen
  have hat : ∀ (i : Nat) (hi : i < cs.length), A.slots[i]? = some (.int cs[i]) := fun i hi => by rw [K5 i (by omega)]; simp [List.getD_eq_getElem?_getD, hi]
  have hcv : ∀ (i : Nat) (hi : i < cs.length), cv A i = cs[i] := fun i hi => by unfold cv; rw [hat i hi]
  have hty : Typed .char A := fun i v hv => by
    have hi : i < A.slots.size := (Array.getElem?_eq_some_iff.mp hv).1
    have q := K5 i hi
    rw [hv] at q
    rw [Option.some.inj q]
    exact K6 i hi
  refine Back.mono (back hZ hw wi E V C K1 hty S hz (by omega) (by omega) (fun i hi => by rw [hcv i (by omega)]; exact hall _ (List.getElem_mem _)) hfr hlo) (fun P a hp => ⟨hp.1, hp.2.1, hp.2.2.1, by rw [e]; exact hp.2.2.2⟩) (fun P a v B hp hq => ?_)
  obtain ⟨L, ⟨q1, q2, q3, q4, q5, q6, q7, ⟨V', v1, v2, v3, v4, v5⟩, q9⟩, hl, hc, hs⟩ := hq
  refine ⟨L, ⟨q1, q2, q3, q4, q5, q6, q7, ⟨V'.cls, v3, V', v1, rfl, by rw [v4, e, hlen], K4, fun i hi => ?_, fun i hi => ?_⟩, q9⟩, hl, hc, by rw [hs, e]⟩
  · have hi' : i < cs.length := by omega
    rw [v5 i (by omega), hcv i hi']; simp [List.getD_eq_getElem?_getD, hi']
  · have hi' : i < cs.length := by omega
    simp only [List.getD_eq_getElem?_getD, List.getElem?_map, List.getElem?_eq_getElem hi', Option.map_some, Option.getD_some]
    exact fits_lo8 _
end StrChars.Road
namespace StrChars.Road
open Jvm Sem ClassFile Op Lib Jvm.Stand Jvm.Free Jvm.Free.XT
/-- WHAT COMES BACK, in the writer's own shape -/
def QV (Z : State) (x : Addr) (N : Int32) (bs : List Int32) (h : Heap) (n0 : Nat) (v : Option Value) (h' : Heap) (L : List Loc) : Prop := v = none ∧ RoadKit.Fr n0 L ∧ RoadKit.Keep h h' [x] ∧ RoadKit.Exa Z h' x ST ∧ RoadKit.Fld Z h' x ST "coder" "B" (.int 0) ∧
  ∃ (t : Addr) (kb : ClassId), n0 ≤ t ∧ h.size ≤ t ∧ ¬ t = x ∧ RoadKit.Fld Z h' x ST "value" "[B" (.ref t) ∧ RoadKit.Arv Z h' t kb .byte N (bs.map Value.int) (.int 0)
/-- **new String(chars) AT A CALL, FOR THE WRITER**: a char[] of n known ints, each 0 to 255 -/
theorem backV {p : Program} {l : Launch} {e : Env} {R : Room} {s : State} {args : Array Value} {below : List Frame} {len W : Nat} {Z : State} {a0 : Array Value} {h : Heap} (hZ : Z.Warmed39 s.vm) (hw : ∀ d ∈ words, d.before a0 Z = true) {kI : Nat} (wi : (Jvm.Cond.instantiable ST kI).before a0 Z = true)
    {x b : Addr} {kC : ClassId} {cs bs : List Int32} {d v0 c0 : Value} {z N : Int32} {n n0 : Nat} (hx0 : n0 ≤ x) (hh0 : n0 ≤ h.size) (E : RoadKit.Exa Z h x ST) (V : RoadKit.Fld Z h x ST "value" "[B" v0) (C : RoadKit.Fld Z h x ST "coder" "B" c0) (K : RoadKit.Arv Z h b kC .char N (cs.map Value.int) d) (S : RoadKit.Sta Z h ST "COMPACT_STRINGS" "Z" (.int z)) (hz : ¬ z = 0)
    (hn : cs.length = n) (hN : N = Int32.ofNat n) (l0 : 0 < n) (l2 : n ≤ 4000) (hp : ∀ c ∈ cs, ¬ c < 0 ∧ ¬ (255 : Int32) < c) (hb : bs = cs.map (fun c => c.toInt8.toInt32)) (hfr : 4 ≤ R.frames) (hlo : W + 65 ≤ R.locals) :
    Back l R p e below s args (⟨"java/lang/String", "<init>", "([C)V"⟩ : MethodName) len W (fun P a => a = #[.ref x, .ref b] ∧ P.U.heap = h ∧ P.cells + 1 ≤ R.cells ∧ P.slots + n ≤ R.slots)
      (fun P _ v B => ∃ L, QV Z x N bs h n0 v B.U.heap L ∧ B.locs = P.locs ++ L ∧ B.cells = P.cells + 1 ∧ B.slots = P.slots + n) := by
  subst hn hN hb
  refine Back.mono (backArv hZ hw wi E V C K S hz (n32 (by omega)) l0 (by omega) (fun c hc => (hp c hc).2) hfr hlo) (fun P a hp => hp) (fun P a v B hp hq => ?_)
  obtain ⟨L, ⟨q1, q2, q3, q4, q5, q6, q7, ⟨kb, v1, v2⟩, q9⟩, hl, hc, hs⟩ := hq
  exact ⟨L, ⟨q1, fun y hy => by rw [q2 y hy]; exact hx0, q3, q5, q7, h.size, kb, hh0, Nat.le_refl _, Nat.ne_of_gt E.lt, q6, by rw [List.map_map]; exact v2⟩, hl, hc, hs⟩
end StrChars.Road
namespace StrChars
open Jvm Sem ClassFile Op Lib Jvm.Stand Jvm.Free.XT Jvm.Free.ALB Jvm.Free.JM Jvm.Free
open Jvm.Lib.Cold (StaticIs)
def hi8 (x : Int32) : Int32 := lo8 (x >>> ((8 : Int32) &&& 31))
/-- what StringUTF16.getChar makes of two bytes -/
def pairCh (u v : Int32) : Int32 := (((u &&& 255) <<< ((0 : Int32) &&& 31)) ||| ((v &&& 255) <<< ((8 : Int32) &&& 31))).toUInt32.toUInt16.toUInt32.toInt32
theorem shr0 (c : Int32) : c >>> ((0 : Int32) &&& 31) = c := by
  have e : ((0 : Int32) &&& 31) = 0 := by decide
  rw [e]
  apply Int32.toBitVec_inj.mp
  rw [Int32.toBitVec_shiftRight]
  have e1 : ((0 : Int32).toBitVec.smod 32) = 0#32 := by decide
  rw [e1, BitVec.sshiftRight_eq']
  exact BitVec.sshiftRight_zero
theorem lo8_and (x : Int32) : (lo8 x &&& 255).toBitVec.toNat = x.toBitVec.toNat % 256 := by
  have h : (lo8 x).toBitVec = (x.toBitVec.signExtend 8).signExtend 32 := by rw [lo8, Int8.toBitVec_toInt32, Int32.toBitVec_toInt8]
  rw [Int32.toBitVec_and, BitVec.toNat_and, h]
  have e : ((x.toBitVec.signExtend 8).signExtend 32).toNat % 256 = x.toBitVec.toNat % 256 := by
    rw [BitVec.toNat_signExtend]
    have hlt := x.toBitVec.isLt
    simp only [BitVec.toNat_setWidth, BitVec.toNat_signExtend]
    split <;> split <;> omega
  rw [← e]
  exact Nat.and_two_pow_sub_one_eq_mod _ 8
theorem pair_says {c : Int32} (h0 : ¬ c < 0) (h1 : ¬ 65535 < c) : pairCh (lo8 c) (hi8 c) = c := by
  rw [Int32.lt_iff_toInt_lt] at h0 h1
  have e0 : (0 : Int32).toInt = 0 := rfl
  have e1 : (65535 : Int32).toInt = 65535 := rfl
  have hc : c.toInt = c.toBitVec.toNat := by
    have := c.toBitVec.isLt
    have e : c.toInt = c.toBitVec.toInt := rfl
    rw [e] at h0 h1
    rw [e]
    rw [BitVec.toInt_eq_toNat_cond] at h0 h1 ⊢
    split at h0 <;> split <;> omega
  have hn : c.toBitVec.toNat < 65536 := by omega
  have a1 := lo8_and c
  have a2 : (hi8 c &&& 255).toBitVec.toNat = c.toBitVec.toNat / 256 := by
    rw [hi8, lo8_and]
    have e : ((8 : Int32) &&& 31) = 8 := by decide
    rw [e, Int32.toBitVec_shiftRight]
    have e2 : ((8 : Int32).toBitVec.smod 32) = 8#32 := by decide
    rw [e2, BitVec.sshiftRight_eq', BitVec.toNat_sshiftRight_of_msb_false (by rw [BitVec.msb_eq_false_iff_two_mul_lt]; omega)]
    show c.toBitVec.toNat >>> 8 % 256 = _
    rw [Nat.shiftRight_eq_div_pow]
    omega
  unfold pairCh
  apply Int32.toBitVec_inj.mp
  apply BitVec.eq_of_toNat_eq
  have f0 : ((0 : Int32) &&& 31) = 0 := by decide
  have f8 : ((8 : Int32) &&& 31) = 8 := by decide
  rw [f0, f8]
  have g : (((lo8 c &&& 255) <<< (0 : Int32)) ||| ((hi8 c &&& 255) <<< (8 : Int32))).toBitVec.toNat = c.toBitVec.toNat := by
    rw [Int32.toBitVec_or, Int32.toBitVec_shiftLeft, Int32.toBitVec_shiftLeft]
    have s0 : ((0 : Int32).toBitVec.smod 32) = 0#32 := by decide
    have s8 : ((8 : Int32).toBitVec.smod 32) = 8#32 := by decide
    rw [s0, s8, BitVec.toNat_or]
    simp only [BitVec.shiftLeft_eq', BitVec.toNat_shiftLeft, a1, a2]
    show (c.toBitVec.toNat % 256) <<< 0 % 2 ^ 32 ||| (c.toBitVec.toNat / 256) <<< 8 % 2 ^ 32 = _
    rw [Nat.shiftLeft_zero, Nat.mod_eq_of_lt (show c.toBitVec.toNat % 256 < 2 ^ 32 by omega), Nat.mod_eq_of_lt (show (c.toBitVec.toNat / 256) <<< 8 < 2 ^ 32 by rw [Nat.shiftLeft_eq]; omega), Nat.or_comm, ← Nat.shiftLeft_add_eq_or_of_lt (by omega), Nat.shiftLeft_eq]
    omega
  show BitVec.toNat (((((lo8 c &&& 255) <<< (0 : Int32)) ||| ((hi8 c &&& 255) <<< (8 : Int32))).toBitVec.setWidth 16).setWidth 32) = _
  rw [BitVec.toNat_setWidth, BitVec.toNat_setWidth, g]
  omega
end StrChars
namespace StrChars
open Jvm Sem ClassFile Op Lib Jvm.Stand Jvm.Free.XT Jvm.Free.ALB Jvm.Free.JM Jvm.Free
open Jvm.Lib.Cold (StaticIs)
theorem shr1 {n : Nat} (h : 2 * n < 2 ^ 31) : Int32.ofNat (2 * n) >>> ((1 : Int32) &&& 31) = Int32.ofNat n := by
  have e : ((1 : Int32) &&& 31) = 1 := by decide
  rw [e]
  apply Int32.toBitVec_inj.mp
  rw [Int32.toBitVec_shiftRight]
  have e1 : ((1 : Int32).toBitVec.smod 32) = 1#32 := by decide
  have hm : (BitVec.ofNat 32 (2 * n)).toNat = 2 * n := by rw [BitVec.toNat_ofNat, Nat.mod_eq_of_lt (by omega)]
  rw [e1, BitVec.sshiftRight_eq']
  apply BitVec.eq_of_toNat_eq
  show ((BitVec.ofNat 32 (2 * n)).sshiftRight 1).toNat = (BitVec.ofNat 32 n).toNat
  rw [BitVec.toNat_sshiftRight_of_msb_false (by rw [BitVec.msb_eq_false_iff_two_mul_lt, hm]; omega), hm, BitVec.toNat_ofNat, Nat.shiftRight_eq_div_pow]
  omega
/-- the array's cell V codes the n chars f 0 .. f (n - 1) by the coder cd, as the JDK does: coder 1 just where some char is above 255 -/
def Cod (cd : Int32) (n : Nat) (f : Nat → Int32) (V : Cell) : Prop := (cd = 0 ∧ V.slots.size = n ∧ ∀ j, j < n → V.slots[j]? = some (.int (lo8 (f j))) ∧ ¬ 255 < f j) ∨ (cd = 1 ∧ V.slots.size = 2 * n ∧ (∀ j, j < n → V.slots[2 * j]? = some (.int (lo8 (f j))) ∧ V.slots[2 * j + 1]? = some (.int (hi8 (f j)))) ∧ ∃ j, j < n ∧ 255 < f j)
theorem Cod.cd {cd : Int32} {n : Nat} {f : Nat → Int32} {V : Cell} (h : Cod cd n f V) : cd = 0 ∨ cd = 1 := h.imp (fun q => q.1) fun q => q.1
theorem Cod.len {cd : Int32} {n : Nat} {f : Nat → Int32} {V : Cell} (h : Cod cd n f V) (hs : V.slots.size < 2 ^ 31) : Int32.ofNat V.slots.size >>> (cd &&& 31) = Int32.ofNat n := by
  rcases h with ⟨rfl, h, -⟩ | ⟨rfl, h, -⟩
  · rw [shr0, h]
  · rw [h, shr1 (by omega)]
/-- **x is a String of the n chars f 0 .. f (n - 1)**, Latin-1 or UTF-16; its array at t has the cell V -/
def Txt (x t : Addr) (V : Cell) (cd : Int32) (n : Nat) (f : Nat → Int32) (U : State) : Prop := Exact "java/lang/String" x U ∧ Has x "java/lang/String" "value" "[B" (.ref t) U ∧ Has x "java/lang/String" "coder" "B" (.int cd) U ∧ XT.Arr .byte t V U ∧ Cod cd n f V ∧ ∀ j, j < n → ¬ f j < 0 ∧ ¬ 65535 < f j
theorem Txt.mv {x t : Addr} {V : Cell} {cd : Int32} {n : Nat} {f : Nat → Int32} {U U' : State} (h : Txt x t V cd n f U) (hal : U.vm.Alike U'.vm) (hh : U'.heap = U.heap) : Txt x t V cd n f U' := ⟨h.1.mv hal hh, h.2.1.mv hal hh, h.2.2.1.mv hal hh, h.2.2.2.1.mv hal hh, h.2.2.2.2⟩
namespace Cdr
def yN : MethodName := ⟨"java/lang/String", "coder", "()B"⟩
abbrev yB : ByteArray := jdk_42_method_152_code
theorem d0 : decode yB 0 = .ok (.getstatic 38, 3) := by decide +kernel
theorem d3 : decode yB 3 = .ok (.ifCond (.eq) 10, 3) := by decide +kernel
theorem d6 : decode yB 6 = .ok (.aload_n 0, 1) := by decide +kernel
theorem d7 : decode yB 7 = .ok (.getfield 15, 3) := by decide +kernel
theorem d10 : decode yB 10 = .ok (.goto 4, 3) := by decide +kernel
theorem d14 : decode yB 14 = .ok (.ireturn, 1) := by decide +kernel
def site : List Cond := [.fieldLink "java/lang/String" 38 "java/lang/String" "COMPACT_STRINGS" "Z", .fieldLink "java/lang/String" 15 "java/lang/String" "coder" "B"]
def tab : Cond := tabOf yN yB 1 (some .byte) site
def P (x : Addr) (cd z : Int32) (args : Array Value) (s : State) : Prop := args = #[.ref x] ∧ Has x "java/lang/String" "coder" "B" (.int cd) s ∧ (cd = 0 ∨ cd = 1) ∧ StaticIs s "java/lang/String" "COMPACT_STRINGS" "Z" (.int z) ∧ ¬ z = 0
def E (cd : Int32) (r : Option Value) (s u : State) : Prop := XT.PureE (some (.int cd)) r s u
theorem law (l : Launch) (x : Addr) (cd z : Int32) : Law l yN 1 0 0 0 yB 1 (some .byte) site (P x cd z) (E cd) [] 0 0 := by
  refine Law.of_walk (plainFor_of_name (by decide +kernel)) (by decide +kernel) (by decide +kernel) (by decide) (fun _ _ h => by rw [h.1]; rfl) (fun _ U U' hal hh h => ⟨h.1, h.2.1.mv hal hh, h.2.2.1, h.2.2.2.1.there hal hh, h.2.2.2.2⟩) (fun r U U' V V' h1 hal h2 h => XT.PureE.mv r U U' V V' h1 hal h2 h) ?_
  intro p e s m args below meth c s₁ X0 hexec hbytes hml hret hlk hnm hown hh0 W hP
  obtain ⟨rfl, hx, hc, s1, hz⟩ := hP
  have c1 : Steps p.tables e below (s₁.setTop (entryFrame m #[.ref x] 1)) (s₁.setTop (mkF m 0 #[.val (.ref x)] [])) := entry rfl
  obtain ⟨T2, X2, q2, st2⟩ := X0.sget hexec hown (wk W (.fieldLink "java/lang/String" 38 "java/lang/String" "COMPACT_STRINGS" "Z")) s1 (fun _ _ h => by rw [hh0]; exact h) (g := (mkF m 0 #[.val (.ref x)] [])) rfl (hb hbytes d0)
  have hh2 := q2.trans hh0
  have c3 : Steps p.tables e below (s₁.setTop (entryFrame m #[.ref x] 1)) (T2.setTop (mkF m 7 #[.val (.ref x)] [.ref x])) := (c1.trans (st2 _ (Steps.refl _))).trans (by
    refine XS.ifNo X2.here hexec rfl (hb hbytes d3) rfl (i0_eq_f hz) ?_
    refine XS.aloadN X2.here hexec rfl (hb hbytes d6) rfl rfl ?_
    exact Steps.refl _)
  obtain ⟨T4, X4, q4, st4⟩ := X2.hget hexec hown (wk W (.fieldLink "java/lang/String" 15 "java/lang/String" "coder" "B")) (hx.mv X2.warmed.alike hh2) (g := (mkF m 7 #[.val (.ref x)] [.ref x])) rfl (rest := []) rfl (hb hbytes d7)
  have c5 : Steps p.tables e below (s₁.setTop (entryFrame m #[.ref x] 1)) (T4.setTop (mkF m 14 #[.val (.ref x)] [.int cd])) := (c3.trans (st4 _ (Steps.refl _))).trans (by
    refine XS.goto X4.here hexec rfl (pc0 := 10) rfl (hb hbytes d10) (by decide) rfl ?_
    exact Steps.refl _)
  exact ⟨T4, some (.int cd), _, _, _, X4, rfl, rfl, rfl, (fun h => by cases h), ⟨rfl, q4.trans hh2⟩, fun fs hl => c5.trans (X4.ireturnOut hexec hret (by rcases hc with rfl | rfl <;> rfl) (Or.inr (Or.inr (Or.inl rfl))) (hb hbytes d14) hl)⟩
end Cdr
namespace Len
def yN : MethodName := ⟨"java/lang/String", "length", "()I"⟩
abbrev yB : ByteArray := jdk_42_method_54_code
theorem d0 : decode yB 0 = .ok (.aload_n 0, 1) := by decide +kernel
theorem d1 : decode yB 1 = .ok (.getfield 9, 3) := by decide +kernel
theorem d4 : decode yB 4 = .ok (.arraylength, 1) := by decide +kernel
theorem d5 : decode yB 5 = .ok (.aload_n 0, 1) := by decide +kernel
theorem d6 : decode yB 6 = .ok (.invokevirtual 335, 3) := by decide +kernel
theorem d9 : decode yB 9 = .ok (.ishr, 1) := by decide +kernel
theorem d10 : decode yB 10 = .ok (.ireturn, 1) := by decide +kernel
def site : List Cond := [.fieldLink "java/lang/String" 9 "java/lang/String" "value" "[B", Cdr.tab] ++ virtW "java/lang/String" 335 "java/lang/String" Cdr.yN Cdr.yN
def tab : Cond := tabOf yN yB 1 (some .int) site
def P (x t : Addr) (V : Cell) (cd : Int32) (n : Nat) (f : Nat → Int32) (z : Int32) (args : Array Value) (s : State) : Prop := args = #[.ref x] ∧ Txt x t V cd n f s ∧ StaticIs s "java/lang/String" "COMPACT_STRINGS" "Z" (.int z) ∧ ¬ z = 0
def E (n : Nat) (r : Option Value) (s u : State) : Prop := XT.PureE (some (.int (Int32.ofNat n))) r s u
/-- length() of a String of n chars, in either coding -/
theorem law (l : Launch) (x t : Addr) (V : Cell) (cd : Int32) (n : Nat) (f : Nat → Int32) (z : Int32) : Law l yN 1 0 1 13 yB 1 (some .int) site (P x t V cd n f z) (E n) [] 0 0 := by
  refine Law.of_walk (plainFor_of_name (by decide +kernel)) (by decide +kernel) (by decide +kernel) (by decide) (fun _ _ h => by rw [h.1]; rfl) (fun _ U U' hal hh h => ⟨h.1, h.2.1.mv hal hh, h.2.2.1.there hal hh, h.2.2.2⟩) (fun r U U' V V' h1 hal h2 h => XT.PureE.mv r U U' V V' h1 hal h2 h) ?_
  intro p e s m args below meth c s₁ X0 hexec hbytes hml hret hlk hnm hown hh0 W hP
  obtain ⟨rfl, hx, s1, hz⟩ := hP
  have v31 := hx.2.2.2.1.2.2.2
  have c1 : Steps p.tables e below (s₁.setTop (entryFrame m #[.ref x] 1)) (s₁.setTop (mkF m 1 #[.val (.ref x)] [.ref x])) := Steps.trans (entry rfl) (by
    show Steps p.tables e below (s₁.setTop (mkF m 0 #[.val (.ref x)] [])) _
    refine XS.aloadN X0.here hexec rfl (hb hbytes d0) rfl rfl ?_
    exact Steps.refl _)
  obtain ⟨T2, X2, q2, st2⟩ := X0.hget hexec hown (wk W (.fieldLink "java/lang/String" 9 "java/lang/String" "value" "[B")) (hx.mv X0.warmed.alike hh0).2.1 (g := (mkF m 1 #[.val (.ref x)] [.ref x])) rfl (rest := []) rfl (hb hbytes d1)
  have hh2 := q2.trans hh0
  have hx2 := hx.mv X2.warmed.alike hh2
  have c3 : Steps p.tables e below (s₁.setTop (entryFrame m #[.ref x] 1)) (T2.setTop (mkF m 6 #[.val (.ref x)] [.ref x, .int (Int32.ofNat V.slots.size)])) := (c1.trans (st2 _ (Steps.refl _))).trans (by
    refine X2.alen hexec hx2.2.2.2.1 rfl rfl (hb hbytes d4) ?_
    refine XS.aloadN X2.here hexec rfl (hb hbytes d5) rfl rfl ?_
    exact Steps.refl _)
  obtain ⟨v4, T4, X4, E4, g4⟩ := X2.callV hexec (Cdr.law l x cd z) hown (wks W (virtW "java/lang/String" 335 "java/lang/String" Cdr.yN Cdr.yN)) rfl (by decide) (wk W Cdr.tab) (W := 1) (Nat.le_of_ble_eq_true rfl) (Nat.le_of_ble_eq_true rfl) (Nat.le_refl _) (Nat.le_refl _) (hx2.1.fc X2.warmed.alike) hx2.1.is (g := (mkF m 6 #[.val (.ref x)] [.ref x, .int (Int32.ofNat V.slots.size)])) rfl (by rw [hml]; rfl) c3 (argsL := []) (rest := [.int (Int32.ofNat V.slots.size)]) rfl rfl (by show 2 * 0 + (1 + 0) ≤ _; decide) (hb hbytes d6) (⟨rfl, hx2.2.2.1, hx.2.2.2.2.1.cd, s1.there X2.warmed.alike hh2, hz⟩)
  obtain ⟨rfl, q4⟩ := E4
  have c5 : Steps p.tables e below (s₁.setTop (entryFrame m #[.ref x] 1)) (T4.setTop (mkF m 10 #[.val (.ref x)] [.int (Int32.ofNat V.slots.size >>> (cd &&& 31))])) := Steps.trans g4 (by
    refine ishr X4.here hexec rfl (hb hbytes d9) rfl ?_
    exact Steps.refl _)
  rw [hx.2.2.2.2.1.len v31] at c5
  exact ⟨T4, some (.int (Int32.ofNat n)), _, _, _, X4, rfl, rfl, rfl, (fun h => by cases h), ⟨rfl, q4.trans hh2⟩, fun fs hl => c5.trans (X4.ireturnOut hexec hret rfl (Or.inl rfl) (hb hbytes d10) hl)⟩
theorem pays {l : Launch} {R : Room} {p : Program} {e : Env} {below : List Frame} {s : State} {sargs : Array Value} {len W : Nat} (x t : Addr) (V : Cell) (cd : Int32) (n : Nat) (f : Nat → Int32) (z : Int32) (htab : tab.before sargs s = true) (hfr : 2 ≤ R.frames) (hlo : W + 25 ≤ R.locals) :
    Back l R p e below s sargs yN len W (fun A₁ a₁ => A₁.cells + 0 ≤ R.cells ∧ A₁.slots + 0 ≤ R.slots ∧ P x t V cd n f z a₁ A₁.U) (fun A₁ _ v₁ B₁ => E n v₁ A₁.U B₁.U ∧ B₁.locs = A₁.locs ++ [] ∧ B₁.cells = A₁.cells + 0 ∧ B₁.slots = A₁.slots + 0) :=
  (law l x t V cd n f z).pays htab hfr (by omega)
end Len
end StrChars
namespace StrChars.Road
open Jvm Sem ClassFile Op Lib Jvm.Stand Jvm.Free Jvm.Free.XT
open Jvm.Lib.Cold (StaticIs)
theorem consq {a : Array Value} {s : State} {c : Jvm.Cond} {L : List Jvm.Cond} (h0 : c.before a s = true) (h : ∀ w ∈ L, w.before a s = true) : ∀ w ∈ c :: L, w.before a s = true := fun w hw => (List.mem_cons.mp hw).elim (fun e => e ▸ h0) (h w)
/-- the words of String.length(), either coding -/
abbrev wordsLen : List Jvm.Cond := [.code Len.yN Len.yB 1 (some .int), .initialized ST, .fieldLink ST 9 ST "value" "[B", .fieldLink ST 38 ST "COMPACT_STRINGS" "Z", .fieldLink ST 15 ST "coder" "B", .code Cdr.yN Cdr.yB 1 (some .byte), .methodLink ST 335 Cdr.yN, .declares Cdr.yN, .selects ST Cdr.yN Cdr.yN, .instanceMethod Cdr.yN]
theorem tabLen_of {a : Array Value} {s : State} (h : ∀ w ∈ wordsLen, w.before a s = true) : Len.tab.before a s = true := by
  have hc : Cdr.tab.before a s = true := unparts (wk h (.code Cdr.yN Cdr.yB 1 (some .byte))) (wks h (.initialized Cdr.yN.cls :: Cdr.site))
  have q := consq hc h
  exact unparts (wk q (.code Len.yN Len.yB 1 (some .int))) (wks q (.initialized Len.yN.cls :: Len.site))
theorem movedLen {Z s : State} {a0 args : Array Value} (hZ : Z.Warmed39 s.vm) (hw : ∀ d ∈ wordsLen, d.before a0 Z = true) : ∀ d ∈ wordsLen, d.before args s = true := fun d hd => by
  have q := hw d hd
  have t : ∀ d ∈ wordsLen, d = .arrayClass .byte ∨ (d.onTables && d.keepsFace) = true := by decide +kernel
  rcases t d hd with rfl | t
  · exact RoadKit.mvA hZ q
  · exact RoadKit.mv hZ q t
/-- the bytes of the chars cs, low before high -/
def wideBytes : List Int32 → List Value
  | [] => []
  | c :: cs => .int (lo8 c) :: .int (hi8 c) :: wideBytes cs
theorem wide_lo (d : Value) : ∀ (cs : List Int32) (j : Nat), j < cs.length → (wideBytes cs).getD (2 * j) d = .int (lo8 (cs.getD j 0))
  | [], j, h => absurd h (Nat.not_lt_zero j)
  | c :: cs, 0, _ => rfl
  | c :: cs, j + 1, h => by
    have q := wide_lo d cs j (by simpa using h)
    rw [show 2 * (j + 1) = 2 * j + 1 + 1 from by omega]
    simpa [wideBytes] using q
theorem wide_hi (d : Value) : ∀ (cs : List Int32) (j : Nat), j < cs.length → (wideBytes cs).getD (2 * j + 1) d = .int (hi8 (cs.getD j 0))
  | [], j, h => absurd h (Nat.not_lt_zero j)
  | c :: cs, 0, _ => rfl
  | c :: cs, j + 1, h => by
    have q := wide_hi d cs j (by simpa using h)
    rw [show 2 * (j + 1) + 1 = 2 * j + 1 + 1 + 1 from by omega]
    simpa [wideBytes] using q
theorem low_at (d : Value) (cs : List Int32) (j : Nat) (h : j < cs.length) : (cs.map fun c => Value.int (lo8 c)).getD j d = .int (lo8 (cs.getD j 0)) := by
  simp [List.getD_eq_getElem?_getD, h]
/-- an array of N2 bytes vs codes the chars cs by the coder cd -/
def CodA (cs : List Int32) (cd N2 : Int32) (vs : List Value) : Prop := (cd = 0 ∧ N2 = Int32.ofNat cs.length ∧ vs = (cs.map fun c => Value.int (lo8 c)) ∧ ∀ c ∈ cs, ¬ 255 < c) ∨ (cd = 1 ∧ N2 = Int32.ofNat (2 * cs.length) ∧ vs = wideBytes cs ∧ ∃ c ∈ cs, 255 < c)
theorem CodA.cod {cs : List Int32} {cd N2 : Int32} {vs : List Value} {V : Cell} (h : CodA cs cd N2 vs) (hn : 2 * cs.length < 2 ^ 31) (hs : V.slots.size = N2.toNatClampNeg) (hv : RoadKit.Has V vs (.int 0)) : Cod cd cs.length (fun j => cs.getD j 0) V := by
  rcases h with ⟨rfl, rfl, rfl, h⟩ | ⟨rfl, rfl, rfl, c, hc, hw⟩
  · rw [n32 (by omega)] at hs
    exact Or.inl ⟨rfl, hs, fun j hj => ⟨by rw [hv j (by omega), low_at _ _ _ hj], by
      have e : cs.getD j 0 = cs[j] := by simp [List.getD_eq_getElem?_getD, hj]
      show ¬ 255 < cs.getD j 0
      rw [e]; exact h _ (List.getElem_mem _)⟩⟩
  · rw [n32 (by omega)] at hs
    obtain ⟨j, hj, rfl⟩ := List.getElem_of_mem hc
    exact Or.inr ⟨rfl, hs, fun j hj => ⟨by rw [hv _ (by omega), wide_lo _ _ _ hj], by rw [hv _ (by omega), wide_hi _ _ _ hj]⟩, j, hj, by
      have e : cs.getD j 0 = cs[j] := by simp [List.getD_eq_getElem?_getD, hj]
      show 255 < cs.getD j 0
      rw [e]; exact hw⟩
/-- an object of exactly java/lang/String, its two fields found: as the laws ask it -/
theorem strObj {Z U : State} {a0 : Array Value} {kI : Nat} (wi : (Jvm.Cond.instantiable ST kI).before a0 Z = true) (al : Z.vm.Alike U.vm) {x : Addr} {v0 c0 : Value} (E : RoadKit.Exa Z U.heap x ST) (V : RoadKit.Fld Z U.heap x ST "value" "[B" v0) (C : RoadKit.Fld Z U.heap x ST "coder" "B" c0) :
    ∃ (D : Cell) (fV fC : Field), Blank ST x D U ∧ Found ST "value" "[B" fV U ∧ Found ST "coder" "B" fC U ∧ D.slots[fV.slot]? = some v0 ∧ D.slots[fC.slot]? = some c0 ∧ RoadKit.slotOf Z ST "value" "[B" = fV.slot ∧ RoadKit.slotOf Z ST "coder" "B" = fC.slot := by
  obtain ⟨D, cfV, kV, iV, fV, hD, gV, stV, knV, obV, asV, slV⟩ := V
  obtain ⟨D', cfC, kC, iC, fC, hD', gC, stC, -, -, asC, slC⟩ := C
  cases hD.symm.trans hD'
  obtain ⟨D2, kD, e1, e2, e3, e4, e5⟩ := E
  cases hD.symm.trans e1
  obtain ⟨c2, k2, i1, i2, i3, -⟩ := Cond.instantiable_spec wi
  cases e2.symm.trans i1
  cases e3.symm.trans i2
  obtain ⟨kU, u1, u2⟩ := al.2.2 _ _ e3
  exact ⟨D, fV, fC, ⟨hD, ⟨knV, fun q hq => by rw [hq] at obV; cases obV⟩, by rw [al.findClass]; exact e2, kU, u1, by rw [u2]; exact i3, by rw [u2]; exact e5 i3⟩, ⟨SBG.found_only al ⟨cfV, kV, iV, gV⟩, stV⟩, ⟨SBG.found_only al ⟨cfC, kC, iC, gC⟩, stC⟩, slV, slC, by simp [RoadKit.slotOf, gV], by simp [RoadKit.slotOf, gC]⟩
theorem sta_is {Z U : State} (al : Z.vm.Alike U.vm) {C n d : String} {v : Value} (S : RoadKit.Sta Z U.heap C n d v) : StaticIs U C n d v := by
  obtain ⟨cfS, iS, kS, fS, st, cS, t1, t2, t3, t4, t5, t6, t7⟩ := S
  exact StaticIs.there (s := { Z with heap := U.heap }) ⟨cfS, iS, kS, fS, st, cS, t1, t2, t3, t4, t5, (fun q => by rw [q] at t6; cases t6), t7⟩ al rfl
/-- **length() OF SUCH A STRING** -/
theorem lenW {p : Program} {l : Launch} {e : Env} {R : Room} {s : State} {args : Array Value} {below : List Frame} {len W : Nat} {Z : State} {a0 : Array Value} {h : Heap} (hZ : Z.Warmed39 s.vm) (hw : ∀ d ∈ wordsLen, d.before a0 Z = true) {kI : Nat} (wi : (Jvm.Cond.instantiable ST kI).before a0 Z = true)
    {x t : Addr} {kb : ClassId} {cs : List Int32} {cd N2 z : Int32} {vs : List Value} (E : RoadKit.Exa Z h x ST) (V : RoadKit.Fld Z h x ST "value" "[B" (.ref t)) (C : RoadKit.Fld Z h x ST "coder" "B" (.int cd)) (K : RoadKit.Arv Z h t kb .byte N2 vs (.int 0)) (hc : CodA cs cd N2 vs) (hb : ∀ c ∈ cs, ¬ c < 0 ∧ ¬ (65535 : Int32) < c)
    (S : RoadKit.Sta Z h ST "COMPACT_STRINGS" "Z" (.int z)) (hz : ¬ z = 0) (l2 : cs.length ≤ 4000) (hfr : 2 ≤ R.frames) (hlo : W + 25 ≤ R.locals) :
    Back l R p e below s args (⟨"java/lang/String", "length", "()I"⟩ : MethodName) len W (fun P a => a = #[.ref x] ∧ P.U.heap = h ∧ P.cells + 0 ≤ R.cells ∧ P.slots + 0 ≤ R.slots)
      (fun P _ v B => ∃ L, (v = some (.int (Int32.ofNat cs.length)) ∧ L = [] ∧ B.U.heap = h) ∧ B.locs = P.locs ++ L ∧ B.cells = P.cells + 0 ∧ B.slots = P.slots + 0) := by
  obtain ⟨A, K1, K2, K3, K4, K5, K6⟩ := K
  have hcod := hc.cod (by omega) K3 K5
  intro m meth c P g ig mk a X hg hsize hdg hW hn hp'
  obtain ⟨rfl, rfl, r1, r2⟩ := hp'
  have al : Z.vm.Alike P.U.vm := hZ.alike.trans X.warmed.alike
  obtain ⟨D, fV, fC, hB, F1, F2, g1, g2, -, -⟩ := strObj wi al E V C
  have hx : Txt x t A cd cs.length (fun j => cs.getD j 0) P.U := ⟨⟨_, hB.2.2.1, D, hB.1, rfl, by cases q : D.vm <;> first | rfl | exact absurd q (hB.2.1.2 _)⟩, Has.of hB F1 g1, Has.of hB F2 g2, ⟨K1.1, State.isArrayOf_alike al K1.2.1, K1.2.2, by rcases hcod with ⟨-, q, -⟩ | ⟨-, q, -⟩ <;> omega⟩, hcod, fun j hj => by
    have e : cs.getD j 0 = cs[j] := by simp [List.getD_eq_getElem?_getD, hj]
    show ¬ cs.getD j 0 < 0 ∧ ¬ 65535 < cs.getD j 0
    rw [e]; exact hb _ (List.getElem_mem _)⟩
  obtain ⟨v, B, X', ⟨⟨hv, hh⟩, hl, hk, hs⟩, st⟩ := Len.pays x t A cd cs.length (fun j => cs.getD j 0) z (tabLen_of (movedLen hZ hw)) hfr hlo m meth c P g ig mk _ X hg hsize hdg hW hn ⟨r1, r2, rfl, hx, sta_is al S, hz⟩
  exact ⟨v, B, X', ⟨[], ⟨hv, rfl, hh⟩, hl, hk, hs⟩, st⟩
end StrChars.Road
namespace StrChars
open Jvm Sem ClassFile Op Lib Jvm.Stand Jvm.Free.XT Jvm.Free.ALB Jvm.Free.JM Jvm.Free
open Jvm.Lib.Cold (StaticIs)
/-- what place i of a byte[]'s cell holds -/
def yv (A : Cell) (i : Nat) : Int32 := match A.slots[i]? with | some (.int x) => x | _ => 0
theorem yv_get {a : Addr} {A : Cell} {U : State} (h : XT.Arr .byte a A U) (ht : Typed .byte A) {i : Nat} (hi : i < A.slots.size) : A.slots[i]? = some (.int (yv A i)) := by
  have e := Array.getElem?_eq_getElem hi
  have f := ht i _ e
  unfold yv; rw [e]
  generalize A.slots[i] = v at f
  cases v <;> simp [fits] at f ⊢
/-- the two arrays are equal, place for place -/
def EqC (A B : Cell) : Prop := A.slots.size = B.slots.size ∧ ∀ i, i < A.slots.size → yv A i = yv B i
/-- a boolean that says whether p -/
def Says01 (q : Prop) (r : Option Value) (s u : State) : Prop := ∃ v : Int32, r = some (.int v) ∧ u.heap = s.heap ∧ ((v = 1 ∧ q) ∨ (v = 0 ∧ ¬ q))
theorem Says01.mv {q : Prop} : ∀ r (U U' V V' : State), U'.heap = U.heap → V.vm.Alike V'.vm → V'.heap = V.heap → Says01 q r U V → Says01 q r U' V' :=
  fun r U U' V V' h1 _ h2 ⟨v, a, b, c⟩ => ⟨v, a, by rw [h1, h2]; exact b, c⟩
namespace LEq
def yN : MethodName := ⟨"java/lang/StringLatin1", "equals", "([B[B)Z"⟩
abbrev yB : ByteArray := jdk_43_method_13_code
theorem d0 : decode yB 0 = .ok (.aload_n 0, 1) := by decide +kernel
theorem d1 : decode yB 1 = .ok (.arraylength, 1) := by decide +kernel
theorem d2 : decode yB 2 = .ok (.aload_n 1, 1) := by decide +kernel
theorem d3 : decode yB 3 = .ok (.arraylength, 1) := by decide +kernel
theorem d4 : decode yB 4 = .ok (.if_icmp (.ne) 30, 3) := by decide +kernel
theorem d7 : decode yB 7 = .ok (.iconst 0, 1) := by decide +kernel
theorem d8 : decode yB 8 = .ok (.istore_n 2, 1) := by decide +kernel
theorem d9 : decode yB 9 = .ok (.iload_n 2, 1) := by decide +kernel
theorem d10 : decode yB 10 = .ok (.aload_n 0, 1) := by decide +kernel
theorem d11 : decode yB 11 = .ok (.arraylength, 1) := by decide +kernel
theorem d12 : decode yB 12 = .ok (.if_icmp (.ge) 20, 3) := by decide +kernel
theorem d15 : decode yB 15 = .ok (.aload_n 0, 1) := by decide +kernel
theorem d16 : decode yB 16 = .ok (.iload_n 2, 1) := by decide +kernel
theorem d17 : decode yB 17 = .ok (.baload, 1) := by decide +kernel
theorem d18 : decode yB 18 = .ok (.aload_n 1, 1) := by decide +kernel
theorem d19 : decode yB 19 = .ok (.iload_n 2, 1) := by decide +kernel
theorem d20 : decode yB 20 = .ok (.baload, 1) := by decide +kernel
theorem d21 : decode yB 21 = .ok (.if_icmp (.eq) 5, 3) := by decide +kernel
theorem d24 : decode yB 24 = .ok (.iconst 0, 1) := by decide +kernel
theorem d25 : decode yB 25 = .ok (.ireturn, 1) := by decide +kernel
theorem d26 : decode yB 26 = .ok (.iinc 2 1, 3) := by decide +kernel
theorem d29 : decode yB 29 = .ok (.goto (-20), 3) := by decide +kernel
theorem d32 : decode yB 32 = .ok (.iconst 1, 1) := by decide +kernel
theorem d33 : decode yB 33 = .ok (.ireturn, 1) := by decide +kernel
theorem d34 : decode yB 34 = .ok (.iconst 0, 1) := by decide +kernel
theorem d35 : decode yB 35 = .ok (.ireturn, 1) := by decide +kernel
def site : List Cond := []
def tab : Cond := tabOf yN yB 3 (some .boolean) site
def P (a : Addr) (A : Cell) (b : Addr) (B : Cell) (args : Array Value) (s : State) : Prop := args = #[.ref a, .ref b] ∧ XT.Arr .byte a A s ∧ Typed .byte A ∧ XT.Arr .byte b B s ∧ Typed .byte B
/-- whether two byte[] are equal, place for place -/
theorem law (l : Launch) (a : Addr) (A : Cell) (b : Addr) (B : Cell) : Law l yN 2 2 0 0 yB 3 (some .boolean) site (P a A b B) (Says01 (EqC A B)) [] 0 0 := by
  refine Law.of_walk (plainFor_of_name (by decide +kernel)) (by decide +kernel) (by decide +kernel) (by decide) (fun _ _ h => by rw [h.1]; rfl) (fun _ U U' hal hh h => ⟨h.1, h.2.1.mv hal hh, h.2.2.1, h.2.2.2.1.mv hal hh, h.2.2.2.2⟩) (fun r U U' V V' h1 hal h2 h => Says01.mv r U U' V V' h1 hal h2 h) ?_
  intro p e s m args below meth c s₁ X0 hexec hbytes hml hret hlk hnm hown hh0 W hP
  obtain ⟨rfl, hA, tA, hB, tB⟩ := hP
  have a31 := hA.2.2.2
  have b31 := hB.2.2.2
  have hA0 := hA.mv X0.warmed.alike hh0
  have hB0 := hB.mv X0.warmed.alike hh0
  have c1 : Steps p.tables e below (s₁.setTop (entryFrame m #[.ref a, .ref b] 3)) (s₁.setTop (mkF m 0 #[.val (.ref a), .val (.ref b), .unset] [])) := entry rfl
  have c2 : Steps p.tables e below (s₁.setTop (entryFrame m #[.ref a, .ref b] 3)) (s₁.setTop (mkF m 4 #[.val (.ref a), .val (.ref b), .unset] [.int (Int32.ofNat B.slots.size), .int (Int32.ofNat A.slots.size)])) := c1.trans (by
    refine XS.aloadN X0.here hexec rfl (hb hbytes d0) rfl rfl ?_
    refine X0.alen hexec hA0 rfl rfl (hb hbytes d1) ?_
    refine XS.aloadN X0.here hexec rfl (hb hbytes d2) rfl rfl ?_
    refine X0.alen hexec hB0 rfl rfl (hb hbytes d3) ?_
    exact Steps.refl _)
  by_cases hs : A.slots.size = B.slots.size
  · have c3 : Steps p.tables e below (s₁.setTop (entryFrame m #[.ref a, .ref b] 3)) (s₁.setTop (mkF m 9 #[.val (.ref a), .val (.ref b), .val (.int 0)] [])) := c2.trans (by
      refine XS.icmpNo X0.here hexec rfl (hb hbytes d4) rfl (ii_ne_f (by rw [hs])) ?_
      refine iconstV X0.here hexec rfl 0 (hb hbytes d7) (by decide) ?_
      refine XS.istoreN X0.here hexec rfl (hb hbytes d8) rfl rfl ?_
      exact Steps.refl _)
    have loop : ∀ (r i : Nat), i + r = A.slots.size → (∀ j, j < i → yv A j = yv B j) → Steps p.tables e below (s₁.setTop (entryFrame m #[.ref a, .ref b] 3)) (s₁.setTop (mkF m 9 #[.val (.ref a), .val (.ref b), .val (.int (Int32.ofNat i))] [])) → ∃ (pc : Nat) (Ls : Array Slot) (v : Int32), (pc = 25 ∨ pc = 33) ∧ ((v = 1 ∧ EqC A B) ∨ (v = 0 ∧ ¬ EqC A B)) ∧ Steps p.tables e below (s₁.setTop (entryFrame m #[.ref a, .ref b] 3)) (s₁.setTop (mkF m pc Ls [.int v])) := by
      intro r
      induction r with
      | zero =>
        intro i hi he cl
        exact ⟨33, _, 1, Or.inr rfl, Or.inl ⟨rfl, hs, fun j hj => he j (by omega)⟩, cl.trans (by
          refine XS.iloadN X0.here hexec rfl (hb hbytes d9) rfl ?_
          refine XS.aloadN X0.here hexec rfl (hb hbytes d10) rfl rfl ?_
          refine X0.alen hexec hA0 rfl rfl (hb hbytes d11) ?_
          refine XS.icmpYes X0.here hexec rfl (pc0 := 12) rfl (hb hbytes d12) rfl (ii_ge_t (nlt32 (by omega) (by omega))) (by decide) rfl ?_
          refine iconstV X0.here hexec rfl 1 (hb hbytes d32) (by decide) ?_
          exact Steps.refl _)⟩
      | succ r ih =>
        intro i hi he cl
        have c4 : Steps p.tables e below (s₁.setTop (entryFrame m #[.ref a, .ref b] 3)) (s₁.setTop (mkF m 21 #[.val (.ref a), .val (.ref b), .val (.int (Int32.ofNat i))] [.int (yv B i), .int (yv A i)])) := cl.trans (by
          refine XS.iloadN X0.here hexec rfl (hb hbytes d9) rfl ?_
          refine XS.aloadN X0.here hexec rfl (hb hbytes d10) rfl rfl ?_
          refine X0.alen hexec hA0 rfl rfl (hb hbytes d11) ?_
          refine XS.icmpNo X0.here hexec rfl (hb hbytes d12) rfl (ii_ge_f (lt32 (by omega) (by omega))) ?_
          refine XS.aloadN X0.here hexec rfl (hb hbytes d15) rfl rfl ?_
          refine XS.iloadN X0.here hexec rfl (hb hbytes d16) rfl ?_
          refine X0.aget hexec hA0 rfl (yv_get hA tA (i := i) (by omega)) rfl rfl (hb hbytes d17) ?_
          refine XS.aloadN X0.here hexec rfl (hb hbytes d18) rfl rfl ?_
          refine XS.iloadN X0.here hexec rfl (hb hbytes d19) rfl ?_
          refine X0.aget hexec hB0 rfl (yv_get hB tB (i := i) (by omega)) rfl rfl (hb hbytes d20) ?_
          exact Steps.refl _)
        by_cases hv : yv A i = yv B i
        · have c5 : Steps p.tables e below (s₁.setTop (entryFrame m #[.ref a, .ref b] 3)) (s₁.setTop (mkF m 9 #[.val (.ref a), .val (.ref b), .val (.int (Int32.ofNat i + 1))] [])) := c4.trans (by
            refine XS.icmpYes X0.here hexec rfl (pc0 := 21) rfl (hb hbytes d21) rfl (ii_eq_t hv) (by decide) rfl ?_
            refine iincV X0.here hexec rfl 1 (hb hbytes d26) (by decide) rfl rfl ?_
            refine XS.goto X0.here hexec rfl (pc0 := 29) rfl (hb hbytes d29) (by decide) rfl ?_
            exact Steps.refl _)
          rw [succ32] at c5
          exact ih (i + 1) (by omega) (fun j hj => by
            by_cases e : j = i
            · rw [e]; exact hv
            · exact he j (by omega)) c5
        · exact ⟨25, _, 0, Or.inl rfl, Or.inr ⟨rfl, fun q => hv (q.2 i (by omega))⟩, c4.trans (by
            refine XS.icmpNo X0.here hexec rfl (hb hbytes d21) rfl (ii_eq_f hv) ?_
            refine iconstV X0.here hexec rfl 0 (hb hbytes d24) (by decide) ?_
            exact Steps.refl _)⟩
    obtain ⟨pc, Ls, v, hpc, hv, cz⟩ := loop A.slots.size 0 (by omega) (fun j hj => absurd hj (Nat.not_lt_zero j)) c3
    have nv : narrow .boolean (.int v) = .int v := by rcases hv with ⟨rfl, -⟩ | ⟨rfl, -⟩ <;> rfl
    rcases hpc with rfl | rfl
    · exact ⟨s₁, some (.int v), _, _, _, X0, rfl, rfl, rfl, (fun h => by cases h), ⟨v, rfl, hh0, hv⟩, fun fs hl => cz.trans (X0.ireturnOut hexec hret nv (Or.inr (Or.inl rfl)) (hb hbytes d25) hl)⟩
    · exact ⟨s₁, some (.int v), _, _, _, X0, rfl, rfl, rfl, (fun h => by cases h), ⟨v, rfl, hh0, hv⟩, fun fs hl => cz.trans (X0.ireturnOut hexec hret nv (Or.inr (Or.inl rfl)) (hb hbytes d33) hl)⟩
  · have c3 : Steps p.tables e below (s₁.setTop (entryFrame m #[.ref a, .ref b] 3)) (s₁.setTop (mkF m 35 #[.val (.ref a), .val (.ref b), .unset] [.int 0])) := c2.trans (by
      refine XS.icmpYes X0.here hexec rfl (pc0 := 4) rfl (hb hbytes d4) rfl (ii_ne_t (ne32 a31 b31 hs)) (by decide) rfl ?_
      refine iconstV X0.here hexec rfl 0 (hb hbytes d34) (by decide) ?_
      exact Steps.refl _)
    exact ⟨s₁, some (.int 0), _, _, _, X0, rfl, rfl, rfl, (fun h => by cases h), ⟨0, rfl, hh0, Or.inr ⟨rfl, fun q => hs q.1⟩⟩, fun fs hl => c3.trans (X0.ireturnOut hexec hret rfl (Or.inr (Or.inl rfl)) (hb hbytes d35) hl)⟩
end LEq
theorem Cod.ty {cd : Int32} {n : Nat} {f : Nat → Int32} {V : Cell} (h : Cod cd n f V) : Typed .byte V := fun i v hv => by
  have hi : i < V.slots.size := (Array.getElem?_eq_some_iff.mp hv).1
  rcases h with ⟨-, k1, k2⟩ | ⟨-, k1, k2, -⟩
  · rw [(k2 i (by omega)).1] at hv; cases hv; exact fits_lo8 _
  · rcases Nat.mod_two_eq_zero_or_one i with e | e
    · obtain ⟨j, rfl⟩ : ∃ j, i = 2 * j := ⟨i / 2, by omega⟩
      rw [(k2 j (by omega)).1] at hv; cases hv; exact fits_lo8 _
    · obtain ⟨j, rfl⟩ : ∃ j, i = 2 * j + 1 := ⟨i / 2, by omega⟩
      rw [(k2 j (by omega)).2] at hv; cases hv; exact fits_lo8 _
/-- the same text -/
def SameT (n : Nat) (f : Nat → Int32) (k : Nat) (g : Nat → Int32) : Prop := n = k ∧ ∀ j, j < n → f j = g j
theorem lo8_inj {x y : Int32} (h0 : ¬ x < 0) (h1 : ¬ 255 < x) (k0 : ¬ y < 0) (k1 : ¬ 255 < y) (h : lo8 x = lo8 y) : x = y := by
  rw [← lo8_mask h0 h1, ← lo8_mask k0 k1, h]
/-- arrays coded by one coder are equal just where the texts are -/
theorem Cod.eqv {cd : Int32} {n k : Nat} {f g : Nat → Int32} {V V' : Cell} (h : Cod cd n f V) (h' : Cod cd k g V') (hf : ∀ j, j < n → ¬ f j < 0 ∧ ¬ 65535 < f j) (hg : ∀ j, j < k → ¬ g j < 0 ∧ ¬ 65535 < g j) : EqC V V' ↔ SameT n f k g := by
  have yvv : ∀ {W : Cell} {i : Nat} {x : Int32}, W.slots[i]? = some (.int x) → yv W i = x := fun q => by unfold yv; rw [q]
  rcases h with ⟨rfl, k1, k2⟩ | ⟨rfl, k1, k2, -⟩
  · rcases h' with ⟨-, m1, m2⟩ | ⟨e, -⟩
    · constructor
      · rintro ⟨e1, e2⟩
        refine ⟨by omega, fun j hj => ?_⟩
        have q := e2 j (by omega)
        rw [yvv (k2 j hj).1, yvv (m2 j (by omega)).1] at q
        exact lo8_inj (hf j hj).1 (k2 j hj).2 (hg j (by omega)).1 (m2 j (by omega)).2 q
      · rintro ⟨rfl, e2⟩
        refine ⟨by omega, fun j hj => ?_⟩
        rw [yvv (k2 j (by omega)).1, yvv (m2 j (by omega)).1, e2 j (by omega)]
    · exact absurd e (by decide)
  · rcases h' with ⟨e, -⟩ | ⟨-, m1, m2, -⟩
    · exact absurd e (by decide)
    · constructor
      · rintro ⟨e1, e2⟩
        refine ⟨by omega, fun j hj => ?_⟩
        have q1 := e2 (2 * j) (by omega)
        have q2 := e2 (2 * j + 1) (by omega)
        rw [yvv (k2 j hj).1, yvv (m2 j (by omega)).1] at q1
        rw [yvv (k2 j hj).2, yvv (m2 j (by omega)).2] at q2
        rw [← pair_says (hf j hj).1 (hf j hj).2, ← pair_says (hg j (by omega)).1 (hg j (by omega)).2, q1, q2]
      · rintro ⟨rfl, e2⟩
        refine ⟨by omega, fun i hi => ?_⟩
        rcases Nat.mod_two_eq_zero_or_one i with e | e
        · obtain ⟨j, rfl⟩ : ∃ j, i = 2 * j := ⟨i / 2, by omega⟩
          rw [yvv (k2 j (by omega)).1, yvv (m2 j (by omega)).1, e2 j (by omega)]
        · obtain ⟨j, rfl⟩ : ∃ j, i = 2 * j + 1 := ⟨i / 2, by omega⟩
          rw [yvv (k2 j (by omega)).2, yvv (m2 j (by omega)).2, e2 j (by omega)]
/-- two codings differ: so do the texts -/
theorem Cod.dif {cd cd' : Int32} {n k : Nat} {f g : Nat → Int32} {V V' : Cell} (h : Cod cd n f V) (h' : Cod cd' k g V') (hne : ¬ cd = cd') : ¬ SameT n f k g := by
  rintro ⟨rfl, e⟩
  rcases h with ⟨rfl, -, k2⟩ | ⟨rfl, -, -, j, hj, hw⟩
  · rcases h' with ⟨rfl, -⟩ | ⟨-, -, -, j, hj, hw⟩
    · exact hne rfl
    · exact (k2 j hj).2 (by rw [e j hj]; exact hw)
  · rcases h' with ⟨-, -, m2⟩ | ⟨rfl, -⟩
    · exact (m2 j hj).2 (by rw [← e j hj]; exact hw)
    · exact hne rfl
/-- an object of exactly C is an instance of C -/
theorem cinst {p : Program} {l : Launch} {e : Env} {R : Room} {s : State} {m : MethodId} {args : Array Value} {below : List Frame} {meth : Method} {c : Code} {T : State} {locs : List Loc} {cells slots : Nat} (X : Stand p l e R s m args below meth c T locs cells slots) (hexec : p.tables.exec = Jvm.exec) {own C : String} {index : Nat} (hown : s.vm.findClass own = some m.cls) (hlink : (Cond.classLink own index C).before args s = true) {a : Addr} (hE : Exact C a T)
    {g : JFrame} (hg : g.method = m) {rest : List Value} (hstack : g.stack = .ref a :: rest) (hdg : decode c.code g.pc = .ok (.instanceof index, 3)) :
    ∃ T', Stand p l e R s m args below meth c T' locs cells slots ∧ T'.heap = T.heap ∧ ∀ target, Steps p.tables e below (T'.setTop { g with pc := g.pc + 3, stack := .int 1 :: rest }) target → Steps p.tables e below (T.setTop g) target := by
  obtain ⟨cB, h1, D, h2, h3, h4⟩ := hE
  have h1' : s.vm.findClass C = some cB := by rw [← X.warmed.alike.findClass]; exact h1
  obtain ⟨vm', X', st⟩ := X.instanceofYes hexec hown hlink h2 h4 h1' (by rw [h3]; exact Jvm.Free.SB.assignable_self _ _) hg hstack hdg
  exact ⟨_, X', rfl, st⟩
theorem cself {p : Program} {l : Launch} {e : Env} {R : Room} {s : State} {m : MethodId} {args : Array Value} {below : List Frame} {meth : Method} {c : Code} {T : State} {locs : List Loc} {cells slots : Nat} (X : Stand p l e R s m args below meth c T locs cells slots) (hexec : p.tables.exec = Jvm.exec) {own C : String} {index : Nat} (hown : s.vm.findClass own = some m.cls) (hlink : (Cond.classLink own index C).before args s = true) {a : Addr} (hE : Exact C a T)
    {g : JFrame} (hg : g.method = m) {rest : List Value} (hstack : g.stack = .ref a :: rest) (hdg : decode c.code g.pc = .ok (.checkcast index, 3)) :
    ∃ T', Stand p l e R s m args below meth c T' locs cells slots ∧ T'.heap = T.heap ∧ ∀ target, Steps p.tables e below (T'.setTop { g with pc := g.pc + 3, stack := .ref a :: rest }) target → Steps p.tables e below (T.setTop g) target := by
  obtain ⟨cB, h1, D, h2, h3, h4⟩ := hE
  have h1' : s.vm.findClass C = some cB := by rw [← X.warmed.alike.findClass]; exact h1
  obtain ⟨vm', X', st⟩ := X.checkcastYes hexec hown hlink h2 h4 h1' (by rw [h3]; exact Jvm.Free.SB.assignable_self _ _) hg hstack hdg
  exact ⟨_, X', rfl, fun t h => st t (by rw [← hstack] at h; exact h)⟩
namespace SEq
def yN : MethodName := ⟨"java/lang/String", "equals", "(Ljava/lang/Object;)Z"⟩
abbrev yB : ByteArray := jdk_42_method_66_code
theorem d0 : decode yB 0 = .ok (.aload_n 0, 1) := by decide +kernel
theorem d1 : decode yB 1 = .ok (.aload_n 1, 1) := by decide +kernel
theorem d2 : decode yB 2 = .ok (.if_acmp (.ne) 5, 3) := by decide +kernel
theorem d5 : decode yB 5 = .ok (.iconst 1, 1) := by decide +kernel
theorem d6 : decode yB 6 = .ok (.ireturn, 1) := by decide +kernel
theorem d7 : decode yB 7 = .ok (.aload_n 1, 1) := by decide +kernel
theorem d8 : decode yB 8 = .ok (.instanceof 10, 3) := by decide +kernel
theorem d11 : decode yB 11 = .ok (.ifCond (.eq) 43, 3) := by decide +kernel
theorem d14 : decode yB 14 = .ok (.aload_n 1, 1) := by decide +kernel
theorem d15 : decode yB 15 = .ok (.checkcast 10, 3) := by decide +kernel
theorem d18 : decode yB 18 = .ok (.astore_n 2, 1) := by decide +kernel
theorem d19 : decode yB 19 = .ok (.getstatic 38, 3) := by decide +kernel
theorem d22 : decode yB 22 = .ok (.ifCond (.eq) 14, 3) := by decide +kernel
theorem d25 : decode yB 25 = .ok (.aload_n 0, 1) := by decide +kernel
theorem d26 : decode yB 26 = .ok (.getfield 15, 3) := by decide +kernel
theorem d29 : decode yB 29 = .ok (.aload_n 2, 1) := by decide +kernel
theorem d30 : decode yB 30 = .ok (.getfield 15, 3) := by decide +kernel
theorem d33 : decode yB 33 = .ok (.if_icmp (.ne) 21, 3) := by decide +kernel
theorem d36 : decode yB 36 = .ok (.aload_n 0, 1) := by decide +kernel
theorem d37 : decode yB 37 = .ok (.getfield 9, 3) := by decide +kernel
theorem d40 : decode yB 40 = .ok (.aload_n 2, 1) := by decide +kernel
theorem d41 : decode yB 41 = .ok (.getfield 9, 3) := by decide +kernel
theorem d44 : decode yB 44 = .ok (.invokestatic 541, 3) := by decide +kernel
theorem d47 : decode yB 47 = .ok (.ifCond (.eq) 7, 3) := by decide +kernel
theorem d50 : decode yB 50 = .ok (.iconst 1, 1) := by decide +kernel
theorem d51 : decode yB 51 = .ok (.goto 4, 3) := by decide +kernel
theorem d54 : decode yB 54 = .ok (.iconst 0, 1) := by decide +kernel
theorem d55 : decode yB 55 = .ok (.ireturn, 1) := by decide +kernel
def site : List Cond := [.classLink "java/lang/String" 10 "java/lang/String", .fieldLink "java/lang/String" 38 "java/lang/String" "COMPACT_STRINGS" "Z", .fieldLink "java/lang/String" 15 "java/lang/String" "coder" "B", .fieldLink "java/lang/String" 9 "java/lang/String" "value" "[B", LEq.tab] ++ staticW "java/lang/String" 541 LEq.yN
def tab : Cond := tabOf yN yB 3 (some .boolean) site
def P (x t : Addr) (V : Cell) (cd : Int32) (n : Nat) (f : Nat → Int32) (y t' : Addr) (V' : Cell) (cd' : Int32) (k : Nat) (g : Nat → Int32) (z : Int32) (args : Array Value) (s : State) : Prop := args = #[.ref x, .ref y] ∧ Txt x t V cd n f s ∧ Txt y t' V' cd' k g s ∧ StaticIs s "java/lang/String" "COMPACT_STRINGS" "Z" (.int z) ∧ ¬ z = 0
/-- equals(Object) of two Strings: whether the texts are the same -/
theorem law (l : Launch) (x t : Addr) (V : Cell) (cd : Int32) (n : Nat) (f : Nat → Int32) (y t' : Addr) (V' : Cell) (cd' : Int32) (k : Nat) (g : Nat → Int32) (z : Int32) : Law l yN 2 1 1 14 yB 3 (some .boolean) site (P x t V cd n f y t' V' cd' k g z) (Says01 (SameT n f k g)) [] 0 0 := by
  refine Law.of_walk (plainFor_of_name (by decide +kernel)) (by decide +kernel) (by decide +kernel) (by decide) (fun _ _ h => by rw [h.1]; rfl) (fun _ U U' hal hh h => ⟨h.1, h.2.1.mv hal hh, h.2.2.1.mv hal hh, h.2.2.2.1.there hal hh, h.2.2.2.2⟩) (fun r U U' V V' h1 hal h2 h => Says01.mv r U U' V V' h1 hal h2 h) ?_
  intro p e s m args below meth c s₁ X0 hexec hbytes hml hret hlk hnm hown hh0 W hP
  obtain ⟨rfl, hx, hy, s1, hz⟩ := hP
  have c1 : Steps p.tables e below (s₁.setTop (entryFrame m #[.ref x, .ref y] 3)) (s₁.setTop (mkF m 2 #[.val (.ref x), .val (.ref y), .unset] [.ref y, .ref x])) := Steps.trans (entry rfl) (by
    show Steps p.tables e below (s₁.setTop (mkF m 0 #[.val (.ref x), .val (.ref y), .unset] [])) _
    refine XS.aloadN X0.here hexec rfl (hb hbytes d0) rfl rfl ?_
    refine XS.aloadN X0.here hexec rfl (hb hbytes d1) rfl rfl ?_
    exact Steps.refl _)
  by_cases hxy : x = y
  · have c2 : Steps p.tables e below (s₁.setTop (entryFrame m #[.ref x, .ref y] 3)) (s₁.setTop (mkF m 6 #[.val (.ref x), .val (.ref y), .unset] [.int 1])) := c1.trans (by
      refine acmpNo X0.here hexec rfl (hb hbytes d2) rfl rfl rfl (by simp [acmp, hxy]) ?_
      refine iconstV X0.here hexec rfl 1 (hb hbytes d5) (by decide) ?_
      exact Steps.refl _)
    subst hxy
    have ec : cd = cd' := by
      obtain ⟨D, fd, a1, a2, a3⟩ := hx.2.2.1
      obtain ⟨D', fd', b1, b2, b3⟩ := hy.2.2.1
      cases a1.symm.trans b1
      obtain ⟨q1, q2, q3, q4⟩ := a2.1
      obtain ⟨r1, r2, r3, r4⟩ := b2.1
      cases q4.symm.trans r4
      cases a3.symm.trans b3; rfl
    have et : t = t' := by
      obtain ⟨D, fd, a1, a2, a3⟩ := hx.2.1
      obtain ⟨D', fd', b1, b2, b3⟩ := hy.2.1
      cases a1.symm.trans b1
      obtain ⟨q1, q2, q3, q4⟩ := a2.1
      obtain ⟨r1, r2, r3, r4⟩ := b2.1
      cases q4.symm.trans r4
      cases a3.symm.trans b3; rfl
    subst ec et
    have ev : V = V' := by cases hx.2.2.2.1.1.symm.trans hy.2.2.2.1.1; rfl
    subst ev
    have hs : SameT n f k g := (Cod.eqv hx.2.2.2.2.1 hy.2.2.2.2.1 hx.2.2.2.2.2 hy.2.2.2.2.2).mp ⟨rfl, fun _ _ => rfl⟩
    exact ⟨s₁, some (.int 1), _, _, _, X0, rfl, rfl, rfl, (fun h => by cases h), ⟨1, rfl, hh0, Or.inl ⟨rfl, hs⟩⟩, fun fs hl => c2.trans (X0.ireturnOut hexec hret rfl (Or.inr (Or.inl rfl)) (hb hbytes d6) hl)⟩
  · have c2 : Steps p.tables e below (s₁.setTop (entryFrame m #[.ref x, .ref y] 3)) (s₁.setTop (mkF m 8 #[.val (.ref x), .val (.ref y), .unset] [.ref y])) := c1.trans (by
      refine acmpYes X0.here hexec rfl (pc0 := 2) rfl (hb hbytes d2) rfl rfl rfl (by simp [acmp, hxy]) (by decide) rfl ?_
      refine XS.aloadN X0.here hexec rfl (hb hbytes d7) rfl rfl ?_
      exact Steps.refl _)
    obtain ⟨T3, X3, q3, st3⟩ := cinst X0 hexec hown (wk W (.classLink "java/lang/String" 10 "java/lang/String")) (hy.mv X0.warmed.alike hh0).1 (g := (mkF m 8 #[.val (.ref x), .val (.ref y), .unset] [.ref y])) rfl (rest := []) rfl (hb hbytes d8)
    have hh3 := q3.trans hh0
    have c4 : Steps p.tables e below (s₁.setTop (entryFrame m #[.ref x, .ref y] 3)) (T3.setTop (mkF m 15 #[.val (.ref x), .val (.ref y), .unset] [.ref y])) := (c2.trans (st3 _ (Steps.refl _))).trans (by
      refine XS.ifNo X3.here hexec rfl (hb hbytes d11) rfl (i0_eq_f (by decide)) ?_
      refine XS.aloadN X3.here hexec rfl (hb hbytes d14) rfl rfl ?_
      exact Steps.refl _)
    obtain ⟨T5, X5, q5, st5⟩ := cself X3 hexec hown (wk W (.classLink "java/lang/String" 10 "java/lang/String")) (hy.mv X3.warmed.alike hh3).1 (g := (mkF m 15 #[.val (.ref x), .val (.ref y), .unset] [.ref y])) rfl (rest := []) rfl (hb hbytes d15)
    have hh5 := q5.trans hh3
    have c6 : Steps p.tables e below (s₁.setTop (entryFrame m #[.ref x, .ref y] 3)) (T5.setTop (mkF m 19 #[.val (.ref x), .val (.ref y), .val (.ref y)] [])) := (c4.trans (st5 _ (Steps.refl _))).trans (by
      refine XS.astoreN X5.here hexec rfl (hb hbytes d18) rfl rfl rfl ?_
      exact Steps.refl _)
    obtain ⟨T7, X7, q7, st7⟩ := X5.sget hexec hown (wk W (.fieldLink "java/lang/String" 38 "java/lang/String" "COMPACT_STRINGS" "Z")) s1 (fun _ _ h => by rw [hh5]; exact h) (g := (mkF m 19 #[.val (.ref x), .val (.ref y), .val (.ref y)] [])) rfl (hb hbytes d19)
    have hh7 := q7.trans hh5
    have c8 : Steps p.tables e below (s₁.setTop (entryFrame m #[.ref x, .ref y] 3)) (T7.setTop (mkF m 26 #[.val (.ref x), .val (.ref y), .val (.ref y)] [.ref x])) := (c6.trans (st7 _ (Steps.refl _))).trans (by
      refine XS.ifNo X7.here hexec rfl (hb hbytes d22) rfl (i0_eq_f hz) ?_
      refine XS.aloadN X7.here hexec rfl (hb hbytes d25) rfl rfl ?_
      exact Steps.refl _)
    obtain ⟨T9, X9, q9, st9⟩ := X7.hget hexec hown (wk W (.fieldLink "java/lang/String" 15 "java/lang/String" "coder" "B")) (hx.mv X7.warmed.alike hh7).2.2.1 (g := (mkF m 26 #[.val (.ref x), .val (.ref y), .val (.ref y)] [.ref x])) rfl (rest := []) rfl (hb hbytes d26)
    have hh9 := q9.trans hh7
    have c10 : Steps p.tables e below (s₁.setTop (entryFrame m #[.ref x, .ref y] 3)) (T9.setTop (mkF m 30 #[.val (.ref x), .val (.ref y), .val (.ref y)] [.ref y, .int cd])) := (c8.trans (st9 _ (Steps.refl _))).trans (by
      refine XS.aloadN X9.here hexec rfl (hb hbytes d29) rfl rfl ?_
      exact Steps.refl _)
    obtain ⟨T11, X11, q11, st11⟩ := X9.hget hexec hown (wk W (.fieldLink "java/lang/String" 15 "java/lang/String" "coder" "B")) (hy.mv X9.warmed.alike hh9).2.2.1 (g := (mkF m 30 #[.val (.ref x), .val (.ref y), .val (.ref y)] [.ref y, .int cd])) rfl (rest := [.int cd]) rfl (hb hbytes d30)
    have hh11 := q11.trans hh9
    have c12 : Steps p.tables e below (s₁.setTop (entryFrame m #[.ref x, .ref y] 3)) (T11.setTop (mkF m 33 #[.val (.ref x), .val (.ref y), .val (.ref y)] [.int cd', .int cd])) := c10.trans (st11 _ (Steps.refl _))
    by_cases hcd : cd = cd'
    · subst hcd
      have c13 : Steps p.tables e below (s₁.setTop (entryFrame m #[.ref x, .ref y] 3)) (T11.setTop (mkF m 37 #[.val (.ref x), .val (.ref y), .val (.ref y)] [.ref x])) := c12.trans (by
        refine XS.icmpNo X11.here hexec rfl (hb hbytes d33) rfl (ii_ne_f rfl) ?_
        refine XS.aloadN X11.here hexec rfl (hb hbytes d36) rfl rfl ?_
        exact Steps.refl _)
      obtain ⟨T14, X14, q14, st14⟩ := X11.hget hexec hown (wk W (.fieldLink "java/lang/String" 9 "java/lang/String" "value" "[B")) (hx.mv X11.warmed.alike hh11).2.1 (g := (mkF m 37 #[.val (.ref x), .val (.ref y), .val (.ref y)] [.ref x])) rfl (rest := []) rfl (hb hbytes d37)
      have hh14 := q14.trans hh11
      have c15 : Steps p.tables e below (s₁.setTop (entryFrame m #[.ref x, .ref y] 3)) (T14.setTop (mkF m 41 #[.val (.ref x), .val (.ref y), .val (.ref y)] [.ref y, .ref t])) := (c13.trans (st14 _ (Steps.refl _))).trans (by
        refine XS.aloadN X14.here hexec rfl (hb hbytes d40) rfl rfl ?_
        exact Steps.refl _)
      obtain ⟨T16, X16, q16, st16⟩ := X14.hget hexec hown (wk W (.fieldLink "java/lang/String" 9 "java/lang/String" "value" "[B")) (hy.mv X14.warmed.alike hh14).2.1 (g := (mkF m 41 #[.val (.ref x), .val (.ref y), .val (.ref y)] [.ref y, .ref t])) rfl (rest := [.ref t]) rfl (hb hbytes d41)
      have hh16 := q16.trans hh14
      have c17 : Steps p.tables e below (s₁.setTop (entryFrame m #[.ref x, .ref y] 3)) (T16.setTop (mkF m 44 #[.val (.ref x), .val (.ref y), .val (.ref y)] [.ref t', .ref t])) := c15.trans (st16 _ (Steps.refl _))
      obtain ⟨v18, T18, X18, E18, g18⟩ := X16.callS hexec (LEq.law l t V t' V') hown (wks W (staticW "java/lang/String" 541 LEq.yN)) (wk W LEq.tab) (W := 0) (Nat.le_of_ble_eq_true rfl) (Nat.le_of_ble_eq_true rfl) (Nat.le_refl _) (Nat.le_refl _) (g := (mkF m 44 #[.val (.ref x), .val (.ref y), .val (.ref y)] [.ref t', .ref t])) rfl (by rw [hml]; rfl) c17 (argsL := [.ref t, .ref t']) (rest := []) rfl rfl (by show 2 * 0 + 0 ≤ _; decide) (hb hbytes d44) (⟨rfl, hx.2.2.2.1.mv X16.warmed.alike hh16, hx.2.2.2.2.1.ty, hy.2.2.2.1.mv X16.warmed.alike hh16, hy.2.2.2.2.1.ty⟩)
      obtain ⟨v, rfl, q18, hv⟩ := E18
      have iff := Cod.eqv hx.2.2.2.2.1 hy.2.2.2.2.1 hx.2.2.2.2.2 hy.2.2.2.2.2
      rcases hv with ⟨rfl, he⟩ | ⟨rfl, he⟩
      · have c19 : Steps p.tables e below (s₁.setTop (entryFrame m #[.ref x, .ref y] 3)) (T18.setTop (mkF m 55 #[.val (.ref x), .val (.ref y), .val (.ref y)] [.int 1])) := Steps.trans g18 (by
          refine XS.ifNo X18.here hexec rfl (hb hbytes d47) rfl (i0_eq_f (by decide)) ?_
          refine iconstV X18.here hexec rfl 1 (hb hbytes d50) (by decide) ?_
          refine XS.goto X18.here hexec rfl (pc0 := 51) rfl (hb hbytes d51) (by decide) rfl ?_
          exact Steps.refl _)
        exact ⟨T18, some (.int 1), _, _, _, X18, rfl, rfl, rfl, (fun h => by cases h), ⟨1, rfl, q18.trans hh16, Or.inl ⟨rfl, iff.mp he⟩⟩, fun fs hl => c19.trans (X18.ireturnOut hexec hret rfl (Or.inr (Or.inl rfl)) (hb hbytes d55) hl)⟩
      · have c19 : Steps p.tables e below (s₁.setTop (entryFrame m #[.ref x, .ref y] 3)) (T18.setTop (mkF m 55 #[.val (.ref x), .val (.ref y), .val (.ref y)] [.int 0])) := Steps.trans g18 (by
          refine XS.ifYes X18.here hexec rfl (pc0 := 47) rfl (hb hbytes d47) rfl (i0_eq_t rfl) (by decide) rfl ?_
          refine iconstV X18.here hexec rfl 0 (hb hbytes d54) (by decide) ?_
          exact Steps.refl _)
        exact ⟨T18, some (.int 0), _, _, _, X18, rfl, rfl, rfl, (fun h => by cases h), ⟨0, rfl, q18.trans hh16, Or.inr ⟨rfl, fun q => he (iff.mpr q)⟩⟩, fun fs hl => c19.trans (X18.ireturnOut hexec hret rfl (Or.inr (Or.inl rfl)) (hb hbytes d55) hl)⟩
    · have c13 : Steps p.tables e below (s₁.setTop (entryFrame m #[.ref x, .ref y] 3)) (T11.setTop (mkF m 55 #[.val (.ref x), .val (.ref y), .val (.ref y)] [.int 0])) := c12.trans (by
        refine XS.icmpYes X11.here hexec rfl (pc0 := 33) rfl (hb hbytes d33) rfl (ii_ne_t hcd) (by decide) rfl ?_
        refine iconstV X11.here hexec rfl 0 (hb hbytes d54) (by decide) ?_
        exact Steps.refl _)
      exact ⟨T11, some (.int 0), _, _, _, X11, rfl, rfl, rfl, (fun h => by cases h), ⟨0, rfl, hh11, Or.inr ⟨rfl, Cod.dif hx.2.2.2.2.1 hy.2.2.2.2.1 hcd⟩⟩, fun fs hl => c13.trans (X11.ireturnOut hexec hret rfl (Or.inr (Or.inl rfl)) (hb hbytes d55) hl)⟩
theorem pays {l : Launch} {R : Room} {p : Program} {e : Env} {below : List Frame} {s : State} {sargs : Array Value} {len W : Nat} (x t : Addr) (V : Cell) (cd : Int32) (n : Nat) (f : Nat → Int32) (y t' : Addr) (V' : Cell) (cd' : Int32) (k : Nat) (g : Nat → Int32) (z : Int32) (htab : tab.before sargs s = true) (hfr : 2 ≤ R.frames) (hlo : W + 28 ≤ R.locals) :
    Back l R p e below s sargs yN len W (fun A₁ a₁ => A₁.cells + 0 ≤ R.cells ∧ A₁.slots + 0 ≤ R.slots ∧ P x t V cd n f y t' V' cd' k g z a₁ A₁.U) (fun A₁ _ v₁ B₁ => Says01 (SameT n f k g) v₁ A₁.U B₁.U ∧ B₁.locs = A₁.locs ++ [] ∧ B₁.cells = A₁.cells + 0 ∧ B₁.slots = A₁.slots + 0) :=
  (law l x t V cd n f y t' V' cd' k g z).pays htab hfr (by omega)
end SEq
end StrChars
namespace StrChars.Road
open Jvm Sem ClassFile Op Lib Jvm.Stand Jvm.Free Jvm.Free.XT
open Jvm.Lib.Cold (StaticIs)
/-- the words of String.equals(Object) -/
abbrev wordsEq : List Jvm.Cond := [.code SEq.yN SEq.yB 3 (some .boolean), .initialized ST, .classLink ST 10 ST, .fieldLink ST 38 ST "COMPACT_STRINGS" "Z", .fieldLink ST 15 ST "coder" "B", .fieldLink ST 9 ST "value" "[B", .methodLink ST 541 LEq.yN, .static LEq.yN, .code LEq.yN LEq.yB 3 (some .boolean), .initialized "java/lang/StringLatin1"]
theorem tabEq_of {a : Array Value} {s : State} (h : ∀ w ∈ wordsEq, w.before a s = true) : SEq.tab.before a s = true := by
  have hl : LEq.tab.before a s = true := unparts (wk h (.code LEq.yN LEq.yB 3 (some .boolean))) (wks h (.initialized LEq.yN.cls :: LEq.site))
  have q := consq hl h
  exact unparts (wk q (.code SEq.yN SEq.yB 3 (some .boolean))) (wks q (.initialized SEq.yN.cls :: SEq.site))
theorem movedEq {Z s : State} {a0 args : Array Value} (hZ : Z.Warmed39 s.vm) (hw : ∀ d ∈ wordsEq, d.before a0 Z = true) : ∀ d ∈ wordsEq, d.before args s = true := fun d hd => by
  have t : ∀ d ∈ wordsEq, (d.onTables && d.keepsFace) = true := by decide +kernel
  exact RoadKit.mv hZ (hw d hd) (t d hd)
/-- the road's facts of a String, as the laws ask it -/
theorem txt_of {Z U : State} {a0 : Array Value} {kI : Nat} (wi : (Jvm.Cond.instantiable ST kI).before a0 Z = true) (al : Z.vm.Alike U.vm) {x t : Addr} {kb : ClassId} {cs : List Int32} {cd N2 : Int32} {vs : List Value} (E : RoadKit.Exa Z U.heap x ST) (V : RoadKit.Fld Z U.heap x ST "value" "[B" (.ref t)) (C : RoadKit.Fld Z U.heap x ST "coder" "B" (.int cd)) (K : RoadKit.Arv Z U.heap t kb .byte N2 vs (.int 0)) (hc : CodA cs cd N2 vs) (hb : ∀ c ∈ cs, ¬ c < 0 ∧ ¬ (65535 : Int32) < c) (l2 : cs.length ≤ 4000) :
    ∃ A, Txt x t A cd cs.length (fun j => cs.getD j 0) U := by
  obtain ⟨A, K1, K2, K3, K4, K5, K6⟩ := K
  have hcod := hc.cod (by omega) K3 K5
  obtain ⟨D, fV, fC, hB, F1, F2, g1, g2, -, -⟩ := strObj wi al E V C
  exact ⟨A, ⟨_, hB.2.2.1, D, hB.1, rfl, by cases q : D.vm <;> first | rfl | exact absurd q (hB.2.1.2 _)⟩, Has.of hB F1 g1, Has.of hB F2 g2, ⟨K1.1, State.isArrayOf_alike al K1.2.1, K1.2.2, by rcases hcod with ⟨-, q, -⟩ | ⟨-, q, -⟩ <;> omega⟩, hcod, fun j hj => by
    have e : cs.getD j 0 = cs[j] := by simp [List.getD_eq_getElem?_getD, hj]
    show ¬ cs.getD j 0 < 0 ∧ ¬ 65535 < cs.getD j 0
    rw [e]; exact hb _ (List.getElem_mem _)⟩
theorem same_list (cs ds : List Int32) : SameT cs.length (fun j => cs.getD j 0) ds.length (fun j => ds.getD j 0) ↔ cs = ds := by
  constructor
  · rintro ⟨e, q⟩
    refine List.ext_getElem e fun j h1 h2 => ?_
    have := q j h1
    simpa [List.getD_eq_getElem?_getD, h1, h2] using this
  · rintro rfl
    exact ⟨rfl, fun _ _ => rfl⟩
/-- **equals(Object) OF TWO SUCH STRINGS**: 1 just where the chars are the same -/
theorem eqW {p : Program} {l : Launch} {e : Env} {R : Room} {s : State} {args : Array Value} {below : List Frame} {len W : Nat} {Z : State} {a0 : Array Value} {h : Heap} (hZ : Z.Warmed39 s.vm) (hw : ∀ d ∈ wordsEq, d.before a0 Z = true) {kI : Nat} (wi : (Jvm.Cond.instantiable ST kI).before a0 Z = true)
    {x t : Addr} {kb : ClassId} {cs : List Int32} {cd N2 : Int32} {vs : List Value} (E : RoadKit.Exa Z h x ST) (V : RoadKit.Fld Z h x ST "value" "[B" (.ref t)) (C : RoadKit.Fld Z h x ST "coder" "B" (.int cd)) (K : RoadKit.Arv Z h t kb .byte N2 vs (.int 0)) (hc : CodA cs cd N2 vs) (hb : ∀ c ∈ cs, ¬ c < 0 ∧ ¬ (65535 : Int32) < c) (l2 : cs.length ≤ 4000)
    {y t' : Addr} {kb' : ClassId} {ds : List Int32} {cd' N2' : Int32} {vs' : List Value} (E' : RoadKit.Exa Z h y ST) (V' : RoadKit.Fld Z h y ST "value" "[B" (.ref t')) (C' : RoadKit.Fld Z h y ST "coder" "B" (.int cd')) (K' : RoadKit.Arv Z h t' kb' .byte N2' vs' (.int 0)) (hc' : CodA ds cd' N2' vs') (hb' : ∀ c ∈ ds, ¬ c < 0 ∧ ¬ (65535 : Int32) < c) (l2' : ds.length ≤ 4000)
    {z : Int32} (S : RoadKit.Sta Z h ST "COMPACT_STRINGS" "Z" (.int z)) (hz : ¬ z = 0) (hfr : 2 ≤ R.frames) (hlo : W + 28 ≤ R.locals) :
    Back l R p e below s args (⟨"java/lang/String", "equals", "(Ljava/lang/Object;)Z"⟩ : MethodName) len W (fun P a => a = #[.ref x, .ref y] ∧ P.U.heap = h ∧ P.cells + 0 ≤ R.cells ∧ P.slots + 0 ≤ R.slots)
      (fun P _ v B => ∃ L, (((v = some (.int 1) ∧ cs = ds) ∨ (v = some (.int 0) ∧ ¬ cs = ds)) ∧ L = [] ∧ B.U.heap = h) ∧ B.locs = P.locs ++ L ∧ B.cells = P.cells + 0 ∧ B.slots = P.slots + 0) := by
  intro m meth c P g ig mk a X hg hsize hdg hW hn hp'
  obtain ⟨rfl, rfl, r1, r2⟩ := hp'
  have al : Z.vm.Alike P.U.vm := hZ.alike.trans X.warmed.alike
  obtain ⟨A, hx⟩ := txt_of wi al E V C K hc hb l2
  obtain ⟨A', hy⟩ := txt_of wi al E' V' C' K' hc' hb' l2'
  obtain ⟨v, B, X', ⟨⟨w, hv, hh, hq⟩, hl, hk, hs⟩, st⟩ := SEq.pays x t A cd cs.length (fun j => cs.getD j 0) y t' A' cd' ds.length (fun j => ds.getD j 0) z (tabEq_of (movedEq hZ hw)) hfr hlo m meth c P g ig mk _ X hg hsize hdg hW hn ⟨r1, r2, rfl, hx, hy, sta_is al S, hz⟩
  refine ⟨v, B, X', ⟨[], ⟨?_, rfl, hh⟩, hl, hk, hs⟩, st⟩
  rcases hq with ⟨rfl, q⟩ | ⟨rfl, q⟩
  · exact Or.inl ⟨hv, (same_list cs ds).mp q⟩
  · exact Or.inr ⟨hv, fun e => q ((same_list cs ds).mpr e)⟩
end StrChars.Road
namespace StrChars.Road
open Jvm Sem ClassFile Op Lib Jvm.Stand Jvm.Free Jvm.Free.XT
open Jvm.Lib.Cold (StaticIs)
/-- what backV says of its String, as the contracts of this text ask it: cs's low bytes, coder 0 -/
theorem codOf {cs : List Int32} {n : Nat} (hn : cs.length = n) (hb : ∀ c ∈ cs, ¬ 255 < c) : CodA cs 0 (Int32.ofNat n) ((cs.map lo8).map Value.int) := Or.inl ⟨rfl, by rw [hn], by simp [List.map_map, Function.comp_def], hb⟩
end StrChars.Road
end Jvm.Pilot.@@N@@
namespace Jvm.Pilot.@@N@@
open Jvm Jvm.ClassFile Sem Op Lib Jvm.Free Jvm.Stand Jvm.LawKit Jvm.RoadKit Bundle Jvm.Pilot.@@N@@.Jvm.D
section OwnKit
variable {Z : State} {a0 : Array Value} {EL : List (String × Nat)} {own : String} {p : Program} {l : Launch} {e : Env} {R : Room} {s : State} {m : MethodId} {args : Array Value} {below : List Frame} {meth : Method} {c : Code} {vm : Vm} {T : State} {h : Heap} {cells slots : Nat}
theorem nle {a b : Nat} (h : Nat.ble a b = true) : a ≤ b := Nat.le_of_ble_eq_true h
theorem olt {x : Addr} {n : Nat} (h : @LT.lt Nat _ x n) : x < n := h
theorem one {x y : Addr} (h : @Ne Nat x y) : x ≠ y := h
theorem own_xr (h1 : Heap) : Ext h1 h1 := ⟨Nat.le_refl _, fun _ _ q => q⟩
theorem own_xt {h1 h2 h3 : Heap} (A : Ext h1 h2) (B : Ext h2 h3) : Ext h1 h3 := ⟨Nat.le_trans A.1 B.1, fun a c q => B.2 a c (A.2 a c q)⟩
theorem own_xk {h1 h2 h3 : Heap} {ws : List Addr} (A : Ext h1 h2) (K : Keep h2 h3 ws) (q : ∀ x ∈ ws, h1.size ≤ x) : Ext h1 h3 :=
  ⟨Nat.le_trans A.1 K.1, fun a c r => K.2.1 a c (A.2 a c r) fun z => absurd (Array.getElem?_eq_some_iff.mp r).1 (Nat.not_lt.mpr (q a z))⟩
theorem own_xw {h1 h2 h3 : Heap} {a : Addr} {sl : Nat} {v : Value} (A : Ext h1 h2) (W : Wr h2 h3 a sl v) (q : h1.size ≤ a) : Ext h1 h3 := own_xk A (Keep.of_wr W) (allS q all0)
/-- the walk stands: over the start with the tables at hand; its heap; the literals' word; all that it wrote is new -/
def Wk (Z : State) (a0 : Array Value) (EL : List (String × Nat)) (own : String) (p : Program) (l : Launch) (e : Env) (R : Room) (s : State) (m : MethodId) (args : Array Value) (below : List Frame) (meth : Method) (c : Code) (vm : Vm) (T : State) (h : Heap) (cells slots : Nat) : Prop :=
  ∃ (locs : List Loc) (k : Nat), Stand p l e R (s.setVm vm) m args below meth c T locs cells slots ∧ T.heap = h ∧ s.Since vm k ∧ k ≤ h.size ∧ Z.Warmed39 vm ∧ vm.findClass own = some m.cls ∧ EW Z a0 EL ∧ CHr Z EL s.vm s.heap vm h ∧ Fr Z.heap.size locs ∧ Ext Z.heap h
theorem Wk.here (W : Wk Z a0 EL own p l e R s m args below meth c vm T h cells slots) : At T m c below := by obtain ⟨_, _, X, -⟩ := W; exact X.here
theorem Wk.al (W : Wk Z a0 EL own p l e R s m args below meth c vm T h cells slots) : Z.vm.Alike vm := by obtain ⟨_, _, -, -, -, -, hZ, -⟩ := W; exact hZ.alike
theorem Wk.old (W : Wk Z a0 EL own p l e R s m args below meth c vm T h cells slots) : Ext Z.heap h := by obtain ⟨_, _, -, -, -, -, -, -, -, -, -, q⟩ := W; exact q
theorem Wk.ch (W : Wk Z a0 EL own p l e R s m args below meth c vm T h cells slots) : CHv Z EL vm h := by obtain ⟨_, _, -, -, -, -, -, -, -, q, -⟩ := W; exact q.1
theorem Wk.sz (W : Wk Z a0 EL own p l e R s m args below meth c vm T h cells slots) : Z.heap.size ≤ h.size := W.old.1
theorem own_safeB {h' : Heap} {x : Addr} (W : Wk Z a0 EL own p l e R s m args below meth c vm T h cells slots) (E : Ext h h') (q : h.size ≤ x) : Safe Z EL vm h' x := Safe.ext E W.ch (Safe.new q)
theorem own_safeE {x : Addr} {C : String} (W : Wk Z a0 EL own p l e R s m args below meth c vm T h cells slots) (E : Exa Z h x C) (h1 : C ≠ "java/lang/String") (h2 : C ≠ "[B") : Safe Z EL vm h x := Safe.exa W.al E h1 h2
/-- a step that grows the heap at its end and leaves the tables -/
theorem own_mkE {T' : State} {h' : Heap} {cells' slots' : Nat} {locs' : List Loc} {k : Nat} (X : Stand p l e R (s.setVm vm) m args below meth c T' locs' cells' slots') (e' : T'.heap = h') (hS : s.Since vm k) (hk : k ≤ h.size) (hZ : Z.Warmed39 vm) (ho : vm.findClass own = some m.cls) (hEW : EW Z a0 EL) (hC : CHr Z EL s.vm s.heap vm h) (N : Fr Z.heap.size locs') (O : Ext Z.heap h) (E : Ext h h') :
    Wk Z a0 EL own p l e R s m args below meth c vm T' h' cells' slots' :=
  ⟨locs', k, X, e', hS, Nat.le_trans hk E.1, hZ, ho, hEW, hC.trans (CHr.ext E hC.1), N, own_xt O E⟩
theorem own_new (W : Wk Z a0 EL own p l e R s m args below meth c vm T h cells slots) (hx : p.tables.exec = Jvm.exec) {C : String} {index n : Nat} (w : (Cond.classLink own index C).before a0 Z = true) (wi : (Cond.instantiable C n).before a0 Z = true) (wz : (Cond.initialized C).before a0 Z = true)
    {g : JFrame} (hg : g.method = m) (hd : decode c.code g.pc = .ok (.new index, 3)) (hc : cells + 1 ≤ R.cells) (hl : slots + n ≤ R.slots) :
    ∃ (x : Addr) (T' : State) (h' : Heap), h.size ≤ x ∧ Wk Z a0 EL own p l e R s m args below meth c vm T' h' (cells + 1) (slots + n) ∧ Ext h h' ∧ Exa Z h' x C ∧ (∀ {O nm d : String} {ty : FieldType}, Laid Z a0 C O nm d → parseFieldDescriptor d = some ty → Fld Z h' x O nm d (defaultValue ty)) ∧ Unt h' x ∧
      ∀ target, Steps p.tables e below (T'.setTop { g with pc := g.pc + 3, stack := .ref x :: g.stack }) target → Steps p.tables e below (T.setTop g) target := by
  obtain ⟨locs, k, X, eT, hS, hk, hZ, ho, hEW, hC, N, O⟩ := W
  obtain ⟨T', h', X', e', E, A, D, U, st⟩ := newO X hx hZ ho w wi wz eT hg hd hc hl
  exact ⟨_, T', h', Nat.le_refl _, own_mkE X' e' hS hk hZ ho hEW hC N O E, E, A, D, U, st⟩
theorem own_newP (W : Wk Z a0 EL own p l e R s m args below meth c vm T h cells slots) (hx : p.tables.exec = Jvm.exec) {aty : ArrayType} (w : (Cond.arrayClass (newarray.typeOf aty)).before a0 Z = true) {g : JFrame} (hg : g.method = m) (hd : decode c.code g.pc = .ok (.newarray aty, 2)) {n : Int32} {rest : List Value} (hs : g.stack = .int n :: rest)
    (hn : ¬ n < 0) {cap : Nat} (hcap : n.toNatClampNeg ≤ cap) (hb : cap * 8 ≤ 536870912) (hc : cells + 1 ≤ R.cells) (hl : slots + cap ≤ R.slots) :
    ∃ (x : Addr) (T' : State) (h' : Heap) (k : ClassId), h.size ≤ x ∧ Wk Z a0 EL own p l e R s m args below meth c vm T' h' (cells + 1) (slots + cap) ∧ Ext h h' ∧ Arv Z h' x k (newarray.typeOf aty) n [] (defaultValue (newarray.typeOf aty)) ∧
      ∀ target, Steps p.tables e below (T'.setTop { g with pc := g.pc + 2, stack := .ref x :: rest }) target → Steps p.tables e below (T.setTop g) target := by
  obtain ⟨locs, k, X, eT, hS, hk, hZ, ho, hEW, hC, N, O⟩ := W
  obtain ⟨T', h', cA, X', e', E, A, st⟩ := newP X hx hZ w eT hg hd hs hn hcap hb hc hl
  exact ⟨_, T', h', cA, Nat.le_refl _, own_mkE X' e' hS hk hZ ho hEW hC N O E, E, Arv.new A hn, st⟩
theorem own_mkW {T' : State} {h' : Heap} {cells' slots' : Nat} {locs' : List Loc} {k : Nat} {a : Addr} {sl : Nat} {v : Value} (X : Stand p l e R (s.setVm vm) m args below meth c T' (locs' ++ [⟨a, sl⟩]) cells' slots') (e' : T'.heap = h') (hS : s.Since vm k) (hk : k ≤ h.size) (hZ : Z.Warmed39 vm) (ho : vm.findClass own = some m.cls) (hEW : EW Z a0 EL) (hC : CHr Z EL s.vm s.heap vm h) (N : Fr Z.heap.size locs') (O : Ext Z.heap h) (W : Wr h h' a sl v) (S : Safe Z EL vm h a) (q : Z.heap.size ≤ a) :
    Wk Z a0 EL own p l e R s m args below meth c vm T' h' cells' slots' :=
  ⟨_, k, X, e', hS, by rw [W.size]; exact hk, hZ, ho, hEW, hC.trans (CHr.wr W S hC.1), N.app fun y hy => by cases List.mem_singleton.mp hy; exact q, own_xw O W q⟩
theorem own_nc {x : Int32} (h : ¬ x < 0 ∧ ¬ 65535 < x) : nar .char x = x := by
  show x.toUInt32.toUInt16.toUInt32.toInt32 = x
  obtain ⟨h1, h2⟩ := h
  rw [Int32.lt_iff_toInt_lt] at h1 h2
  have e1 : (0 : Int32).toInt = 0 := rfl
  have e2 : (65535 : Int32).toInt = 65535 := rfl
  rw [e1] at h1; rw [e2] at h2
  apply Int32.toBitVec_inj.mp
  apply BitVec.eq_of_toNat_eq
  have hx : x.toInt = x.toBitVec.toInt := rfl
  rw [hx, BitVec.toInt_eq_toNat_cond] at h1 h2
  have hlt := x.toBitVec.isLt
  have hn : x.toBitVec.toNat < 65536 := by split at h1 <;> split at h2 <;> omega
  show ((x.toUInt32.toUInt16.toUInt32)).toBitVec.toNat = _
  have e3 : (x.toUInt32.toUInt16.toUInt32).toNat = x.toUInt32.toNat % 65536 := by simp
  have e4 : x.toUInt32.toNat = x.toBitVec.toNat := rfl
  show (x.toUInt32.toUInt16.toUInt32).toNat = _
  rw [e3, e4]; omega
theorem own_stC (W : Wk Z a0 EL own p l e R s m args below meth c vm T h cells slots) (hx : p.tables.exec = Jvm.exec) {a : Addr} {k : ClassId} {z : Int32} {vs : List Value} {dv : Value} (F : Arv Z h a k .char z vs dv) (q : Z.heap.size ≤ a) {j x : Int32} {i : Nat} (hj : ¬ j < 0 ∧ j < z) (hi : j.toNatClampNeg = i) (hl : i < vs.length) (hr : ¬ x < 0 ∧ ¬ 65535 < x)
    {g : JFrame} (hg : g.method = m) {rest : List Value} (hs : g.stack = .int x :: .int j :: .ref a :: rest) (hd : decode c.code g.pc = .ok (.castore, 1)) :
    ∃ (T' : State) (h' : Heap), Wk Z a0 EL own p l e R s m args below meth c vm T' h' cells slots ∧ Wr h h' a i (.int x) ∧ Arv Z h' a k .char z (vs.set i (.int x)) dv ∧
      ∀ target, Steps p.tables e below (T'.setTop { g with pc := g.pc + 1, stack := rest }) target → Steps p.tables e below (T.setTop g) target := by
  obtain ⟨locs, k1, X, eT, hS, hk, hZ, ho, hEW, hC, N, O⟩ := W
  obtain ⟨cl, A, q1, S, q3, H, U⟩ := id F
  obtain ⟨T', h', X', e', Wr', st⟩ := stC X hx hZ eT A (inb_of S hj) hg hs hd
  rw [own_nc hr, hi] at Wr'
  rw [hi] at X'
  have fx : fits .char (.int x) = true := by have := fits_nar_char x; rw [own_nc hr] at this; exact this
  refine ⟨T', h', own_mkW X' e' hS hk hZ ho hEW hC N O Wr' (Safe.arr hZ.alike A (by decide)) q, Wr', ?_, st⟩
  exact Arv.set A q1 S q3 H U fx (by rw [hi]; exact Wr') i hi hl
theorem own_stB (W : Wk Z a0 EL own p l e R s m args below meth c vm T h cells slots) (hx : p.tables.exec = Jvm.exec) {a : Addr} {k : ClassId} {z : Int32} {vs : List Value} {dv : Value} (F : Arv Z h a k .byte z vs dv) (q : Z.heap.size ≤ a) (Sf : Safe Z EL vm h a) {j x : Int32} {i : Nat} (hj : ¬ j < 0 ∧ j < z) (hi : j.toNatClampNeg = i) (hl : i < vs.length)
    {g : JFrame} (hg : g.method = m) {rest : List Value} (hs : g.stack = .int x :: .int j :: .ref a :: rest) (hd : decode c.code g.pc = .ok (.bastore, 1)) :
    ∃ (T' : State) (h' : Heap), Wk Z a0 EL own p l e R s m args below meth c vm T' h' cells slots ∧ Wr h h' a i (.int x.toInt8.toInt32) ∧ Arv Z h' a k .byte z (vs.set i (.int x.toInt8.toInt32)) dv ∧
      ∀ target, Steps p.tables e below (T'.setTop { g with pc := g.pc + 1, stack := rest }) target → Steps p.tables e below (T.setTop g) target := by
  obtain ⟨locs, k1, X, eT, hS, hk, hZ, ho, hEW, hC, N, O⟩ := W
  obtain ⟨cl, A, q1, S, q3, H, U⟩ := id F
  obtain ⟨T', h', X', e', Wr', st⟩ := stB X hx hZ eT A (inb_of S hj) hg hs hd
  have Wr2 : Wr h h' a i (.int x.toInt8.toInt32) := by rw [← hi]; exact Wr'
  rw [hi] at X'
  refine ⟨T', h', own_mkW X' e' hS hk hZ ho hEW hC N O Wr2 Sf q, Wr2, ?_, st⟩
  exact Arv.set A q1 S q3 H U (fits_nar_byte x) Wr' i hi hl
theorem own_put (W : Wk Z a0 EL own p l e R s m args below meth c vm T h cells slots) (hx : p.tables.exec = Jvm.exec) {R0 O n d host C : String} {index kk : Nat} {ty : FieldType} (w : (Cond.fieldLink own index R0 n d).before a0 Z = true ∨ (Cond.fieldLinkNest own index R0 n d host).before a0 Z = true) (via : Via Z R0 O n d)
    {a : Addr} {v old : Value} (F : Fld Z h a O n d old) (E : Exa Z h a C) (L : (Cond.lays C O n d).before a0 Z = true ∨ ((Cond.laysFinal C O n d).before a0 Z = true ∧ own = O ∧ meth.name = "<init>")) (wi : (Cond.instantiable C kk).before a0 Z = true)
    (hty : parseFieldDescriptor d = some ty) (hn : narrow ty v = v) (hf : fits ty v = true) (S : Safe Z EL vm h a) (q : Z.heap.size ≤ a) {g : JFrame} (hg : g.method = m) {rest : List Value} (hs : g.stack = v :: .ref a :: rest) (hd : decode c.code g.pc = .ok (.putfield index, 3)) :
    ∃ (T' : State) (h' : Heap), Wk Z a0 EL own p l e R s m args below meth c vm T' h' cells slots ∧ Wr h h' a (RoadKit.slotOf Z O n d) v ∧ Fld Z h' a O n d v ∧
      ∀ target, Steps p.tables e below (T'.setTop { g with pc := g.pc + 3, stack := rest }) target → Steps p.tables e below (T.setTop g) target := by
  obtain ⟨locs, k1, X, eT, hS, hk, hZ, ho, hEW, hC, N, O'⟩ := W
  obtain ⟨T', h', X', e', W', st⟩ := putF X hx hZ ho w via eT F E L wi hty hn hf hg hs hd
  exact ⟨T', h', own_mkW X' e' hS hk hZ ho hEW hC N O' W' S q, W', F.same W', st⟩
theorem own_get (W : Wk Z a0 EL own p l e R s m args below meth c vm T h cells slots) (hx : p.tables.exec = Jvm.exec) {R0 O n d host : String} {index : Nat} (w : (Cond.fieldLink own index R0 n d).before a0 Z = true ∨ (Cond.fieldLinkNest own index R0 n d host).before a0 Z = true) (via : Via Z R0 O n d)
    {a : Addr} {v : Value} (F : Fld Z h a O n d v) {g : JFrame} (hg : g.method = m) {rest : List Value} (hs : g.stack = .ref a :: rest) (hd : decode c.code g.pc = .ok (.getfield index, 3)) :
    ∃ T' : State, Wk Z a0 EL own p l e R s m args below meth c vm T' h cells slots ∧
      ∀ target, Steps p.tables e below (T'.setTop { g with pc := g.pc + 3, stack := v :: rest }) target → Steps p.tables e below (T.setTop g) target := by
  obtain ⟨locs, k1, X, eT, hS, hk, hZ, ho, hEW, hC, N, O'⟩ := W
  obtain ⟨T', X', e', st⟩ := getF X hx hZ ho w via eT F hg hs hd
  exact ⟨T', ⟨locs, k1, X', e', hS, hk, hZ, ho, hEW, hC, N, O'⟩, st⟩
theorem own_getS (W : Wk Z a0 EL own p l e R s m args below meth c vm T h cells slots) (hx : p.tables.exec = Jvm.exec) {R0 O n d host : String} {index : Nat} (w : (Cond.fieldLink own index R0 n d).before a0 Z = true ∨ (Cond.fieldLinkNest own index R0 n d host).before a0 Z = true) (via : Via Z R0 O n d)
    {v : Value} (F : Sta Z Z.heap O n d v) {g : JFrame} (hg : g.method = m) (hd : decode c.code g.pc = .ok (.getstatic index, 3)) :
    ∃ T' : State, Wk Z a0 EL own p l e R s m args below meth c vm T' h cells slots ∧
      ∀ target, Steps p.tables e below (T'.setTop { g with pc := g.pc + 3, stack := v :: g.stack }) target → Steps p.tables e below (T.setTop g) target := by
  obtain ⟨locs, k1, X, eT, hS, hk, hZ, ho, hEW, hC, N, O'⟩ := W
  obtain ⟨T', X', e', st⟩ := getS2 X hx hZ ho w via eT (F.ext O') hg hd
  exact ⟨T', ⟨locs, k1, X', e', hS, hk, hZ, ho, hEW, hC, N, O'⟩, st⟩
theorem own_initO (W : Wk Z a0 EL own p l e R s m args below meth c vm T h cells slots) (hx : p.tables.exec = Jvm.exec) {idx : Nat} (w1 : (Cond.methodLink own idx Lib.objectInit).before a0 Z = true) (w2 : (Cond.instanceMethod Lib.objectInit).before a0 Z = true)
    (w3 : (Cond.code Lib.objectInit ⟨#[0xb1]⟩ 1 none).before a0 Z = true) {g : JFrame} (hg : g.method = m) (hsize : g.locals.size = c.maxLocals) {a : Addr} {rest : List Value} (hs : g.stack = .ref a :: rest) (hd : decode c.code g.pc = .ok (.invokespecial idx, 3))
    (hf : 1 ≤ R.frames) {Wd : Nat} (hW : 2 * g.monitorRoom + (rest.map fun v => v.category).sum ≤ Wd) (hl : Wd + 12 ≤ R.locals) :
    ∃ T' : State, Wk Z a0 EL own p l e R s m args below meth c vm T' h cells slots ∧ ∀ target, Steps p.tables e below (T'.setTop { g with pc := g.pc + 3, stack := rest }) target → Steps p.tables e below (T.setTop g) target := by
  obtain ⟨locs, k1, X, eT, hS, hk, hZ, ho, hEW, hC, N, O'⟩ := W
  obtain ⟨T', X', e', st⟩ := initO X hx hZ ho w1 w2 w3 eT hg hsize hs hd hf hW hl
  exact ⟨T', ⟨locs, k1, X', e', hS, hk, hZ, ho, hEW, hC, N, O'⟩, st⟩
theorem own_ldcI (W : Wk Z a0 EL own p l e R s m args below meth c vm T h cells slots) (hx : p.tables.exec = Jvm.exec) {index : Nat} {v : Int32} (w : (Cond.constant own index v).before a0 Z = true) {g : JFrame} (hg : g.method = m) (hd : decode c.code g.pc = .ok (.ldc index, 2)) :
    ∀ target, Steps p.tables e below (T.setTop { g with pc := g.pc + 2, stack := .int v :: g.stack }) target → Steps p.tables e below (T.setTop g) target := by
  obtain ⟨locs, k1, X, eT, hS, hk, hZ, ho, hEW, hC, N, O'⟩ := W
  exact X.ldcInt hx ho (mv (s := s.setVm vm) hZ w) hg hd
theorem own_alen (W : Wk Z a0 EL own p l e R s m args below meth c vm T h cells slots) (hx : p.tables.exec = Jvm.exec) {a : Addr} {k : ClassId} {ty : FieldType} {z : Int32} {vs : List Value} {dv : Value} (F : Arv Z h a k ty z vs dv) {g : JFrame} (hg : g.method = m) {rest : List Value} (hs : g.stack = .ref a :: rest) (hd : decode c.code g.pc = .ok (.arraylength, 1)) :
    ∀ target, Steps p.tables e below (T.setTop { g with pc := g.pc + 1, stack := .int z :: rest }) target → Steps p.tables e below (T.setTop g) target := by
  obtain ⟨locs, k1, X, eT, hS, hk, hZ, ho, hEW, hC, N, O'⟩ := W
  obtain ⟨cl, A, q1, S, q3, H, U⟩ := F
  intro target q
  have e1 := len_of S q3
  refine X.arraylength hx (by rw [eT]; exact A.1) (State.isArrayOf_alike (T := s.setVm vm) hZ.alike A.2.1) hg hs hd _ ?_
  rw [e1]; exact q
theorem own_cal (W : Wk Z a0 EL own p l e R s m args below meth c vm T h cells slots) (hx : p.tables.exec = Jvm.exec) {a : Addr} {k : ClassId} {z : Int32} {vs : List Value} {dv : Value} (F : Arv Z h a k .char z vs dv) {j x : Int32} (hj : ¬ j < 0 ∧ j < z) (hv : vs.getD j.toNatClampNeg dv = .int x) {g : JFrame} (hg : g.method = m) {rest : List Value} (hs : g.stack = .int j :: .ref a :: rest) (hd : decode c.code g.pc = .ok (.caload, 1)) :
    ∀ target, Steps p.tables e below (T.setTop { g with pc := g.pc + 1, stack := .int x :: rest }) target → Steps p.tables e below (T.setTop g) target := by
  obtain ⟨locs, k1, X, eT, hS, hk, hZ, ho, hEW, hC, N, O'⟩ := W
  obtain ⟨cl, A, q1, S, q3, H, U⟩ := F
  exact X.caload hx (by rw [eT]; exact A.1) (State.isArrayOf_alike (T := s.setVm vm) hZ.alike A.2.1) A.2.2 (inb_of S hj) (H.at (inb_of S hj) hv) hg hs hd
theorem own_bal (W : Wk Z a0 EL own p l e R s m args below meth c vm T h cells slots) (hx : p.tables.exec = Jvm.exec) {a : Addr} {k : ClassId} {z : Int32} {vs : List Value} {dv : Value} (F : Arv Z h a k .byte z vs dv) {j x : Int32} (hj : ¬ j < 0 ∧ j < z) (hv : vs.getD j.toNatClampNeg dv = .int x) {g : JFrame} (hg : g.method = m) {rest : List Value} (hs : g.stack = .int j :: .ref a :: rest) (hd : decode c.code g.pc = .ok (.baload, 1)) :
    ∀ target, Steps p.tables e below (T.setTop { g with pc := g.pc + 1, stack := .int x :: rest }) target → Steps p.tables e below (T.setTop g) target := by
  obtain ⟨locs, k1, X, eT, hS, hk, hZ, ho, hEW, hC, N, O'⟩ := W
  obtain ⟨cl, A, q1, S, q3, H, U⟩ := F
  exact X.baloadBytes hx (by rw [eT]; exact A.1) (State.isArrayOf_alike (T := s.setVm vm) hZ.alike A.2.1) A.2.2 (inb_of S hj) (H.at (inb_of S hj) hv) hg hs hd
theorem own_irem (W : Wk Z a0 EL own p l e R s m args below meth c vm T h cells slots) (hx : p.tables.exec = Jvm.exec) {g : JFrame} (hg : g.method = m) {x y : Int32} {rest : List Value} (hd : decode c.code g.pc = .ok (.irem, 1)) (hs : g.stack = .int y :: .int x :: rest) (hy : y ≠ 0) :
    ∀ target, Steps p.tables e below (T.setTop { g with pc := g.pc + 1, stack := .int (x % y) :: rest }) target → Steps p.tables e below (T.setTop g) target := by
  obtain ⟨locs, k1, X, -⟩ := W
  exact fun _ q => iremM X hx hg hd hs hy q
theorem own_acmp (W : Wk Z a0 EL own p l e R s m args below meth c vm T h cells slots) (hx : p.tables.exec = Jvm.exec) {g : JFrame} (hg : g.method = m) {cd : ACond} {x y : Value} (h1 : x.isRef = true) (h2 : y.isRef = true) {rest : List Value} {o : Int} {pc0 pc' : Nat} {same : Bool} (hpc : g.pc = pc0)
    (hd : decode c.code g.pc = .ok (.if_acmp cd o, 3)) (hs : g.stack = y :: x :: rest) (hq : decide (x = y) = same) (ho : 0 ≤ (pc0 : Int) + o) (hp : pc' = if acV cd same = true then ((pc0 : Int) + o).toNat else pc0 + 3) :
    ∀ target, Steps p.tables e below (T.setTop { g with pc := pc', stack := rest }) target → Steps p.tables e below (T.setTop g) target := by
  obtain ⟨locs, k1, X, -⟩ := W
  exact fun _ q => Jvm.RoadKit.acmp X hx hg h1 h2 hpc hd hs hq ho hp q
theorem own_cast (W : Wk Z a0 EL own p l e R s m args below meth c vm T h cells slots) (hx : p.tables.exec = Jvm.exec) {K : String} {index : Nat} (w : (Cond.classLink own index K).before a0 Z = true) {a : Addr} (F : Ins Z h a K true) {g : JFrame} (hg : g.method = m) {rest : List Value} (hs : g.stack = .ref a :: rest) (hd : decode c.code g.pc = .ok (.checkcast index, 3)) :
    ∃ T' : State, Wk Z a0 EL own p l e R s m args below meth c vm T' h cells slots ∧ ∀ target, Steps p.tables e below (T'.setTop { g with pc := g.pc + 3 }) target → Steps p.tables e below (T.setTop g) target := by
  obtain ⟨locs, k1, X, eT, hS, hk, hZ, ho, hEW, hC, N, O'⟩ := W
  obtain ⟨T', X', e', st⟩ := castY X hx hZ ho w eT F hg hs hd
  exact ⟨T', ⟨locs, k1, X', e', hS, hk, hZ, ho, hEW, hC, N, O'⟩, st⟩
/-- ldc of a String constant, its text read -/
theorem own_ldcR (W : Wk Z a0 EL own p l e R s m args below meth c vm T h cells slots) (hx : p.tables.exec = Jvm.exec) {text : String} {index : Nat} (w : (Cond.stringLink own index text).before a0 Z = true) (wS : ∀ a ∈ Bundle.stringAtoms, a.before a0 Z = true) (hmem : (own, index) ∈ EL)
    {vs : List Value} {z : Int32} (ht : (∀ c ∈ text.toList, c.toNat < 256) ∧ text.toList.map (fun c => Value.int (Jvm.Lit.byteI c.toNat.toUInt16)) = vs) (hz : ¬ z < 0) (hl : z.toNatClampNeg = vs.length)
    {g : JFrame} (hg : g.method = m) (hd : decode c.code g.pc = .ok (.ldc index, 2)) {n : Nat} (hn : 4 * text.toList.length ≤ n) (hbig : n ≤ 536870912) (hc : cells + 2 ≤ R.cells) (hl' : slots + (n + 4) ≤ R.slots) :
    ∃ (a : Addr) (b : Addr) (k : ClassId) (vm' : Vm) (T' : State) (h' : Heap), Wk Z a0 EL own p l e R s m args below meth c vm' T' h' (cells + 2) (slots + (n + 4)) ∧ Ext h h' ∧ CHr Z EL vm h vm' h' ∧
      Exa Z h' a "java/lang/String" ∧ Fld Z h' a "java/lang/String" "coder" "B" (.int 0) ∧ Fld Z h' a "java/lang/String" "value" "[B" (.ref b) ∧ Arv Z h' b k .byte z vs (.int 0) ∧ (∀ x, Safe Z EL vm' h' x → x ≠ a ∧ x ≠ b) ∧
      ∀ target, Steps p.tables e below (T'.setTop { g with pc := g.pc + 2, stack := .ref a :: g.stack }) target → Steps p.tables e below (T.setTop g) target := by
  obtain ⟨locs, k1, X, eT, hS, hk, hZ, ho, hEW, hC, N, O'⟩ := W
  obtain ⟨a, T', h', k2, b, k, X', e', E, hS', hk', hZ', ho', f1, f2, f3, f4, -, -, hC', -, hne, st⟩ := ldcCH X hx hZ ho w wS eT hS hk hEW hmem hC.1 ht hz hl hg hd hn hbig hc hl'
  exact ⟨a, b, k, T'.vm, T', h', ⟨locs, k2, X', e', hS', hk', hZ', ho', hEW, hC.trans hC', N, own_xt O' E⟩, E, hC', f1, f2, f3, f4, hne, st⟩
/-- ldc of a String constant, unread -/
theorem own_ldcO (W : Wk Z a0 EL own p l e R s m args below meth c vm T h cells slots) (hx : p.tables.exec = Jvm.exec) {text : String} {index : Nat} (w : (Cond.stringLink own index text).before a0 Z = true) (wS : ∀ a ∈ Bundle.stringAtoms, a.before a0 Z = true)
    {g : JFrame} (hg : g.method = m) (hd : decode c.code g.pc = .ok (.ldc index, 2)) {n : Nat} (hn : 4 * text.toList.length ≤ n) (hbig : n ≤ 536870912) (hc : cells + 2 ≤ R.cells) (hl' : slots + (n + 4) ≤ R.slots) :
    ∃ (a : Addr) (vm' : Vm) (T' : State) (h' : Heap), Wk Z a0 EL own p l e R s m args below meth c vm' T' h' (cells + 2) (slots + (n + 4)) ∧ Ext h h' ∧ CHr Z EL vm h vm' h' ∧
      ∀ target, Steps p.tables e below (T'.setTop { g with pc := g.pc + 2, stack := .ref a :: g.stack }) target → Steps p.tables e below (T.setTop g) target := by
  obtain ⟨locs, k1, X, eT, hS, hk, hZ, ho, hEW, hC, N, O'⟩ := W
  obtain ⟨a, T', h', k2, X', e', E, hS', hk', hZ', ho', hC', -, st⟩ := ldcOH X hx hZ ho w wS eT hS hk hEW hC.1 hg hd hn hbig hc hl'
  exact ⟨a, T'.vm, T', h', ⟨locs, k2, X', e', hS', hk', hZ', ho', hEW, hC.trans hC', N, own_xt O' E⟩, E, hC', st⟩
/-- a method's contract, at a heap -/
def Ct (l : Launch) (Z : State) (a0 : Array Value) (EL : List (String × Nat)) (y : MethodName) (bytes : ByteArray) (maxL : Nat) (ret : Option FieldType) (ws : List Jvm.Cond) (rm : Room) (as' : Array Value) (h : Heap) (sf : List Addr) (Q : Option Value → Heap → List Addr → Prop) : Prop :=
  Ext Z.heap h → MetFree l y (head1 (Cond.code y bytes maxL ret :: ws) rm) (fun a U => a = as' ∧ Z.Warmed39 U.vm ∧ U.heap = h ∧ CHv Z EL U.vm h ∧ ∀ x ∈ sf, Safe Z EL U.vm h x) (fun _ _ _ _ _ => True)
    (fun _ U o U' => ∃ v L so, o = .returned v ∧ Q v U'.heap so ∧ Fr Z.heap.size L ∧ Ext Z.heap U'.heap ∧ CHr Z EL U.vm U.heap U'.vm U'.heap ∧ (∀ x ∈ so, Safe Z EL U'.vm U'.heap x) ∧ ReturnedEndW U o U' L rm.cells rm.slots)
theorem own_safeAt {locs : List Loc} (Y : Stand p l e R (s.setVm vm) m args below meth c T locs cells slots) (hZ : Z.Warmed39 vm) (hEW : EW Z a0 EL) (H : CHv Z EL vm h) {x : Addr} (S : Safe Z EL vm h x) : Safe Z EL T.vm h x := fun B => by
  rcases (CHv.at Y hZ hEW H).2.2 x B with q | q
  · exact S q
  · obtain ⟨cell, r⟩ := B.there
    have := (Array.getElem?_eq_some_iff.mp r).1; omega
theorem own_backS {y : MethodName} {bytes : ByteArray} {maxL : Nat} {ret : Option FieldType} {rm : Room} {len Wd : Nat} {as' : Array Value} {sf : List Addr} {Q : Option Value → Heap → List Addr → Prop} (O : Ext Z.heap h)
    (hM : Ct l Z a0 EL y bytes maxL ret [] rm as' h sf Q)
    (hZ : Z.Warmed39 vm) (wc : (Cond.code y bytes maxL ret).before a0 Z = true) (wz : (Cond.initialized y.cls).before a0 Z = true) (hf : rm.frames + 1 ≤ R.frames) (hl : Wd + (maxL + 11) + rm.locals ≤ R.locals) (hEL : EW Z a0 EL) (H : CHv Z EL vm h) (hsf : ∀ x ∈ sf, Safe Z EL vm h x) :
    BackS l R p e below (s.setVm vm) args y len Wd (fun A a => a = as' ∧ A.U.heap = h ∧ A.cells + rm.cells ≤ R.cells ∧ A.slots + rm.slots ≤ R.slots)
      (fun A _ v B => ∃ L so, Q v B.U.heap so ∧ Fr Z.heap.size L ∧ Ext Z.heap B.U.heap ∧ B.locs = A.locs ++ L ∧ B.cells = A.cells + rm.cells ∧ B.slots = A.slots + rm.slots ∧ CHr Z EL vm h B.U.vm B.U.heap ∧ ∀ x ∈ so, Safe Z EL B.U.vm B.U.heap x) :=
  BackS.of_freeW (bytes := bytes) (maxL := maxL) (ret := ret) (E := fun _ first o t L k n => k = rm.cells ∧ n = rm.slots ∧ (∃ v so, o = .returned v ∧ Q v t.heap so ∧ Fr Z.heap.size L ∧ Ext Z.heap t.heap ∧ ∀ x ∈ so, Safe Z EL t.vm t.heap x) ∧ CHr Z EL first.vm first.heap t.vm t.heap) (hM O) hf hl
    (fun m meth c A a Y hp => have hU : Z.Warmed39 A.U.vm := wtrans (s := s.setVm vm) hZ Y.warmed
      ⟨by show (Cond.and _ .tt).before a A.U = true; rw [Cond.before_and, mv hU wc]; rfl, mv hU wc, mv hU wz, hp.2.2.1, hp.2.2.2⟩)
    (fun m meth c A a g mk Y hp => ⟨hp.1, wtrans (s := s.setVm vm) hZ Y.warmed, hp.2.1, (CHv.at Y hZ hEL H).1, fun x hx => own_safeAt Y hZ hEL H (hsf x hx)⟩) (fun _ _ _ _ _ _ _ _ _ => trivial)
    (fun _ _ _ _ ⟨v, L, so, h1, h2, h3, h4, h5, h7, h6⟩ => ⟨L, _, _, h6, rfl, rfl, ⟨v, so, h1, h2, h3, h4, h7⟩, h5⟩)
    (fun m meth c A a g mk v t L k n Y hp _ _ ⟨e1, e2, ⟨v', so, e3, e4, e5, e6, e8⟩, e7⟩ => by
      cases e3; subst e1 e2
      refine ⟨L, so, e4, e5, e6, rfl, rfl, rfl, (CHv.at Y hZ hEL H).trans ?_, e8⟩
      rw [← hp.2.1]; exact e7)
theorem own_mkB {B : Pt} {L locs : List Loc} {k : Nat} {kc ks : Nat} (X : Stand p l e R ((s.setVm vm).setVm B.U.vm) m args below meth c B.U B.locs B.cells B.slots) (h2 : (s.setVm vm).Since B.U.vm B.U.heap.size) (hg : h.size ≤ B.U.heap.size) (hS : s.Since vm k) (hk : k ≤ h.size) (hZ : Z.Warmed39 vm) (ho : vm.findClass own = some m.cls) (hEW : EW Z a0 EL) (hC : CHr Z EL s.vm s.heap vm h) (N : Fr Z.heap.size locs)
    (hL : Fr Z.heap.size L) (O' : Ext Z.heap B.U.heap) (e1 : B.locs = locs ++ L) (e2 : B.cells = kc) (e3 : B.slots = ks) (hC' : CHr Z EL vm h B.U.vm B.U.heap) :
    Wk Z a0 EL own p l e R s m args below meth c B.U.vm B.U B.U.heap kc ks := by
  obtain ⟨X', hS', hZ', ho'⟩ := rebS hS hk X h2 hg hZ ho
  subst e2 e3
  exact ⟨B.locs, _, X', rfl, hS', Nat.le_refl _, hZ', ho', hEW, hC.trans hC', by rw [e1]; exact N.app hL, O'⟩
theorem own_static (W : Wk Z a0 EL own p l e R s m args below meth c vm T h cells slots) (hx : p.tables.exec = Jvm.exec) {index : Nat} {y : MethodName} {bytes : ByteArray} {maxL : Nat} {ret : Option FieldType} {rm : Room} {as' : Array Value} {sf : List Addr} {Q : Option Value → Heap → List Addr → Prop}
    (w1 : (Cond.methodLink own index y).before a0 Z = true) (w2 : (Cond.static y).before a0 Z = true) (w3 : (Cond.initialized y.cls).before a0 Z = true) (w4 : (Cond.code y bytes maxL ret).before a0 Z = true) (hy : y.cls ≠ "java/lang/invoke/MethodHandle" ∧ y.cls ≠ "java/lang/invoke/VarHandle")
    (hM : Ct l Z a0 EL y bytes maxL ret [] rm as' h sf Q) (hsf : ∀ x ∈ sf, Safe Z EL vm h x) {Wd : Nat} (hf : rm.frames + 1 ≤ R.frames) (hlo : Wd + (maxL + 11) + rm.locals ≤ R.locals) (hce : cells + rm.cells ≤ R.cells) (hsl : slots + rm.slots ≤ R.slots)
    {g : JFrame} (hg : g.method = m) (hsize : g.locals.size = c.maxLocals) {argsL rest : List Value} (hlen : ∀ sig, parseMethodDescriptor y.desc = some sig → argsL.length = sig.parameters.length) (hstack : g.stack = argsL.reverse ++ rest) (has : argsL.toArray = as') (hW : 2 * g.monitorRoom + (rest.map fun v => v.category).sum ≤ Wd)
    (hdg : decode c.code g.pc = .ok (.invokestatic index, 3)) :
    ∃ (v : Option Value) (so : List Addr) (vm' : Vm) (T' : State) (h' : Heap), Wk Z a0 EL own p l e R s m args below meth c vm' T' h' (cells + rm.cells) (slots + rm.slots) ∧ CHr Z EL vm h vm' h' ∧ Q v h' so ∧ (∀ x ∈ so, Safe Z EL vm' h' x) ∧
      ∀ target, Steps p.tables e below (T'.setTop { g with pc := g.pc + 3, stack := v.toList ++ rest }) target → Steps p.tables e below (T.setTop g) target := by
  obtain ⟨locs, k1, X, eT, hS, hk, hZ, ho, hEW, hC, N, O'⟩ := W
  subst eT
  obtain ⟨v, vm1, B, -, X', h2, hg2, ⟨L, so, hQ, hL, O2, e1, e2, e3, hC', hso⟩, st⟩ := callSS X hx ho (mv (s := s.setVm vm) hZ w1) (mv (s := s.setVm vm) hZ w2) (mv (s := s.setVm vm) hZ w3) (mv (s := s.setVm vm) hZ w4) hy (own_backS O' hM hZ w4 w3 hf hlo hEW hC.1 hsf) hg hsize hlen hstack hW hdg (fun _ _ => ⟨has, rfl, hce, hsl⟩)
  exact ⟨v, so, _, B.U, _, own_mkB X' h2 hg2 hS hk hZ ho hEW hC N hL O2 e1 e2 e3 hC', hC', hQ, hso, fun _ q => st.trans q⟩
theorem own_special (W : Wk Z a0 EL own p l e R s m args below meth c vm T h cells slots) (hx : p.tables.exec = Jvm.exec) {index : Nat} {y : MethodName} {bytes : ByteArray} {maxL : Nat} {rm : Room} {as' : Array Value} {sf : List Addr} {Q : Option Value → Heap → List Addr → Prop} (hy1 : y.name = "<init>")
    (w1 : (Cond.methodLink own index y).before a0 Z = true) (w2 : (Cond.instanceMethod y).before a0 Z = true) (w3 : (Cond.initialized y.cls).before a0 Z = true) (w4 : (Cond.code y bytes maxL none).before a0 Z = true) (hy : y.cls ≠ "java/lang/invoke/MethodHandle" ∧ y.cls ≠ "java/lang/invoke/VarHandle")
    (hM : Ct l Z a0 EL y bytes maxL none [] rm as' h sf Q) (hsf : ∀ x ∈ sf, Safe Z EL vm h x) {Wd : Nat} (hf : rm.frames + 1 ≤ R.frames) (hlo : Wd + (maxL + 11) + rm.locals ≤ R.locals) (hce : cells + rm.cells ≤ R.cells) (hsl : slots + rm.slots ≤ R.slots)
    {g : JFrame} (hg : g.method = m) (hsize : g.locals.size = c.maxLocals) {a : Addr} {argsL rest : List Value} (hlen : ∀ sig, parseMethodDescriptor y.desc = some sig → argsL.length = sig.parameters.length) (hstack : g.stack = argsL.reverse ++ .ref a :: rest) (has : (.ref a :: argsL).toArray = as') (hW : 2 * g.monitorRoom + (rest.map fun v => v.category).sum ≤ Wd)
    (hdg : decode c.code g.pc = .ok (.invokespecial index, 3)) :
    ∃ (v : Option Value) (so : List Addr) (vm' : Vm) (T' : State) (h' : Heap), Wk Z a0 EL own p l e R s m args below meth c vm' T' h' (cells + rm.cells) (slots + rm.slots) ∧ CHr Z EL vm h vm' h' ∧ Q v h' so ∧ (∀ x ∈ so, Safe Z EL vm' h' x) ∧
      ∀ target, Steps p.tables e below (T'.setTop { g with pc := g.pc + 3, stack := v.toList ++ rest }) target → Steps p.tables e below (T.setTop g) target := by
  obtain ⟨locs, k1, X, eT, hS, hk, hZ, ho, hEW, hC, N, O'⟩ := W
  subst eT
  obtain ⟨v, vm1, B, -, X', h2, hg2, ⟨L, so, hQ, hL, O2, e1, e2, e3, hC', hso⟩, st⟩ := X.specialBackS hx hy1 ho (mv (s := s.setVm vm) hZ w1) (mv (s := s.setVm vm) hZ w2) (mv (s := s.setVm vm) hZ w4) hy (own_backS O' hM hZ w4 w3 hf hlo hEW hC.1 hsf) hg hsize (Steps.refl _) hlen hstack hW hdg (fun _ _ => ⟨has, rfl, hce, hsl⟩)
  exact ⟨v, so, _, B.U, _, own_mkB X' h2 hg2 hS hk hZ ho hEW hC N hL O2 e1 e2 e3 hC', hC', hQ, hso, fun _ q => st.trans q⟩
theorem own_virtual (W : Wk Z a0 EL own p l e R s m args below meth c vm T h cells slots) (hx : p.tables.exec = Jvm.exec) {index : Nat} {C : String} {y z : MethodName} {bytes : ByteArray} {maxL : Nat} {ret : Option FieldType} {rm : Room} {as' : Array Value} {sf : List Addr} {Q : Option Value → Heap → List Addr → Prop}
    (w1 : (Cond.methodLink own index y).before a0 Z = true) (w2 : (Cond.declares y).before a0 Z = true) (w5 : (Cond.selects C y z).before a0 Z = true) (w6 : (Cond.instanceMethod z).before a0 Z = true) (w3 : (Cond.initialized z.cls).before a0 Z = true) (w4 : (Cond.code z bytes maxL ret).before a0 Z = true) (hy : y.cls ≠ "java/lang/invoke/MethodHandle" ∧ y.cls ≠ "java/lang/invoke/VarHandle") (hnf : NotFace (s.setVm vm) y)
    {a : Addr} (E : Exa Z h a C)
    (hM : Ct l Z a0 EL z bytes maxL ret [] rm as' h sf Q) (hsf : ∀ x ∈ sf, Safe Z EL vm h x) {Wd : Nat} (hf : rm.frames + 1 ≤ R.frames) (hlo : Wd + (maxL + 11) + rm.locals ≤ R.locals) (hce : cells + rm.cells ≤ R.cells) (hsl : slots + rm.slots ≤ R.slots)
    {g : JFrame} (hg : g.method = m) (hsize : g.locals.size = c.maxLocals) {argsL rest : List Value} (hlen : ∀ sig, parseMethodDescriptor y.desc = some sig → argsL.length = sig.parameters.length) (hstack : g.stack = argsL.reverse ++ .ref a :: rest) (has : (.ref a :: argsL).toArray = as') (hW : 2 * g.monitorRoom + (rest.map fun v => v.category).sum ≤ Wd)
    (hdg : decode c.code g.pc = .ok (.invokevirtual index, 3)) :
    ∃ (v : Option Value) (so : List Addr) (vm' : Vm) (T' : State) (h' : Heap), Wk Z a0 EL own p l e R s m args below meth c vm' T' h' (cells + rm.cells) (slots + rm.slots) ∧ CHr Z EL vm h vm' h' ∧ Q v h' so ∧ (∀ x ∈ so, Safe Z EL vm' h' x) ∧
      ∀ target, Steps p.tables e below (T'.setTop { g with pc := g.pc + 3, stack := v.toList ++ rest }) target → Steps p.tables e below (T.setTop g) target := by
  obtain ⟨locs, k1, X, eT, hS, hk, hZ, ho, hEW, hC, N, O'⟩ := W
  obtain ⟨cB, kB, q1, q2, q3⟩ := isOf (s := s.setVm vm) hZ eT E
  subst eT
  obtain ⟨v, vm1, B, -, X', h2, hg2, ⟨L, so, hQ, hL, O2, e1, e2, e3, hC', hso⟩, st⟩ := X.virtualBackS hx ho (mv (s := s.setVm vm) hZ w1) (mv (s := s.setVm vm) hZ w2) hnf (mv (s := s.setVm vm) hZ w5) (mv (s := s.setVm vm) hZ w6) hy (own_backS O' hM hZ w4 w3 hf hlo hEW hC.1 hsf) q1 q3 hg hsize (Steps.refl _) hlen hstack hW hdg (fun _ _ => ⟨has, rfl, hce, hsl⟩)
  exact ⟨v, so, _, B.U, _, own_mkB X' h2 hg2 hS hk hZ ho hEW hC N hL O2 e1 e2 e3 hC', hC', hQ, hso, fun _ q => st.trans q⟩
/-- that the class of a method that its own class selects is no interface -/
theorem own_nf (W : Wk Z a0 EL own p l e R s m args below meth c vm T h cells slots) {C : String} {y : MethodName} (w : (Cond.selects C y y).before a0 Z = true) : NotFace (s.setVm vm) y := by
  obtain ⟨locs, k1, X, eT, hS, hk, hZ, ho, hEW, hC, N, O'⟩ := W
  exact notFace_of_selects (args := #[]) (mv (s := s.setVm vm) hZ w)
/-- a callee of the library that leaves the tables, as a Back -/
theorem own_mkK {B : Pt} {L locs : List Loc} {k : Nat} {kc ks : Nat} {ws : List Addr} (X : Stand p l e R (s.setVm vm) m args below meth c B.U B.locs B.cells B.slots) (hS : s.Since vm k) (hk : k ≤ h.size) (hZ : Z.Warmed39 vm) (ho : vm.findClass own = some m.cls) (hEW : EW Z a0 EL) (hC : CHr Z EL s.vm s.heap vm h) (N : Fr Z.heap.size locs) (O' : Ext Z.heap h)
    (hL : Fr Z.heap.size L) (K : Keep h B.U.heap ws) (hs : ∀ x ∈ ws, Safe Z EL vm h x) (hn : ∀ x ∈ ws, Z.heap.size ≤ x) (e1 : B.locs = locs ++ L) (e2 : B.cells = kc) (e3 : B.slots = ks) :
    Wk Z a0 EL own p l e R s m args below meth c vm B.U B.U.heap kc ks := by
  subst e2 e3
  exact ⟨B.locs, k, X, rfl, hS, Nat.le_trans hk K.1, hZ, ho, hEW, hC.trans (CHr.keep K hs hC.1), by rw [e1]; exact N.app hL, own_xk O' K hn⟩
/-- an instance method that the library pays by a Back -/
theorem own_virtB (W : Wk Z a0 EL own p l e R s m args below meth c vm T h cells slots) (hx : p.tables.exec = Jvm.exec) {index : Nat} {C : String} {y z : MethodName} {kc ks : Nat} {as' : Array Value} {ws : List Addr} {Q : Option Value → Heap → List Loc → Prop}
    (w1 : (Cond.methodLink own index y).before a0 Z = true) (w2 : (Cond.declares y).before a0 Z = true) (w5 : (Cond.selects C y z).before a0 Z = true) (w6 : (Cond.instanceMethod z).before a0 Z = true) (hy : y.cls ≠ "java/lang/invoke/MethodHandle" ∧ y.cls ≠ "java/lang/invoke/VarHandle") (hnf : NotFace (s.setVm vm) y)
    {a : Addr} (E : Exa Z h a C) {Wd : Nat}
    (hK : ∀ s' : State, Z.Warmed39 s'.vm → Back l R p e below s' args z 3 Wd (fun P a => a = as' ∧ P.U.heap = h ∧ P.cells + kc ≤ R.cells ∧ P.slots + ks ≤ R.slots) (fun P _ v B => ∃ L, Q v B.U.heap L ∧ B.locs = P.locs ++ L ∧ B.cells = P.cells + kc ∧ B.slots = P.slots + ks))
    (hQ : ∀ v h' L, Q v h' L → Fr Z.heap.size L ∧ Keep h h' ws) (hs : ∀ x ∈ ws, Safe Z EL vm h x) (hn : ∀ x ∈ ws, Z.heap.size ≤ x) (hce : cells + kc ≤ R.cells) (hsl : slots + ks ≤ R.slots)
    {g : JFrame} (hg : g.method = m) (hsize : g.locals.size = c.maxLocals) {argsL rest : List Value} (hlen : ∀ sig, parseMethodDescriptor y.desc = some sig → argsL.length = sig.parameters.length) (hstack : g.stack = argsL.reverse ++ .ref a :: rest) (has : (.ref a :: argsL).toArray = as') (hW : 2 * g.monitorRoom + (rest.map fun v => v.category).sum ≤ Wd)
    (hdg : decode c.code g.pc = .ok (.invokevirtual index, 3)) :
    ∃ (v : Option Value) (T' : State) (h' : Heap) (L : List Loc), Wk Z a0 EL own p l e R s m args below meth c vm T' h' (cells + kc) (slots + ks) ∧ Q v h' L ∧
      ∀ target, Steps p.tables e below (T'.setTop { g with pc := g.pc + 3, stack := v.toList ++ rest }) target → Steps p.tables e below (T.setTop g) target := by
  obtain ⟨locs, k1, X, eT, hS, hk, hZ, ho, hEW, hC, N, O'⟩ := W
  obtain ⟨cB, kB, q1, q2, q3⟩ := isOf (s := s.setVm vm) hZ eT E
  obtain ⟨v, vm1, B, -, X', ⟨L, hq, e1, e2, e3⟩, st⟩ := X.virtualBack hx ho (mv (s := s.setVm vm) hZ w1) (mv (s := s.setVm vm) hZ w2) hnf (mv (s := s.setVm vm) hZ w5) (mv (s := s.setVm vm) hZ w6) hy (hK _ hZ) q1 q3 hg hsize (Steps.refl _) hlen hstack hW hdg (fun _ _ => ⟨has, eT, hce, hsl⟩)
  obtain ⟨hL, K⟩ := hQ _ _ _ hq
  exact ⟨v, B.U, _, L, own_mkK X' hS hk hZ ho hEW hC N O' hL K hs hn e1 e2 e3, hq, fun _ q => st.trans q⟩
/-- a constructor that the library pays by a Back -/
theorem own_specB (W : Wk Z a0 EL own p l e R s m args below meth c vm T h cells slots) (hx : p.tables.exec = Jvm.exec) {index : Nat} {y : MethodName} {bytes : ByteArray} {maxL kc ks : Nat} {as' : Array Value} {ws : List Addr} {Q : Option Value → Heap → List Loc → Prop} (hy1 : y.name = "<init>")
    (w1 : (Cond.methodLink own index y).before a0 Z = true) (w2 : (Cond.instanceMethod y).before a0 Z = true) (w4 : (Cond.code y bytes maxL none).before a0 Z = true) (hy : y.cls ≠ "java/lang/invoke/MethodHandle" ∧ y.cls ≠ "java/lang/invoke/VarHandle") {Wd : Nat}
    (hK : ∀ s' : State, Z.Warmed39 s'.vm → Back l R p e below s' args y 3 Wd (fun P a => a = as' ∧ P.U.heap = h ∧ P.cells + kc ≤ R.cells ∧ P.slots + ks ≤ R.slots) (fun P _ v B => ∃ L, Q v B.U.heap L ∧ B.locs = P.locs ++ L ∧ B.cells = P.cells + kc ∧ B.slots = P.slots + ks))
    (hQ : ∀ v h' L, Q v h' L → Fr Z.heap.size L ∧ Keep h h' ws) (hs : ∀ x ∈ ws, Safe Z EL vm h x) (hn : ∀ x ∈ ws, Z.heap.size ≤ x) (hce : cells + kc ≤ R.cells) (hsl : slots + ks ≤ R.slots)
    {g : JFrame} (hg : g.method = m) (hsize : g.locals.size = c.maxLocals) {a : Addr} {argsL rest : List Value} (hlen : ∀ sig, parseMethodDescriptor y.desc = some sig → argsL.length = sig.parameters.length) (hstack : g.stack = argsL.reverse ++ .ref a :: rest) (has : (.ref a :: argsL).toArray = as') (hW : 2 * g.monitorRoom + (rest.map fun v => v.category).sum ≤ Wd)
    (hdg : decode c.code g.pc = .ok (.invokespecial index, 3)) :
    ∃ (v : Option Value) (T' : State) (h' : Heap) (L : List Loc), Wk Z a0 EL own p l e R s m args below meth c vm T' h' (cells + kc) (slots + ks) ∧ Q v h' L ∧
      ∀ target, Steps p.tables e below (T'.setTop { g with pc := g.pc + 3, stack := v.toList ++ rest }) target → Steps p.tables e below (T.setTop g) target := by
  obtain ⟨locs, k1, X, eT, hS, hk, hZ, ho, hEW, hC, N, O'⟩ := W
  obtain ⟨v, vm1, B, -, X', ⟨L, hq, e1, e2, e3⟩, st⟩ := X.specialBack hx hy1 ho (mv (s := s.setVm vm) hZ w1) (mv (s := s.setVm vm) hZ w2) (mv (s := s.setVm vm) hZ w4) hy (hK _ hZ) hg hsize (Steps.refl _) hlen hstack hW hdg (fun _ _ => ⟨has, eT, hce, hsl⟩)
  obtain ⟨hL, K⟩ := hQ _ _ _ hq
  exact ⟨v, B.U, _, L, own_mkK X' hS hk hZ ho hEW hC N O' hL K hs hn e1 e2 e3, hq, fun _ q => st.trans q⟩
/-- System.arraycopy between two primitive arrays -/
theorem own_cp (W : Wk Z a0 EL own p l e R s m args below meth c vm T h cells slots) (hx : p.tables.exec = Jvm.exec) {index : Nat} (w1 : (Cond.methodLink own index Jvm.Stand.acN).before a0 Z = true) (w2 : (Cond.native Jvm.Stand.acN).before a0 Z = true) (w3 : (Cond.static Jvm.Stand.acN).before a0 Z = true) (w4 : (Cond.initialized "java/lang/System").before a0 Z = true)
    {a b : Addr} {k k' : ClassId} {ty : FieldType} {z z' sp dp nn : Int32} {vs vd us : List Value} {dv dd : Value} (A : Arv Z h a k ty z vs dv) (B : Arv Z h b k' ty z' vd dd) (hty : refKind ty = false) (Sf : Safe Z EL vm h b)
    (h1 : ¬ sp < 0) (h2 : ¬ dp < 0) (h3 : ¬ nn < 0) (h4 : sp.toNatClampNeg + nn.toNatClampNeg ≤ z.toNatClampNeg) (h5 : dp.toNatClampNeg + nn.toNatClampNeg ≤ z'.toNatClampNeg)
    (hus : us = (List.range nn.toNatClampNeg).map fun i => vs.getD (sp.toNatClampNeg + i) dv) (hl : dp.toNatClampNeg + nn.toNatClampNeg ≤ vd.length) (ge : Z.heap.size ≤ b)
    {g : JFrame} (hg : g.method = m) (hsize : g.locals.size = c.maxLocals) {rest : List Value} (hs : g.stack = .int nn :: .int dp :: .ref b :: .int sp :: .ref a :: rest) (hd : decode c.code g.pc = .ok (.invokestatic index, 3))
    (hf : 1 ≤ R.frames) {Wd : Nat} (hW : 2 * g.monitorRoom + (rest.map fun v => v.category).sum ≤ Wd) (hlo : Wd + (nativeFrameWords "java/lang/System" "arraycopy" 5 + 11) ≤ R.locals) :
    ∃ (T' : State) (h' : Heap), Wk Z a0 EL own p l e R s m args below meth c vm T' h' cells slots ∧ Keep h h' [b] ∧ Arv Z h' b k' ty z' (vd.take dp.toNatClampNeg ++ us ++ vd.drop (dp.toNatClampNeg + nn.toNatClampNeg)) dd ∧
      ∀ target, Steps p.tables e below (T'.setTop { g with pc := g.pc + 3, stack := rest }) target → Steps p.tables e below (T.setTop g) target := by
  obtain ⟨locs, k1, X, eT, hS, hk, hZ, ho, hEW, hC, N, O'⟩ := W
  obtain ⟨T', h', L, X', e', N', K, V, st⟩ := cpA X hx hZ ho w1 w2 w3 w4 eT A B (Or.inl ⟨rfl, hty⟩) h1 h2 h3 h4 h5 hus hl N ge hg hsize hs hd hf hW hlo
  exact ⟨T', h', ⟨L, k1, X', e', hS, Nat.le_trans hk K.1, hZ, ho, hEW, hC.trans (CHr.keep K (allS Sf all0) hC.1), N', own_xk O' K (allS ge all0)⟩, K, V, st⟩
theorem own_cat {v : Value} (h : v.isRef = true) : v.category = 1 := by rcases ref_cases h with rfl | ⟨_, rfl⟩ <;> rfl
theorem own_nrR {v : Value} {t : FieldType} (h : v.isRef = true) (ht : t.isReference = true) : narrow t v = v := by rcases ref_cases h with rfl | ⟨_, rfl⟩ <;> cases t <;> first | rfl | cases ht
theorem own_ftR {v : Value} {t : FieldType} (h : v.isRef = true) (ht : t.isReference = true) : fits t v = true := by rcases ref_cases h with rfl | ⟨_, rfl⟩ <;> cases t <;> first | rfl | cases ht
theorem own_up {x : Int32} (h : ¬ x < 0 ∧ ¬ (255 : Int32) < x) : ¬ x < 0 ∧ ¬ (65535 : Int32) < x := ⟨h.1, fun q => h.2 (by rw [Int32.lt_iff_toInt_lt] at q ⊢; have e1 : (65535 : Int32).toInt = 65535 := rfl; have e2 : (255 : Int32).toInt = 255 := rfl; omega)⟩
theorem own_retV (W : Wk Z a0 EL own p l e R s m args below meth c vm T h cells slots) (hx : p.tables.exec = Jvm.exec) {pc : Nat} {Ls : Array Slot} (hret : meth.sig.returnType = none) (hd : decode c.code pc = .ok (.return_, 1)) :
    ∀ fs : List Frame, (∀ (f : JFrame) (acts : List Action), f.method = m → f.locked = none → f.entered = [] → (doReturn e (T.setTop f) acts none).1 = T.setFrames fs) → Steps p.tables e below (T.setTop (mkF m pc Ls [])) (T.setFrames fs) := by
  obtain ⟨locs, k1, X, -⟩ := W
  exact fun fs hr => X.returnOut hx hret hd hr
theorem own_retI (W : Wk Z a0 EL own p l e R s m args below meth c vm T h cells slots) (hx : p.tables.exec = Jvm.exec) {pc : Nat} {Ls : Array Slot} {z : Int32} {rest : List Value} {t : FieldType} (hret : meth.sig.returnType = some t) (ht : t = .int ∨ t = .boolean ∨ t = .byte ∨ t = .char ∨ t = .short) (hn : narrow t (.int z) = .int z) (hd : decode c.code pc = .ok (.ireturn, 1)) :
    ∀ fs : List Frame, (∀ (f : JFrame) (acts : List Action), f.method = m → f.locked = none → f.entered = [] → (doReturn e (T.setTop f) acts (some (.int z))).1 = T.setFrames fs) → Steps p.tables e below (T.setTop (mkF m pc Ls (.int z :: rest))) (T.setFrames fs) := by
  obtain ⟨locs, k1, X, -⟩ := W
  exact fun fs hr => retOut X hx hret hn (Or.inl ⟨rfl, ht, z, rfl⟩) hd hr
theorem own_retA (W : Wk Z a0 EL own p l e R s m args below meth c vm T h cells slots) (hx : p.tables.exec = Jvm.exec) {pc : Nat} {Ls : Array Slot} {w : Value} {rest : List Value} {t : FieldType} (hret : meth.sig.returnType = some t) (ht : t.isReference = true) (hw : w.isRef = true) (hn : narrow t w = w) (hd : decode c.code pc = .ok (.areturn, 1)) :
    ∀ fs : List Frame, (∀ (f : JFrame) (acts : List Action), f.method = m → f.locked = none → f.entered = [] → (doReturn e (T.setTop f) acts (some w)).1 = T.setFrames fs) → Steps p.tables e below (T.setTop (mkF m pc Ls (w :: rest))) (T.setFrames fs) := by
  obtain ⟨locs, k1, X, -⟩ := W
  exact fun fs hr => retOut X hx hret hn (Or.inr (Or.inr (Or.inr (Or.inr ⟨rfl, ht, hw⟩)))) hd hr
theorem own_enter {y : MethodName} {bytes : ByteArray} {maxL : Nat} {ret : Option FieldType} {ws : List Jvm.Cond} {rm : Room} {as' : Array Value} {sf : List Addr} {Q : Option Value → Heap → List Addr → Prop} {F0 : MethodId → JFrame} (hp : plainFor y = true) (hEW : EW Z a0 EL) (ef : ∀ m, entryFrame m as' maxL = F0 m)
    (body : ∀ (p : Program) (e : Env) (s : State) (m : MethodId) (below : List Frame) (meth : Method) (c : Code) (s₁ : State) (G : State → JFrame → Prop), p.tables.exec = Jvm.exec → c.code = bytes → c.maxLocals = maxL → meth.sig.returnType = ret → meth.name = y.name →
      Wk Z a0 EL y.cls p l e rm s m as' below meth c s.vm s₁ h 0 0 → (∀ x ∈ sf, Safe Z EL s.vm h x) →
      (∀ {T T' : State} {g g' : JFrame}, (∀ target, Steps p.tables e below (T'.setTop g') target → Steps p.tables e below (T.setTop g) target) → G T' g' → G T g) →
      (∀ {v : Option Value} {so : List Addr} {vm : Vm} {T : State} {h' : Heap} {cells slots : Nat} {g : JFrame}, Wk Z a0 EL y.cls p l e rm s m as' below meth c vm T h' cells slots → cells ≤ rm.cells → slots ≤ rm.slots → Q v h' so → (∀ x ∈ so, Safe Z EL vm h' x) → (ret = none → v = none) →
        (∀ fs : List Frame, (∀ (f : JFrame) (acts : List Action), f.method = m → f.locked = none → f.entered = [] → (doReturn e (T.setTop f) acts v).1 = T.setFrames fs) → Steps p.tables e below (T.setTop g) (T.setFrames fs)) → G T g) →
      G s₁ (F0 m)) : Ct l Z a0 EL y bytes maxL ret ws rm as' h sf Q := by
  intro hE
  refine MetFree.of_bodySF hp hisR ?_
  intro p e s m args below meth c s₁ Bd hml0 hP hK
  obtain ⟨rfl, hZ, hh, hC, hS⟩ := hP
  have X0 : Stand p l e rm s m args below meth c s₁ [] 0 0 := Stand.of_body Bd
  have e0 : s₁.heap = h := by rw [← hh, Bd.state]; rfl
  have W0 : Wk Z a0 EL y.cls p l e rm s m args below meth c s.vm s₁ h 0 0 :=
    ⟨[], h.size, X0, e0, (State.WarmedH.refl s).since _, Nat.le_refl _, hZ, findClass_of_methodNamed Bd.named, hEW, by rw [hh]; exact CHr.refl hC, Fr.nil _, hE⟩
  have key := body p e s m below meth c s₁
    (fun T g => ∃ (v : Option Value) (so : List Addr) (vm : Vm) (T' : State) (h' : Heap) (cells slots : Nat), Wk Z a0 EL y.cls p l e rm s m args below meth c vm T' h' cells slots ∧ cells ≤ rm.cells ∧ slots ≤ rm.slots ∧ Q v h' so ∧ (∀ x ∈ so, Safe Z EL vm h' x) ∧ (ret = none → v = none) ∧
      ∀ fs : List Frame, (∀ (f : JFrame) (acts : List Action), f.method = m → f.locked = none → f.entered = [] → (doReturn e (T'.setTop f) acts v).1 = T'.setFrames fs) → Steps p.tables e below (T.setTop g) (T'.setFrames fs))
    Bd.exec Bd.bytes hml0 Bd.returns (name_of_methodNamed Bd.named Bd.method).1 W0 hS
    (fun st ⟨v, so, vm1, T', h', k1, k2, q1, q2, q3, q4, q7, q5, q6⟩ => ⟨v, so, vm1, T', h', k1, k2, q1, q2, q3, q4, q7, q5, fun fs hr => st _ (q6 fs hr)⟩)
    (fun q1 q2 q3 q4 q7 q5 q6 => ⟨_, _, _, _, _, _, _, q1, q2, q3, q4, q7, q5, q6⟩)
  obtain ⟨v, so, vm, T', h', k1, k2, ⟨locs, k, X, rfl, hS', hk, hZ', ho, -, hC', N, O⟩, q2, q3, q4, q7, q5, q6⟩ := key
  obtain ⟨fs, hr, hrun, hended, g1, g2, g3, g4⟩ := X.leaveW hS' hk (v := v) (fun q => q5 (Bd.returns ▸ q))
  have hCf := CHv.at X hZ' hEW hC'.1
  have hSf := fun x hx => own_safeAt X hZ' hEW hC'.1 (q7 x hx)
  exact ⟨_, _, castTop (ef m) (q6 fs hr), hrun, hended, v, locs, so, rfl, q4, N, O, hC'.trans hCf, hSf, g1, g2, g3, g4.mono q2 q3⟩
end OwnKit
section OwnKitX
variable {Z : State} {a0 : Array Value} {EL : List (String × Nat)} {own : String} {p : Program} {l : Launch} {e : Env} {R : Room} {s : State} {m : MethodId} {args : Array Value} {below : List Frame} {meth : Method} {c : Code} {vm : Vm} {T : State} {h : Heap} {cells slots : Nat}
theorem own_decl {y : MethodName} {bytes : ByteArray} {maxL : Nat} {ret : Option FieldType} (wi : (Cond.instanceMethod y).before a0 Z = true) (wc : (Cond.code y bytes maxL ret).before a0 Z = true) : (Cond.declares y).before a0 Z = true := by
  obtain ⟨m, meth, hn, hm, hs, -⟩ := Cond.instanceMethod_spec wi
  obtain ⟨meth', c, hm', -, -, -, -, -, -, hsig⟩ := Cond.code_spec hn wc
  cases hm.symm.trans hm'
  simp [Cond.before, Cond.holds, Cond.value, hn, hm, hs, hsig]
theorem own_nf2 (W : Wk Z a0 EL own p l e R s m args below meth c vm T h cells slots) {C : String} {y y' : MethodName} (w : (Cond.selects C y' y').before a0 Z = true) (hy : y.cls = y'.cls) : NotFace (s.setVm vm) y := fun r0 h0 => by
  obtain ⟨locs, k1, X, eT, hS, hk, hZ, ho, hEW, hC, N, O'⟩ := W
  obtain ⟨_, _, m2, _, _, q3, _, kP, hkP, hkPi⟩ := Cond.selects_spec (mv (s := s.setVm vm) (args := #[]) hZ w)
  have e1 := findClass_of_methodNamed h0
  have e2 := findClass_of_methodNamed q3
  rw [hy] at e1
  exact ⟨kP, by rw [Option.some.inj (e1.symm.trans e2)]; exact hkP, hkPi⟩
theorem own_sameM {C : String} {y y' : MethodName} (wd : (Cond.declares y).before a0 Z = true) (ws : (Cond.selects C y' y').before a0 Z = true) (hy : y.cls = y'.cls) (hp : y.cls ≠ "java/lang/invoke/MethodHandle" ∧ y.cls ≠ "java/lang/invoke/VarHandle") : (Cond.sameMethod y.cls y.cls y.name y.desc).before a0 Z = true := by
  obtain ⟨m0, meth, hn, -⟩ := Cond.declares_spec wd
  have hf := State.methodFound?_of_named hn hp
  have e1 := findClass_of_methodNamed hn
  obtain ⟨_, _, m2, _, _, q3, _, kP, hkP, hkPi⟩ := Cond.selects_spec ws
  have e2 := findClass_of_methodNamed q3
  rw [← hy] at e2
  have e3 : m0.cls = m2.cls := Option.some.inj (e1.symm.trans e2)
  have hn' : Z.methodNamed? ⟨y.cls, y.name, y.desc⟩ = some m0 := hn
  rw [← e3] at hkP
  simp [Cond.before, Cond.holds, Cond.value, e1, hf, hn', hkP, hkPi]
theorem own_super (W : Wk Z a0 EL own p l e R s m args below meth c vm T h cells slots) (hx : p.tables.exec = Jvm.exec) {index : Nat} {K : String} {y : MethodName} {bytes : ByteArray} {maxL : Nat} {ret : Option FieldType} {rm : Room} {as' : Array Value} {sf : List Addr} {Q : Option Value → Heap → List Addr → Prop}
    (w1 : (Cond.methodLink own index y).before a0 Z = true) (w2 : (Cond.sameMethod y.cls y.cls y.name y.desc).before a0 Z = true) (w6 : (Cond.instanceMethod y).before a0 Z = true) (w7 : (Cond.superclass own y.cls).before a0 Z = true) (hn : y.name ≠ "<init>") (w3 : (Cond.initialized y.cls).before a0 Z = true) (w4 : (Cond.code y bytes maxL ret).before a0 Z = true)
    {a : Addr} (F : Ins Z h a K true)
    (hM : Ct l Z a0 EL y bytes maxL ret [] rm as' h sf Q) (hsf : ∀ x ∈ sf, Safe Z EL vm h x) {Wd : Nat} (hf : rm.frames + 1 ≤ R.frames) (hlo : Wd + (maxL + 11) + rm.locals ≤ R.locals) (hce : cells + rm.cells ≤ R.cells) (hsl : slots + rm.slots ≤ R.slots)
    {g : JFrame} (hg : g.method = m) (hsize : g.locals.size = c.maxLocals) {argsL rest : List Value} (hlen : ∀ sig, parseMethodDescriptor y.desc = some sig → argsL.length = sig.parameters.length) (hstack : g.stack = argsL.reverse ++ .ref a :: rest) (has : (.ref a :: argsL).toArray = as') (hW : 2 * g.monitorRoom + (rest.map fun v => v.category).sum ≤ Wd)
    (hdg : decode c.code g.pc = .ok (.invokespecial index, 3)) :
    ∃ (v : Option Value) (so : List Addr) (vm' : Vm) (T' : State) (h' : Heap), Wk Z a0 EL own p l e R s m args below meth c vm' T' h' (cells + rm.cells) (slots + rm.slots) ∧ CHr Z EL vm h vm' h' ∧ Q v h' so ∧ (∀ x ∈ so, Safe Z EL vm' h' x) ∧
      ∀ target, Steps p.tables e below (T'.setTop { g with pc := g.pc + 3, stack := v.toList ++ rest }) target → Steps p.tables e below (T.setTop g) target := by
  obtain ⟨locs, k1, X, eT, hS, hk, hZ, ho, hEW, hC, N, O'⟩ := W
  subst eT
  obtain ⟨v, vm1, B, -, X', h2, hg2, ⟨L, so, hQ, hL, O2, e1, e2, e3, hC', hso⟩, st⟩ := superBackS X hx hZ ho w1 w2 w6 w7 hn (own_backS O' hM hZ w4 w3 hf hlo hEW hC.1 hsf) rfl F hg hsize w4 hlen hstack hW hdg (fun _ _ => ⟨has, rfl, hce, hsl⟩)
  exact ⟨v, so, _, B.U, _, own_mkB X' h2 hg2 hS hk hZ ho hEW hC N hL O2 e1 e2 e3 hC', hC', hQ, hso, fun _ q => st.trans q⟩
theorem own_ldcF (W : Wk Z a0 EL own p l e R s m args below meth c vm T h cells slots) (hx : p.tables.exec = Jvm.exec) {index : Nat} {b : UInt32} (w : (Cond.constantFloat own index b).before a0 Z = true) {g : JFrame} (hg : g.method = m) (hd : decode c.code g.pc = .ok (.ldc index, 2)) :
    ∀ target, Steps p.tables e below (T.setTop { g with pc := g.pc + 2, stack := .float b :: g.stack }) target → Steps p.tables e below (T.setTop g) target := by
  obtain ⟨locs, k1, X, eT, hS, hk, hZ, ho, hEW, hC, N, O'⟩ := W
  exact X.ldcFloatC hx ho (mv (s := s.setVm vm) hZ w) hg hd
end OwnKitX
section OwnStr
variable {Z : State} {a0 : Array Value} {EL : List (String × Nat)} {own : String} {p : Program} {l : Launch} {e : Env} {R : Room} {s : State} {m : MethodId} {args : Array Value} {below : List Frame} {meth : Method} {c : Code} {vm : Vm} {T : State} {h : Heap} {cells slots : Nat}
/-- a String that spells cs, each sign 0 to 255 -/
def Str (Z : State) (h : Heap) (a : Addr) (cs : List Int32) : Prop := Exa Z h a "java/lang/String" ∧ Fld Z h a "java/lang/String" "coder" "B" (.int 0) ∧ (∀ c ∈ cs, ¬ c < 0 ∧ ¬ (255 : Int32) < c) ∧ ∃ (t : Addr) (kb : ClassId), Fld Z h a "java/lang/String" "value" "[B" (.ref t) ∧ Arv Z h t kb .byte (Int32.ofNat cs.length) ((cs.map fun c => c.toInt8.toInt32).map Value.int) (.int 0)
theorem Str.ext {h' : Heap} {a : Addr} {cs : List Int32} (S : Str Z h a cs) (X : Ext h h') : Str Z h' a cs := by
  obtain ⟨E, C, hp, t, kb, V, K⟩ := S; exact ⟨E.ext X, C.ext X, hp, t, kb, V.ext X, K.ext X⟩
theorem Str.lt {a : Addr} {cs : List Int32} (S : Str Z h a cs) : a < h.size := S.1.lt
theorem own_ups {cs : List Int32} (h : ∀ c ∈ cs, ¬ c < 0 ∧ ¬ (255 : Int32) < c) : ∀ c ∈ cs, ¬ c < 0 ∧ ¬ (65535 : Int32) < c := fun c hc => own_up (h c hc)
theorem own_strNew (W : Wk Z a0 EL own p l e R s m args below meth c vm T h cells slots) (hx : p.tables.exec = Jvm.exec) (hws : ∀ d ∈ StrChars.Road.words, d.before a0 Z = true) {index kI : Nat} {bytes : ByteArray} {maxL : Nat} (w1 : (Cond.methodLink own index ⟨"java/lang/String", "<init>", "([C)V"⟩).before a0 Z = true) (w2 : (Cond.instanceMethod ⟨"java/lang/String", "<init>", "([C)V"⟩).before a0 Z = true) (w4 : (Cond.code ⟨"java/lang/String", "<init>", "([C)V"⟩ bytes maxL none).before a0 Z = true) (wi : (Cond.instantiable "java/lang/String" kI).before a0 Z = true)
    {x b : Addr} {kC : ClassId} {cs : List Int32} {d v0 c0 : Value} {N : Int32} (E : Exa Z h x "java/lang/String") (V : Fld Z h x "java/lang/String" "value" "[B" v0) (C : Fld Z h x "java/lang/String" "coder" "B" c0) (K : Arv Z h b kC .char N (cs.map Value.int) d) (hN : N = Int32.ofNat cs.length) (cmp : ∃ z : Int32, Sta Z Z.heap "java/lang/String" "COMPACT_STRINGS" "Z" (.int z) ∧ ¬ z = 0)
    (l0 : 0 < cs.length) (l2 : cs.length ≤ 4000) (hp : ∀ c ∈ cs, ¬ c < 0 ∧ ¬ (255 : Int32) < c) (Sf : Safe Z EL vm h x) (hfr : Z.heap.size ≤ x) {Wd : Nat} (hf : 4 ≤ R.frames) (hlo : Wd + 65 ≤ R.locals) (hce : cells + 1 ≤ R.cells) (hsl : slots + cs.length ≤ R.slots)
    {g : JFrame} (hg : g.method = m) (hsize : g.locals.size = c.maxLocals) {rest : List Value} (hs : g.stack = .ref b :: .ref x :: rest) (hW : 2 * g.monitorRoom + (rest.map fun v => v.category).sum ≤ Wd) (hd : decode c.code g.pc = .ok (.invokespecial index, 3)) :
    ∃ (T' : State) (h' : Heap), Wk Z a0 EL own p l e R s m args below meth c vm T' h' (cells + 1) (slots + cs.length) ∧ Keep h h' [x] ∧ Str Z h' x cs ∧
      ∀ target, Steps p.tables e below (T'.setTop { g with pc := g.pc + 3, stack := rest }) target → Steps p.tables e below (T.setTop g) target := by
  obtain ⟨z, OS, hz⟩ := cmp
  obtain ⟨v, T', h', L, W', ⟨rfl, hL, hK, q1, q2, t, kb, -, -, -, q3, q4⟩, st⟩ := own_specB W hx (y := ⟨"java/lang/String", "<init>", "([C)V"⟩) (Q := fun v h' L => StrChars.Road.QV Z x N (cs.map fun c => c.toInt8.toInt32) h Z.heap.size v h' L) (kc := 1) (ks := cs.length) (ws := [x]) rfl w1 w2 w4 (by decide)
    (fun s' hZ' => StrChars.Road.backV hZ' hws wi hfr W.sz E V C K (OS.ext W.old) hz rfl hN l0 l2 hp rfl hf hlo)
    (fun v h' L q => ⟨q.2.1, q.2.2.1⟩) (allS Sf all0) (allS hfr all0) hce hsl hg hsize (a := x) (argsL := [.ref b]) (rest := rest) (lenOf (d := "([C)V") (ps := [.array .char]) (r := none) (by decide +kernel) rfl) hs rfl hW hd
  exact ⟨T', h', W', hK, ⟨q1, q2, hp, t, kb, q3, hN ▸ q4⟩, st⟩
theorem own_slen (W : Wk Z a0 EL own p l e R s m args below meth c vm T h cells slots) (hx : p.tables.exec = Jvm.exec) (hln : ∀ d ∈ StrChars.Road.wordsLen, d.before a0 Z = true) {index kI : Nat} (w1 : (Cond.methodLink own index ⟨"java/lang/String", "length", "()I"⟩).before a0 Z = true) (w2 : (Cond.declares ⟨"java/lang/String", "length", "()I"⟩).before a0 Z = true) (w5 : (Cond.selects "java/lang/String" ⟨"java/lang/String", "length", "()I"⟩ ⟨"java/lang/String", "length", "()I"⟩).before a0 Z = true) (w6 : (Cond.instanceMethod ⟨"java/lang/String", "length", "()I"⟩).before a0 Z = true) (wi : (Cond.instantiable "java/lang/String" kI).before a0 Z = true)
    {x : Addr} {cs : List Int32} (S : Str Z h x cs) (cmp : ∃ z : Int32, Sta Z Z.heap "java/lang/String" "COMPACT_STRINGS" "Z" (.int z) ∧ ¬ z = 0) (l2 : cs.length ≤ 4000) {Wd : Nat} (hf : 2 ≤ R.frames) (hlo : Wd + 25 ≤ R.locals) (hce : cells + 0 ≤ R.cells) (hsl : slots + 0 ≤ R.slots)
    {g : JFrame} (hg : g.method = m) (hsize : g.locals.size = c.maxLocals) {rest : List Value} (hs : g.stack = .ref x :: rest) (hW : 2 * g.monitorRoom + (rest.map fun v => v.category).sum ≤ Wd) (hd : decode c.code g.pc = .ok (.invokevirtual index, 3)) :
    ∃ T' : State, Wk Z a0 EL own p l e R s m args below meth c vm T' h cells slots ∧
      ∀ target, Steps p.tables e below (T'.setTop { g with pc := g.pc + 3, stack := .int (Int32.ofNat cs.length) :: rest }) target → Steps p.tables e below (T.setTop g) target := by
  obtain ⟨z, OS, hz⟩ := cmp
  obtain ⟨E, C, hp, t, kb, V, K⟩ := S
  obtain ⟨v, T', h', L, W', ⟨rfl, -, rfl⟩, st⟩ := own_virtB W hx (y := ⟨"java/lang/String", "length", "()I"⟩) (z := ⟨"java/lang/String", "length", "()I"⟩) (Q := fun v h' L => v = some (.int (Int32.ofNat cs.length)) ∧ L = [] ∧ h' = h) (kc := 0) (ks := 0) (ws := []) w1 w2 w5 w6 (by decide) (own_nf W w5) E
    (fun s' hZ' => StrChars.Road.lenW hZ' hln wi E V C K (StrChars.Road.codOf rfl (fun c hc => (hp c hc).2)) (own_ups hp) (OS.ext W.old) hz l2 hf hlo)
    (fun v h' L q => by obtain ⟨-, rfl, rfl⟩ := q; exact ⟨Fr.nil _, Keep.refl _ _⟩) all0 all0 hce hsl hg hsize (argsL := []) (rest := rest) (lenOf (d := "()I") (ps := []) (r := some .int) (by decide +kernel) rfl) hs rfl hW hd
  exact ⟨T', W', st⟩
theorem own_seq (W : Wk Z a0 EL own p l e R s m args below meth c vm T h cells slots) (hx : p.tables.exec = Jvm.exec) (hln : ∀ d ∈ StrChars.Road.wordsEq, d.before a0 Z = true) {index kI : Nat} (w1 : (Cond.methodLink own index ⟨"java/lang/String", "equals", "(Ljava/lang/Object;)Z"⟩).before a0 Z = true) (w2 : (Cond.declares ⟨"java/lang/String", "equals", "(Ljava/lang/Object;)Z"⟩).before a0 Z = true) (w5 : (Cond.selects "java/lang/String" ⟨"java/lang/String", "equals", "(Ljava/lang/Object;)Z"⟩ ⟨"java/lang/String", "equals", "(Ljava/lang/Object;)Z"⟩).before a0 Z = true) (w6 : (Cond.instanceMethod ⟨"java/lang/String", "equals", "(Ljava/lang/Object;)Z"⟩).before a0 Z = true) (wi : (Cond.instantiable "java/lang/String" kI).before a0 Z = true)
    {x y : Addr} {cs ds : List Int32} (S : Str Z h x cs) (S' : Str Z h y ds) (cmp : ∃ z : Int32, Sta Z Z.heap "java/lang/String" "COMPACT_STRINGS" "Z" (.int z) ∧ ¬ z = 0) (l2 : cs.length ≤ 4000) (l3 : ds.length ≤ 4000) {Wd : Nat} (hf : 2 ≤ R.frames) (hlo : Wd + 28 ≤ R.locals) (hce : cells + 0 ≤ R.cells) (hsl : slots + 0 ≤ R.slots)
    {g : JFrame} (hg : g.method = m) (hsize : g.locals.size = c.maxLocals) {rest : List Value} (hs : g.stack = .ref y :: .ref x :: rest) (hW : 2 * g.monitorRoom + (rest.map fun v => v.category).sum ≤ Wd) (hd : decode c.code g.pc = .ok (.invokevirtual index, 3)) :
    ∃ (b : Int32) (T' : State), ((b = 1 ∧ cs = ds) ∨ (b = 0 ∧ ¬ cs = ds)) ∧ Wk Z a0 EL own p l e R s m args below meth c vm T' h cells slots ∧
      ∀ target, Steps p.tables e below (T'.setTop { g with pc := g.pc + 3, stack := .int b :: rest }) target → Steps p.tables e below (T.setTop g) target := by
  obtain ⟨z, OS, hz⟩ := cmp
  obtain ⟨E, C, hp, t, kb, V, K⟩ := S
  obtain ⟨E', C', hp', t', kb', V', K'⟩ := S'
  obtain ⟨v, T', h', L, W', ⟨hv, -, rfl⟩, st⟩ := own_virtB W hx (y := ⟨"java/lang/String", "equals", "(Ljava/lang/Object;)Z"⟩) (z := ⟨"java/lang/String", "equals", "(Ljava/lang/Object;)Z"⟩) (Q := fun v h' L => ((v = some (.int 1) ∧ cs = ds) ∨ (v = some (.int 0) ∧ ¬ cs = ds)) ∧ L = [] ∧ h' = h) (kc := 0) (ks := 0) (ws := []) w1 w2 w5 w6 (by decide) (own_nf W w5) E
    (fun s' hZ' => StrChars.Road.eqW hZ' hln wi E V C K (StrChars.Road.codOf rfl (fun c hc => (hp c hc).2)) (own_ups hp) l2 E' V' C' K' (StrChars.Road.codOf rfl (fun c hc => (hp' c hc).2)) (own_ups hp') l3 (OS.ext W.old) hz hf hlo)
    (fun v h' L q => by obtain ⟨-, rfl, rfl⟩ := q; exact ⟨Fr.nil _, Keep.refl _ _⟩) all0 all0 hce hsl hg hsize (argsL := [.ref y]) (rest := rest) (lenOf (d := "(Ljava/lang/Object;)Z") (ps := [.object "java/lang/Object"]) (r := some .boolean) (by decide +kernel) rfl) hs rfl hW hd
  rcases hv with ⟨rfl, q⟩ | ⟨rfl, q⟩
  · exact ⟨1, T', Or.inl ⟨rfl, q⟩, W', st⟩
  · exact ⟨0, T', Or.inr ⟨rfl, q⟩, W', st⟩
end OwnStr
theorem own_al0 {α : Type} {P : α → Prop} : ∀ x ∈ ([] : List α), P x := fun _ q => nomatch q
theorem own_alS {α : Type} {P : α → Prop} {y : α} {L : List α} (q : P y) (r : ∀ x ∈ L, P x) : ∀ x ∈ y :: L, P x := fun x z => (List.mem_cons.mp z).elim (fun u => u ▸ q) (r x)
theorem own_c255 (x : Int32) : ¬ ((x &&& (255 : Int32)).toUInt32.toUInt16.toUInt32.toInt32) < 0 ∧ ¬ (255 : Int32) < ((x &&& (255 : Int32)).toUInt32.toUInt16.toUInt32.toInt32) := by
  have t : ∀ k : Fin 256, ¬ ((Int32.ofNat k.val).toUInt32.toUInt16.toUInt32.toInt32) < 0 ∧ ¬ (255 : Int32) < ((Int32.ofNat k.val).toUInt32.toUInt16.toUInt32.toInt32) := by decide +kernel
  have h : (x &&& 255).toBitVec.toNat < 256 := by
    simp only [Int32.toBitVec_and, BitVec.toNat_and]
    exact Nat.lt_succ_of_le Nat.and_le_right
  have e : (x &&& 255) = Int32.ofNat (x &&& 255).toBitVec.toNat := by
    apply Int32.toBitVec_inj.mp
    show _ = BitVec.ofNat 32 _
    rw [BitVec.ofNat_toNat]; simp
  rw [e]
  exact t ⟨_, h⟩
theorem own_bz {b : Int32} {P Q : Prop} (h : (b = 1 ∧ P) ∨ (b = 0 ∧ Q)) : narrow .boolean (.int b) = .int b ∧ fits .boolean (.int b) = true := by rcases h with ⟨rfl, -⟩ | ⟨rfl, -⟩ <;> exact ⟨rfl, by decide⟩
theorem own_oft {n : Nat} (h : n < 2147483648) : (Int32.ofNat n).toInt = n := Int32.toInt_ofNat_small h
theorem own_ltn {i n : Nat} (hi : i < 2147483648) (hn : n < 2147483648) : Int32.ofNat i < Int32.ofNat n ↔ i < n := by rw [Int32.lt_iff_toInt_lt, own_oft hi, own_oft hn]; omega
theorem own_inc (i : Nat) : Int32.ofNat i + (1 : Int32) = Int32.ofNat (i + 1) := by
  apply Int32.toBitVec_inj.mp
  show BitVec.ofNat 32 i + BitVec.ofNat 32 1 = BitVec.ofNat 32 (i + 1)
  rw [← BitVec.ofNat_add]
theorem own_gd {cs : List Int32} {P : Int32 → Prop} (h : ∀ c ∈ cs, P c) {i : Nat} (hi : i < cs.length) : P (cs.getD i 0) := by
  rw [List.getD_eq_getElem?_getD, List.getElem?_eq_getElem hi]; exact h _ (List.getElem_mem _)
theorem own_mask (x : Int32) : 0 ≤ (x &&& (2147483647 : Int32)).toInt := by
  have h : (x &&& 2147483647).toBitVec.toNat ≤ 2147483647 := by
    simp only [Int32.toBitVec_and, BitVec.toNat_and]
    exact Nat.and_le_right
  show 0 ≤ (x &&& 2147483647).toBitVec.toInt
  rw [BitVec.toInt_eq_toNat_cond]; split <;> omega
theorem own_modk (x k : Int32) (h : 0 < k.toInt) : 0 ≤ ((x &&& (2147483647 : Int32)) % k).toInt ∧ ((x &&& (2147483647 : Int32)) % k).toInt < k.toInt := by
  rw [Int32.toInt_mod]
  exact ⟨Int.tmod_nonneg _ (own_mask x), Int.tmod_lt_of_pos _ h⟩
theorem own_b8 (x : Int32) : (x.toInt8.toInt32).toInt8.toInt32 = x.toInt8.toInt32 := by simp
theorem own_neBA {Z : State} {h : Heap} {a0 : Array Value} {a b : Addr} {C : String} {n : Nat} {k : ClassId} {ty : FieldType} {z : Int32} {vs : List Value} {d : Value} (E : Exa Z h a C) (F : Arv Z h b k ty z vs d) (w : (Cond.instantiable C n).before a0 Z = true) : a ≠ b := Exa.neArv E F w
theorem own_litS {Z : State} {h : Heap} {a t : Addr} {kb : ClassId} {cs : List Int32} {z : Int32} (E : Exa Z h a "java/lang/String") (C : Fld Z h a "java/lang/String" "coder" "B" (.int 0)) (V : Fld Z h a "java/lang/String" "value" "[B" (.ref t)) (K : Arv Z h t kb .byte z (cs.map Value.int) (.int 0)) (hz : z = Int32.ofNat cs.length) (hp : ∀ c ∈ cs, ¬ c < 0 ∧ ¬ (255 : Int32) < c) (he : cs = cs.map fun c => c.toInt8.toInt32) : Str Z h a cs := ⟨E, C, hp, t, kb, V, by subst hz; rw [← he]; exact K⟩
theorem own_b1 {b : Int32} {cs : List Int32} (h : (b = 1 ∧ cs = cs) ∨ (b = 0 ∧ ¬ cs = cs)) : ¬ b = (0 : Int32) := h.elim (fun z r => absurd (z.1.symm.trans r) (by decide)) (fun z => absurd rfl z.2)
def own_EL : List (String × Nat) := [("com/example/forseti/forseti/model/ClassFigures", 1), ("com/example/forseti/forseti/model/ClassFigures", 55), ("com/example/forseti/forseti/model/ClassFiguresAlikeForEveryPinLaw", 37)]
def Cx (Z : State) (a0 : Array Value) : Prop := (∀ d ∈ tables_1, d.before a0 Z = true) ∧ EW Z a0 own_EL ∧ (∃ z : Int32, Sta Z Z.heap "java/lang/String" "COMPACT_STRINGS" "Z" (.int z) ∧ ¬ z = 0) ∧ (∃ z : Value, Sta Z Z.heap "jdk/internal/util/Preconditions" "SIOOBE_FORMATTER" "Ljava/util/function/BiFunction;" z ∧ z.isRef = true)
theorem Cx.hw {Z : State} {a0 : Array Value} (C : Cx Z a0) : (∀ d ∈ tables_1, d.before a0 Z = true) := C.1
theorem Cx.ew {Z : State} {a0 : Array Value} (C : Cx Z a0) : EW Z a0 own_EL := C.2.1
theorem Cx.cs {Z : State} {a0 : Array Value} (C : Cx Z a0) : (∃ z : Int32, Sta Z Z.heap "java/lang/String" "COMPACT_STRINGS" "Z" (.int z) ∧ ¬ z = 0) := C.2.2.1
theorem Cx.sf {Z : State} {a0 : Array Value} (C : Cx Z a0) : (∃ z : Value, Sta Z Z.heap "jdk/internal/util/Preconditions" "SIOOBE_FORMATTER" "Ljava/util/function/BiFunction;" z ∧ z.isRef = true) := C.2.2.2
theorem own_ws {Z : State} {a0 : Array Value} (C : Cx Z a0) : ∀ d ∈ StrChars.Road.words, d.before a0 Z = true := fun d hd => C.1 d ((by decide +kernel : ∀ d ∈ StrChars.Road.words, d ∈ tables_1) d hd)
theorem own_wln {Z : State} {a0 : Array Value} (C : Cx Z a0) : ∀ d ∈ StrChars.Road.wordsLen, d.before a0 Z = true := fun d hd => C.1 d ((by decide +kernel : ∀ d ∈ StrChars.Road.wordsLen, d ∈ tables_1) d hd)
theorem own_weq {Z : State} {a0 : Array Value} (C : Cx Z a0) : ∀ d ∈ StrChars.Road.wordsEq, d.before a0 Z = true := fun d hd => C.1 d ((by decide +kernel : ∀ d ∈ StrChars.Road.wordsEq, d ∈ tables_1) d hd)
theorem own_wS {Z : State} {a0 : Array Value} (C : Cx Z a0) : ∀ d ∈ Bundle.stringAtoms, d.before a0 Z = true := fun d hd => C.1 d ((by decide +kernel : ∀ d ∈ Bundle.stringAtoms, d ∈ tables_1) d hd)
theorem w0 {Z : State} {a0 : Array Value} (C : Cx Z a0) : (Jvm.Cond.classLink "com/example/forseti/forseti/model/ClassFiguresAlikeForEveryPinLaw" (7 : Nat) "java/lang/String").before a0 Z = true := C.1 _ (List.mem_of_getElem? (i := 0) rfl)
theorem w1 {Z : State} {a0 : Array Value} (C : Cx Z a0) : (Jvm.Cond.instantiable "java/lang/String" (4 : Nat)).before a0 Z = true := C.1 _ (List.mem_of_getElem? (i := 1) rfl)
theorem w2 {Z : State} {a0 : Array Value} (C : Cx Z a0) : (Jvm.Cond.initialized "java/lang/String").before a0 Z = true := C.1 _ (List.mem_of_getElem? (i := 2) rfl)
theorem w3 {Z : State} {a0 : Array Value} (C : Cx Z a0) : (Jvm.Cond.arrayClass Jvm.ClassFile.FieldType.char).before a0 Z = true := C.1 _ (List.mem_of_getElem? (i := 3) rfl)
theorem w4 {Z : State} {a0 : Array Value} (C : Cx Z a0) : (Jvm.Cond.methodLink "com/example/forseti/forseti/model/ClassFiguresAlikeForEveryPinLaw" (9 : Nat) ({ cls := "java/lang/String", name := "<init>", desc := "([C)V" } : Jvm.MethodName)).before a0 Z = true := C.1 _ (List.mem_of_getElem? (i := 4) rfl)
theorem w5 {Z : State} {a0 : Array Value} (C : Cx Z a0) : (Jvm.Cond.instanceMethod ({ cls := "java/lang/String", name := "<init>", desc := "([C)V" } : Jvm.MethodName)).before a0 Z = true := C.1 _ (List.mem_of_getElem? (i := 5) rfl)
theorem w6 {Z : State} {a0 : Array Value} (C : Cx Z a0) : (Jvm.Cond.code ({ cls := "java/lang/String", name := "<init>", desc := "([C)V" } : Jvm.MethodName) jdk_42_method_3_code (2 : Nat) (Option.none : Option Jvm.ClassFile.FieldType)).before a0 Z = true := C.1 _ (List.mem_of_getElem? (i := 6) rfl)
theorem w11 {Z : State} {a0 : Array Value} (C : Cx Z a0) : (Jvm.Cond.methodLink "java/lang/String" (1 : Nat) ({ cls := "java/lang/Object", name := "<init>", desc := "()V" } : Jvm.MethodName)).before a0 Z = true := C.1 _ (List.mem_of_getElem? (i := 11) rfl)
theorem w12 {Z : State} {a0 : Array Value} (C : Cx Z a0) : (Jvm.Cond.instanceMethod ({ cls := "java/lang/Object", name := "<init>", desc := "()V" } : Jvm.MethodName)).before a0 Z = true := C.1 _ (List.mem_of_getElem? (i := 12) rfl)
theorem w13 {Z : State} {a0 : Array Value} (C : Cx Z a0) : (Jvm.Cond.code ({ cls := "java/lang/Object", name := "<init>", desc := "()V" } : Jvm.MethodName) object_method_1_code (1 : Nat) (Option.none : Option Jvm.ClassFile.FieldType)).before a0 Z = true := C.1 _ (List.mem_of_getElem? (i := 13) rfl)
theorem w14 {Z : State} {a0 : Array Value} (C : Cx Z a0) : (Jvm.Cond.fieldLink "java/lang/String" (38 : Nat) "java/lang/String" "COMPACT_STRINGS" "Z").before a0 Z = true := C.1 _ (List.mem_of_getElem? (i := 14) rfl)
theorem w19 {Z : State} {a0 : Array Value} (C : Cx Z a0) : (Jvm.Cond.arrayClass Jvm.ClassFile.FieldType.byte).before a0 Z = true := C.1 _ (List.mem_of_getElem? (i := 19) rfl)
theorem w26 {Z : State} {a0 : Array Value} (C : Cx Z a0) : (Jvm.Cond.fieldLink "java/lang/String" (15 : Nat) "java/lang/String" "coder" "B").before a0 Z = true := C.1 _ (List.mem_of_getElem? (i := 26) rfl)
theorem w27 {Z : State} {a0 : Array Value} (C : Cx Z a0) : (Jvm.Cond.laysFinal "java/lang/String" "java/lang/String" "coder" "B").before a0 Z = true := C.1 _ (List.mem_of_getElem? (i := 27) rfl)
theorem w28 {Z : State} {a0 : Array Value} (C : Cx Z a0) : (Jvm.Cond.fieldLink "java/lang/String" (9 : Nat) "java/lang/String" "value" "[B").before a0 Z = true := C.1 _ (List.mem_of_getElem? (i := 28) rfl)
theorem w29 {Z : State} {a0 : Array Value} (C : Cx Z a0) : (Jvm.Cond.laysFinal "java/lang/String" "java/lang/String" "value" "[B").before a0 Z = true := C.1 _ (List.mem_of_getElem? (i := 29) rfl)
theorem w30 {Z : State} {a0 : Array Value} (C : Cx Z a0) : (Jvm.Cond.methodLink "com/example/forseti/forseti/model/ClassFiguresAlikeForEveryPinLaw" (12 : Nat) ({ cls := "java/lang/String", name := "valueOf", desc := "(C)Ljava/lang/String;" } : Jvm.MethodName)).before a0 Z = true := C.1 _ (List.mem_of_getElem? (i := 30) rfl)
theorem w31 {Z : State} {a0 : Array Value} (C : Cx Z a0) : (Jvm.Cond.static ({ cls := "java/lang/String", name := "valueOf", desc := "(C)Ljava/lang/String;" } : Jvm.MethodName)).before a0 Z = true := C.1 _ (List.mem_of_getElem? (i := 31) rfl)
theorem w32 {Z : State} {a0 : Array Value} (C : Cx Z a0) : (Jvm.Cond.code ({ cls := "java/lang/String", name := "valueOf", desc := "(C)Ljava/lang/String;" } : Jvm.MethodName) jdk_42_method_139_code (1 : Nat) (Option.some (Jvm.ClassFile.FieldType.object "java/lang/String"))).before a0 Z = true := C.1 _ (List.mem_of_getElem? (i := 32) rfl)
theorem w33 {Z : State} {a0 : Array Value} (C : Cx Z a0) : (Jvm.Cond.methodLink "java/lang/String" (1015 : Nat) ({ cls := "java/lang/StringLatin1", name := "canEncode", desc := "(C)Z" } : Jvm.MethodName)).before a0 Z = true := C.1 _ (List.mem_of_getElem? (i := 33) rfl)
theorem w34 {Z : State} {a0 : Array Value} (C : Cx Z a0) : (Jvm.Cond.static ({ cls := "java/lang/StringLatin1", name := "canEncode", desc := "(C)Z" } : Jvm.MethodName)).before a0 Z = true := C.1 _ (List.mem_of_getElem? (i := 34) rfl)
theorem w35 {Z : State} {a0 : Array Value} (C : Cx Z a0) : (Jvm.Cond.initialized "java/lang/StringLatin1").before a0 Z = true := C.1 _ (List.mem_of_getElem? (i := 35) rfl)
theorem w36 {Z : State} {a0 : Array Value} (C : Cx Z a0) : (Jvm.Cond.code ({ cls := "java/lang/StringLatin1", name := "canEncode", desc := "(C)Z" } : Jvm.MethodName) jdk_43_method_3_code (1 : Nat) (Option.some Jvm.ClassFile.FieldType.boolean)).before a0 Z = true := C.1 _ (List.mem_of_getElem? (i := 36) rfl)
theorem w37 {Z : State} {a0 : Array Value} (C : Cx Z a0) : (Jvm.Cond.classLink "java/lang/String" (10 : Nat) "java/lang/String").before a0 Z = true := C.1 _ (List.mem_of_getElem? (i := 37) rfl)
theorem w38 {Z : State} {a0 : Array Value} (C : Cx Z a0) : (Jvm.Cond.methodLink "java/lang/String" (1018 : Nat) ({ cls := "java/lang/StringLatin1", name := "toBytes", desc := "(C)[B" } : Jvm.MethodName)).before a0 Z = true := C.1 _ (List.mem_of_getElem? (i := 38) rfl)
theorem w39 {Z : State} {a0 : Array Value} (C : Cx Z a0) : (Jvm.Cond.static ({ cls := "java/lang/StringLatin1", name := "toBytes", desc := "(C)[B" } : Jvm.MethodName)).before a0 Z = true := C.1 _ (List.mem_of_getElem? (i := 39) rfl)
theorem w40 {Z : State} {a0 : Array Value} (C : Cx Z a0) : (Jvm.Cond.code ({ cls := "java/lang/StringLatin1", name := "toBytes", desc := "(C)[B" } : Jvm.MethodName) jdk_43_method_46_code (1 : Nat) (Option.some (Jvm.ClassFile.FieldType.array Jvm.ClassFile.FieldType.byte))).before a0 Z = true := C.1 _ (List.mem_of_getElem? (i := 40) rfl)
theorem w41 {Z : State} {a0 : Array Value} (C : Cx Z a0) : (Jvm.Cond.methodLink "java/lang/String" (209 : Nat) ({ cls := "java/lang/String", name := "<init>", desc := "([BB)V" } : Jvm.MethodName)).before a0 Z = true := C.1 _ (List.mem_of_getElem? (i := 41) rfl)
theorem w42 {Z : State} {a0 : Array Value} (C : Cx Z a0) : (Jvm.Cond.instanceMethod ({ cls := "java/lang/String", name := "<init>", desc := "([BB)V" } : Jvm.MethodName)).before a0 Z = true := C.1 _ (List.mem_of_getElem? (i := 42) rfl)
theorem w43 {Z : State} {a0 : Array Value} (C : Cx Z a0) : (Jvm.Cond.code ({ cls := "java/lang/String", name := "<init>", desc := "([BB)V" } : Jvm.MethodName) jdk_42_method_151_code (3 : Nat) (Option.none : Option Jvm.ClassFile.FieldType)).before a0 Z = true := C.1 _ (List.mem_of_getElem? (i := 43) rfl)
theorem w44 {Z : State} {a0 : Array Value} (C : Cx Z a0) : (Jvm.Cond.methodLink "com/example/forseti/forseti/model/ClassFiguresAlikeForEveryPinLaw" (16 : Nat) ({ cls := "com/example/forseti/forseti/model/ClassFigures", name := "alikeForEvery", desc := "(Ljava/lang/String;Ljava/lang/String;Ljava/lang/String;)Lcom/example/forseti/forseti/model/ClassFigures;" } : Jvm.MethodName)).before a0 Z = true := C.1 _ (List.mem_of_getElem? (i := 44) rfl)
theorem w45 {Z : State} {a0 : Array Value} (C : Cx Z a0) : (Jvm.Cond.static ({ cls := "com/example/forseti/forseti/model/ClassFigures", name := "alikeForEvery", desc := "(Ljava/lang/String;Ljava/lang/String;Ljava/lang/String;)Lcom/example/forseti/forseti/model/ClassFigures;" } : Jvm.MethodName)).before a0 Z = true := C.1 _ (List.mem_of_getElem? (i := 45) rfl)
theorem w46 {Z : State} {a0 : Array Value} (C : Cx Z a0) : (Jvm.Cond.initialized "com/example/forseti/forseti/model/ClassFigures").before a0 Z = true := C.1 _ (List.mem_of_getElem? (i := 46) rfl)
theorem w47 {Z : State} {a0 : Array Value} (C : Cx Z a0) : (Jvm.Cond.code ({ cls := "com/example/forseti/forseti/model/ClassFigures", name := "alikeForEvery", desc := "(Ljava/lang/String;Ljava/lang/String;Ljava/lang/String;)Lcom/example/forseti/forseti/model/ClassFigures;" } : Jvm.MethodName) prog_50_method_5_code (3 : Nat) (Option.some (Jvm.ClassFile.FieldType.object "com/example/forseti/forseti/model/ClassFigures"))).before a0 Z = true := C.1 _ (List.mem_of_getElem? (i := 47) rfl)
theorem w48 {Z : State} {a0 : Array Value} (C : Cx Z a0) : (Jvm.Cond.classLink "com/example/forseti/forseti/model/ClassFigures" (4 : Nat) "com/example/forseti/forseti/model/ClassFigures").before a0 Z = true := C.1 _ (List.mem_of_getElem? (i := 48) rfl)
theorem w49 {Z : State} {a0 : Array Value} (C : Cx Z a0) : (Jvm.Cond.instantiable "com/example/forseti/forseti/model/ClassFigures" (6 : Nat)).before a0 Z = true := C.1 _ (List.mem_of_getElem? (i := 49) rfl)
theorem w50 {Z : State} {a0 : Array Value} (C : Cx Z a0) : (Jvm.Cond.stringLink "com/example/forseti/forseti/model/ClassFigures" (1 : Nat) "a").before a0 Z = true := C.1 _ (List.mem_of_getElem? (i := 50) rfl)
theorem w53 {Z : State} {a0 : Array Value} (C : Cx Z a0) : (Jvm.Cond.methodLink "com/example/forseti/forseti/model/ClassFigures" (14 : Nat) ({ cls := "com/example/forseti/forseti/model/ClassFigures", name := "<init>", desc := "(Ljava/lang/String;Ljava/lang/String;Ljava/lang/String;Ljava/lang/String;)V" } : Jvm.MethodName)).before a0 Z = true := C.1 _ (List.mem_of_getElem? (i := 53) rfl)
theorem w54 {Z : State} {a0 : Array Value} (C : Cx Z a0) : (Jvm.Cond.instanceMethod ({ cls := "com/example/forseti/forseti/model/ClassFigures", name := "<init>", desc := "(Ljava/lang/String;Ljava/lang/String;Ljava/lang/String;Ljava/lang/String;)V" } : Jvm.MethodName)).before a0 Z = true := C.1 _ (List.mem_of_getElem? (i := 54) rfl)
theorem w55 {Z : State} {a0 : Array Value} (C : Cx Z a0) : (Jvm.Cond.code ({ cls := "com/example/forseti/forseti/model/ClassFigures", name := "<init>", desc := "(Ljava/lang/String;Ljava/lang/String;Ljava/lang/String;Ljava/lang/String;)V" } : Jvm.MethodName) prog_50_method_4_code (5 : Nat) (Option.none : Option Jvm.ClassFile.FieldType)).before a0 Z = true := C.1 _ (List.mem_of_getElem? (i := 55) rfl)
theorem w56 {Z : State} {a0 : Array Value} (C : Cx Z a0) : (Jvm.Cond.methodLink "com/example/forseti/forseti/model/ClassFigures" (17 : Nat) ({ cls := "java/lang/Object", name := "<init>", desc := "()V" } : Jvm.MethodName)).before a0 Z = true := C.1 _ (List.mem_of_getElem? (i := 56) rfl)
theorem w57 {Z : State} {a0 : Array Value} (C : Cx Z a0) : (Jvm.Cond.classLink "com/example/forseti/forseti/model/ClassFigures" (22 : Nat) "java/util/LinkedHashMap").before a0 Z = true := C.1 _ (List.mem_of_getElem? (i := 57) rfl)
theorem w58 {Z : State} {a0 : Array Value} (C : Cx Z a0) : (Jvm.Cond.instantiable "java/util/LinkedHashMap" (12 : Nat)).before a0 Z = true := C.1 _ (List.mem_of_getElem? (i := 58) rfl)
theorem w59 {Z : State} {a0 : Array Value} (C : Cx Z a0) : (Jvm.Cond.initialized "java/util/LinkedHashMap").before a0 Z = true := C.1 _ (List.mem_of_getElem? (i := 59) rfl)
theorem w60 {Z : State} {a0 : Array Value} (C : Cx Z a0) : (Jvm.Cond.methodLink "com/example/forseti/forseti/model/ClassFigures" (24 : Nat) ({ cls := "java/util/LinkedHashMap", name := "<init>", desc := "()V" } : Jvm.MethodName)).before a0 Z = true := C.1 _ (List.mem_of_getElem? (i := 60) rfl)
theorem w61 {Z : State} {a0 : Array Value} (C : Cx Z a0) : (Jvm.Cond.instanceMethod ({ cls := "java/util/LinkedHashMap", name := "<init>", desc := "()V" } : Jvm.MethodName)).before a0 Z = true := C.1 _ (List.mem_of_getElem? (i := 61) rfl)
theorem w62 {Z : State} {a0 : Array Value} (C : Cx Z a0) : (Jvm.Cond.code ({ cls := "java/util/LinkedHashMap", name := "<init>", desc := "()V" } : Jvm.MethodName) jdk_94_method_16_code (1 : Nat) (Option.none : Option Jvm.ClassFile.FieldType)).before a0 Z = true := C.1 _ (List.mem_of_getElem? (i := 62) rfl)
theorem w63 {Z : State} {a0 : Array Value} (C : Cx Z a0) : (Jvm.Cond.methodLink "java/util/LinkedHashMap" (87 : Nat) ({ cls := "java/util/HashMap", name := "<init>", desc := "()V" } : Jvm.MethodName)).before a0 Z = true := C.1 _ (List.mem_of_getElem? (i := 63) rfl)
theorem w64 {Z : State} {a0 : Array Value} (C : Cx Z a0) : (Jvm.Cond.instanceMethod ({ cls := "java/util/HashMap", name := "<init>", desc := "()V" } : Jvm.MethodName)).before a0 Z = true := C.1 _ (List.mem_of_getElem? (i := 64) rfl)
theorem w67 {Z : State} {a0 : Array Value} (C : Cx Z a0) : (Jvm.Cond.initialized "java/util/HashMap").before a0 Z = true := C.1 _ (List.mem_of_getElem? (i := 67) rfl)
theorem w68 {Z : State} {a0 : Array Value} (C : Cx Z a0) : (Jvm.Cond.code ({ cls := "java/util/HashMap", name := "<init>", desc := "()V" } : Jvm.MethodName) jdk_69_method_7_code (1 : Nat) (Option.none : Option Jvm.ClassFile.FieldType)).before a0 Z = true := C.1 _ (List.mem_of_getElem? (i := 68) rfl)
theorem w69 {Z : State} {a0 : Array Value} (C : Cx Z a0) : (Jvm.Cond.methodLink "java/util/HashMap" (43 : Nat) ({ cls := "java/util/AbstractMap", name := "<init>", desc := "()V" } : Jvm.MethodName)).before a0 Z = true := C.1 _ (List.mem_of_getElem? (i := 69) rfl)
theorem w70 {Z : State} {a0 : Array Value} (C : Cx Z a0) : (Jvm.Cond.instanceMethod ({ cls := "java/util/AbstractMap", name := "<init>", desc := "()V" } : Jvm.MethodName)).before a0 Z = true := C.1 _ (List.mem_of_getElem? (i := 70) rfl)
theorem w73 {Z : State} {a0 : Array Value} (C : Cx Z a0) : (Jvm.Cond.initialized "java/util/AbstractMap").before a0 Z = true := C.1 _ (List.mem_of_getElem? (i := 73) rfl)
theorem w74 {Z : State} {a0 : Array Value} (C : Cx Z a0) : (Jvm.Cond.code ({ cls := "java/util/AbstractMap", name := "<init>", desc := "()V" } : Jvm.MethodName) jdk_71_method_1_code (1 : Nat) (Option.none : Option Jvm.ClassFile.FieldType)).before a0 Z = true := C.1 _ (List.mem_of_getElem? (i := 74) rfl)
theorem w75 {Z : State} {a0 : Array Value} (C : Cx Z a0) : (Jvm.Cond.methodLink "java/util/AbstractMap" (1 : Nat) ({ cls := "java/lang/Object", name := "<init>", desc := "()V" } : Jvm.MethodName)).before a0 Z = true := C.1 _ (List.mem_of_getElem? (i := 75) rfl)
theorem w76 {Z : State} {a0 : Array Value} (C : Cx Z a0) : (Jvm.Cond.constantFloat "java/util/HashMap" (92 : Nat) (1061158912 : UInt32)).before a0 Z = true := C.1 _ (List.mem_of_getElem? (i := 76) rfl)
theorem w77 {Z : State} {a0 : Array Value} (C : Cx Z a0) : (Jvm.Cond.fieldLink "java/util/HashMap" (81 : Nat) "java/util/HashMap" "loadFactor" "F").before a0 Z = true := C.1 _ (List.mem_of_getElem? (i := 77) rfl)
theorem w78 {Z : State} {a0 : Array Value} (C : Cx Z a0) : (Jvm.Cond.laysFinal "java/util/LinkedHashMap" "java/util/HashMap" "loadFactor" "F").before a0 Z = true := C.1 _ (List.mem_of_getElem? (i := 78) rfl)
theorem w79 {Z : State} {a0 : Array Value} (C : Cx Z a0) : (Jvm.Cond.fieldLink "java/util/LinkedHashMap" (1 : Nat) "java/util/LinkedHashMap" "putMode" "I").before a0 Z = true := C.1 _ (List.mem_of_getElem? (i := 79) rfl)
theorem w80 {Z : State} {a0 : Array Value} (C : Cx Z a0) : (Jvm.Cond.lays "java/util/LinkedHashMap" "java/util/LinkedHashMap" "putMode" "I").before a0 Z = true := C.1 _ (List.mem_of_getElem? (i := 80) rfl)
theorem w81 {Z : State} {a0 : Array Value} (C : Cx Z a0) : (Jvm.Cond.fieldLink "java/util/LinkedHashMap" (64 : Nat) "java/util/LinkedHashMap" "accessOrder" "Z").before a0 Z = true := C.1 _ (List.mem_of_getElem? (i := 81) rfl)
theorem w82 {Z : State} {a0 : Array Value} (C : Cx Z a0) : (Jvm.Cond.laysFinal "java/util/LinkedHashMap" "java/util/LinkedHashMap" "accessOrder" "Z").before a0 Z = true := C.1 _ (List.mem_of_getElem? (i := 82) rfl)
theorem w83 {Z : State} {a0 : Array Value} (C : Cx Z a0) : (Jvm.Cond.fieldLink "com/example/forseti/forseti/model/ClassFigures" (25 : Nat) "com/example/forseti/forseti/model/ClassFigures" "leafOfOwner" "Ljava/util/Map;").before a0 Z = true := C.1 _ (List.mem_of_getElem? (i := 83) rfl)
theorem w84 {Z : State} {a0 : Array Value} (C : Cx Z a0) : (Jvm.Cond.laysFinal "com/example/forseti/forseti/model/ClassFigures" "com/example/forseti/forseti/model/ClassFigures" "leafOfOwner" "Ljava/util/Map;").before a0 Z = true := C.1 _ (List.mem_of_getElem? (i := 84) rfl)
theorem w85 {Z : State} {a0 : Array Value} (C : Cx Z a0) : (Jvm.Cond.classLink "com/example/forseti/forseti/model/ClassFigures" (29 : Nat) "java/util/HashMap").before a0 Z = true := C.1 _ (List.mem_of_getElem? (i := 85) rfl)
theorem w86 {Z : State} {a0 : Array Value} (C : Cx Z a0) : (Jvm.Cond.instantiable "java/util/HashMap" (8 : Nat)).before a0 Z = true := C.1 _ (List.mem_of_getElem? (i := 86) rfl)
theorem w87 {Z : State} {a0 : Array Value} (C : Cx Z a0) : (Jvm.Cond.methodLink "com/example/forseti/forseti/model/ClassFigures" (31 : Nat) ({ cls := "java/util/HashMap", name := "<init>", desc := "()V" } : Jvm.MethodName)).before a0 Z = true := C.1 _ (List.mem_of_getElem? (i := 87) rfl)
theorem w89 {Z : State} {a0 : Array Value} (C : Cx Z a0) : (Jvm.Cond.laysFinal "java/util/HashMap" "java/util/HashMap" "loadFactor" "F").before a0 Z = true := C.1 _ (List.mem_of_getElem? (i := 89) rfl)
theorem w90 {Z : State} {a0 : Array Value} (C : Cx Z a0) : (Jvm.Cond.fieldLink "com/example/forseti/forseti/model/ClassFigures" (32 : Nat) "com/example/forseti/forseti/model/ClassFigures" "figuresOfOwner" "Ljava/util/Map;").before a0 Z = true := C.1 _ (List.mem_of_getElem? (i := 90) rfl)
theorem w91 {Z : State} {a0 : Array Value} (C : Cx Z a0) : (Jvm.Cond.laysFinal "com/example/forseti/forseti/model/ClassFigures" "com/example/forseti/forseti/model/ClassFigures" "figuresOfOwner" "Ljava/util/Map;").before a0 Z = true := C.1 _ (List.mem_of_getElem? (i := 91) rfl)
theorem w92 {Z : State} {a0 : Array Value} (C : Cx Z a0) : (Jvm.Cond.fieldLink "com/example/forseti/forseti/model/ClassFigures" (35 : Nat) "com/example/forseti/forseti/model/ClassFigures" "kind" "Ljava/lang/String;").before a0 Z = true := C.1 _ (List.mem_of_getElem? (i := 92) rfl)
theorem w93 {Z : State} {a0 : Array Value} (C : Cx Z a0) : (Jvm.Cond.laysFinal "com/example/forseti/forseti/model/ClassFigures" "com/example/forseti/forseti/model/ClassFigures" "kind" "Ljava/lang/String;").before a0 Z = true := C.1 _ (List.mem_of_getElem? (i := 93) rfl)
theorem w94 {Z : State} {a0 : Array Value} (C : Cx Z a0) : (Jvm.Cond.fieldLink "com/example/forseti/forseti/model/ClassFigures" (39 : Nat) "com/example/forseti/forseti/model/ClassFigures" "article" "Ljava/lang/String;").before a0 Z = true := C.1 _ (List.mem_of_getElem? (i := 94) rfl)
theorem w95 {Z : State} {a0 : Array Value} (C : Cx Z a0) : (Jvm.Cond.laysFinal "com/example/forseti/forseti/model/ClassFigures" "com/example/forseti/forseti/model/ClassFigures" "article" "Ljava/lang/String;").before a0 Z = true := C.1 _ (List.mem_of_getElem? (i := 95) rfl)
theorem w96 {Z : State} {a0 : Array Value} (C : Cx Z a0) : (Jvm.Cond.fieldLink "com/example/forseti/forseti/model/ClassFigures" (42 : Nat) "com/example/forseti/forseti/model/ClassFigures" "ownerKind" "Ljava/lang/String;").before a0 Z = true := C.1 _ (List.mem_of_getElem? (i := 96) rfl)
theorem w97 {Z : State} {a0 : Array Value} (C : Cx Z a0) : (Jvm.Cond.laysFinal "com/example/forseti/forseti/model/ClassFigures" "com/example/forseti/forseti/model/ClassFigures" "ownerKind" "Ljava/lang/String;").before a0 Z = true := C.1 _ (List.mem_of_getElem? (i := 97) rfl)
theorem w98 {Z : State} {a0 : Array Value} (C : Cx Z a0) : (Jvm.Cond.fieldLink "com/example/forseti/forseti/model/ClassFigures" (45 : Nat) "com/example/forseti/forseti/model/ClassFigures" "anyOwner" "Ljava/lang/String;").before a0 Z = true := C.1 _ (List.mem_of_getElem? (i := 98) rfl)
theorem w99 {Z : State} {a0 : Array Value} (C : Cx Z a0) : (Jvm.Cond.laysFinal "com/example/forseti/forseti/model/ClassFigures" "com/example/forseti/forseti/model/ClassFigures" "anyOwner" "Ljava/lang/String;").before a0 Z = true := C.1 _ (List.mem_of_getElem? (i := 99) rfl)
theorem w100 {Z : State} {a0 : Array Value} (C : Cx Z a0) : (Jvm.Cond.methodLink "com/example/forseti/forseti/model/ClassFiguresAlikeForEveryPinLaw" (22 : Nat) ({ cls := "com/example/forseti/forseti/model/ClassFigures", name := "kind", desc := "()Ljava/lang/String;" } : Jvm.MethodName)).before a0 Z = true := C.1 _ (List.mem_of_getElem? (i := 100) rfl)
theorem w101 {Z : State} {a0 : Array Value} (C : Cx Z a0) : (Jvm.Cond.declares ({ cls := "com/example/forseti/forseti/model/ClassFigures", name := "kind", desc := "()Ljava/lang/String;" } : Jvm.MethodName)).before a0 Z = true := C.1 _ (List.mem_of_getElem? (i := 101) rfl)
theorem w102 {Z : State} {a0 : Array Value} (C : Cx Z a0) : (Jvm.Cond.instanceMethod ({ cls := "com/example/forseti/forseti/model/ClassFigures", name := "kind", desc := "()Ljava/lang/String;" } : Jvm.MethodName)).before a0 Z = true := C.1 _ (List.mem_of_getElem? (i := 102) rfl)
theorem w103 {Z : State} {a0 : Array Value} (C : Cx Z a0) : (Jvm.Cond.selects "com/example/forseti/forseti/model/ClassFigures" ({ cls := "com/example/forseti/forseti/model/ClassFigures", name := "kind", desc := "()Ljava/lang/String;" } : Jvm.MethodName) ({ cls := "com/example/forseti/forseti/model/ClassFigures", name := "kind", desc := "()Ljava/lang/String;" } : Jvm.MethodName)).before a0 Z = true := C.1 _ (List.mem_of_getElem? (i := 103) rfl)
theorem w104 {Z : State} {a0 : Array Value} (C : Cx Z a0) : (Jvm.Cond.code ({ cls := "com/example/forseti/forseti/model/ClassFigures", name := "kind", desc := "()Ljava/lang/String;" } : Jvm.MethodName) prog_50_method_6_code (1 : Nat) (Option.some (Jvm.ClassFile.FieldType.object "java/lang/String"))).before a0 Z = true := C.1 _ (List.mem_of_getElem? (i := 104) rfl)
theorem w105 {Z : State} {a0 : Array Value} (C : Cx Z a0) : (Jvm.Cond.methodLink "com/example/forseti/forseti/model/ClassFiguresAlikeForEveryPinLaw" (26 : Nat) ({ cls := "java/lang/String", name := "equals", desc := "(Ljava/lang/Object;)Z" } : Jvm.MethodName)).before a0 Z = true := C.1 _ (List.mem_of_getElem? (i := 105) rfl)
theorem w106 {Z : State} {a0 : Array Value} (C : Cx Z a0) : (Jvm.Cond.declares ({ cls := "java/lang/String", name := "equals", desc := "(Ljava/lang/Object;)Z" } : Jvm.MethodName)).before a0 Z = true := C.1 _ (List.mem_of_getElem? (i := 106) rfl)
theorem w107 {Z : State} {a0 : Array Value} (C : Cx Z a0) : (Jvm.Cond.instanceMethod ({ cls := "java/lang/String", name := "equals", desc := "(Ljava/lang/Object;)Z" } : Jvm.MethodName)).before a0 Z = true := C.1 _ (List.mem_of_getElem? (i := 107) rfl)
theorem w108 {Z : State} {a0 : Array Value} (C : Cx Z a0) : (Jvm.Cond.selects "java/lang/String" ({ cls := "java/lang/String", name := "equals", desc := "(Ljava/lang/Object;)Z" } : Jvm.MethodName) ({ cls := "java/lang/String", name := "equals", desc := "(Ljava/lang/Object;)Z" } : Jvm.MethodName)).before a0 Z = true := C.1 _ (List.mem_of_getElem? (i := 108) rfl)
theorem w109 {Z : State} {a0 : Array Value} (C : Cx Z a0) : (Jvm.Cond.code ({ cls := "java/lang/String", name := "equals", desc := "(Ljava/lang/Object;)Z" } : Jvm.MethodName) jdk_42_method_66_code (3 : Nat) (Option.some Jvm.ClassFile.FieldType.boolean)).before a0 Z = true := C.1 _ (List.mem_of_getElem? (i := 109) rfl)
theorem w113 {Z : State} {a0 : Array Value} (C : Cx Z a0) : (Jvm.Cond.methodLink "com/example/forseti/forseti/model/ClassFiguresAlikeForEveryPinLaw" (30 : Nat) ({ cls := "com/example/forseti/forseti/model/ClassFigures", name := "aKind", desc := "()Ljava/lang/String;" } : Jvm.MethodName)).before a0 Z = true := C.1 _ (List.mem_of_getElem? (i := 113) rfl)
theorem w114 {Z : State} {a0 : Array Value} (C : Cx Z a0) : (Jvm.Cond.declares ({ cls := "com/example/forseti/forseti/model/ClassFigures", name := "aKind", desc := "()Ljava/lang/String;" } : Jvm.MethodName)).before a0 Z = true := C.1 _ (List.mem_of_getElem? (i := 114) rfl)
theorem w115 {Z : State} {a0 : Array Value} (C : Cx Z a0) : (Jvm.Cond.instanceMethod ({ cls := "com/example/forseti/forseti/model/ClassFigures", name := "aKind", desc := "()Ljava/lang/String;" } : Jvm.MethodName)).before a0 Z = true := C.1 _ (List.mem_of_getElem? (i := 115) rfl)
theorem w116 {Z : State} {a0 : Array Value} (C : Cx Z a0) : (Jvm.Cond.selects "com/example/forseti/forseti/model/ClassFigures" ({ cls := "com/example/forseti/forseti/model/ClassFigures", name := "aKind", desc := "()Ljava/lang/String;" } : Jvm.MethodName) ({ cls := "com/example/forseti/forseti/model/ClassFigures", name := "aKind", desc := "()Ljava/lang/String;" } : Jvm.MethodName)).before a0 Z = true := C.1 _ (List.mem_of_getElem? (i := 116) rfl)
theorem w117 {Z : State} {a0 : Array Value} (C : Cx Z a0) : (Jvm.Cond.code ({ cls := "com/example/forseti/forseti/model/ClassFigures", name := "aKind", desc := "()Ljava/lang/String;" } : Jvm.MethodName) prog_50_method_7_code (1 : Nat) (Option.some (Jvm.ClassFile.FieldType.object "java/lang/String"))).before a0 Z = true := C.1 _ (List.mem_of_getElem? (i := 117) rfl)
theorem w118 {Z : State} {a0 : Array Value} (C : Cx Z a0) : (Jvm.Cond.classLink "com/example/forseti/forseti/model/ClassFigures" (48 : Nat) "java/lang/StringBuilder").before a0 Z = true := C.1 _ (List.mem_of_getElem? (i := 118) rfl)
theorem w119 {Z : State} {a0 : Array Value} (C : Cx Z a0) : (Jvm.Cond.instantiable "java/lang/StringBuilder" (4 : Nat)).before a0 Z = true := C.1 _ (List.mem_of_getElem? (i := 119) rfl)
theorem w120 {Z : State} {a0 : Array Value} (C : Cx Z a0) : (Jvm.Cond.initialized "java/lang/StringBuilder").before a0 Z = true := C.1 _ (List.mem_of_getElem? (i := 120) rfl)
theorem w121 {Z : State} {a0 : Array Value} (C : Cx Z a0) : (Jvm.Cond.methodLink "com/example/forseti/forseti/model/ClassFigures" (50 : Nat) ({ cls := "java/lang/StringBuilder", name := "<init>", desc := "()V" } : Jvm.MethodName)).before a0 Z = true := C.1 _ (List.mem_of_getElem? (i := 121) rfl)
theorem w122 {Z : State} {a0 : Array Value} (C : Cx Z a0) : (Jvm.Cond.instanceMethod ({ cls := "java/lang/StringBuilder", name := "<init>", desc := "()V" } : Jvm.MethodName)).before a0 Z = true := C.1 _ (List.mem_of_getElem? (i := 122) rfl)
theorem w123 {Z : State} {a0 : Array Value} (C : Cx Z a0) : (Jvm.Cond.code ({ cls := "java/lang/StringBuilder", name := "<init>", desc := "()V" } : Jvm.MethodName) jdk_67_method_1_code (1 : Nat) (Option.none : Option Jvm.ClassFile.FieldType)).before a0 Z = true := C.1 _ (List.mem_of_getElem? (i := 123) rfl)
theorem w124 {Z : State} {a0 : Array Value} (C : Cx Z a0) : (Jvm.Cond.methodLink "java/lang/StringBuilder" (1 : Nat) ({ cls := "java/lang/AbstractStringBuilder", name := "<init>", desc := "(I)V" } : Jvm.MethodName)).before a0 Z = true := C.1 _ (List.mem_of_getElem? (i := 124) rfl)
theorem w125 {Z : State} {a0 : Array Value} (C : Cx Z a0) : (Jvm.Cond.instanceMethod ({ cls := "java/lang/AbstractStringBuilder", name := "<init>", desc := "(I)V" } : Jvm.MethodName)).before a0 Z = true := C.1 _ (List.mem_of_getElem? (i := 125) rfl)
theorem w128 {Z : State} {a0 : Array Value} (C : Cx Z a0) : (Jvm.Cond.initialized "java/lang/AbstractStringBuilder").before a0 Z = true := C.1 _ (List.mem_of_getElem? (i := 128) rfl)
theorem w129 {Z : State} {a0 : Array Value} (C : Cx Z a0) : (Jvm.Cond.code ({ cls := "java/lang/AbstractStringBuilder", name := "<init>", desc := "(I)V" } : Jvm.MethodName) jdk_68_method_2_code (2 : Nat) (Option.none : Option Jvm.ClassFile.FieldType)).before a0 Z = true := C.1 _ (List.mem_of_getElem? (i := 129) rfl)
theorem w130 {Z : State} {a0 : Array Value} (C : Cx Z a0) : (Jvm.Cond.methodLink "java/lang/AbstractStringBuilder" (3 : Nat) ({ cls := "java/lang/Object", name := "<init>", desc := "()V" } : Jvm.MethodName)).before a0 Z = true := C.1 _ (List.mem_of_getElem? (i := 130) rfl)
theorem w131 {Z : State} {a0 : Array Value} (C : Cx Z a0) : (Jvm.Cond.fieldLink "java/lang/AbstractStringBuilder" (18 : Nat) "java/lang/String" "COMPACT_STRINGS" "Z").before a0 Z = true := C.1 _ (List.mem_of_getElem? (i := 131) rfl)
theorem w132 {Z : State} {a0 : Array Value} (C : Cx Z a0) : (Jvm.Cond.fieldLink "java/lang/AbstractStringBuilder" (15 : Nat) "java/lang/AbstractStringBuilder" "value" "[B").before a0 Z = true := C.1 _ (List.mem_of_getElem? (i := 132) rfl)
theorem w133 {Z : State} {a0 : Array Value} (C : Cx Z a0) : (Jvm.Cond.lays "java/lang/StringBuilder" "java/lang/AbstractStringBuilder" "value" "[B").before a0 Z = true := C.1 _ (List.mem_of_getElem? (i := 133) rfl)
theorem w134 {Z : State} {a0 : Array Value} (C : Cx Z a0) : (Jvm.Cond.fieldLink "java/lang/AbstractStringBuilder" (22 : Nat) "java/lang/AbstractStringBuilder" "coder" "B").before a0 Z = true := C.1 _ (List.mem_of_getElem? (i := 134) rfl)
theorem w135 {Z : State} {a0 : Array Value} (C : Cx Z a0) : (Jvm.Cond.lays "java/lang/StringBuilder" "java/lang/AbstractStringBuilder" "coder" "B").before a0 Z = true := C.1 _ (List.mem_of_getElem? (i := 135) rfl)
theorem w136 {Z : State} {a0 : Array Value} (C : Cx Z a0) : (Jvm.Cond.methodLink "com/example/forseti/forseti/model/ClassFigures" (51 : Nat) ({ cls := "java/lang/StringBuilder", name := "append", desc := "(Ljava/lang/String;)Ljava/lang/StringBuilder;" } : Jvm.MethodName)).before a0 Z = true := C.1 _ (List.mem_of_getElem? (i := 136) rfl)
theorem w137 {Z : State} {a0 : Array Value} (C : Cx Z a0) : (Jvm.Cond.declares ({ cls := "java/lang/StringBuilder", name := "append", desc := "(Ljava/lang/String;)Ljava/lang/StringBuilder;" } : Jvm.MethodName)).before a0 Z = true := C.1 _ (List.mem_of_getElem? (i := 137) rfl)
theorem w138 {Z : State} {a0 : Array Value} (C : Cx Z a0) : (Jvm.Cond.instanceMethod ({ cls := "java/lang/StringBuilder", name := "append", desc := "(Ljava/lang/String;)Ljava/lang/StringBuilder;" } : Jvm.MethodName)).before a0 Z = true := C.1 _ (List.mem_of_getElem? (i := 138) rfl)
theorem w139 {Z : State} {a0 : Array Value} (C : Cx Z a0) : (Jvm.Cond.selects "java/lang/StringBuilder" ({ cls := "java/lang/StringBuilder", name := "append", desc := "(Ljava/lang/String;)Ljava/lang/StringBuilder;" } : Jvm.MethodName) ({ cls := "java/lang/StringBuilder", name := "append", desc := "(Ljava/lang/String;)Ljava/lang/StringBuilder;" } : Jvm.MethodName)).before a0 Z = true := C.1 _ (List.mem_of_getElem? (i := 139) rfl)
theorem w140 {Z : State} {a0 : Array Value} (C : Cx Z a0) : (Jvm.Cond.code ({ cls := "java/lang/StringBuilder", name := "append", desc := "(Ljava/lang/String;)Ljava/lang/StringBuilder;" } : Jvm.MethodName) jdk_67_method_7_code (2 : Nat) (Option.some (Jvm.ClassFile.FieldType.object "java/lang/StringBuilder"))).before a0 Z = true := C.1 _ (List.mem_of_getElem? (i := 140) rfl)
theorem w141 {Z : State} {a0 : Array Value} (C : Cx Z a0) : (Jvm.Cond.methodLink "java/lang/StringBuilder" (29 : Nat) ({ cls := "java/lang/AbstractStringBuilder", name := "append", desc := "(Ljava/lang/String;)Ljava/lang/AbstractStringBuilder;" } : Jvm.MethodName)).before a0 Z = true := C.1 _ (List.mem_of_getElem? (i := 141) rfl)
theorem w142 {Z : State} {a0 : Array Value} (C : Cx Z a0) : (Jvm.Cond.instanceMethod ({ cls := "java/lang/AbstractStringBuilder", name := "append", desc := "(Ljava/lang/String;)Ljava/lang/AbstractStringBuilder;" } : Jvm.MethodName)).before a0 Z = true := C.1 _ (List.mem_of_getElem? (i := 142) rfl)
theorem w143 {Z : State} {a0 : Array Value} (C : Cx Z a0) : (Jvm.Cond.superclass "java/lang/StringBuilder" "java/lang/AbstractStringBuilder").before a0 Z = true := C.1 _ (List.mem_of_getElem? (i := 143) rfl)
theorem w144 {Z : State} {a0 : Array Value} (C : Cx Z a0) : (Jvm.Cond.declares ({ cls := "java/lang/AbstractStringBuilder", name := "append", desc := "(Ljava/lang/String;)Ljava/lang/AbstractStringBuilder;" } : Jvm.MethodName)).before a0 Z = true := C.1 _ (List.mem_of_getElem? (i := 144) rfl)
theorem w145 {Z : State} {a0 : Array Value} (C : Cx Z a0) : (Jvm.Cond.code ({ cls := "java/lang/AbstractStringBuilder", name := "append", desc := "(Ljava/lang/String;)Ljava/lang/AbstractStringBuilder;" } : Jvm.MethodName) jdk_68_method_22_code (3 : Nat) (Option.some (Jvm.ClassFile.FieldType.object "java/lang/AbstractStringBuilder"))).before a0 Z = true := C.1 _ (List.mem_of_getElem? (i := 145) rfl)
theorem w146 {Z : State} {a0 : Array Value} (C : Cx Z a0) : (Jvm.Cond.methodLink "java/lang/AbstractStringBuilder" (32 : Nat) ({ cls := "java/lang/String", name := "length", desc := "()I" } : Jvm.MethodName)).before a0 Z = true := C.1 _ (List.mem_of_getElem? (i := 146) rfl)
theorem w147 {Z : State} {a0 : Array Value} (C : Cx Z a0) : (Jvm.Cond.declares ({ cls := "java/lang/String", name := "length", desc := "()I" } : Jvm.MethodName)).before a0 Z = true := C.1 _ (List.mem_of_getElem? (i := 147) rfl)
theorem w148 {Z : State} {a0 : Array Value} (C : Cx Z a0) : (Jvm.Cond.instanceMethod ({ cls := "java/lang/String", name := "length", desc := "()I" } : Jvm.MethodName)).before a0 Z = true := C.1 _ (List.mem_of_getElem? (i := 148) rfl)
theorem w149 {Z : State} {a0 : Array Value} (C : Cx Z a0) : (Jvm.Cond.selects "java/lang/String" ({ cls := "java/lang/String", name := "length", desc := "()I" } : Jvm.MethodName) ({ cls := "java/lang/String", name := "length", desc := "()I" } : Jvm.MethodName)).before a0 Z = true := C.1 _ (List.mem_of_getElem? (i := 149) rfl)
theorem w151 {Z : State} {a0 : Array Value} (C : Cx Z a0) : (Jvm.Cond.methodLink "java/lang/String" (335 : Nat) ({ cls := "java/lang/String", name := "coder", desc := "()B" } : Jvm.MethodName)).before a0 Z = true := C.1 _ (List.mem_of_getElem? (i := 151) rfl)
theorem w152 {Z : State} {a0 : Array Value} (C : Cx Z a0) : (Jvm.Cond.declares ({ cls := "java/lang/String", name := "coder", desc := "()B" } : Jvm.MethodName)).before a0 Z = true := C.1 _ (List.mem_of_getElem? (i := 152) rfl)
theorem w153 {Z : State} {a0 : Array Value} (C : Cx Z a0) : (Jvm.Cond.instanceMethod ({ cls := "java/lang/String", name := "coder", desc := "()B" } : Jvm.MethodName)).before a0 Z = true := C.1 _ (List.mem_of_getElem? (i := 153) rfl)
theorem w154 {Z : State} {a0 : Array Value} (C : Cx Z a0) : (Jvm.Cond.selects "java/lang/String" ({ cls := "java/lang/String", name := "coder", desc := "()B" } : Jvm.MethodName) ({ cls := "java/lang/String", name := "coder", desc := "()B" } : Jvm.MethodName)).before a0 Z = true := C.1 _ (List.mem_of_getElem? (i := 154) rfl)
theorem w155 {Z : State} {a0 : Array Value} (C : Cx Z a0) : (Jvm.Cond.code ({ cls := "java/lang/String", name := "coder", desc := "()B" } : Jvm.MethodName) jdk_42_method_152_code (1 : Nat) (Option.some Jvm.ClassFile.FieldType.byte)).before a0 Z = true := C.1 _ (List.mem_of_getElem? (i := 155) rfl)
theorem w156 {Z : State} {a0 : Array Value} (C : Cx Z a0) : (Jvm.Cond.fieldLink "java/lang/AbstractStringBuilder" (79 : Nat) "java/lang/AbstractStringBuilder" "count" "I").before a0 Z = true := C.1 _ (List.mem_of_getElem? (i := 156) rfl)
theorem w157 {Z : State} {a0 : Array Value} (C : Cx Z a0) : (Jvm.Cond.lays "java/lang/StringBuilder" "java/lang/AbstractStringBuilder" "count" "I").before a0 Z = true := C.1 _ (List.mem_of_getElem? (i := 157) rfl)
theorem w158 {Z : State} {a0 : Array Value} (C : Cx Z a0) : (Jvm.Cond.methodLink "java/lang/AbstractStringBuilder" (100 : Nat) ({ cls := "java/lang/AbstractStringBuilder", name := "ensureCapacityInternal", desc := "(I)V" } : Jvm.MethodName)).before a0 Z = true := C.1 _ (List.mem_of_getElem? (i := 158) rfl)
theorem w159 {Z : State} {a0 : Array Value} (C : Cx Z a0) : (Jvm.Cond.instanceMethod ({ cls := "java/lang/AbstractStringBuilder", name := "ensureCapacityInternal", desc := "(I)V" } : Jvm.MethodName)).before a0 Z = true := C.1 _ (List.mem_of_getElem? (i := 159) rfl)
theorem w161 {Z : State} {a0 : Array Value} (C : Cx Z a0) : (Jvm.Cond.selects "java/lang/StringBuilder" ({ cls := "java/lang/AbstractStringBuilder", name := "ensureCapacityInternal", desc := "(I)V" } : Jvm.MethodName) ({ cls := "java/lang/AbstractStringBuilder", name := "ensureCapacityInternal", desc := "(I)V" } : Jvm.MethodName)).before a0 Z = true := C.1 _ (List.mem_of_getElem? (i := 161) rfl)
theorem w162 {Z : State} {a0 : Array Value} (C : Cx Z a0) : (Jvm.Cond.code ({ cls := "java/lang/AbstractStringBuilder", name := "ensureCapacityInternal", desc := "(I)V" } : Jvm.MethodName) jdk_68_method_9_code (3 : Nat) (Option.none : Option Jvm.ClassFile.FieldType)).before a0 Z = true := C.1 _ (List.mem_of_getElem? (i := 162) rfl)
theorem w163 {Z : State} {a0 : Array Value} (C : Cx Z a0) : (Jvm.Cond.methodLink "java/lang/AbstractStringBuilder" (208 : Nat) ({ cls := "java/lang/AbstractStringBuilder", name := "putStringAt", desc := "(ILjava/lang/String;)V" } : Jvm.MethodName)).before a0 Z = true := C.1 _ (List.mem_of_getElem? (i := 163) rfl)
theorem w164 {Z : State} {a0 : Array Value} (C : Cx Z a0) : (Jvm.Cond.instanceMethod ({ cls := "java/lang/AbstractStringBuilder", name := "putStringAt", desc := "(ILjava/lang/String;)V" } : Jvm.MethodName)).before a0 Z = true := C.1 _ (List.mem_of_getElem? (i := 164) rfl)
theorem w166 {Z : State} {a0 : Array Value} (C : Cx Z a0) : (Jvm.Cond.selects "java/lang/StringBuilder" ({ cls := "java/lang/AbstractStringBuilder", name := "putStringAt", desc := "(ILjava/lang/String;)V" } : Jvm.MethodName) ({ cls := "java/lang/AbstractStringBuilder", name := "putStringAt", desc := "(ILjava/lang/String;)V" } : Jvm.MethodName)).before a0 Z = true := C.1 _ (List.mem_of_getElem? (i := 166) rfl)
theorem w167 {Z : State} {a0 : Array Value} (C : Cx Z a0) : (Jvm.Cond.code ({ cls := "java/lang/AbstractStringBuilder", name := "putStringAt", desc := "(ILjava/lang/String;)V" } : Jvm.MethodName) jdk_68_method_73_code (3 : Nat) (Option.none : Option Jvm.ClassFile.FieldType)).before a0 Z = true := C.1 _ (List.mem_of_getElem? (i := 167) rfl)
theorem w168 {Z : State} {a0 : Array Value} (C : Cx Z a0) : (Jvm.Cond.methodLink "java/lang/AbstractStringBuilder" (397 : Nat) ({ cls := "java/lang/AbstractStringBuilder", name := "inflateIfNeededFor", desc := "(Ljava/lang/String;)V" } : Jvm.MethodName)).before a0 Z = true := C.1 _ (List.mem_of_getElem? (i := 168) rfl)
theorem w169 {Z : State} {a0 : Array Value} (C : Cx Z a0) : (Jvm.Cond.instanceMethod ({ cls := "java/lang/AbstractStringBuilder", name := "inflateIfNeededFor", desc := "(Ljava/lang/String;)V" } : Jvm.MethodName)).before a0 Z = true := C.1 _ (List.mem_of_getElem? (i := 169) rfl)
theorem w171 {Z : State} {a0 : Array Value} (C : Cx Z a0) : (Jvm.Cond.selects "java/lang/StringBuilder" ({ cls := "java/lang/AbstractStringBuilder", name := "inflateIfNeededFor", desc := "(Ljava/lang/String;)V" } : Jvm.MethodName) ({ cls := "java/lang/AbstractStringBuilder", name := "inflateIfNeededFor", desc := "(Ljava/lang/String;)V" } : Jvm.MethodName)).before a0 Z = true := C.1 _ (List.mem_of_getElem? (i := 171) rfl)
theorem w172 {Z : State} {a0 : Array Value} (C : Cx Z a0) : (Jvm.Cond.code ({ cls := "java/lang/AbstractStringBuilder", name := "inflateIfNeededFor", desc := "(Ljava/lang/String;)V" } : Jvm.MethodName) jdk_68_method_71_code (2 : Nat) (Option.none : Option Jvm.ClassFile.FieldType)).before a0 Z = true := C.1 _ (List.mem_of_getElem? (i := 172) rfl)
theorem w173 {Z : State} {a0 : Array Value} (C : Cx Z a0) : (Jvm.Cond.methodLink "java/lang/AbstractStringBuilder" (40 : Nat) ({ cls := "java/lang/String", name := "coder", desc := "()B" } : Jvm.MethodName)).before a0 Z = true := C.1 _ (List.mem_of_getElem? (i := 173) rfl)
theorem w174 {Z : State} {a0 : Array Value} (C : Cx Z a0) : (Jvm.Cond.methodLink "java/lang/AbstractStringBuilder" (399 : Nat) ({ cls := "java/lang/String", name := "getBytes", desc := "([BIB)V" } : Jvm.MethodName)).before a0 Z = true := C.1 _ (List.mem_of_getElem? (i := 174) rfl)
theorem w175 {Z : State} {a0 : Array Value} (C : Cx Z a0) : (Jvm.Cond.declares ({ cls := "java/lang/String", name := "getBytes", desc := "([BIB)V" } : Jvm.MethodName)).before a0 Z = true := C.1 _ (List.mem_of_getElem? (i := 175) rfl)
theorem w176 {Z : State} {a0 : Array Value} (C : Cx Z a0) : (Jvm.Cond.instanceMethod ({ cls := "java/lang/String", name := "getBytes", desc := "([BIB)V" } : Jvm.MethodName)).before a0 Z = true := C.1 _ (List.mem_of_getElem? (i := 176) rfl)
theorem w177 {Z : State} {a0 : Array Value} (C : Cx Z a0) : (Jvm.Cond.selects "java/lang/String" ({ cls := "java/lang/String", name := "getBytes", desc := "([BIB)V" } : Jvm.MethodName) ({ cls := "java/lang/String", name := "getBytes", desc := "([BIB)V" } : Jvm.MethodName)).before a0 Z = true := C.1 _ (List.mem_of_getElem? (i := 177) rfl)
theorem w178 {Z : State} {a0 : Array Value} (C : Cx Z a0) : (Jvm.Cond.code ({ cls := "java/lang/String", name := "getBytes", desc := "([BIB)V" } : Jvm.MethodName) jdk_42_method_147_code (4 : Nat) (Option.none : Option Jvm.ClassFile.FieldType)).before a0 Z = true := C.1 _ (List.mem_of_getElem? (i := 178) rfl)
theorem w179 {Z : State} {a0 : Array Value} (C : Cx Z a0) : (Jvm.Cond.methodLink "java/lang/String" (212 : Nat) ({ cls := "java/lang/System", name := "arraycopy", desc := "(Ljava/lang/Object;ILjava/lang/Object;II)V" } : Jvm.MethodName)).before a0 Z = true := C.1 _ (List.mem_of_getElem? (i := 179) rfl)
theorem w180 {Z : State} {a0 : Array Value} (C : Cx Z a0) : (Jvm.Cond.static ({ cls := "java/lang/System", name := "arraycopy", desc := "(Ljava/lang/Object;ILjava/lang/Object;II)V" } : Jvm.MethodName)).before a0 Z = true := C.1 _ (List.mem_of_getElem? (i := 180) rfl)
theorem w181 {Z : State} {a0 : Array Value} (C : Cx Z a0) : (Jvm.Cond.initialized "java/lang/System").before a0 Z = true := C.1 _ (List.mem_of_getElem? (i := 181) rfl)
theorem w182 {Z : State} {a0 : Array Value} (C : Cx Z a0) : (Jvm.Cond.native ({ cls := "java/lang/System", name := "arraycopy", desc := "(Ljava/lang/Object;ILjava/lang/Object;II)V" } : Jvm.MethodName)).before a0 Z = true := C.1 _ (List.mem_of_getElem? (i := 182) rfl)
theorem w183 {Z : State} {a0 : Array Value} (C : Cx Z a0) : (Jvm.Cond.stringLink "com/example/forseti/forseti/model/ClassFigures" (55 : Nat) " ").before a0 Z = true := C.1 _ (List.mem_of_getElem? (i := 183) rfl)
theorem w184 {Z : State} {a0 : Array Value} (C : Cx Z a0) : (Jvm.Cond.methodLink "com/example/forseti/forseti/model/ClassFigures" (57 : Nat) ({ cls := "java/lang/StringBuilder", name := "toString", desc := "()Ljava/lang/String;" } : Jvm.MethodName)).before a0 Z = true := C.1 _ (List.mem_of_getElem? (i := 184) rfl)
theorem w185 {Z : State} {a0 : Array Value} (C : Cx Z a0) : (Jvm.Cond.declares ({ cls := "java/lang/StringBuilder", name := "toString", desc := "()Ljava/lang/String;" } : Jvm.MethodName)).before a0 Z = true := C.1 _ (List.mem_of_getElem? (i := 185) rfl)
theorem w186 {Z : State} {a0 : Array Value} (C : Cx Z a0) : (Jvm.Cond.instanceMethod ({ cls := "java/lang/StringBuilder", name := "toString", desc := "()Ljava/lang/String;" } : Jvm.MethodName)).before a0 Z = true := C.1 _ (List.mem_of_getElem? (i := 186) rfl)
theorem w187 {Z : State} {a0 : Array Value} (C : Cx Z a0) : (Jvm.Cond.selects "java/lang/StringBuilder" ({ cls := "java/lang/StringBuilder", name := "toString", desc := "()Ljava/lang/String;" } : Jvm.MethodName) ({ cls := "java/lang/StringBuilder", name := "toString", desc := "()Ljava/lang/String;" } : Jvm.MethodName)).before a0 Z = true := C.1 _ (List.mem_of_getElem? (i := 187) rfl)
theorem w188 {Z : State} {a0 : Array Value} (C : Cx Z a0) : (Jvm.Cond.code ({ cls := "java/lang/StringBuilder", name := "toString", desc := "()Ljava/lang/String;" } : Jvm.MethodName) jdk_67_method_42_code (1 : Nat) (Option.some (Jvm.ClassFile.FieldType.object "java/lang/String"))).before a0 Z = true := C.1 _ (List.mem_of_getElem? (i := 188) rfl)
theorem w189 {Z : State} {a0 : Array Value} (C : Cx Z a0) : (Jvm.Cond.classLink "java/lang/StringBuilder" (18 : Nat) "java/lang/String").before a0 Z = true := C.1 _ (List.mem_of_getElem? (i := 189) rfl)
theorem w190 {Z : State} {a0 : Array Value} (C : Cx Z a0) : (Jvm.Cond.methodLink "java/lang/StringBuilder" (137 : Nat) ({ cls := "java/lang/String", name := "<init>", desc := "(Ljava/lang/StringBuilder;)V" } : Jvm.MethodName)).before a0 Z = true := C.1 _ (List.mem_of_getElem? (i := 190) rfl)
theorem w191 {Z : State} {a0 : Array Value} (C : Cx Z a0) : (Jvm.Cond.instanceMethod ({ cls := "java/lang/String", name := "<init>", desc := "(Ljava/lang/StringBuilder;)V" } : Jvm.MethodName)).before a0 Z = true := C.1 _ (List.mem_of_getElem? (i := 191) rfl)
theorem w192 {Z : State} {a0 : Array Value} (C : Cx Z a0) : (Jvm.Cond.code ({ cls := "java/lang/String", name := "<init>", desc := "(Ljava/lang/StringBuilder;)V" } : Jvm.MethodName) jdk_42_method_53_code (2 : Nat) (Option.none : Option Jvm.ClassFile.FieldType)).before a0 Z = true := C.1 _ (List.mem_of_getElem? (i := 192) rfl)
theorem w193 {Z : State} {a0 : Array Value} (C : Cx Z a0) : (Jvm.Cond.methodLink "java/lang/String" (489 : Nat) ({ cls := "java/lang/String", name := "<init>", desc := "(Ljava/lang/AbstractStringBuilder;Ljava/lang/Void;)V" } : Jvm.MethodName)).before a0 Z = true := C.1 _ (List.mem_of_getElem? (i := 193) rfl)
theorem w194 {Z : State} {a0 : Array Value} (C : Cx Z a0) : (Jvm.Cond.instanceMethod ({ cls := "java/lang/String", name := "<init>", desc := "(Ljava/lang/AbstractStringBuilder;Ljava/lang/Void;)V" } : Jvm.MethodName)).before a0 Z = true := C.1 _ (List.mem_of_getElem? (i := 194) rfl)
theorem w195 {Z : State} {a0 : Array Value} (C : Cx Z a0) : (Jvm.Cond.code ({ cls := "java/lang/String", name := "<init>", desc := "(Ljava/lang/AbstractStringBuilder;Ljava/lang/Void;)V" } : Jvm.MethodName) jdk_42_method_150_code (5 : Nat) (Option.none : Option Jvm.ClassFile.FieldType)).before a0 Z = true := C.1 _ (List.mem_of_getElem? (i := 195) rfl)
theorem w196 {Z : State} {a0 : Array Value} (C : Cx Z a0) : (Jvm.Cond.methodLink "java/lang/String" (552 : Nat) ({ cls := "java/lang/AbstractStringBuilder", name := "getValue", desc := "()[B" } : Jvm.MethodName)).before a0 Z = true := C.1 _ (List.mem_of_getElem? (i := 196) rfl)
theorem w197 {Z : State} {a0 : Array Value} (C : Cx Z a0) : (Jvm.Cond.declares ({ cls := "java/lang/AbstractStringBuilder", name := "getValue", desc := "()[B" } : Jvm.MethodName)).before a0 Z = true := C.1 _ (List.mem_of_getElem? (i := 197) rfl)
theorem w198 {Z : State} {a0 : Array Value} (C : Cx Z a0) : (Jvm.Cond.instanceMethod ({ cls := "java/lang/AbstractStringBuilder", name := "getValue", desc := "()[B" } : Jvm.MethodName)).before a0 Z = true := C.1 _ (List.mem_of_getElem? (i := 198) rfl)
theorem w199 {Z : State} {a0 : Array Value} (C : Cx Z a0) : (Jvm.Cond.selects "java/lang/StringBuilder" ({ cls := "java/lang/AbstractStringBuilder", name := "getValue", desc := "()[B" } : Jvm.MethodName) ({ cls := "java/lang/AbstractStringBuilder", name := "getValue", desc := "()[B" } : Jvm.MethodName)).before a0 Z = true := C.1 _ (List.mem_of_getElem? (i := 199) rfl)
theorem w200 {Z : State} {a0 : Array Value} (C : Cx Z a0) : (Jvm.Cond.code ({ cls := "java/lang/AbstractStringBuilder", name := "getValue", desc := "()[B" } : Jvm.MethodName) jdk_68_method_64_code (1 : Nat) (Option.some (Jvm.ClassFile.FieldType.array Jvm.ClassFile.FieldType.byte))).before a0 Z = true := C.1 _ (List.mem_of_getElem? (i := 200) rfl)
theorem w201 {Z : State} {a0 : Array Value} (C : Cx Z a0) : (Jvm.Cond.methodLink "java/lang/String" (549 : Nat) ({ cls := "java/lang/AbstractStringBuilder", name := "length", desc := "()I" } : Jvm.MethodName)).before a0 Z = true := C.1 _ (List.mem_of_getElem? (i := 201) rfl)
theorem w202 {Z : State} {a0 : Array Value} (C : Cx Z a0) : (Jvm.Cond.declares ({ cls := "java/lang/AbstractStringBuilder", name := "length", desc := "()I" } : Jvm.MethodName)).before a0 Z = true := C.1 _ (List.mem_of_getElem? (i := 202) rfl)
theorem w203 {Z : State} {a0 : Array Value} (C : Cx Z a0) : (Jvm.Cond.instanceMethod ({ cls := "java/lang/AbstractStringBuilder", name := "length", desc := "()I" } : Jvm.MethodName)).before a0 Z = true := C.1 _ (List.mem_of_getElem? (i := 203) rfl)
theorem w204 {Z : State} {a0 : Array Value} (C : Cx Z a0) : (Jvm.Cond.selects "java/lang/StringBuilder" ({ cls := "java/lang/AbstractStringBuilder", name := "length", desc := "()I" } : Jvm.MethodName) ({ cls := "java/lang/StringBuilder", name := "length", desc := "()I" } : Jvm.MethodName)).before a0 Z = true := C.1 _ (List.mem_of_getElem? (i := 204) rfl)
theorem w205 {Z : State} {a0 : Array Value} (C : Cx Z a0) : (Jvm.Cond.instanceMethod ({ cls := "java/lang/StringBuilder", name := "length", desc := "()I" } : Jvm.MethodName)).before a0 Z = true := C.1 _ (List.mem_of_getElem? (i := 205) rfl)
theorem w206 {Z : State} {a0 : Array Value} (C : Cx Z a0) : (Jvm.Cond.code ({ cls := "java/lang/StringBuilder", name := "length", desc := "()I" } : Jvm.MethodName) jdk_67_method_93_code (1 : Nat) (Option.some Jvm.ClassFile.FieldType.int)).before a0 Z = true := C.1 _ (List.mem_of_getElem? (i := 206) rfl)
theorem w207 {Z : State} {a0 : Array Value} (C : Cx Z a0) : (Jvm.Cond.methodLink "java/lang/StringBuilder" (343 : Nat) ({ cls := "java/lang/AbstractStringBuilder", name := "length", desc := "()I" } : Jvm.MethodName)).before a0 Z = true := C.1 _ (List.mem_of_getElem? (i := 207) rfl)
theorem w208 {Z : State} {a0 : Array Value} (C : Cx Z a0) : (Jvm.Cond.code ({ cls := "java/lang/AbstractStringBuilder", name := "length", desc := "()I" } : Jvm.MethodName) jdk_68_method_6_code (1 : Nat) (Option.some Jvm.ClassFile.FieldType.int)).before a0 Z = true := C.1 _ (List.mem_of_getElem? (i := 208) rfl)
theorem w209 {Z : State} {a0 : Array Value} (C : Cx Z a0) : (Jvm.Cond.methodLink "java/lang/String" (1047 : Nat) ({ cls := "java/lang/AbstractStringBuilder", name := "isLatin1", desc := "()Z" } : Jvm.MethodName)).before a0 Z = true := C.1 _ (List.mem_of_getElem? (i := 209) rfl)
theorem w210 {Z : State} {a0 : Array Value} (C : Cx Z a0) : (Jvm.Cond.declares ({ cls := "java/lang/AbstractStringBuilder", name := "isLatin1", desc := "()Z" } : Jvm.MethodName)).before a0 Z = true := C.1 _ (List.mem_of_getElem? (i := 210) rfl)
theorem w211 {Z : State} {a0 : Array Value} (C : Cx Z a0) : (Jvm.Cond.instanceMethod ({ cls := "java/lang/AbstractStringBuilder", name := "isLatin1", desc := "()Z" } : Jvm.MethodName)).before a0 Z = true := C.1 _ (List.mem_of_getElem? (i := 211) rfl)
theorem w212 {Z : State} {a0 : Array Value} (C : Cx Z a0) : (Jvm.Cond.selects "java/lang/StringBuilder" ({ cls := "java/lang/AbstractStringBuilder", name := "isLatin1", desc := "()Z" } : Jvm.MethodName) ({ cls := "java/lang/AbstractStringBuilder", name := "isLatin1", desc := "()Z" } : Jvm.MethodName)).before a0 Z = true := C.1 _ (List.mem_of_getElem? (i := 212) rfl)
theorem w213 {Z : State} {a0 : Array Value} (C : Cx Z a0) : (Jvm.Cond.code ({ cls := "java/lang/AbstractStringBuilder", name := "isLatin1", desc := "()Z" } : Jvm.MethodName) jdk_68_method_68_code (1 : Nat) (Option.some Jvm.ClassFile.FieldType.boolean)).before a0 Z = true := C.1 _ (List.mem_of_getElem? (i := 213) rfl)
theorem w214 {Z : State} {a0 : Array Value} (C : Cx Z a0) : (Jvm.Cond.methodLink "java/lang/String" (54 : Nat) ({ cls := "java/util/Arrays", name := "copyOfRange", desc := "([BII)[B" } : Jvm.MethodName)).before a0 Z = true := C.1 _ (List.mem_of_getElem? (i := 214) rfl)
theorem w215 {Z : State} {a0 : Array Value} (C : Cx Z a0) : (Jvm.Cond.static ({ cls := "java/util/Arrays", name := "copyOfRange", desc := "([BII)[B" } : Jvm.MethodName)).before a0 Z = true := C.1 _ (List.mem_of_getElem? (i := 215) rfl)
theorem w216 {Z : State} {a0 : Array Value} (C : Cx Z a0) : (Jvm.Cond.initialized "java/util/Arrays").before a0 Z = true := C.1 _ (List.mem_of_getElem? (i := 216) rfl)
theorem w217 {Z : State} {a0 : Array Value} (C : Cx Z a0) : (Jvm.Cond.code ({ cls := "java/util/Arrays", name := "copyOfRange", desc := "([BII)[B" } : Jvm.MethodName) jdk_65_method_132_code (3 : Nat) (Option.some (Jvm.ClassFile.FieldType.array Jvm.ClassFile.FieldType.byte))).before a0 Z = true := C.1 _ (List.mem_of_getElem? (i := 217) rfl)
theorem w218 {Z : State} {a0 : Array Value} (C : Cx Z a0) : (Jvm.Cond.methodLink "java/util/Arrays" (339 : Nat) ({ cls := "java/util/Arrays", name := "copyOfRangeByte", desc := "([BII)[B" } : Jvm.MethodName)).before a0 Z = true := C.1 _ (List.mem_of_getElem? (i := 218) rfl)
theorem w219 {Z : State} {a0 : Array Value} (C : Cx Z a0) : (Jvm.Cond.static ({ cls := "java/util/Arrays", name := "copyOfRangeByte", desc := "([BII)[B" } : Jvm.MethodName)).before a0 Z = true := C.1 _ (List.mem_of_getElem? (i := 219) rfl)
theorem w220 {Z : State} {a0 : Array Value} (C : Cx Z a0) : (Jvm.Cond.code ({ cls := "java/util/Arrays", name := "copyOfRangeByte", desc := "([BII)[B" } : Jvm.MethodName) jdk_65_method_133_code (5 : Nat) (Option.some (Jvm.ClassFile.FieldType.array Jvm.ClassFile.FieldType.byte))).before a0 Z = true := C.1 _ (List.mem_of_getElem? (i := 220) rfl)
theorem w221 {Z : State} {a0 : Array Value} (C : Cx Z a0) : (Jvm.Cond.methodLink "java/util/Arrays" (343 : Nat) ({ cls := "java/util/Arrays", name := "checkLength", desc := "(II)V" } : Jvm.MethodName)).before a0 Z = true := C.1 _ (List.mem_of_getElem? (i := 221) rfl)
theorem w222 {Z : State} {a0 : Array Value} (C : Cx Z a0) : (Jvm.Cond.static ({ cls := "java/util/Arrays", name := "checkLength", desc := "(II)V" } : Jvm.MethodName)).before a0 Z = true := C.1 _ (List.mem_of_getElem? (i := 222) rfl)
theorem w223 {Z : State} {a0 : Array Value} (C : Cx Z a0) : (Jvm.Cond.code ({ cls := "java/util/Arrays", name := "checkLength", desc := "(II)V" } : Jvm.MethodName) jdk_65_method_131_code (2 : Nat) (Option.none : Option Jvm.ClassFile.FieldType)).before a0 Z = true := C.1 _ (List.mem_of_getElem? (i := 223) rfl)
theorem w224 {Z : State} {a0 : Array Value} (C : Cx Z a0) : (Jvm.Cond.methodLink "java/util/Arrays" (304 : Nat) ({ cls := "java/lang/Math", name := "min", desc := "(II)I" } : Jvm.MethodName)).before a0 Z = true := C.1 _ (List.mem_of_getElem? (i := 224) rfl)
theorem w225 {Z : State} {a0 : Array Value} (C : Cx Z a0) : (Jvm.Cond.static ({ cls := "java/lang/Math", name := "min", desc := "(II)I" } : Jvm.MethodName)).before a0 Z = true := C.1 _ (List.mem_of_getElem? (i := 225) rfl)
theorem w226 {Z : State} {a0 : Array Value} (C : Cx Z a0) : (Jvm.Cond.initialized "java/lang/Math").before a0 Z = true := C.1 _ (List.mem_of_getElem? (i := 226) rfl)
theorem w227 {Z : State} {a0 : Array Value} (C : Cx Z a0) : (Jvm.Cond.code ({ cls := "java/lang/Math", name := "min", desc := "(II)I" } : Jvm.MethodName) jdk_29_method_69_code (2 : Nat) (Option.some Jvm.ClassFile.FieldType.int)).before a0 Z = true := C.1 _ (List.mem_of_getElem? (i := 227) rfl)
theorem w228 {Z : State} {a0 : Array Value} (C : Cx Z a0) : (Jvm.Cond.methodLink "java/util/Arrays" (150 : Nat) ({ cls := "java/lang/System", name := "arraycopy", desc := "(Ljava/lang/Object;ILjava/lang/Object;II)V" } : Jvm.MethodName)).before a0 Z = true := C.1 _ (List.mem_of_getElem? (i := 228) rfl)
theorem w229 {Z : State} {a0 : Array Value} (C : Cx Z a0) : (Jvm.Cond.methodLink "com/example/forseti/forseti/model/ClassFiguresAlikeForEveryPinLaw" (33 : Nat) ({ cls := "com/example/forseti/forseti/model/ClassFigures", name := "ownerName", desc := "(Ljava/lang/String;)Ljava/lang/String;" } : Jvm.MethodName)).before a0 Z = true := C.1 _ (List.mem_of_getElem? (i := 229) rfl)
theorem w230 {Z : State} {a0 : Array Value} (C : Cx Z a0) : (Jvm.Cond.declares ({ cls := "com/example/forseti/forseti/model/ClassFigures", name := "ownerName", desc := "(Ljava/lang/String;)Ljava/lang/String;" } : Jvm.MethodName)).before a0 Z = true := C.1 _ (List.mem_of_getElem? (i := 230) rfl)
theorem w231 {Z : State} {a0 : Array Value} (C : Cx Z a0) : (Jvm.Cond.instanceMethod ({ cls := "com/example/forseti/forseti/model/ClassFigures", name := "ownerName", desc := "(Ljava/lang/String;)Ljava/lang/String;" } : Jvm.MethodName)).before a0 Z = true := C.1 _ (List.mem_of_getElem? (i := 231) rfl)
theorem w232 {Z : State} {a0 : Array Value} (C : Cx Z a0) : (Jvm.Cond.selects "com/example/forseti/forseti/model/ClassFigures" ({ cls := "com/example/forseti/forseti/model/ClassFigures", name := "ownerName", desc := "(Ljava/lang/String;)Ljava/lang/String;" } : Jvm.MethodName) ({ cls := "com/example/forseti/forseti/model/ClassFigures", name := "ownerName", desc := "(Ljava/lang/String;)Ljava/lang/String;" } : Jvm.MethodName)).before a0 Z = true := C.1 _ (List.mem_of_getElem? (i := 232) rfl)
theorem w233 {Z : State} {a0 : Array Value} (C : Cx Z a0) : (Jvm.Cond.code ({ cls := "com/example/forseti/forseti/model/ClassFigures", name := "ownerName", desc := "(Ljava/lang/String;)Ljava/lang/String;" } : Jvm.MethodName) prog_50_method_8_code (2 : Nat) (Option.some (Jvm.ClassFile.FieldType.object "java/lang/String"))).before a0 Z = true := C.1 _ (List.mem_of_getElem? (i := 233) rfl)
theorem w234 {Z : State} {a0 : Array Value} (C : Cx Z a0) : (Jvm.Cond.stringLink "com/example/forseti/forseti/model/ClassFiguresAlikeForEveryPinLaw" (37 : Nat) "").before a0 Z = true := C.1 _ (List.mem_of_getElem? (i := 234) rfl)
theorem d0_0 : decode jdk_43_method_3_code 0 = .ok (.iload_n 0, 1) := by decide +kernel
theorem d0_1 : decode jdk_43_method_3_code 1 = .ok (.sipush 255, 3) := by decide +kernel
theorem d0_12 : decode jdk_43_method_3_code 12 = .ok (.ireturn, 1) := by decide +kernel
theorem d0_4 : decode jdk_43_method_3_code 4 = .ok (.if_icmp .gt 7, 3) := by decide +kernel
theorem d0_7 : decode jdk_43_method_3_code 7 = .ok (.iconst 1, 1) := by decide +kernel
theorem d0_8 : decode jdk_43_method_3_code 8 = .ok (.goto 4, 3) := by decide +kernel
theorem d10_0 : decode prog_50_method_6_code 0 = .ok (.aload_n 0, 1) := by decide +kernel
theorem d10_1 : decode prog_50_method_6_code 1 = .ok (.getfield 35, 3) := by decide +kernel
theorem d10_4 : decode prog_50_method_6_code 4 = .ok (.areturn, 1) := by decide +kernel
theorem d11_0 : decode jdk_68_method_2_code 0 = .ok (.aload_n 0, 1) := by decide +kernel
theorem d11_1 : decode jdk_68_method_2_code 1 = .ok (.invokespecial 3, 3) := by decide +kernel
theorem d11_10 : decode jdk_68_method_2_code 10 = .ok (.aload_n 0, 1) := by decide +kernel
theorem d11_11 : decode jdk_68_method_2_code 11 = .ok (.iload_n 1, 1) := by decide +kernel
theorem d11_12 : decode jdk_68_method_2_code 12 = .ok (.newarray .byte, 2) := by decide +kernel
theorem d11_14 : decode jdk_68_method_2_code 14 = .ok (.putfield 15, 3) := by decide +kernel
theorem d11_17 : decode jdk_68_method_2_code 17 = .ok (.aload_n 0, 1) := by decide +kernel
theorem d11_18 : decode jdk_68_method_2_code 18 = .ok (.iconst 0, 1) := by decide +kernel
theorem d11_19 : decode jdk_68_method_2_code 19 = .ok (.putfield 22, 3) := by decide +kernel
theorem d11_22 : decode jdk_68_method_2_code 22 = .ok (.goto 16, 3) := by decide +kernel
theorem d11_38 : decode jdk_68_method_2_code 38 = .ok (.return_, 1) := by decide +kernel
theorem d11_4 : decode jdk_68_method_2_code 4 = .ok (.getstatic 18, 3) := by decide +kernel
theorem d11_7 : decode jdk_68_method_2_code 7 = .ok (.ifCond .eq 18, 3) := by decide +kernel
theorem d12_0 : decode jdk_67_method_1_code 0 = .ok (.aload_n 0, 1) := by decide +kernel
theorem d12_1 : decode jdk_67_method_1_code 1 = .ok (.bipush 16, 2) := by decide +kernel
theorem d12_3 : decode jdk_67_method_1_code 3 = .ok (.invokespecial 1, 3) := by decide +kernel
theorem d12_6 : decode jdk_67_method_1_code 6 = .ok (.return_, 1) := by decide +kernel
theorem d13_0 : decode jdk_42_method_152_code 0 = .ok (.getstatic 38, 3) := by decide +kernel
theorem d13_10 : decode jdk_42_method_152_code 10 = .ok (.goto 4, 3) := by decide +kernel
theorem d13_14 : decode jdk_42_method_152_code 14 = .ok (.ireturn, 1) := by decide +kernel
theorem d13_3 : decode jdk_42_method_152_code 3 = .ok (.ifCond .eq 10, 3) := by decide +kernel
theorem d13_6 : decode jdk_42_method_152_code 6 = .ok (.aload_n 0, 1) := by decide +kernel
theorem d13_7 : decode jdk_42_method_152_code 7 = .ok (.getfield 15, 3) := by decide +kernel
theorem d14_0 : decode jdk_68_method_9_code 0 = .ok (.aload_n 0, 1) := by decide +kernel
theorem d14_1 : decode jdk_68_method_9_code 1 = .ok (.getfield 15, 3) := by decide +kernel
theorem d14_10 : decode jdk_68_method_9_code 10 = .ok (.istore_n 2, 1) := by decide +kernel
theorem d14_11 : decode jdk_68_method_9_code 11 = .ok (.iload_n 1, 1) := by decide +kernel
theorem d14_12 : decode jdk_68_method_9_code 12 = .ok (.iload_n 2, 1) := by decide +kernel
theorem d14_13 : decode jdk_68_method_9_code 13 = .ok (.isub, 1) := by decide +kernel
theorem d14_14 : decode jdk_68_method_9_code 14 = .ok (.ifCond .le 24, 3) := by decide +kernel
theorem d14_38 : decode jdk_68_method_9_code 38 = .ok (.return_, 1) := by decide +kernel
theorem d14_4 : decode jdk_68_method_9_code 4 = .ok (.arraylength, 1) := by decide +kernel
theorem d14_5 : decode jdk_68_method_9_code 5 = .ok (.aload_n 0, 1) := by decide +kernel
theorem d14_6 : decode jdk_68_method_9_code 6 = .ok (.getfield 22, 3) := by decide +kernel
theorem d14_9 : decode jdk_68_method_9_code 9 = .ok (.ishr, 1) := by decide +kernel
theorem d15_0 : decode jdk_68_method_71_code 0 = .ok (.getstatic 18, 3) := by decide +kernel
theorem d15_10 : decode jdk_68_method_71_code 10 = .ok (.aload_n 1, 1) := by decide +kernel
theorem d15_11 : decode jdk_68_method_71_code 11 = .ok (.invokevirtual 40, 3) := by decide +kernel
theorem d15_14 : decode jdk_68_method_71_code 14 = .ok (.if_icmp .eq 7, 3) := by decide +kernel
theorem d15_21 : decode jdk_68_method_71_code 21 = .ok (.return_, 1) := by decide +kernel
theorem d15_3 : decode jdk_68_method_71_code 3 = .ok (.ifCond .eq 18, 3) := by decide +kernel
theorem d15_6 : decode jdk_68_method_71_code 6 = .ok (.aload_n 0, 1) := by decide +kernel
theorem d15_7 : decode jdk_68_method_71_code 7 = .ok (.getfield 22, 3) := by decide +kernel
theorem d16_0 : decode jdk_42_method_147_code 0 = .ok (.aload_n 0, 1) := by decide +kernel
theorem d16_1 : decode jdk_42_method_147_code 1 = .ok (.invokevirtual 335, 3) := by decide +kernel
theorem d16_12 : decode jdk_42_method_147_code 12 = .ok (.iconst 0, 1) := by decide +kernel
theorem d16_13 : decode jdk_42_method_147_code 13 = .ok (.aload_n 1, 1) := by decide +kernel
theorem d16_14 : decode jdk_42_method_147_code 14 = .ok (.iload_n 2, 1) := by decide +kernel
theorem d16_15 : decode jdk_42_method_147_code 15 = .ok (.iload_n 3, 1) := by decide +kernel
theorem d16_16 : decode jdk_42_method_147_code 16 = .ok (.ishl, 1) := by decide +kernel
theorem d16_17 : decode jdk_42_method_147_code 17 = .ok (.aload_n 0, 1) := by decide +kernel
theorem d16_18 : decode jdk_42_method_147_code 18 = .ok (.getfield 9, 3) := by decide +kernel
theorem d16_21 : decode jdk_42_method_147_code 21 = .ok (.arraylength, 1) := by decide +kernel
theorem d16_22 : decode jdk_42_method_147_code 22 = .ok (.invokestatic 212, 3) := by decide +kernel
theorem d16_25 : decode jdk_42_method_147_code 25 = .ok (.goto 18, 3) := by decide +kernel
theorem d16_4 : decode jdk_42_method_147_code 4 = .ok (.iload_n 3, 1) := by decide +kernel
theorem d16_43 : decode jdk_42_method_147_code 43 = .ok (.return_, 1) := by decide +kernel
theorem d16_5 : decode jdk_42_method_147_code 5 = .ok (.if_icmp .ne 23, 3) := by decide +kernel
theorem d16_8 : decode jdk_42_method_147_code 8 = .ok (.aload_n 0, 1) := by decide +kernel
theorem d16_9 : decode jdk_42_method_147_code 9 = .ok (.getfield 9, 3) := by decide +kernel
theorem d17_0 : decode jdk_68_method_73_code 0 = .ok (.aload_n 0, 1) := by decide +kernel
theorem d17_1 : decode jdk_68_method_73_code 1 = .ok (.aload_n 2, 1) := by decide +kernel
theorem d17_10 : decode jdk_68_method_73_code 10 = .ok (.iload_n 1, 1) := by decide +kernel
theorem d17_11 : decode jdk_68_method_73_code 11 = .ok (.aload_n 0, 1) := by decide +kernel
theorem d17_12 : decode jdk_68_method_73_code 12 = .ok (.getfield 22, 3) := by decide +kernel
theorem d17_15 : decode jdk_68_method_73_code 15 = .ok (.invokevirtual 399, 3) := by decide +kernel
theorem d17_18 : decode jdk_68_method_73_code 18 = .ok (.return_, 1) := by decide +kernel
theorem d17_2 : decode jdk_68_method_73_code 2 = .ok (.invokevirtual 397, 3) := by decide +kernel
theorem d17_5 : decode jdk_68_method_73_code 5 = .ok (.aload_n 2, 1) := by decide +kernel
theorem d17_6 : decode jdk_68_method_73_code 6 = .ok (.aload_n 0, 1) := by decide +kernel
theorem d17_7 : decode jdk_68_method_73_code 7 = .ok (.getfield 15, 3) := by decide +kernel
theorem d18_0 : decode jdk_68_method_22_code 0 = .ok (.aload_n 1, 1) := by decide +kernel
theorem d18_1 : decode jdk_68_method_22_code 1 = .ok (.ifnonnull 8, 3) := by decide +kernel
theorem d18_10 : decode jdk_68_method_22_code 10 = .ok (.invokevirtual 32, 3) := by decide +kernel
theorem d18_13 : decode jdk_68_method_22_code 13 = .ok (.istore_n 2, 1) := by decide +kernel
theorem d18_14 : decode jdk_68_method_22_code 14 = .ok (.aload_n 0, 1) := by decide +kernel
theorem d18_15 : decode jdk_68_method_22_code 15 = .ok (.aload_n 0, 1) := by decide +kernel
theorem d18_16 : decode jdk_68_method_22_code 16 = .ok (.getfield 79, 3) := by decide +kernel
theorem d18_19 : decode jdk_68_method_22_code 19 = .ok (.iload_n 2, 1) := by decide +kernel
theorem d18_20 : decode jdk_68_method_22_code 20 = .ok (.iadd, 1) := by decide +kernel
theorem d18_21 : decode jdk_68_method_22_code 21 = .ok (.invokevirtual 100, 3) := by decide +kernel
theorem d18_24 : decode jdk_68_method_22_code 24 = .ok (.aload_n 0, 1) := by decide +kernel
theorem d18_25 : decode jdk_68_method_22_code 25 = .ok (.aload_n 0, 1) := by decide +kernel
theorem d18_26 : decode jdk_68_method_22_code 26 = .ok (.getfield 79, 3) := by decide +kernel
theorem d18_29 : decode jdk_68_method_22_code 29 = .ok (.aload_n 1, 1) := by decide +kernel
theorem d18_30 : decode jdk_68_method_22_code 30 = .ok (.invokevirtual 208, 3) := by decide +kernel
theorem d18_33 : decode jdk_68_method_22_code 33 = .ok (.aload_n 0, 1) := by decide +kernel
theorem d18_34 : decode jdk_68_method_22_code 34 = .ok (.dup, 1) := by decide +kernel
theorem d18_35 : decode jdk_68_method_22_code 35 = .ok (.getfield 79, 3) := by decide +kernel
theorem d18_38 : decode jdk_68_method_22_code 38 = .ok (.iload_n 2, 1) := by decide +kernel
theorem d18_39 : decode jdk_68_method_22_code 39 = .ok (.iadd, 1) := by decide +kernel
theorem d18_40 : decode jdk_68_method_22_code 40 = .ok (.putfield 79, 3) := by decide +kernel
theorem d18_43 : decode jdk_68_method_22_code 43 = .ok (.aload_n 0, 1) := by decide +kernel
theorem d18_44 : decode jdk_68_method_22_code 44 = .ok (.areturn, 1) := by decide +kernel
theorem d18_9 : decode jdk_68_method_22_code 9 = .ok (.aload_n 1, 1) := by decide +kernel
theorem d19_0 : decode jdk_67_method_7_code 0 = .ok (.aload_n 0, 1) := by decide +kernel
theorem d19_1 : decode jdk_67_method_7_code 1 = .ok (.aload_n 1, 1) := by decide +kernel
theorem d19_2 : decode jdk_67_method_7_code 2 = .ok (.invokespecial 29, 3) := by decide +kernel
theorem d19_5 : decode jdk_67_method_7_code 5 = .ok (.pop, 1) := by decide +kernel
theorem d19_6 : decode jdk_67_method_7_code 6 = .ok (.aload_n 0, 1) := by decide +kernel
theorem d19_7 : decode jdk_67_method_7_code 7 = .ok (.areturn, 1) := by decide +kernel
theorem d1_0 : decode jdk_43_method_46_code 0 = .ok (.iconst 1, 1) := by decide +kernel
theorem d1_1 : decode jdk_43_method_46_code 1 = .ok (.newarray .byte, 2) := by decide +kernel
theorem d1_3 : decode jdk_43_method_46_code 3 = .ok (.dup, 1) := by decide +kernel
theorem d1_4 : decode jdk_43_method_46_code 4 = .ok (.iconst 0, 1) := by decide +kernel
theorem d1_5 : decode jdk_43_method_46_code 5 = .ok (.iload_n 0, 1) := by decide +kernel
theorem d1_6 : decode jdk_43_method_46_code 6 = .ok (.i2b, 1) := by decide +kernel
theorem d1_7 : decode jdk_43_method_46_code 7 = .ok (.bastore, 1) := by decide +kernel
theorem d1_8 : decode jdk_43_method_46_code 8 = .ok (.areturn, 1) := by decide +kernel
theorem d20_0 : decode jdk_68_method_64_code 0 = .ok (.aload_n 0, 1) := by decide +kernel
theorem d20_1 : decode jdk_68_method_64_code 1 = .ok (.getfield 15, 3) := by decide +kernel
theorem d20_4 : decode jdk_68_method_64_code 4 = .ok (.areturn, 1) := by decide +kernel
theorem d21_0 : decode jdk_68_method_6_code 0 = .ok (.aload_n 0, 1) := by decide +kernel
theorem d21_1 : decode jdk_68_method_6_code 1 = .ok (.getfield 79, 3) := by decide +kernel
theorem d21_4 : decode jdk_68_method_6_code 4 = .ok (.ireturn, 1) := by decide +kernel
theorem d22_0 : decode jdk_67_method_93_code 0 = .ok (.aload_n 0, 1) := by decide +kernel
theorem d22_1 : decode jdk_67_method_93_code 1 = .ok (.invokespecial 343, 3) := by decide +kernel
theorem d22_4 : decode jdk_67_method_93_code 4 = .ok (.ireturn, 1) := by decide +kernel
theorem d23_0 : decode jdk_68_method_68_code 0 = .ok (.getstatic 18, 3) := by decide +kernel
theorem d23_10 : decode jdk_68_method_68_code 10 = .ok (.ifCond .ne 7, 3) := by decide +kernel
theorem d23_13 : decode jdk_68_method_68_code 13 = .ok (.iconst 1, 1) := by decide +kernel
theorem d23_14 : decode jdk_68_method_68_code 14 = .ok (.goto 4, 3) := by decide +kernel
theorem d23_18 : decode jdk_68_method_68_code 18 = .ok (.ireturn, 1) := by decide +kernel
theorem d23_3 : decode jdk_68_method_68_code 3 = .ok (.ifCond .eq 14, 3) := by decide +kernel
theorem d23_6 : decode jdk_68_method_68_code 6 = .ok (.aload_n 0, 1) := by decide +kernel
theorem d23_7 : decode jdk_68_method_68_code 7 = .ok (.getfield 22, 3) := by decide +kernel
theorem d24_0 : decode jdk_65_method_131_code 0 = .ok (.iload_n 1, 1) := by decide +kernel
theorem d24_1 : decode jdk_65_method_131_code 1 = .ok (.iload_n 0, 1) := by decide +kernel
theorem d24_2 : decode jdk_65_method_131_code 2 = .ok (.if_icmp .ge 35, 3) := by decide +kernel
theorem d24_37 : decode jdk_65_method_131_code 37 = .ok (.return_, 1) := by decide +kernel
theorem d25_0 : decode jdk_29_method_69_code 0 = .ok (.iload_n 0, 1) := by decide +kernel
theorem d25_1 : decode jdk_29_method_69_code 1 = .ok (.iload_n 1, 1) := by decide +kernel
theorem d25_10 : decode jdk_29_method_69_code 10 = .ok (.ireturn, 1) := by decide +kernel
theorem d25_2 : decode jdk_29_method_69_code 2 = .ok (.if_icmp .gt 7, 3) := by decide +kernel
theorem d25_9 : decode jdk_29_method_69_code 9 = .ok (.iload_n 1, 1) := by decide +kernel
theorem d26_0 : decode jdk_65_method_133_code 0 = .ok (.iload_n 1, 1) := by decide +kernel
theorem d26_1 : decode jdk_65_method_133_code 1 = .ok (.iload_n 2, 1) := by decide +kernel
theorem d26_10 : decode jdk_65_method_133_code 10 = .ok (.newarray .byte, 2) := by decide +kernel
theorem d26_12 : decode jdk_65_method_133_code 12 = .ok (.astore 4, 2) := by decide +kernel
theorem d26_14 : decode jdk_65_method_133_code 14 = .ok (.aload_n 0, 1) := by decide +kernel
theorem d26_15 : decode jdk_65_method_133_code 15 = .ok (.iload_n 1, 1) := by decide +kernel
theorem d26_16 : decode jdk_65_method_133_code 16 = .ok (.aload 4, 2) := by decide +kernel
theorem d26_18 : decode jdk_65_method_133_code 18 = .ok (.iconst 0, 1) := by decide +kernel
theorem d26_19 : decode jdk_65_method_133_code 19 = .ok (.aload_n 0, 1) := by decide +kernel
theorem d26_2 : decode jdk_65_method_133_code 2 = .ok (.invokestatic 343, 3) := by decide +kernel
theorem d26_20 : decode jdk_65_method_133_code 20 = .ok (.arraylength, 1) := by decide +kernel
theorem d26_21 : decode jdk_65_method_133_code 21 = .ok (.iload_n 1, 1) := by decide +kernel
theorem d26_22 : decode jdk_65_method_133_code 22 = .ok (.isub, 1) := by decide +kernel
theorem d26_23 : decode jdk_65_method_133_code 23 = .ok (.iload_n 3, 1) := by decide +kernel
theorem d26_24 : decode jdk_65_method_133_code 24 = .ok (.invokestatic 304, 3) := by decide +kernel
theorem d26_27 : decode jdk_65_method_133_code 27 = .ok (.invokestatic 150, 3) := by decide +kernel
theorem d26_30 : decode jdk_65_method_133_code 30 = .ok (.aload 4, 2) := by decide +kernel
theorem d26_32 : decode jdk_65_method_133_code 32 = .ok (.areturn, 1) := by decide +kernel
theorem d26_5 : decode jdk_65_method_133_code 5 = .ok (.iload_n 2, 1) := by decide +kernel
theorem d26_6 : decode jdk_65_method_133_code 6 = .ok (.iload_n 1, 1) := by decide +kernel
theorem d26_7 : decode jdk_65_method_133_code 7 = .ok (.isub, 1) := by decide +kernel
theorem d26_8 : decode jdk_65_method_133_code 8 = .ok (.istore_n 3, 1) := by decide +kernel
theorem d26_9 : decode jdk_65_method_133_code 9 = .ok (.iload_n 3, 1) := by decide +kernel
theorem d27_0 : decode jdk_65_method_132_code 0 = .ok (.iload_n 1, 1) := by decide +kernel
theorem d27_1 : decode jdk_65_method_132_code 1 = .ok (.ifCond .ne 9, 3) := by decide +kernel
theorem d27_10 : decode jdk_65_method_132_code 10 = .ok (.aload_n 0, 1) := by decide +kernel
theorem d27_11 : decode jdk_65_method_132_code 11 = .ok (.iload_n 1, 1) := by decide +kernel
theorem d27_12 : decode jdk_65_method_132_code 12 = .ok (.iload_n 2, 1) := by decide +kernel
theorem d27_13 : decode jdk_65_method_132_code 13 = .ok (.invokestatic 339, 3) := by decide +kernel
theorem d27_16 : decode jdk_65_method_132_code 16 = .ok (.areturn, 1) := by decide +kernel
theorem d27_4 : decode jdk_65_method_132_code 4 = .ok (.iload_n 2, 1) := by decide +kernel
theorem d27_5 : decode jdk_65_method_132_code 5 = .ok (.aload_n 0, 1) := by decide +kernel
theorem d27_6 : decode jdk_65_method_132_code 6 = .ok (.arraylength, 1) := by decide +kernel
theorem d27_7 : decode jdk_65_method_132_code 7 = .ok (.if_icmp .eq 10, 3) := by decide +kernel
theorem d28_0 : decode jdk_42_method_150_code 0 = .ok (.aload_n 0, 1) := by decide +kernel
theorem d28_1 : decode jdk_42_method_150_code 1 = .ok (.invokespecial 1, 3) := by decide +kernel
theorem d28_10 : decode jdk_42_method_150_code 10 = .ok (.invokevirtual 549, 3) := by decide +kernel
theorem d28_13 : decode jdk_42_method_150_code 13 = .ok (.istore 4, 2) := by decide +kernel
theorem d28_15 : decode jdk_42_method_150_code 15 = .ok (.aload_n 1, 1) := by decide +kernel
theorem d28_16 : decode jdk_42_method_150_code 16 = .ok (.invokevirtual 1047, 3) := by decide +kernel
theorem d28_19 : decode jdk_42_method_150_code 19 = .ok (.ifCond .eq 22, 3) := by decide +kernel
theorem d28_22 : decode jdk_42_method_150_code 22 = .ok (.aload_n 0, 1) := by decide +kernel
theorem d28_23 : decode jdk_42_method_150_code 23 = .ok (.iconst 0, 1) := by decide +kernel
theorem d28_24 : decode jdk_42_method_150_code 24 = .ok (.putfield 15, 3) := by decide +kernel
theorem d28_27 : decode jdk_42_method_150_code 27 = .ok (.aload_n 0, 1) := by decide +kernel
theorem d28_28 : decode jdk_42_method_150_code 28 = .ok (.aload_n 3, 1) := by decide +kernel
theorem d28_29 : decode jdk_42_method_150_code 29 = .ok (.iconst 0, 1) := by decide +kernel
theorem d28_30 : decode jdk_42_method_150_code 30 = .ok (.iload 4, 2) := by decide +kernel
theorem d28_32 : decode jdk_42_method_150_code 32 = .ok (.invokestatic 54, 3) := by decide +kernel
theorem d28_35 : decode jdk_42_method_150_code 35 = .ok (.putfield 9, 3) := by decide +kernel
theorem d28_38 : decode jdk_42_method_150_code 38 = .ok (.goto 59, 3) := by decide +kernel
theorem d28_4 : decode jdk_42_method_150_code 4 = .ok (.aload_n 1, 1) := by decide +kernel
theorem d28_5 : decode jdk_42_method_150_code 5 = .ok (.invokevirtual 552, 3) := by decide +kernel
theorem d28_8 : decode jdk_42_method_150_code 8 = .ok (.astore_n 3, 1) := by decide +kernel
theorem d28_9 : decode jdk_42_method_150_code 9 = .ok (.aload_n 1, 1) := by decide +kernel
theorem d28_97 : decode jdk_42_method_150_code 97 = .ok (.return_, 1) := by decide +kernel
theorem d29_0 : decode jdk_42_method_53_code 0 = .ok (.aload_n 0, 1) := by decide +kernel
theorem d29_1 : decode jdk_42_method_53_code 1 = .ok (.aload_n 1, 1) := by decide +kernel
theorem d29_2 : decode jdk_42_method_53_code 2 = .ok (.aconst_null, 1) := by decide +kernel
theorem d29_3 : decode jdk_42_method_53_code 3 = .ok (.invokespecial 489, 3) := by decide +kernel
theorem d29_6 : decode jdk_42_method_53_code 6 = .ok (.return_, 1) := by decide +kernel
theorem d2_0 : decode jdk_42_method_151_code 0 = .ok (.aload_n 0, 1) := by decide +kernel
theorem d2_1 : decode jdk_42_method_151_code 1 = .ok (.invokespecial 1, 3) := by decide +kernel
theorem d2_10 : decode jdk_42_method_151_code 10 = .ok (.iload_n 2, 1) := by decide +kernel
theorem d2_11 : decode jdk_42_method_151_code 11 = .ok (.putfield 15, 3) := by decide +kernel
theorem d2_14 : decode jdk_42_method_151_code 14 = .ok (.return_, 1) := by decide +kernel
theorem d2_4 : decode jdk_42_method_151_code 4 = .ok (.aload_n 0, 1) := by decide +kernel
theorem d2_5 : decode jdk_42_method_151_code 5 = .ok (.aload_n 1, 1) := by decide +kernel
theorem d2_6 : decode jdk_42_method_151_code 6 = .ok (.putfield 9, 3) := by decide +kernel
theorem d2_9 : decode jdk_42_method_151_code 9 = .ok (.aload_n 0, 1) := by decide +kernel
theorem d30_0 : decode jdk_67_method_42_code 0 = .ok (.new 18, 3) := by decide +kernel
theorem d30_3 : decode jdk_67_method_42_code 3 = .ok (.dup, 1) := by decide +kernel
theorem d30_4 : decode jdk_67_method_42_code 4 = .ok (.aload_n 0, 1) := by decide +kernel
theorem d30_5 : decode jdk_67_method_42_code 5 = .ok (.invokespecial 137, 3) := by decide +kernel
theorem d30_8 : decode jdk_67_method_42_code 8 = .ok (.areturn, 1) := by decide +kernel
theorem d31_0 : decode prog_50_method_7_code 0 = .ok (.new 48, 3) := by decide +kernel
theorem d31_11 : decode prog_50_method_7_code 11 = .ok (.invokevirtual 51, 3) := by decide +kernel
theorem d31_14 : decode prog_50_method_7_code 14 = .ok (.ldc 55, 2) := by decide +kernel
theorem d31_16 : decode prog_50_method_7_code 16 = .ok (.invokevirtual 51, 3) := by decide +kernel
theorem d31_19 : decode prog_50_method_7_code 19 = .ok (.aload_n 0, 1) := by decide +kernel
theorem d31_20 : decode prog_50_method_7_code 20 = .ok (.getfield 35, 3) := by decide +kernel
theorem d31_23 : decode prog_50_method_7_code 23 = .ok (.invokevirtual 51, 3) := by decide +kernel
theorem d31_26 : decode prog_50_method_7_code 26 = .ok (.invokevirtual 57, 3) := by decide +kernel
theorem d31_29 : decode prog_50_method_7_code 29 = .ok (.areturn, 1) := by decide +kernel
theorem d31_3 : decode prog_50_method_7_code 3 = .ok (.dup, 1) := by decide +kernel
theorem d31_4 : decode prog_50_method_7_code 4 = .ok (.invokespecial 50, 3) := by decide +kernel
theorem d31_7 : decode prog_50_method_7_code 7 = .ok (.aload_n 0, 1) := by decide +kernel
theorem d31_8 : decode prog_50_method_7_code 8 = .ok (.getfield 39, 3) := by decide +kernel
theorem d32_0 : decode prog_50_method_8_code 0 = .ok (.aload_n 0, 1) := by decide +kernel
theorem d32_1 : decode prog_50_method_8_code 1 = .ok (.getfield 45, 3) := by decide +kernel
theorem d32_36 : decode prog_50_method_8_code 36 = .ok (.aload_n 0, 1) := by decide +kernel
theorem d32_37 : decode prog_50_method_8_code 37 = .ok (.getfield 45, 3) := by decide +kernel
theorem d32_4 : decode prog_50_method_8_code 4 = .ok (.ifnonnull 32, 3) := by decide +kernel
theorem d32_40 : decode prog_50_method_8_code 40 = .ok (.areturn, 1) := by decide +kernel
theorem d3_0 : decode jdk_42_method_139_code 0 = .ok (.getstatic 38, 3) := by decide +kernel
theorem d3_10 : decode jdk_42_method_139_code 10 = .ok (.ifCond .eq 16, 3) := by decide +kernel
theorem d3_13 : decode jdk_42_method_139_code 13 = .ok (.new 10, 3) := by decide +kernel
theorem d3_16 : decode jdk_42_method_139_code 16 = .ok (.dup, 1) := by decide +kernel
theorem d3_17 : decode jdk_42_method_139_code 17 = .ok (.iload_n 0, 1) := by decide +kernel
theorem d3_18 : decode jdk_42_method_139_code 18 = .ok (.invokestatic 1018, 3) := by decide +kernel
theorem d3_21 : decode jdk_42_method_139_code 21 = .ok (.iconst 0, 1) := by decide +kernel
theorem d3_22 : decode jdk_42_method_139_code 22 = .ok (.invokespecial 209, 3) := by decide +kernel
theorem d3_25 : decode jdk_42_method_139_code 25 = .ok (.areturn, 1) := by decide +kernel
theorem d3_3 : decode jdk_42_method_139_code 3 = .ok (.ifCond .eq 23, 3) := by decide +kernel
theorem d3_6 : decode jdk_42_method_139_code 6 = .ok (.iload_n 0, 1) := by decide +kernel
theorem d3_7 : decode jdk_42_method_139_code 7 = .ok (.invokestatic 1015, 3) := by decide +kernel
theorem d4_0 : decode jdk_42_method_66_code 0 = .ok (.aload_n 0, 1) := by decide +kernel
theorem d4_1 : decode jdk_42_method_66_code 1 = .ok (.aload_n 1, 1) := by decide +kernel
theorem d4_2 : decode jdk_42_method_66_code 2 = .ok (.if_acmp .ne 5, 3) := by decide +kernel
theorem d4_5 : decode jdk_42_method_66_code 5 = .ok (.iconst 1, 1) := by decide +kernel
theorem d4_6 : decode jdk_42_method_66_code 6 = .ok (.ireturn, 1) := by decide +kernel
theorem d5_0 : decode jdk_71_method_1_code 0 = .ok (.aload_n 0, 1) := by decide +kernel
theorem d5_1 : decode jdk_71_method_1_code 1 = .ok (.invokespecial 1, 3) := by decide +kernel
theorem d5_4 : decode jdk_71_method_1_code 4 = .ok (.return_, 1) := by decide +kernel
theorem d6_0 : decode jdk_69_method_7_code 0 = .ok (.aload_n 0, 1) := by decide +kernel
theorem d6_1 : decode jdk_69_method_7_code 1 = .ok (.invokespecial 43, 3) := by decide +kernel
theorem d6_10 : decode jdk_69_method_7_code 10 = .ok (.return_, 1) := by decide +kernel
theorem d6_4 : decode jdk_69_method_7_code 4 = .ok (.aload_n 0, 1) := by decide +kernel
theorem d6_5 : decode jdk_69_method_7_code 5 = .ok (.ldc 92, 2) := by decide +kernel
theorem d6_7 : decode jdk_69_method_7_code 7 = .ok (.putfield 81, 3) := by decide +kernel
theorem d7_0 : decode jdk_94_method_16_code 0 = .ok (.aload_n 0, 1) := by decide +kernel
theorem d7_1 : decode jdk_94_method_16_code 1 = .ok (.invokespecial 87, 3) := by decide +kernel
theorem d7_10 : decode jdk_94_method_16_code 10 = .ok (.iconst 0, 1) := by decide +kernel
theorem d7_11 : decode jdk_94_method_16_code 11 = .ok (.putfield 64, 3) := by decide +kernel
theorem d7_14 : decode jdk_94_method_16_code 14 = .ok (.return_, 1) := by decide +kernel
theorem d7_4 : decode jdk_94_method_16_code 4 = .ok (.aload_n 0, 1) := by decide +kernel
theorem d7_5 : decode jdk_94_method_16_code 5 = .ok (.iconst 0, 1) := by decide +kernel
theorem d7_6 : decode jdk_94_method_16_code 6 = .ok (.putfield 1, 3) := by decide +kernel
theorem d7_9 : decode jdk_94_method_16_code 9 = .ok (.aload_n 0, 1) := by decide +kernel
theorem d8_0 : decode prog_50_method_4_code 0 = .ok (.aload_n 0, 1) := by decide +kernel
theorem d8_1 : decode prog_50_method_4_code 1 = .ok (.invokespecial 17, 3) := by decide +kernel
theorem d8_12 : decode prog_50_method_4_code 12 = .ok (.putfield 25, 3) := by decide +kernel
theorem d8_15 : decode prog_50_method_4_code 15 = .ok (.aload_n 0, 1) := by decide +kernel
theorem d8_16 : decode prog_50_method_4_code 16 = .ok (.new 29, 3) := by decide +kernel
theorem d8_19 : decode prog_50_method_4_code 19 = .ok (.dup, 1) := by decide +kernel
theorem d8_20 : decode prog_50_method_4_code 20 = .ok (.invokespecial 31, 3) := by decide +kernel
theorem d8_23 : decode prog_50_method_4_code 23 = .ok (.putfield 32, 3) := by decide +kernel
theorem d8_26 : decode prog_50_method_4_code 26 = .ok (.aload_n 0, 1) := by decide +kernel
theorem d8_27 : decode prog_50_method_4_code 27 = .ok (.aload_n 1, 1) := by decide +kernel
theorem d8_28 : decode prog_50_method_4_code 28 = .ok (.putfield 35, 3) := by decide +kernel
theorem d8_31 : decode prog_50_method_4_code 31 = .ok (.aload_n 0, 1) := by decide +kernel
theorem d8_32 : decode prog_50_method_4_code 32 = .ok (.aload_n 2, 1) := by decide +kernel
theorem d8_33 : decode prog_50_method_4_code 33 = .ok (.putfield 39, 3) := by decide +kernel
theorem d8_36 : decode prog_50_method_4_code 36 = .ok (.aload_n 0, 1) := by decide +kernel
theorem d8_37 : decode prog_50_method_4_code 37 = .ok (.aload_n 3, 1) := by decide +kernel
theorem d8_38 : decode prog_50_method_4_code 38 = .ok (.putfield 42, 3) := by decide +kernel
theorem d8_4 : decode prog_50_method_4_code 4 = .ok (.aload_n 0, 1) := by decide +kernel
theorem d8_41 : decode prog_50_method_4_code 41 = .ok (.aload_n 0, 1) := by decide +kernel
theorem d8_42 : decode prog_50_method_4_code 42 = .ok (.aload 4, 2) := by decide +kernel
theorem d8_44 : decode prog_50_method_4_code 44 = .ok (.putfield 45, 3) := by decide +kernel
theorem d8_47 : decode prog_50_method_4_code 47 = .ok (.return_, 1) := by decide +kernel
theorem d8_5 : decode prog_50_method_4_code 5 = .ok (.new 22, 3) := by decide +kernel
theorem d8_8 : decode prog_50_method_4_code 8 = .ok (.dup, 1) := by decide +kernel
theorem d8_9 : decode prog_50_method_4_code 9 = .ok (.invokespecial 24, 3) := by decide +kernel
theorem d9_0 : decode prog_50_method_5_code 0 = .ok (.new 4, 3) := by decide +kernel
theorem d9_12 : decode prog_50_method_5_code 12 = .ok (.areturn, 1) := by decide +kernel
theorem d9_3 : decode prog_50_method_5_code 3 = .ok (.dup, 1) := by decide +kernel
theorem d9_4 : decode prog_50_method_5_code 4 = .ok (.aload_n 0, 1) := by decide +kernel
theorem d9_5 : decode prog_50_method_5_code 5 = .ok (.ldc 1, 2) := by decide +kernel
theorem d9_7 : decode prog_50_method_5_code 7 = .ok (.aload_n 1, 1) := by decide +kernel
theorem d9_8 : decode prog_50_method_5_code 8 = .ok (.aload_n 2, 1) := by decide +kernel
theorem d9_9 : decode prog_50_method_5_code 9 = .ok (.invokespecial 14, 3) := by decide +kernel
theorem pd_0 : parseMethodDescriptor "(C)Z" = some ⟨[.char], some .boolean⟩ := by decide +kernel
theorem pd_1 : parseMethodDescriptor "(C)[B" = some ⟨[.char], some (.array .byte)⟩ := by decide +kernel
theorem pd_2 : parseMethodDescriptor "([BB)V" = some ⟨[(.array .byte), .byte], none⟩ := by decide +kernel
theorem pd_3 : parseMethodDescriptor "()V" = some ⟨[], none⟩ := by decide +kernel
theorem pd_4 : parseMethodDescriptor "(Ljava/lang/String;Ljava/lang/String;Ljava/lang/String;Ljava/lang/String;)V" = some ⟨[(.object "java/lang/String"), (.object "java/lang/String"), (.object "java/lang/String"), (.object "java/lang/String")], none⟩ := by decide +kernel
theorem pd_5 : parseMethodDescriptor "(I)V" = some ⟨[.int], none⟩ := by decide +kernel
theorem pd_6 : parseMethodDescriptor "()B" = some ⟨[], some .byte⟩ := by decide +kernel
theorem pd_7 : parseMethodDescriptor "(Ljava/lang/String;)V" = some ⟨[(.object "java/lang/String")], none⟩ := by decide +kernel
theorem pd_8 : parseMethodDescriptor "([BIB)V" = some ⟨[(.array .byte), .int, .byte], none⟩ := by decide +kernel
theorem pd_9 : parseMethodDescriptor "(ILjava/lang/String;)V" = some ⟨[.int, (.object "java/lang/String")], none⟩ := by decide +kernel
theorem pd_10 : parseMethodDescriptor "(Ljava/lang/String;)Ljava/lang/AbstractStringBuilder;" = some ⟨[(.object "java/lang/String")], some (.object "java/lang/AbstractStringBuilder")⟩ := by decide +kernel
theorem pd_11 : parseMethodDescriptor "()I" = some ⟨[], some .int⟩ := by decide +kernel
theorem pd_12 : parseMethodDescriptor "(II)V" = some ⟨[.int, .int], none⟩ := by decide +kernel
theorem pd_13 : parseMethodDescriptor "(II)I" = some ⟨[.int, .int], some .int⟩ := by decide +kernel
theorem pd_14 : parseMethodDescriptor "([BII)[B" = some ⟨[(.array .byte), .int, .int], some (.array .byte)⟩ := by decide +kernel
theorem pd_15 : parseMethodDescriptor "()[B" = some ⟨[], some (.array .byte)⟩ := by decide +kernel
theorem pd_16 : parseMethodDescriptor "()Z" = some ⟨[], some .boolean⟩ := by decide +kernel
theorem pd_17 : parseMethodDescriptor "(Ljava/lang/AbstractStringBuilder;Ljava/lang/Void;)V" = some ⟨[(.object "java/lang/AbstractStringBuilder"), (.object "java/lang/Void")], none⟩ := by decide +kernel
theorem pd_18 : parseMethodDescriptor "(Ljava/lang/StringBuilder;)V" = some ⟨[(.object "java/lang/StringBuilder")], none⟩ := by decide +kernel
theorem pd_19 : parseMethodDescriptor "(Ljava/lang/String;)Ljava/lang/StringBuilder;" = some ⟨[(.object "java/lang/String")], some (.object "java/lang/StringBuilder")⟩ := by decide +kernel
theorem pd_20 : parseMethodDescriptor "()Ljava/lang/String;" = some ⟨[], some (.object "java/lang/String")⟩ := by decide +kernel
theorem pd_21 : parseMethodDescriptor "(C)Ljava/lang/String;" = some ⟨[.char], some (.object "java/lang/String")⟩ := by decide +kernel
theorem pd_22 : parseMethodDescriptor "(Ljava/lang/String;Ljava/lang/String;Ljava/lang/String;)Lcom/example/forseti/forseti/model/ClassFigures;" = some ⟨[(.object "java/lang/String"), (.object "java/lang/String"), (.object "java/lang/String")], some (.object "com/example/forseti/forseti/model/ClassFigures")⟩ := by decide +kernel
theorem pd_23 : parseMethodDescriptor "(Ljava/lang/String;)Ljava/lang/String;" = some ⟨[(.object "java/lang/String")], some (.object "java/lang/String")⟩ := by decide +kernel
theorem pn_0 : plainName "java/lang/StringLatin1" = true := by first | (simp [plainName, overriddenIn]; done) | decide +kernel
theorem pn_1 : plainName "java/lang/String" = true := by first | (simp [plainName, overriddenIn]; done) | decide +kernel
theorem pn_2 : plainName "java/util/AbstractMap" = true := by first | (simp [plainName, overriddenIn]; done) | decide +kernel
theorem pn_3 : plainName "java/util/HashMap" = true := by first | (simp [plainName, overriddenIn]; done) | decide +kernel
theorem pn_4 : plainName "java/util/LinkedHashMap" = true := by first | (simp [plainName, overriddenIn]; done) | decide +kernel
theorem pn_5 : plainName "com/example/forseti/forseti/model/ClassFigures" = true := by first | (simp [plainName, overriddenIn]; done) | decide +kernel
theorem pn_6 : plainName "java/lang/AbstractStringBuilder" = true := by first | (simp [plainName, overriddenIn]; done) | decide +kernel
theorem pn_7 : plainName "java/lang/StringBuilder" = true := by first | (simp [plainName, overriddenIn]; done) | decide +kernel
theorem pn_8 : plainName "java/util/Arrays" = true := by first | (simp [plainName, overriddenIn]; done) | decide +kernel
theorem pn_9 : plainName "com/example/forseti/forseti/model/ClassFiguresAlikeForEveryPinLaw" = true := by first | (simp [plainName, overriddenIn]; done) | decide +kernel
set_option maxRecDepth 65536 in
set_option maxHeartbeats 40000000 in
theorem rm_canenc {l : Launch} {Z : State} {a0 : Array Value} (C : Cx Z a0) (h0 : Heap) (c1 : Int32) (hc1 : ¬ c1 < 0 ∧ ¬ (255 : Int32) < c1) :
    Ct l Z a0 own_EL (⟨"java/lang/StringLatin1", "canEncode", "(C)Z"⟩ : MethodName) jdk_43_method_3_code 1 (Option.some Jvm.ClassFile.FieldType.boolean) [] ({ frames := 0, cells := 0, slots := 0, locals := 0 } : Room) #[(.int c1)] h0 [] (fun v h so => v = some (.int 1) ∧ h0 = h) := by
  refine own_enter (plainFor_of_name pn_0) C.ew (F0 := fun m => mkF m 0 #[.val (.int c1)] []) (fun m => by first | (simp [entryFrame, mkF, argsToLocals, Value.category]; done) | rfl) ?_
  intro p e s m below meth c s₁ G hx hby hml hret hnm W0 S0 go fin
  have z0 : Z.heap.size ≤ h0.size := W0.sz
  show G s₁ (mkF m 0 #[.val (.int c1)] [])
  refine go (g' := (mkF m 1 #[.val (.int c1)] [(.int c1)])) (fun _ k => XS.iloadN W0.here hx rfl (hb hby d0_0) rfl k) ?_
  refine go (g' := (mkF m 4 #[.val (.int c1)] [(.int (255 : Int32)), (.int c1)])) (fun _ k => XS.sipush W0.here hx rfl (hb hby d0_1) k) ?_
  refine go (g' := (mkF m 7 #[.val (.int c1)] [])) (fun _ k => XS.icmpNo W0.here hx rfl (hb hby d0_4) rfl (flt hc1.2).2.2.1 k) ?_
  refine go (g' := (mkF m 8 #[.val (.int c1)] [(.int (1 : Int32))])) (fun _ k => XS.iconst W0.here hx rfl (hb hby d0_7) k) ?_
  refine go (g' := (mkF m 12 #[.val (.int c1)] [(.int (1 : Int32))])) (fun _ k => XS.goto W0.here hx rfl (pc0 := 8) (pc' := 12) rfl (hb hby d0_8) (by decide) (by decide) k) ?_
  exact fin (v := some (.int (1 : Int32))) (so := []) W0 (nle rfl) (nle rfl) (⟨rfl, rfl⟩) (fun _ q => nomatch q) (fun q => nomatch q) (own_retI W0 hx hret (by decide) rfl (hb hby d0_12))
set_option maxRecDepth 65536 in
set_option maxHeartbeats 40000000 in
theorem rm_tob {l : Launch} {Z : State} {a0 : Array Value} (C : Cx Z a0) (h0 : Heap) (c1 : Int32) :
    Ct l Z a0 own_EL (⟨"java/lang/StringLatin1", "toBytes", "(C)[B"⟩ : MethodName) jdk_43_method_46_code 1 (Option.some (Jvm.ClassFile.FieldType.array Jvm.ClassFile.FieldType.byte)) [] ({ frames := 0, cells := 1, slots := 1, locals := 0 } : Room) #[(.int c1)] h0 [] (fun v h so => ∃ (x : Addr) (k : ClassId), v = some (.ref x) ∧ Ext h0 h ∧ h0.size ≤ x ∧ Arv Z h x k .byte (1 : Int32) [(.int c1.toInt8.toInt32)] (.int (0 : Int32))) := by
  refine own_enter (plainFor_of_name pn_0) C.ew (F0 := fun m => mkF m 0 #[.val (.int c1)] []) (fun m => by first | (simp [entryFrame, mkF, argsToLocals, Value.category]; done) | rfl) ?_
  intro p e s m below meth c s₁ G hx hby hml hret hnm W0 S0 go fin
  have z0 : Z.heap.size ≤ h0.size := W0.sz
  show G s₁ (mkF m 0 #[.val (.int c1)] [])
  refine go (g' := (mkF m 1 #[.val (.int c1)] [(.int (1 : Int32))])) (fun _ k => XS.iconst W0.here hx rfl (hb hby d1_0) k) ?_
  obtain ⟨x1, T1, h1, k1, g1, W1, E1, A1, st1⟩ := own_newP W0 hx (aty := .byte) (w19 C) (g := (mkF m 1 #[.val (.int c1)] [(.int (1 : Int32))])) rfl (hb hby d1_1) rfl (by decide) (cap := 1) (by decide) (nle rfl) (nle rfl) (nle rfl)
  have z2 : h0.size ≤ h1.size := E1.1
  have l1 : @LT.lt Nat _ x1 h1.size := A1.lt
  have V1 : Arv Z h1 x1 k1 .byte (1 : Int32) [(.int (0 : Int32))] (.int (0 : Int32)) := A1.pad (pad_rep [] (.int (0 : Int32)) 1)
  refine go (g' := (mkF m 3 #[.val (.int c1)] [(.ref x1)])) (st1) ?_
  refine go (g' := (mkF m 4 #[.val (.int c1)] [(.ref x1), (.ref x1)])) (fun _ k => XS.dup W1.here hx rfl (hb hby d1_3) rfl rfl k) ?_
  refine go (g' := (mkF m 5 #[.val (.int c1)] [(.int (0 : Int32)), (.ref x1), (.ref x1)])) (fun _ k => XS.iconst W1.here hx rfl (hb hby d1_4) k) ?_
  refine go (g' := (mkF m 6 #[.val (.int c1)] [(.int c1), (.int (0 : Int32)), (.ref x1), (.ref x1)])) (fun _ k => XS.iloadN W1.here hx rfl (hb hby d1_5) rfl k) ?_
  refine go (g' := (mkF m 7 #[.val (.int c1)] [(.int (c1.toInt8.toInt32)), (.int (0 : Int32)), (.ref x1), (.ref x1)])) (fun _ k => XS.i2b W1.here hx rfl (hb hby d1_6) rfl k) ?_
  have X4 : Ext h0 h1 := own_xt (own_xr h0) E1
  obtain ⟨T3, h3, W3, R3, V3, st3⟩ := own_stB W1 hx V1 (by omega) (own_safeB W0 X4 (by omega)) (j := (0 : Int32)) (i := 0) ⟨by decide, by decide⟩ rfl (Nat.le_of_ble_eq_true rfl) (g := (mkF m 7 #[.val (.int c1)] [(.int (c1.toInt8.toInt32)), (.int (0 : Int32)), (.ref x1), (.ref x1)])) rfl rfl (hb hby d1_7)
  have z5 : h3.size = h1.size := R3.size
  have U3 : Arv Z h3 x1 k1 .byte (1 : Int32) [(.int (c1.toInt8.toInt32).toInt8.toInt32)] (.int (0 : Int32)) := V3
  refine go (g' := (mkF m 8 #[.val (.int c1)] [(.ref x1)])) (st3) ?_
  have q6 : Arv Z h3 x1 k1 .byte (1 : Int32) [(.int c1.toInt8.toInt32)] (.int (0 : Int32)) := own_b8 c1 ▸ U3
  have X7 : Ext h0 h3 := own_xw X4 R3 (by omega)
  exact fin (v := some (.ref x1)) (so := []) W3 (nle rfl) (nle rfl) (⟨_, _, rfl, X7, by omega, q6⟩) (fun _ q => nomatch q) (fun q => nomatch q) (own_retA W3 hx hret rfl rfl rfl (hb hby d1_8))
set_option maxRecDepth 65536 in
set_option maxHeartbeats 40000000 in
theorem rm_sinit {l : Launch} {Z : State} {a0 : Array Value} (C : Cx Z a0) (h0 : Heap) (x b : Addr) (Ex : Exa Z h0 x "java/lang/String") (Fv : Fld Z h0 x "java/lang/String" "value" "[B" .null) (Fc : Fld Z h0 x "java/lang/String" "coder" "B" (.int (0 : Int32))) (nx : Z.heap.size ≤ x) :
    Ct l Z a0 own_EL (⟨"java/lang/String", "<init>", "([BB)V"⟩ : MethodName) jdk_42_method_151_code 3 (Option.none : Option Jvm.ClassFile.FieldType) [] ({ frames := 1, cells := 0, slots := 0, locals := 12 } : Room) #[(.ref x), (.ref b), (.int (0 : Int32))] h0 [x] (fun v h so => v = none ∧ Keep h0 h [x] ∧ Exa Z h x "java/lang/String" ∧ Fld Z h x "java/lang/String" "value" "[B" (.ref b) ∧ Fld Z h x "java/lang/String" "coder" "B" (.int (0 : Int32))) := by
  refine own_enter (plainFor_of_name pn_1) C.ew (F0 := fun m => mkF m 0 #[.val (.ref x), .val (.ref b), .val (.int (0 : Int32))] []) (fun m => by first | (simp [entryFrame, mkF, argsToLocals, Value.category]; done) | rfl) ?_
  intro p e s m below meth c s₁ G hx hby hml hret hnm W0 S0 go fin
  have z0 : Z.heap.size ≤ h0.size := W0.sz
  show G s₁ (mkF m 0 #[.val (.ref x), .val (.ref b), .val (.int (0 : Int32))] [])
  have lx : @LT.lt Nat _ x h0.size := Ex.lt
  refine go (g' := (mkF m 1 #[.val (.ref x), .val (.ref b), .val (.int (0 : Int32))] [(.ref x)])) (fun _ k => XS.aloadN W0.here hx rfl (hb hby d2_0) rfl rfl k) ?_
  obtain ⟨T1, W1, st1⟩ := own_initO W0 hx (w11 C) (w12 C) (w13 C) (g := (mkF m 1 #[.val (.ref x), .val (.ref b), .val (.int (0 : Int32))] [(.ref x)])) rfl (by rw [hml]; rfl) rfl (hb hby d2_1) (nle rfl) (Wd := 0) (by show 2 * 0 + _ ≤ _; exact Nat.le_of_eq rfl) (nle rfl)
  refine go (g' := (mkF m 4 #[.val (.ref x), .val (.ref b), .val (.int (0 : Int32))] [])) (st1) ?_
  refine go (g' := (mkF m 5 #[.val (.ref x), .val (.ref b), .val (.int (0 : Int32))] [(.ref x)])) (fun _ k => XS.aloadN W1.here hx rfl (hb hby d2_4) rfl rfl k) ?_
  refine go (g' := (mkF m 6 #[.val (.ref x), .val (.ref b), .val (.int (0 : Int32))] [(.ref b), (.ref x)])) (fun _ k => XS.aloadN W1.here hx rfl (hb hby d2_5) rfl rfl k) ?_
  obtain ⟨T2, h2, W2, R2, F2, st2⟩ := own_put W1 hx (host := "") (Or.inl (w28 C)) Via.refl Fv Ex (Or.inr ⟨(w29 C), rfl, hnm⟩) (w1 C) (ty := (.array .byte)) (by decide) rfl rfl (S0 _ (List.mem_of_getElem? (i := 0) rfl)) (by omega) (g := (mkF m 6 #[.val (.ref x), .val (.ref b), .val (.int (0 : Int32))] [(.ref b), (.ref x)])) rfl rfl (hb hby d2_6)
  have z3 : h2.size = h0.size := R2.size
  have f4 : Exa Z h2 x "java/lang/String" := Ex.wr R2
  have f5 : Fld Z h2 x "java/lang/String" "coder" "B" (.int (0 : Int32)) := Fc.other R2 (Or.inr (slot_ne (Or.inr (w27 C)) (Or.inr (w29 C)) (by decide) (t := .byte) (t' := (.array .byte)) (by decide) (by decide)))
  have S2 : Safe Z own_EL s.vm h2 x := Safe.wr R2 (S0 _ (List.mem_of_getElem? (i := 0) rfl)) W1.ch (S0 _ (List.mem_of_getElem? (i := 0) rfl))
  refine go (g' := (mkF m 9 #[.val (.ref x), .val (.ref b), .val (.int (0 : Int32))] [])) (st2) ?_
  refine go (g' := (mkF m 10 #[.val (.ref x), .val (.ref b), .val (.int (0 : Int32))] [(.ref x)])) (fun _ k => XS.aloadN W2.here hx rfl (hb hby d2_9) rfl rfl k) ?_
  refine go (g' := (mkF m 11 #[.val (.ref x), .val (.ref b), .val (.int (0 : Int32))] [(.int (0 : Int32)), (.ref x)])) (fun _ k => XS.iloadN W2.here hx rfl (hb hby d2_10) rfl k) ?_
  obtain ⟨T6, h6, W6, R6, F6, st6⟩ := own_put W2 hx (host := "") (Or.inl (w26 C)) Via.refl f5 f4 (Or.inr ⟨(w27 C), rfl, hnm⟩) (w1 C) (ty := .byte) (by decide) rfl (by decide) S2 (by omega) (g := (mkF m 11 #[.val (.ref x), .val (.ref b), .val (.int (0 : Int32))] [(.int (0 : Int32)), (.ref x)])) rfl rfl (hb hby d2_11)
  have z7 : h6.size = h2.size := R6.size
  have f8 : Exa Z h6 x "java/lang/String" := f4.wr R6
  have f9 : Fld Z h6 x "java/lang/String" "value" "[B" (.ref b) := F2.other R6 (Or.inr (slot_ne (Or.inr (w29 C)) (Or.inr (w27 C)) (by decide) (t := (.array .byte)) (t' := .byte) (by decide) (by decide)))
  have S6 : Safe Z own_EL s.vm h6 x := Safe.wr R6 S2 W2.ch S2
  refine go (g' := (mkF m 14 #[.val (.ref x), .val (.ref b), .val (.int (0 : Int32))] [])) (st6) ?_
  have KK10 : Keep h0 h6 [x] := (((Keep.refl h0 [x]).wr R2 (Or.inl (List.mem_of_getElem? (i := 0) rfl))).wr R6 (Or.inl (List.mem_of_getElem? (i := 0) rfl)))
  exact fin (v := none) (so := []) W6 (nle rfl) (nle rfl) (⟨rfl, KK10, f8, f9, F6⟩) (fun _ q => nomatch q) (fun _ => rfl) (own_retV W6 hx hret (hb hby d2_14))
set_option maxRecDepth 65536 in
set_option maxHeartbeats 40000000 in
theorem rm_valof {l : Launch} {Z : State} {a0 : Array Value} (C : Cx Z a0) (h0 : Heap) (c1 : Int32) (hc1 : ¬ c1 < 0 ∧ ¬ (255 : Int32) < c1) :
    Ct l Z a0 own_EL (⟨"java/lang/String", "valueOf", "(C)Ljava/lang/String;"⟩ : MethodName) jdk_42_method_139_code 1 (Option.some (Jvm.ClassFile.FieldType.object "java/lang/String")) [] ({ frames := 2, cells := 2, slots := 5, locals := 27 } : Room) #[(.int c1)] h0 [] (fun v h so => ∃ x : Addr, v = some (.ref x) ∧ Ext h0 h ∧ h0.size ≤ x ∧ Str Z h x [c1]) := by
  refine own_enter (plainFor_of_name pn_1) C.ew (F0 := fun m => mkF m 0 #[.val (.int c1)] []) (fun m => by first | (simp [entryFrame, mkF, argsToLocals, Value.category]; done) | rfl) ?_
  intro p e s m below meth c s₁ G hx hby hml hret hnm W0 S0 go fin
  have z0 : Z.heap.size ≤ h0.size := W0.sz
  show G s₁ (mkF m 0 #[.val (.int c1)] [])
  obtain ⟨gCS, OCS, nCS⟩ := C.cs
  obtain ⟨T1, W1, st1⟩ := own_getS W0 hx (host := "") (Or.inl (w14 C)) Via.refl OCS (g := (mkF m 0 #[.val (.int c1)] [])) rfl (hb hby d3_0)
  refine go (g' := (mkF m 3 #[.val (.int c1)] [(.int gCS)])) (st1) ?_
  refine go (g' := (mkF m 6 #[.val (.int c1)] [])) (fun _ k => XS.ifNo W1.here hx rfl (hb hby d3_3) rfl ((if0 _ _).trans (feq nCS).1) k) ?_
  refine go (g' := (mkF m 7 #[.val (.int c1)] [(.int c1)])) (fun _ k => XS.iloadN W1.here hx rfl (hb hby d3_6) rfl k) ?_
  obtain ⟨v2, so2, vm2, T2, h2, W2, C2, q2, hso2, st2⟩ := own_static W1 hx (y := (⟨"java/lang/StringLatin1", "canEncode", "(C)Z"⟩ : MethodName)) (w33 C) (w34 C) (w35 C) (w36 C) (by decide) (rm_canenc C h0 c1 hc1) (fun _ q => nomatch q) (Wd := 0) (nle rfl) (nle rfl) (nle rfl) (nle rfl) (g := (mkF m 7 #[.val (.int c1)] [(.int c1)])) rfl (by rw [hml]; rfl) (argsL := [(.int c1)]) (rest := []) (lenOf pd_0 rfl) rfl rfl (by show 2 * 0 + _ ≤ _; exact Nat.le_of_eq rfl) (hb hby d3_7)
  obtain ⟨rfl, rfl⟩ := q2
  refine go (g' := (mkF m 10 #[.val (.int c1)] [(.int (1 : Int32))])) (st2) ?_
  refine go (g' := (mkF m 13 #[.val (.int c1)] [])) (fun _ k => XS.ifNo W2.here hx rfl (hb hby d3_10) rfl ((if0 _ _).trans (feq ((by decide) : ¬ ((1 : Int32) = (0 : Int32)))).1) k) ?_
  obtain ⟨x3, T3, h3, g3, W3, E3, A3, D3, U3, st3⟩ := own_new W2 hx (w37 C) (w1 C) (w2 C) (g := (mkF m 13 #[.val (.int c1)] [])) rfl (hb hby d3_13) (nle rfl) (nle rfl)
  have z4 : h0.size ≤ h3.size := E3.1
  have l3 : @LT.lt Nat _ x3 h3.size := A3.lt
  have F3_coder : Fld Z h3 x3 "java/lang/String" "coder" "B" (.int (0 : Int32)) := D3 (Or.inr (w27 C)) (ty := .byte) (by decide)
  have F3_value : Fld Z h3 x3 "java/lang/String" "value" "[B" .null := D3 (Or.inr (w29 C)) (ty := (.array .byte)) (by decide)
  refine go (g' := (mkF m 16 #[.val (.int c1)] [(.ref x3)])) (st3) ?_
  refine go (g' := (mkF m 17 #[.val (.int c1)] [(.ref x3), (.ref x3)])) (fun _ k => XS.dup W3.here hx rfl (hb hby d3_16) rfl rfl k) ?_
  refine go (g' := (mkF m 18 #[.val (.int c1)] [(.int c1), (.ref x3), (.ref x3)])) (fun _ k => XS.iloadN W3.here hx rfl (hb hby d3_17) rfl k) ?_
  have X6 : Ext h0 h3 := own_xt (own_xr h0) E3
  obtain ⟨v5, so5, vm5, T5, h5, W5, C5, q5, hso5, st5⟩ := own_static W3 hx (y := (⟨"java/lang/StringLatin1", "toBytes", "(C)[B"⟩ : MethodName)) (w38 C) (w39 C) (w35 C) (w40 C) (by decide) (rm_tob C h3 c1) (fun _ q => nomatch q) (Wd := 2) (nle rfl) (nle rfl) (nle rfl) (nle rfl) (g := (mkF m 18 #[.val (.int c1)] [(.int c1), (.ref x3), (.ref x3)])) rfl (by rw [hml]; rfl) (argsL := [(.int c1)]) (rest := [(.ref x3), (.ref x3)]) (lenOf pd_1 rfl) rfl rfl (by show 2 * 0 + _ ≤ _; exact Nat.le_of_eq rfl) (hb hby d3_18)
  obtain ⟨x5, k5, rfl, E5, g5, V5⟩ := q5
  have z7 : h3.size ≤ h5.size := E5.1
  have S5_x3 : Safe Z own_EL vm5 h5 x3 := C5.safe (olt (by omega)) (own_safeB W2 X6 (by omega))
  refine go (g' := (mkF m 21 #[.val (.int c1)] [(.ref x5), (.ref x3), (.ref x3)])) (st5) ?_
  refine go (g' := (mkF m 22 #[.val (.int c1)] [(.int (0 : Int32)), (.ref x5), (.ref x3), (.ref x3)])) (fun _ k => XS.iconst W5.here hx rfl (hb hby d3_21) k) ?_
  have X9 : Ext h3 h5 := own_xt (own_xr h3) E5
  have f10 : Exa Z h5 x3 "java/lang/String" := A3.ext X9
  have f11 : Fld Z h5 x3 "java/lang/String" "value" "[B" .null := F3_value.ext X9
  have f12 : Fld Z h5 x3 "java/lang/String" "coder" "B" (.int (0 : Int32)) := F3_coder.ext X9
  obtain ⟨v8, so8, vm8, T8, h8, W8, C8, q8, hso8, st8⟩ := own_special W5 hx (y := (⟨"java/lang/String", "<init>", "([BB)V"⟩ : MethodName)) rfl (w41 C) (w42 C) (w2 C) (w43 C) (by decide) (rm_sinit C h5 x3 x5 f10 f11 f12 (by omega)) (allS S5_x3 all0) (Wd := 1) (nle rfl) (nle rfl) (nle rfl) (nle rfl) (g := (mkF m 22 #[.val (.int c1)] [(.int (0 : Int32)), (.ref x5), (.ref x3), (.ref x3)])) rfl (by rw [hml]; rfl) (a := x3) (argsL := [(.ref x5), (.int (0 : Int32))]) (rest := [(.ref x3)]) (lenOf pd_2 rfl) rfl rfl (by show 2 * 0 + _ ≤ _; exact Nat.le_of_eq rfl) (hb hby d3_22)
  obtain ⟨rfl, K8, E8, F8, G8⟩ := q8
  have z13 : h5.size ≤ h8.size := K8.1
  have S8_x3 : Safe Z own_EL vm8 h8 x3 := C8.safe (olt (by omega)) S5_x3
  refine go (g' := (mkF m 25 #[.val (.int c1)] [(.ref x3)])) (st8) ?_
  have X14 : Ext h0 h5 := own_xt X6 E5
  have X15 : Ext h0 h8 := own_xk X14 K8 (allS (by omega) all0)
  have l17 : @LT.lt Nat _ x5 h5.size := V5.lt
  have f16 : Arv Z h8 x5 k5 .byte (1 : Int32) [(.int c1.toInt8.toInt32)] (.int (0 : Int32)) := V5.keep K8 (ninS (one (by omega)) nin0)
  exact fin (v := some (.ref x3)) (so := []) W8 (nle rfl) (nle rfl) (⟨_, rfl, X15, by omega, E8, G8, own_alS hc1 own_al0, _, _, F8, f16⟩) (fun _ q => nomatch q) (fun q => nomatch q) (own_retA W8 hx hret rfl rfl rfl (hb hby d3_25))
set_option maxRecDepth 65536 in
set_option maxHeartbeats 40000000 in
theorem rm_eqsame {l : Launch} {Z : State} {a0 : Array Value} (C : Cx Z a0) (h0 : Heap) (x : Addr) :
    Ct l Z a0 own_EL (⟨"java/lang/String", "equals", "(Ljava/lang/Object;)Z"⟩ : MethodName) jdk_42_method_66_code 3 (Option.some Jvm.ClassFile.FieldType.boolean) [] ({ frames := 0, cells := 0, slots := 0, locals := 0 } : Room) #[(.ref x), (.ref x)] h0 [] (fun v h so => v = some (.int 1) ∧ h0 = h) := by
  refine own_enter (plainFor_of_name pn_1) C.ew (F0 := fun m => mkF m 0 #[.val (.ref x), .val (.ref x), .unset] []) (fun m => by first | (simp [entryFrame, mkF, argsToLocals, Value.category]; done) | rfl) ?_
  intro p e s m below meth c s₁ G hx hby hml hret hnm W0 S0 go fin
  have z0 : Z.heap.size ≤ h0.size := W0.sz
  show G s₁ (mkF m 0 #[.val (.ref x), .val (.ref x), .unset] [])
  refine go (g' := (mkF m 1 #[.val (.ref x), .val (.ref x), .unset] [(.ref x)])) (fun _ k => XS.aloadN W0.here hx rfl (hb hby d4_0) rfl rfl k) ?_
  refine go (g' := (mkF m 2 #[.val (.ref x), .val (.ref x), .unset] [(.ref x), (.ref x)])) (fun _ k => XS.aloadN W0.here hx rfl (hb hby d4_1) rfl rfl k) ?_
  refine go (g' := (mkF m 5 #[.val (.ref x), .val (.ref x), .unset] [])) (own_acmp W0 hx (g := (mkF m 2 #[.val (.ref x), .val (.ref x), .unset] [(.ref x), (.ref x)])) rfl rfl rfl (pc0 := 2) (pc' := 5) (same := true) rfl (hb hby d4_2) rfl (decide_eq_true rfl) (by decide) (by decide)) ?_
  refine go (g' := (mkF m 6 #[.val (.ref x), .val (.ref x), .unset] [(.int (1 : Int32))])) (fun _ k => XS.iconst W0.here hx rfl (hb hby d4_5) k) ?_
  exact fin (v := some (.int (1 : Int32))) (so := []) W0 (nle rfl) (nle rfl) (⟨rfl, rfl⟩) (fun _ q => nomatch q) (fun q => nomatch q) (own_retI W0 hx hret (by decide) rfl (hb hby d4_6))
set_option maxRecDepth 65536 in
set_option maxHeartbeats 40000000 in
theorem rm_am {l : Launch} {Z : State} {a0 : Array Value} (C : Cx Z a0) (h0 : Heap) (x : Addr) :
    Ct l Z a0 own_EL (⟨"java/util/AbstractMap", "<init>", "()V"⟩ : MethodName) jdk_71_method_1_code 1 (Option.none : Option Jvm.ClassFile.FieldType) [] ({ frames := 1, cells := 0, slots := 0, locals := 12 } : Room) #[(.ref x)] h0 [] (fun v h so => v = none ∧ h0 = h) := by
  refine own_enter (plainFor_of_name pn_2) C.ew (F0 := fun m => mkF m 0 #[.val (.ref x)] []) (fun m => by first | (simp [entryFrame, mkF, argsToLocals, Value.category]; done) | rfl) ?_
  intro p e s m below meth c s₁ G hx hby hml hret hnm W0 S0 go fin
  have z0 : Z.heap.size ≤ h0.size := W0.sz
  show G s₁ (mkF m 0 #[.val (.ref x)] [])
  refine go (g' := (mkF m 1 #[.val (.ref x)] [(.ref x)])) (fun _ k => XS.aloadN W0.here hx rfl (hb hby d5_0) rfl rfl k) ?_
  obtain ⟨T1, W1, st1⟩ := own_initO W0 hx (w75 C) (w12 C) (w13 C) (g := (mkF m 1 #[.val (.ref x)] [(.ref x)])) rfl (by rw [hml]; rfl) rfl (hb hby d5_1) (nle rfl) (Wd := 0) (by show 2 * 0 + _ ≤ _; exact Nat.le_of_eq rfl) (nle rfl)
  refine go (g' := (mkF m 4 #[.val (.ref x)] [])) (st1) ?_
  exact fin (v := none) (so := []) W1 (nle rfl) (nle rfl) (⟨rfl, rfl⟩) (fun _ q => nomatch q) (fun _ => rfl) (own_retV W1 hx hret (hb hby d5_4))
set_option maxRecDepth 65536 in
set_option maxHeartbeats 40000000 in
theorem rm_hm {l : Launch} {Z : State} {a0 : Array Value} (C : Cx Z a0) (h0 : Heap) (x : Addr) (Ex : Exa Z h0 x "java/util/HashMap") (F_loadFactor : Fld Z h0 x "java/util/HashMap" "loadFactor" "F" (.float (0 : UInt32))) (nx : Z.heap.size ≤ x) :
    Ct l Z a0 own_EL (⟨"java/util/HashMap", "<init>", "()V"⟩ : MethodName) jdk_69_method_7_code 1 (Option.none : Option Jvm.ClassFile.FieldType) [] ({ frames := 2, cells := 0, slots := 0, locals := 24 } : Room) #[(.ref x)] h0 [] (fun v h so => v = none ∧ Keep h0 h [x] ∧ Exa Z h x "java/util/HashMap" ∧ Fld Z h x "java/util/HashMap" "loadFactor" "F" (.float (1061158912 : UInt32))) := by
  refine own_enter (plainFor_of_name pn_3) C.ew (F0 := fun m => mkF m 0 #[.val (.ref x)] []) (fun m => by first | (simp [entryFrame, mkF, argsToLocals, Value.category]; done) | rfl) ?_
  intro p e s m below meth c s₁ G hx hby hml hret hnm W0 S0 go fin
  have z0 : Z.heap.size ≤ h0.size := W0.sz
  show G s₁ (mkF m 0 #[.val (.ref x)] [])
  have lx : @LT.lt Nat _ x h0.size := Ex.lt
  refine go (g' := (mkF m 1 #[.val (.ref x)] [(.ref x)])) (fun _ k => XS.aloadN W0.here hx rfl (hb hby d6_0) rfl rfl k) ?_
  obtain ⟨v1, so1, vm1, T1, h1, W1, C1, q1, hso1, st1⟩ := own_special W0 hx (y := (⟨"java/util/AbstractMap", "<init>", "()V"⟩ : MethodName)) rfl (w69 C) (w70 C) (w73 C) (w74 C) (by decide) (rm_am C h0 x) (fun _ q => nomatch q) (Wd := 0) (nle rfl) (nle rfl) (nle rfl) (nle rfl) (g := (mkF m 1 #[.val (.ref x)] [(.ref x)])) rfl (by rw [hml]; rfl) (a := x) (argsL := []) (rest := []) (lenOf pd_3 rfl) rfl rfl (by show 2 * 0 + _ ≤ _; exact Nat.le_of_eq rfl) (hb hby d6_1)
  obtain ⟨rfl, rfl⟩ := q1
  refine go (g' := (mkF m 4 #[.val (.ref x)] [])) (st1) ?_
  refine go (g' := (mkF m 5 #[.val (.ref x)] [(.ref x)])) (fun _ k => XS.aloadN W1.here hx rfl (hb hby d6_4) rfl rfl k) ?_
  refine go (g' := (mkF m 7 #[.val (.ref x)] [(.float (1061158912 : UInt32)), (.ref x)])) (own_ldcF W1 hx (w76 C) (g := (mkF m 5 #[.val (.ref x)] [(.ref x)])) rfl (hb hby d6_5)) ?_
  obtain ⟨T2, h2, W2, R2, F2, st2⟩ := own_put W1 hx (host := "") (Or.inl (w77 C)) Via.refl F_loadFactor Ex (Or.inr ⟨(w89 C), rfl, hnm⟩) (w86 C) (ty := .float) (by decide) rfl rfl (own_safeE W1 Ex (by decide) (by decide)) (by omega) (g := (mkF m 7 #[.val (.ref x)] [(.float (1061158912 : UInt32)), (.ref x)])) rfl rfl (hb hby d6_7)
  have z3 : h2.size = h0.size := R2.size
  have f4 : Exa Z h2 x "java/util/HashMap" := Ex.wr R2
  refine go (g' := (mkF m 10 #[.val (.ref x)] [])) (st2) ?_
  have KK5 : Keep h0 h2 [x] := ((Keep.refl h0 [x]).wr R2 (Or.inl (List.mem_of_getElem? (i := 0) rfl)))
  exact fin (v := none) (so := []) W2 (nle rfl) (nle rfl) (⟨rfl, KK5, f4, F2⟩) (fun _ q => nomatch q) (fun _ => rfl) (own_retV W2 hx hret (hb hby d6_10))
set_option maxRecDepth 65536 in
set_option maxHeartbeats 40000000 in
theorem rm_hml {l : Launch} {Z : State} {a0 : Array Value} (C : Cx Z a0) (h0 : Heap) (x : Addr) (Ex : Exa Z h0 x "java/util/LinkedHashMap") (F_loadFactor : Fld Z h0 x "java/util/HashMap" "loadFactor" "F" (.float (0 : UInt32))) (F_putMode : Fld Z h0 x "java/util/LinkedHashMap" "putMode" "I" (.int (0 : Int32))) (F_accessOrder : Fld Z h0 x "java/util/LinkedHashMap" "accessOrder" "Z" (.int (0 : Int32))) (nx : Z.heap.size ≤ x) :
    Ct l Z a0 own_EL (⟨"java/util/HashMap", "<init>", "()V"⟩ : MethodName) jdk_69_method_7_code 1 (Option.none : Option Jvm.ClassFile.FieldType) [] ({ frames := 2, cells := 0, slots := 0, locals := 24 } : Room) #[(.ref x)] h0 [] (fun v h so => v = none ∧ Keep h0 h [x] ∧ Exa Z h x "java/util/LinkedHashMap" ∧ Fld Z h x "java/util/HashMap" "loadFactor" "F" (.float (1061158912 : UInt32)) ∧ Fld Z h x "java/util/LinkedHashMap" "putMode" "I" (.int (0 : Int32)) ∧ Fld Z h x "java/util/LinkedHashMap" "accessOrder" "Z" (.int (0 : Int32))) := by
  refine own_enter (plainFor_of_name pn_3) C.ew (F0 := fun m => mkF m 0 #[.val (.ref x)] []) (fun m => by first | (simp [entryFrame, mkF, argsToLocals, Value.category]; done) | rfl) ?_
  intro p e s m below meth c s₁ G hx hby hml hret hnm W0 S0 go fin
  have z0 : Z.heap.size ≤ h0.size := W0.sz
  show G s₁ (mkF m 0 #[.val (.ref x)] [])
  have lx : @LT.lt Nat _ x h0.size := Ex.lt
  refine go (g' := (mkF m 1 #[.val (.ref x)] [(.ref x)])) (fun _ k => XS.aloadN W0.here hx rfl (hb hby d6_0) rfl rfl k) ?_
  obtain ⟨v1, so1, vm1, T1, h1, W1, C1, q1, hso1, st1⟩ := own_special W0 hx (y := (⟨"java/util/AbstractMap", "<init>", "()V"⟩ : MethodName)) rfl (w69 C) (w70 C) (w73 C) (w74 C) (by decide) (rm_am C h0 x) (fun _ q => nomatch q) (Wd := 0) (nle rfl) (nle rfl) (nle rfl) (nle rfl) (g := (mkF m 1 #[.val (.ref x)] [(.ref x)])) rfl (by rw [hml]; rfl) (a := x) (argsL := []) (rest := []) (lenOf pd_3 rfl) rfl rfl (by show 2 * 0 + _ ≤ _; exact Nat.le_of_eq rfl) (hb hby d6_1)
  obtain ⟨rfl, rfl⟩ := q1
  refine go (g' := (mkF m 4 #[.val (.ref x)] [])) (st1) ?_
  refine go (g' := (mkF m 5 #[.val (.ref x)] [(.ref x)])) (fun _ k => XS.aloadN W1.here hx rfl (hb hby d6_4) rfl rfl k) ?_
  refine go (g' := (mkF m 7 #[.val (.ref x)] [(.float (1061158912 : UInt32)), (.ref x)])) (own_ldcF W1 hx (w76 C) (g := (mkF m 5 #[.val (.ref x)] [(.ref x)])) rfl (hb hby d6_5)) ?_
  obtain ⟨T2, h2, W2, R2, F2, st2⟩ := own_put W1 hx (host := "") (Or.inl (w77 C)) Via.refl F_loadFactor Ex (Or.inr ⟨(w78 C), rfl, hnm⟩) (w58 C) (ty := .float) (by decide) rfl rfl (own_safeE W1 Ex (by decide) (by decide)) (by omega) (g := (mkF m 7 #[.val (.ref x)] [(.float (1061158912 : UInt32)), (.ref x)])) rfl rfl (hb hby d6_7)
  have z3 : h2.size = h0.size := R2.size
  have f4 : Exa Z h2 x "java/util/LinkedHashMap" := Ex.wr R2
  have f5 : Fld Z h2 x "java/util/LinkedHashMap" "putMode" "I" (.int (0 : Int32)) := F_putMode.other R2 (Or.inr (slot_ne (Or.inl (w80 C)) (Or.inr (w78 C)) (by decide) (t := .int) (t' := .float) (by decide) (by decide)))
  have f6 : Fld Z h2 x "java/util/LinkedHashMap" "accessOrder" "Z" (.int (0 : Int32)) := F_accessOrder.other R2 (Or.inr (slot_ne (Or.inr (w82 C)) (Or.inr (w78 C)) (by decide) (t := .boolean) (t' := .float) (by decide) (by decide)))
  refine go (g' := (mkF m 10 #[.val (.ref x)] [])) (st2) ?_
  have KK7 : Keep h0 h2 [x] := ((Keep.refl h0 [x]).wr R2 (Or.inl (List.mem_of_getElem? (i := 0) rfl)))
  exact fin (v := none) (so := []) W2 (nle rfl) (nle rfl) (⟨rfl, KK7, f4, F2, f5, f6⟩) (fun _ q => nomatch q) (fun _ => rfl) (own_retV W2 hx hret (hb hby d6_10))
set_option maxRecDepth 65536 in
set_option maxHeartbeats 40000000 in
theorem rm_lm {l : Launch} {Z : State} {a0 : Array Value} (C : Cx Z a0) (h0 : Heap) (x : Addr) (Ex : Exa Z h0 x "java/util/LinkedHashMap") (F_loadFactor : Fld Z h0 x "java/util/HashMap" "loadFactor" "F" (.float (0 : UInt32))) (F_putMode : Fld Z h0 x "java/util/LinkedHashMap" "putMode" "I" (.int (0 : Int32))) (F_accessOrder : Fld Z h0 x "java/util/LinkedHashMap" "accessOrder" "Z" (.int (0 : Int32))) (nx : Z.heap.size ≤ x) :
    Ct l Z a0 own_EL (⟨"java/util/LinkedHashMap", "<init>", "()V"⟩ : MethodName) jdk_94_method_16_code 1 (Option.none : Option Jvm.ClassFile.FieldType) [] ({ frames := 3, cells := 0, slots := 0, locals := 36 } : Room) #[(.ref x)] h0 [] (fun v h so => v = none ∧ Keep h0 h [x] ∧ Exa Z h x "java/util/LinkedHashMap" ∧ Fld Z h x "java/util/HashMap" "loadFactor" "F" (.float (1061158912 : UInt32)) ∧ Fld Z h x "java/util/LinkedHashMap" "putMode" "I" (.int (0 : Int32)) ∧ Fld Z h x "java/util/LinkedHashMap" "accessOrder" "Z" (.int (0 : Int32))) := by
  refine own_enter (plainFor_of_name pn_4) C.ew (F0 := fun m => mkF m 0 #[.val (.ref x)] []) (fun m => by first | (simp [entryFrame, mkF, argsToLocals, Value.category]; done) | rfl) ?_
  intro p e s m below meth c s₁ G hx hby hml hret hnm W0 S0 go fin
  have z0 : Z.heap.size ≤ h0.size := W0.sz
  show G s₁ (mkF m 0 #[.val (.ref x)] [])
  have lx : @LT.lt Nat _ x h0.size := Ex.lt
  refine go (g' := (mkF m 1 #[.val (.ref x)] [(.ref x)])) (fun _ k => XS.aloadN W0.here hx rfl (hb hby d7_0) rfl rfl k) ?_
  obtain ⟨v1, so1, vm1, T1, h1, W1, C1, q1, hso1, st1⟩ := own_special W0 hx (y := (⟨"java/util/HashMap", "<init>", "()V"⟩ : MethodName)) rfl (w63 C) (w64 C) (w67 C) (w68 C) (by decide) (rm_hml C h0 x Ex F_loadFactor F_putMode F_accessOrder (by omega)) (fun _ q => nomatch q) (Wd := 0) (nle rfl) (nle rfl) (nle rfl) (nle rfl) (g := (mkF m 1 #[.val (.ref x)] [(.ref x)])) rfl (by rw [hml]; rfl) (a := x) (argsL := []) (rest := []) (lenOf pd_3 rfl) rfl rfl (by show 2 * 0 + _ ≤ _; exact Nat.le_of_eq rfl) (hb hby d7_1)
  obtain ⟨rfl, K1, E1, F1_loadFactor, F1_putMode, F1_accessOrder⟩ := q1
  have z2 : h0.size ≤ h1.size := K1.1
  refine go (g' := (mkF m 4 #[.val (.ref x)] [])) (st1) ?_
  refine go (g' := (mkF m 5 #[.val (.ref x)] [(.ref x)])) (fun _ k => XS.aloadN W1.here hx rfl (hb hby d7_4) rfl rfl k) ?_
  refine go (g' := (mkF m 6 #[.val (.ref x)] [(.int (0 : Int32)), (.ref x)])) (fun _ k => XS.iconst W1.here hx rfl (hb hby d7_5) k) ?_
  obtain ⟨T3, h3, W3, R3, F3, st3⟩ := own_put W1 hx (host := "") (Or.inl (w79 C)) Via.refl F1_putMode E1 (Or.inl (w80 C)) (w58 C) (ty := .int) (by decide) rfl rfl (own_safeE W1 E1 (by decide) (by decide)) (by omega) (g := (mkF m 6 #[.val (.ref x)] [(.int (0 : Int32)), (.ref x)])) rfl rfl (hb hby d7_6)
  have z4 : h3.size = h1.size := R3.size
  have f5 : Exa Z h3 x "java/util/LinkedHashMap" := E1.wr R3
  have f6 : Fld Z h3 x "java/util/HashMap" "loadFactor" "F" (.float (1061158912 : UInt32)) := F1_loadFactor.other R3 (Or.inr (slot_ne (Or.inr (w78 C)) (Or.inl (w80 C)) (by decide) (t := .float) (t' := .int) (by decide) (by decide)))
  have f7 : Fld Z h3 x "java/util/LinkedHashMap" "accessOrder" "Z" (.int (0 : Int32)) := F1_accessOrder.other R3 (Or.inr (slot_ne (Or.inr (w82 C)) (Or.inl (w80 C)) (by decide) (t := .boolean) (t' := .int) (by decide) (by decide)))
  refine go (g' := (mkF m 9 #[.val (.ref x)] [])) (st3) ?_
  refine go (g' := (mkF m 10 #[.val (.ref x)] [(.ref x)])) (fun _ k => XS.aloadN W3.here hx rfl (hb hby d7_9) rfl rfl k) ?_
  refine go (g' := (mkF m 11 #[.val (.ref x)] [(.int (0 : Int32)), (.ref x)])) (fun _ k => XS.iconst W3.here hx rfl (hb hby d7_10) k) ?_
  obtain ⟨T8, h8, W8, R8, F8, st8⟩ := own_put W3 hx (host := "") (Or.inl (w81 C)) Via.refl f7 f5 (Or.inr ⟨(w82 C), rfl, hnm⟩) (w58 C) (ty := .boolean) (by decide) rfl (by decide) (own_safeE W3 f5 (by decide) (by decide)) (by omega) (g := (mkF m 11 #[.val (.ref x)] [(.int (0 : Int32)), (.ref x)])) rfl rfl (hb hby d7_11)
  have z9 : h8.size = h3.size := R8.size
  have f10 : Exa Z h8 x "java/util/LinkedHashMap" := f5.wr R8
  have f11 : Fld Z h8 x "java/util/HashMap" "loadFactor" "F" (.float (1061158912 : UInt32)) := f6.other R8 (Or.inr (slot_ne (Or.inr (w78 C)) (Or.inr (w82 C)) (by decide) (t := .float) (t' := .boolean) (by decide) (by decide)))
  have f12 : Fld Z h8 x "java/util/LinkedHashMap" "putMode" "I" (.int (0 : Int32)) := F3.other R8 (Or.inr (slot_ne (Or.inl (w80 C)) (Or.inr (w82 C)) (by decide) (t := .int) (t' := .boolean) (by decide) (by decide)))
  refine go (g' := (mkF m 14 #[.val (.ref x)] [])) (st8) ?_
  have KK13 : Keep h0 h8 [x] := ((((Keep.refl h0 [x]).trans K1 (allS (Or.inl (List.mem_of_getElem? (i := 0) rfl)) all0)).wr R3 (Or.inl (List.mem_of_getElem? (i := 0) rfl))).wr R8 (Or.inl (List.mem_of_getElem? (i := 0) rfl)))
  exact fin (v := none) (so := []) W8 (nle rfl) (nle rfl) (⟨rfl, KK13, f10, f11, f12, F8⟩) (fun _ q => nomatch q) (fun _ => rfl) (own_retV W8 hx hret (hb hby d7_14))
set_option maxRecDepth 65536 in
set_option maxHeartbeats 40000000 in
theorem rm_cf {l : Launch} {Z : State} {a0 : Array Value} (C : Cx Z a0) (h0 : Heap) (x : Addr) (u1 u2 u3 u4 : Value) (r1 : u1.isRef = true) (r2 : u2.isRef = true) (r3 : u3.isRef = true) (r4 : u4.isRef = true) (Ex : Exa Z h0 x "com/example/forseti/forseti/model/ClassFigures") (F_leafOfOwner : Fld Z h0 x "com/example/forseti/forseti/model/ClassFigures" "leafOfOwner" "Ljava/util/Map;" .null) (F_figuresOfOwner : Fld Z h0 x "com/example/forseti/forseti/model/ClassFigures" "figuresOfOwner" "Ljava/util/Map;" .null) (F_kind : Fld Z h0 x "com/example/forseti/forseti/model/ClassFigures" "kind" "Ljava/lang/String;" .null) (F_article : Fld Z h0 x "com/example/forseti/forseti/model/ClassFigures" "article" "Ljava/lang/String;" .null) (F_ownerKind : Fld Z h0 x "com/example/forseti/forseti/model/ClassFigures" "ownerKind" "Ljava/lang/String;" .null) (F_anyOwner : Fld Z h0 x "com/example/forseti/forseti/model/ClassFigures" "anyOwner" "Ljava/lang/String;" .null) (nx : Z.heap.size ≤ x) :
    Ct l Z a0 own_EL (⟨"com/example/forseti/forseti/model/ClassFigures", "<init>", "(Ljava/lang/String;Ljava/lang/String;Ljava/lang/String;Ljava/lang/String;)V"⟩ : MethodName) prog_50_method_4_code 5 (Option.none : Option Jvm.ClassFile.FieldType) [] ({ frames := 4, cells := 2, slots := 20, locals := 50 } : Room) #[(.ref x), u1, u2, u3, u4] h0 [] (fun v h so => v = none ∧ Keep h0 h [x] ∧ Exa Z h x "com/example/forseti/forseti/model/ClassFigures" ∧ Fld Z h x "com/example/forseti/forseti/model/ClassFigures" "kind" "Ljava/lang/String;" u1 ∧ Fld Z h x "com/example/forseti/forseti/model/ClassFigures" "article" "Ljava/lang/String;" u2 ∧ Fld Z h x "com/example/forseti/forseti/model/ClassFigures" "ownerKind" "Ljava/lang/String;" u3 ∧ Fld Z h x "com/example/forseti/forseti/model/ClassFigures" "anyOwner" "Ljava/lang/String;" u4) := by
  refine own_enter (plainFor_of_name pn_5) C.ew (F0 := fun m => mkF m 0 #[.val (.ref x), .val u1, .val u2, .val u3, .val u4] []) (fun m => by rcases ref_cases r1 with rfl | ⟨_, rfl⟩ <;> rcases ref_cases r2 with rfl | ⟨_, rfl⟩ <;> rcases ref_cases r3 with rfl | ⟨_, rfl⟩ <;> rcases ref_cases r4 with rfl | ⟨_, rfl⟩ <;> rfl) ?_
  intro p e s m below meth c s₁ G hx hby hml hret hnm W0 S0 go fin
  have z0 : Z.heap.size ≤ h0.size := W0.sz
  show G s₁ (mkF m 0 #[.val (.ref x), .val u1, .val u2, .val u3, .val u4] [])
  have lx : @LT.lt Nat _ x h0.size := Ex.lt
  refine go (g' := (mkF m 1 #[.val (.ref x), .val u1, .val u2, .val u3, .val u4] [(.ref x)])) (fun _ k => XS.aloadN W0.here hx rfl (hb hby d8_0) rfl rfl k) ?_
  obtain ⟨T1, W1, st1⟩ := own_initO W0 hx (w56 C) (w12 C) (w13 C) (g := (mkF m 1 #[.val (.ref x), .val u1, .val u2, .val u3, .val u4] [(.ref x)])) rfl (by rw [hml]; rfl) rfl (hb hby d8_1) (nle rfl) (Wd := 0) (by show 2 * 0 + _ ≤ _; exact Nat.le_of_eq rfl) (nle rfl)
  refine go (g' := (mkF m 4 #[.val (.ref x), .val u1, .val u2, .val u3, .val u4] [])) (st1) ?_
  refine go (g' := (mkF m 5 #[.val (.ref x), .val u1, .val u2, .val u3, .val u4] [(.ref x)])) (fun _ k => XS.aloadN W1.here hx rfl (hb hby d8_4) rfl rfl k) ?_
  obtain ⟨x2, T2, h2, g2, W2, E2, A2, D2, U2, st2⟩ := own_new W1 hx (w57 C) (w58 C) (w59 C) (g := (mkF m 5 #[.val (.ref x), .val u1, .val u2, .val u3, .val u4] [(.ref x)])) rfl (hb hby d8_5) (nle rfl) (nle rfl)
  have z3 : h0.size ≤ h2.size := E2.1
  have l2 : @LT.lt Nat _ x2 h2.size := A2.lt
  have F2_loadFactor : Fld Z h2 x2 "java/util/HashMap" "loadFactor" "F" (.float (0 : UInt32)) := D2 (Or.inr (w78 C)) (ty := .float) (by decide)
  have F2_putMode : Fld Z h2 x2 "java/util/LinkedHashMap" "putMode" "I" (.int (0 : Int32)) := D2 (Or.inl (w80 C)) (ty := .int) (by decide)
  have F2_accessOrder : Fld Z h2 x2 "java/util/LinkedHashMap" "accessOrder" "Z" (.int (0 : Int32)) := D2 (Or.inr (w82 C)) (ty := .boolean) (by decide)
  refine go (g' := (mkF m 8 #[.val (.ref x), .val u1, .val u2, .val u3, .val u4] [(.ref x2), (.ref x)])) (st2) ?_
  refine go (g' := (mkF m 9 #[.val (.ref x), .val u1, .val u2, .val u3, .val u4] [(.ref x2), (.ref x2), (.ref x)])) (fun _ k => XS.dup W2.here hx rfl (hb hby d8_8) rfl rfl k) ?_
  obtain ⟨v4, so4, vm4, T4, h4, W4, C4, q4, hso4, st4⟩ := own_special W2 hx (y := (⟨"java/util/LinkedHashMap", "<init>", "()V"⟩ : MethodName)) rfl (w60 C) (w61 C) (w59 C) (w62 C) (by decide) (rm_lm C h2 x2 A2 F2_loadFactor F2_putMode F2_accessOrder (by omega)) (fun _ q => nomatch q) (Wd := 2) (nle rfl) (nle rfl) (nle rfl) (nle rfl) (g := (mkF m 9 #[.val (.ref x), .val u1, .val u2, .val u3, .val u4] [(.ref x2), (.ref x2), (.ref x)])) rfl (by rw [hml]; rfl) (a := x2) (argsL := []) (rest := [(.ref x2), (.ref x)]) (lenOf pd_3 rfl) rfl rfl (by show 2 * 0 + _ ≤ _; exact Nat.le_of_eq rfl) (hb hby d8_9)
  obtain ⟨rfl, K4, E4, F4_loadFactor, F4_putMode, F4_accessOrder⟩ := q4
  have z5 : h2.size ≤ h4.size := K4.1
  refine go (g' := (mkF m 12 #[.val (.ref x), .val u1, .val u2, .val u3, .val u4] [(.ref x2), (.ref x)])) (st4) ?_
  have X6 : Ext h0 h2 := own_xt (own_xr h0) E2
  have X7 : Ext h0 h4 := own_xk X6 K4 (allS (by omega) all0)
  have f8 : Fld Z h4 x "com/example/forseti/forseti/model/ClassFigures" "leafOfOwner" "Ljava/util/Map;" .null := F_leafOfOwner.ext X7
  have f9 : Exa Z h4 x "com/example/forseti/forseti/model/ClassFigures" := Ex.ext X7
  obtain ⟨T10, h10, W10, R10, F10, st10⟩ := own_put W4 hx (host := "") (Or.inl (w83 C)) Via.refl f8 f9 (Or.inr ⟨(w84 C), rfl, hnm⟩) (w49 C) (ty := (.object "java/util/Map")) (by decide) rfl rfl (own_safeE W4 f9 (by decide) (by decide)) (by omega) (g := (mkF m 12 #[.val (.ref x), .val u1, .val u2, .val u3, .val u4] [(.ref x2), (.ref x)])) rfl rfl (hb hby d8_12)
  have f11 : Fld Z h4 x "com/example/forseti/forseti/model/ClassFigures" "figuresOfOwner" "Ljava/util/Map;" .null := F_figuresOfOwner.ext X7
  have f12 : Fld Z h4 x "com/example/forseti/forseti/model/ClassFigures" "kind" "Ljava/lang/String;" .null := F_kind.ext X7
  have f13 : Fld Z h4 x "com/example/forseti/forseti/model/ClassFigures" "article" "Ljava/lang/String;" .null := F_article.ext X7
  have f14 : Fld Z h4 x "com/example/forseti/forseti/model/ClassFigures" "ownerKind" "Ljava/lang/String;" .null := F_ownerKind.ext X7
  have f15 : Fld Z h4 x "com/example/forseti/forseti/model/ClassFigures" "anyOwner" "Ljava/lang/String;" .null := F_anyOwner.ext X7
  have z16 : h10.size = h4.size := R10.size
  have f17 : Exa Z h10 x "com/example/forseti/forseti/model/ClassFigures" := f9.wr R10
  have f18 : Fld Z h10 x "com/example/forseti/forseti/model/ClassFigures" "figuresOfOwner" "Ljava/util/Map;" .null := f11.other R10 (Or.inr (slot_ne (Or.inr (w91 C)) (Or.inr (w84 C)) (by decide) (t := (.object "java/util/Map")) (t' := (.object "java/util/Map")) (by decide) (by decide)))
  have f19 : Fld Z h10 x "com/example/forseti/forseti/model/ClassFigures" "kind" "Ljava/lang/String;" .null := f12.other R10 (Or.inr (slot_ne (Or.inr (w93 C)) (Or.inr (w84 C)) (by decide) (t := (.object "java/lang/String")) (t' := (.object "java/util/Map")) (by decide) (by decide)))
  have f20 : Fld Z h10 x "com/example/forseti/forseti/model/ClassFigures" "article" "Ljava/lang/String;" .null := f13.other R10 (Or.inr (slot_ne (Or.inr (w95 C)) (Or.inr (w84 C)) (by decide) (t := (.object "java/lang/String")) (t' := (.object "java/util/Map")) (by decide) (by decide)))
  have f21 : Fld Z h10 x "com/example/forseti/forseti/model/ClassFigures" "ownerKind" "Ljava/lang/String;" .null := f14.other R10 (Or.inr (slot_ne (Or.inr (w97 C)) (Or.inr (w84 C)) (by decide) (t := (.object "java/lang/String")) (t' := (.object "java/util/Map")) (by decide) (by decide)))
  have f22 : Fld Z h10 x "com/example/forseti/forseti/model/ClassFigures" "anyOwner" "Ljava/lang/String;" .null := f15.other R10 (Or.inr (slot_ne (Or.inr (w99 C)) (Or.inr (w84 C)) (by decide) (t := (.object "java/lang/String")) (t' := (.object "java/util/Map")) (by decide) (by decide)))
  refine go (g' := (mkF m 15 #[.val (.ref x), .val u1, .val u2, .val u3, .val u4] [])) (st10) ?_
  refine go (g' := (mkF m 16 #[.val (.ref x), .val u1, .val u2, .val u3, .val u4] [(.ref x)])) (fun _ k => XS.aloadN W10.here hx rfl (hb hby d8_15) rfl rfl k) ?_
  obtain ⟨x23, T23, h23, g23, W23, E23, A23, D23, U23, st23⟩ := own_new W10 hx (w85 C) (w86 C) (w67 C) (g := (mkF m 16 #[.val (.ref x), .val u1, .val u2, .val u3, .val u4] [(.ref x)])) rfl (hb hby d8_16) (nle rfl) (nle rfl)
  have z24 : h10.size ≤ h23.size := E23.1
  have l23 : @LT.lt Nat _ x23 h23.size := A23.lt
  have F23_loadFactor : Fld Z h23 x23 "java/util/HashMap" "loadFactor" "F" (.float (0 : UInt32)) := D23 (Or.inr (w89 C)) (ty := .float) (by decide)
  refine go (g' := (mkF m 19 #[.val (.ref x), .val u1, .val u2, .val u3, .val u4] [(.ref x23), (.ref x)])) (st23) ?_
  refine go (g' := (mkF m 20 #[.val (.ref x), .val u1, .val u2, .val u3, .val u4] [(.ref x23), (.ref x23), (.ref x)])) (fun _ k => XS.dup W23.here hx rfl (hb hby d8_19) rfl rfl k) ?_
  obtain ⟨v25, so25, vm25, T25, h25, W25, C25, q25, hso25, st25⟩ := own_special W23 hx (y := (⟨"java/util/HashMap", "<init>", "()V"⟩ : MethodName)) rfl (w87 C) (w64 C) (w67 C) (w68 C) (by decide) (rm_hm C h23 x23 A23 F23_loadFactor (by omega)) (fun _ q => nomatch q) (Wd := 2) (nle rfl) (nle rfl) (nle rfl) (nle rfl) (g := (mkF m 20 #[.val (.ref x), .val u1, .val u2, .val u3, .val u4] [(.ref x23), (.ref x23), (.ref x)])) rfl (by rw [hml]; rfl) (a := x23) (argsL := []) (rest := [(.ref x23), (.ref x)]) (lenOf pd_3 rfl) rfl rfl (by show 2 * 0 + _ ≤ _; exact Nat.le_of_eq rfl) (hb hby d8_20)
  obtain ⟨rfl, K25, E25, F25_loadFactor⟩ := q25
  have z26 : h23.size ≤ h25.size := K25.1
  refine go (g' := (mkF m 23 #[.val (.ref x), .val u1, .val u2, .val u3, .val u4] [(.ref x23), (.ref x)])) (st25) ?_
  have X27 : Ext h10 h23 := own_xt (own_xr h10) E23
  have X28 : Ext h10 h25 := own_xk X27 K25 (allS (by omega) all0)
  have f29 : Fld Z h25 x "com/example/forseti/forseti/model/ClassFigures" "figuresOfOwner" "Ljava/util/Map;" .null := f18.ext X28
  have f30 : Exa Z h25 x "com/example/forseti/forseti/model/ClassFigures" := f17.ext X28
  obtain ⟨T31, h31, W31, R31, F31, st31⟩ := own_put W25 hx (host := "") (Or.inl (w90 C)) Via.refl f29 f30 (Or.inr ⟨(w91 C), rfl, hnm⟩) (w49 C) (ty := (.object "java/util/Map")) (by decide) rfl rfl (own_safeE W25 f30 (by decide) (by decide)) (by omega) (g := (mkF m 23 #[.val (.ref x), .val u1, .val u2, .val u3, .val u4] [(.ref x23), (.ref x)])) rfl rfl (hb hby d8_23)
  have f32 : Fld Z h25 x "com/example/forseti/forseti/model/ClassFigures" "leafOfOwner" "Ljava/util/Map;" (.ref x2) := F10.ext X28
  have f33 : Fld Z h25 x "com/example/forseti/forseti/model/ClassFigures" "kind" "Ljava/lang/String;" .null := f19.ext X28
  have f34 : Fld Z h25 x "com/example/forseti/forseti/model/ClassFigures" "article" "Ljava/lang/String;" .null := f20.ext X28
  have f35 : Fld Z h25 x "com/example/forseti/forseti/model/ClassFigures" "ownerKind" "Ljava/lang/String;" .null := f21.ext X28
  have f36 : Fld Z h25 x "com/example/forseti/forseti/model/ClassFigures" "anyOwner" "Ljava/lang/String;" .null := f22.ext X28
  have z37 : h31.size = h25.size := R31.size
  have f38 : Exa Z h31 x "com/example/forseti/forseti/model/ClassFigures" := f30.wr R31
  have f39 : Fld Z h31 x "com/example/forseti/forseti/model/ClassFigures" "leafOfOwner" "Ljava/util/Map;" (.ref x2) := f32.other R31 (Or.inr (slot_ne (Or.inr (w84 C)) (Or.inr (w91 C)) (by decide) (t := (.object "java/util/Map")) (t' := (.object "java/util/Map")) (by decide) (by decide)))
  have f40 : Fld Z h31 x "com/example/forseti/forseti/model/ClassFigures" "kind" "Ljava/lang/String;" .null := f33.other R31 (Or.inr (slot_ne (Or.inr (w93 C)) (Or.inr (w91 C)) (by decide) (t := (.object "java/lang/String")) (t' := (.object "java/util/Map")) (by decide) (by decide)))
  have f41 : Fld Z h31 x "com/example/forseti/forseti/model/ClassFigures" "article" "Ljava/lang/String;" .null := f34.other R31 (Or.inr (slot_ne (Or.inr (w95 C)) (Or.inr (w91 C)) (by decide) (t := (.object "java/lang/String")) (t' := (.object "java/util/Map")) (by decide) (by decide)))
  have f42 : Fld Z h31 x "com/example/forseti/forseti/model/ClassFigures" "ownerKind" "Ljava/lang/String;" .null := f35.other R31 (Or.inr (slot_ne (Or.inr (w97 C)) (Or.inr (w91 C)) (by decide) (t := (.object "java/lang/String")) (t' := (.object "java/util/Map")) (by decide) (by decide)))
  have f43 : Fld Z h31 x "com/example/forseti/forseti/model/ClassFigures" "anyOwner" "Ljava/lang/String;" .null := f36.other R31 (Or.inr (slot_ne (Or.inr (w99 C)) (Or.inr (w91 C)) (by decide) (t := (.object "java/lang/String")) (t' := (.object "java/util/Map")) (by decide) (by decide)))
  refine go (g' := (mkF m 26 #[.val (.ref x), .val u1, .val u2, .val u3, .val u4] [])) (st31) ?_
  refine go (g' := (mkF m 27 #[.val (.ref x), .val u1, .val u2, .val u3, .val u4] [(.ref x)])) (fun _ k => XS.aloadN W31.here hx rfl (hb hby d8_26) rfl rfl k) ?_
  refine go (g' := (mkF m 28 #[.val (.ref x), .val u1, .val u2, .val u3, .val u4] [u1, (.ref x)])) (fun _ k => XS.aloadN W31.here hx rfl (hb hby d8_27) rfl r1 k) ?_
  obtain ⟨T44, h44, W44, R44, F44, st44⟩ := own_put W31 hx (host := "") (Or.inl (w92 C)) Via.refl f40 f38 (Or.inr ⟨(w93 C), rfl, hnm⟩) (w49 C) (ty := (.object "java/lang/String")) (by decide) (own_nrR r1 rfl) (own_ftR r1 rfl) (own_safeE W31 f38 (by decide) (by decide)) (by omega) (g := (mkF m 28 #[.val (.ref x), .val u1, .val u2, .val u3, .val u4] [u1, (.ref x)])) rfl rfl (hb hby d8_28)
  have z45 : h44.size = h31.size := R44.size
  have f46 : Exa Z h44 x "com/example/forseti/forseti/model/ClassFigures" := f38.wr R44
  have f47 : Fld Z h44 x "com/example/forseti/forseti/model/ClassFigures" "leafOfOwner" "Ljava/util/Map;" (.ref x2) := f39.other R44 (Or.inr (slot_ne (Or.inr (w84 C)) (Or.inr (w93 C)) (by decide) (t := (.object "java/util/Map")) (t' := (.object "java/lang/String")) (by decide) (by decide)))
  have f48 : Fld Z h44 x "com/example/forseti/forseti/model/ClassFigures" "figuresOfOwner" "Ljava/util/Map;" (.ref x23) := F31.other R44 (Or.inr (slot_ne (Or.inr (w91 C)) (Or.inr (w93 C)) (by decide) (t := (.object "java/util/Map")) (t' := (.object "java/lang/String")) (by decide) (by decide)))
  have f49 : Fld Z h44 x "com/example/forseti/forseti/model/ClassFigures" "article" "Ljava/lang/String;" .null := f41.other R44 (Or.inr (slot_ne (Or.inr (w95 C)) (Or.inr (w93 C)) (by decide) (t := (.object "java/lang/String")) (t' := (.object "java/lang/String")) (by decide) (by decide)))
  have f50 : Fld Z h44 x "com/example/forseti/forseti/model/ClassFigures" "ownerKind" "Ljava/lang/String;" .null := f42.other R44 (Or.inr (slot_ne (Or.inr (w97 C)) (Or.inr (w93 C)) (by decide) (t := (.object "java/lang/String")) (t' := (.object "java/lang/String")) (by decide) (by decide)))
  have f51 : Fld Z h44 x "com/example/forseti/forseti/model/ClassFigures" "anyOwner" "Ljava/lang/String;" .null := f43.other R44 (Or.inr (slot_ne (Or.inr (w99 C)) (Or.inr (w93 C)) (by decide) (t := (.object "java/lang/String")) (t' := (.object "java/lang/String")) (by decide) (by decide)))
  refine go (g' := (mkF m 31 #[.val (.ref x), .val u1, .val u2, .val u3, .val u4] [])) (st44) ?_
  refine go (g' := (mkF m 32 #[.val (.ref x), .val u1, .val u2, .val u3, .val u4] [(.ref x)])) (fun _ k => XS.aloadN W44.here hx rfl (hb hby d8_31) rfl rfl k) ?_
  refine go (g' := (mkF m 33 #[.val (.ref x), .val u1, .val u2, .val u3, .val u4] [u2, (.ref x)])) (fun _ k => XS.aloadN W44.here hx rfl (hb hby d8_32) rfl r2 k) ?_
  obtain ⟨T52, h52, W52, R52, F52, st52⟩ := own_put W44 hx (host := "") (Or.inl (w94 C)) Via.refl f49 f46 (Or.inr ⟨(w95 C), rfl, hnm⟩) (w49 C) (ty := (.object "java/lang/String")) (by decide) (own_nrR r2 rfl) (own_ftR r2 rfl) (own_safeE W44 f46 (by decide) (by decide)) (by omega) (g := (mkF m 33 #[.val (.ref x), .val u1, .val u2, .val u3, .val u4] [u2, (.ref x)])) rfl rfl (hb hby d8_33)
  have z53 : h52.size = h44.size := R52.size
  have f54 : Exa Z h52 x "com/example/forseti/forseti/model/ClassFigures" := f46.wr R52
  have f55 : Fld Z h52 x "com/example/forseti/forseti/model/ClassFigures" "leafOfOwner" "Ljava/util/Map;" (.ref x2) := f47.other R52 (Or.inr (slot_ne (Or.inr (w84 C)) (Or.inr (w95 C)) (by decide) (t := (.object "java/util/Map")) (t' := (.object "java/lang/String")) (by decide) (by decide)))
  have f56 : Fld Z h52 x "com/example/forseti/forseti/model/ClassFigures" "figuresOfOwner" "Ljava/util/Map;" (.ref x23) := f48.other R52 (Or.inr (slot_ne (Or.inr (w91 C)) (Or.inr (w95 C)) (by decide) (t := (.object "java/util/Map")) (t' := (.object "java/lang/String")) (by decide) (by decide)))
  have f57 : Fld Z h52 x "com/example/forseti/forseti/model/ClassFigures" "kind" "Ljava/lang/String;" u1 := F44.other R52 (Or.inr (slot_ne (Or.inr (w93 C)) (Or.inr (w95 C)) (by decide) (t := (.object "java/lang/String")) (t' := (.object "java/lang/String")) (by decide) (by decide)))
  have f58 : Fld Z h52 x "com/example/forseti/forseti/model/ClassFigures" "ownerKind" "Ljava/lang/String;" .null := f50.other R52 (Or.inr (slot_ne (Or.inr (w97 C)) (Or.inr (w95 C)) (by decide) (t := (.object "java/lang/String")) (t' := (.object "java/lang/String")) (by decide) (by decide)))
  have f59 : Fld Z h52 x "com/example/forseti/forseti/model/ClassFigures" "anyOwner" "Ljava/lang/String;" .null := f51.other R52 (Or.inr (slot_ne (Or.inr (w99 C)) (Or.inr (w95 C)) (by decide) (t := (.object "java/lang/String")) (t' := (.object "java/lang/String")) (by decide) (by decide)))
  refine go (g' := (mkF m 36 #[.val (.ref x), .val u1, .val u2, .val u3, .val u4] [])) (st52) ?_
  refine go (g' := (mkF m 37 #[.val (.ref x), .val u1, .val u2, .val u3, .val u4] [(.ref x)])) (fun _ k => XS.aloadN W52.here hx rfl (hb hby d8_36) rfl rfl k) ?_
  refine go (g' := (mkF m 38 #[.val (.ref x), .val u1, .val u2, .val u3, .val u4] [u3, (.ref x)])) (fun _ k => XS.aloadN W52.here hx rfl (hb hby d8_37) rfl r3 k) ?_
  obtain ⟨T60, h60, W60, R60, F60, st60⟩ := own_put W52 hx (host := "") (Or.inl (w96 C)) Via.refl f58 f54 (Or.inr ⟨(w97 C), rfl, hnm⟩) (w49 C) (ty := (.object "java/lang/String")) (by decide) (own_nrR r3 rfl) (own_ftR r3 rfl) (own_safeE W52 f54 (by decide) (by decide)) (by omega) (g := (mkF m 38 #[.val (.ref x), .val u1, .val u2, .val u3, .val u4] [u3, (.ref x)])) rfl rfl (hb hby d8_38)
  have z61 : h60.size = h52.size := R60.size
  have f62 : Exa Z h60 x "com/example/forseti/forseti/model/ClassFigures" := f54.wr R60
  have f63 : Fld Z h60 x "com/example/forseti/forseti/model/ClassFigures" "leafOfOwner" "Ljava/util/Map;" (.ref x2) := f55.other R60 (Or.inr (slot_ne (Or.inr (w84 C)) (Or.inr (w97 C)) (by decide) (t := (.object "java/util/Map")) (t' := (.object "java/lang/String")) (by decide) (by decide)))
  have f64 : Fld Z h60 x "com/example/forseti/forseti/model/ClassFigures" "figuresOfOwner" "Ljava/util/Map;" (.ref x23) := f56.other R60 (Or.inr (slot_ne (Or.inr (w91 C)) (Or.inr (w97 C)) (by decide) (t := (.object "java/util/Map")) (t' := (.object "java/lang/String")) (by decide) (by decide)))
  have f65 : Fld Z h60 x "com/example/forseti/forseti/model/ClassFigures" "kind" "Ljava/lang/String;" u1 := f57.other R60 (Or.inr (slot_ne (Or.inr (w93 C)) (Or.inr (w97 C)) (by decide) (t := (.object "java/lang/String")) (t' := (.object "java/lang/String")) (by decide) (by decide)))
  have f66 : Fld Z h60 x "com/example/forseti/forseti/model/ClassFigures" "article" "Ljava/lang/String;" u2 := F52.other R60 (Or.inr (slot_ne (Or.inr (w95 C)) (Or.inr (w97 C)) (by decide) (t := (.object "java/lang/String")) (t' := (.object "java/lang/String")) (by decide) (by decide)))
  have f67 : Fld Z h60 x "com/example/forseti/forseti/model/ClassFigures" "anyOwner" "Ljava/lang/String;" .null := f59.other R60 (Or.inr (slot_ne (Or.inr (w99 C)) (Or.inr (w97 C)) (by decide) (t := (.object "java/lang/String")) (t' := (.object "java/lang/String")) (by decide) (by decide)))
  refine go (g' := (mkF m 41 #[.val (.ref x), .val u1, .val u2, .val u3, .val u4] [])) (st60) ?_
  refine go (g' := (mkF m 42 #[.val (.ref x), .val u1, .val u2, .val u3, .val u4] [(.ref x)])) (fun _ k => XS.aloadN W60.here hx rfl (hb hby d8_41) rfl rfl k) ?_
  refine go (g' := (mkF m 44 #[.val (.ref x), .val u1, .val u2, .val u3, .val u4] [u4, (.ref x)])) (fun _ k => XS.aload W60.here hx rfl (hb hby d8_42) rfl r4 k) ?_
  obtain ⟨T68, h68, W68, R68, F68, st68⟩ := own_put W60 hx (host := "") (Or.inl (w98 C)) Via.refl f67 f62 (Or.inr ⟨(w99 C), rfl, hnm⟩) (w49 C) (ty := (.object "java/lang/String")) (by decide) (own_nrR r4 rfl) (own_ftR r4 rfl) (own_safeE W60 f62 (by decide) (by decide)) (by omega) (g := (mkF m 44 #[.val (.ref x), .val u1, .val u2, .val u3, .val u4] [u4, (.ref x)])) rfl rfl (hb hby d8_44)
  have z69 : h68.size = h60.size := R68.size
  have f70 : Exa Z h68 x "com/example/forseti/forseti/model/ClassFigures" := f62.wr R68
  have f71 : Fld Z h68 x "com/example/forseti/forseti/model/ClassFigures" "leafOfOwner" "Ljava/util/Map;" (.ref x2) := f63.other R68 (Or.inr (slot_ne (Or.inr (w84 C)) (Or.inr (w99 C)) (by decide) (t := (.object "java/util/Map")) (t' := (.object "java/lang/String")) (by decide) (by decide)))
  have f72 : Fld Z h68 x "com/example/forseti/forseti/model/ClassFigures" "figuresOfOwner" "Ljava/util/Map;" (.ref x23) := f64.other R68 (Or.inr (slot_ne (Or.inr (w91 C)) (Or.inr (w99 C)) (by decide) (t := (.object "java/util/Map")) (t' := (.object "java/lang/String")) (by decide) (by decide)))
  have f73 : Fld Z h68 x "com/example/forseti/forseti/model/ClassFigures" "kind" "Ljava/lang/String;" u1 := f65.other R68 (Or.inr (slot_ne (Or.inr (w93 C)) (Or.inr (w99 C)) (by decide) (t := (.object "java/lang/String")) (t' := (.object "java/lang/String")) (by decide) (by decide)))
  have f74 : Fld Z h68 x "com/example/forseti/forseti/model/ClassFigures" "article" "Ljava/lang/String;" u2 := f66.other R68 (Or.inr (slot_ne (Or.inr (w95 C)) (Or.inr (w99 C)) (by decide) (t := (.object "java/lang/String")) (t' := (.object "java/lang/String")) (by decide) (by decide)))
  have f75 : Fld Z h68 x "com/example/forseti/forseti/model/ClassFigures" "ownerKind" "Ljava/lang/String;" u3 := F60.other R68 (Or.inr (slot_ne (Or.inr (w97 C)) (Or.inr (w99 C)) (by decide) (t := (.object "java/lang/String")) (t' := (.object "java/lang/String")) (by decide) (by decide)))
  refine go (g' := (mkF m 47 #[.val (.ref x), .val u1, .val u2, .val u3, .val u4] [])) (st68) ?_
  have KK76 : Keep h0 h68 [x] := (((((((((((Keep.refl h0 [x]).ext E2).trans K4 (allS (Or.inr (by omega)) all0)).wr R10 (Or.inl (List.mem_of_getElem? (i := 0) rfl))).ext E23).trans K25 (allS (Or.inr (by omega)) all0)).wr R31 (Or.inl (List.mem_of_getElem? (i := 0) rfl))).wr R44 (Or.inl (List.mem_of_getElem? (i := 0) rfl))).wr R52 (Or.inl (List.mem_of_getElem? (i := 0) rfl))).wr R60 (Or.inl (List.mem_of_getElem? (i := 0) rfl))).wr R68 (Or.inl (List.mem_of_getElem? (i := 0) rfl)))
  exact fin (v := none) (so := []) W68 (nle rfl) (nle rfl) (⟨rfl, KK76, f70, f73, f74, f75, F68⟩) (fun _ q => nomatch q) (fun _ => rfl) (own_retV W68 hx hret (hb hby d8_47))
set_option maxRecDepth 65536 in
set_option maxHeartbeats 40000000 in
theorem rm_alike {l : Launch} {Z : State} {a0 : Array Value} (C : Cx Z a0) (h0 : Heap) (u1 u2 u3 : Value) (r1 : u1.isRef = true) (r2 : u2.isRef = true) (r3 : u3.isRef = true) :
    Ct l Z a0 own_EL (⟨"com/example/forseti/forseti/model/ClassFigures", "alikeForEvery", "(Ljava/lang/String;Ljava/lang/String;Ljava/lang/String;)Lcom/example/forseti/forseti/model/ClassFigures;"⟩ : MethodName) prog_50_method_5_code 3 (Option.some (Jvm.ClassFile.FieldType.object "com/example/forseti/forseti/model/ClassFigures")) [] ({ frames := 5, cells := 5, slots := 34, locals := 67 } : Room) #[u1, u2, u3] h0 [] (fun v h so => ∃ x q : Addr, v = some (.ref x) ∧ Ext h0 h ∧ Exa Z h x "com/example/forseti/forseti/model/ClassFigures" ∧ Fld Z h x "com/example/forseti/forseti/model/ClassFigures" "kind" "Ljava/lang/String;" u1 ∧ Fld Z h x "com/example/forseti/forseti/model/ClassFigures" "article" "Ljava/lang/String;" (.ref q) ∧ Fld Z h x "com/example/forseti/forseti/model/ClassFigures" "ownerKind" "Ljava/lang/String;" u2 ∧ Fld Z h x "com/example/forseti/forseti/model/ClassFigures" "anyOwner" "Ljava/lang/String;" u3 ∧ Str Z h q [(97 : Int32)]) := by
  refine own_enter (plainFor_of_name pn_5) C.ew (F0 := fun m => mkF m 0 #[.val u1, .val u2, .val u3] []) (fun m => by rcases ref_cases r1 with rfl | ⟨_, rfl⟩ <;> rcases ref_cases r2 with rfl | ⟨_, rfl⟩ <;> rcases ref_cases r3 with rfl | ⟨_, rfl⟩ <;> rfl) ?_
  intro p e s m below meth c s₁ G hx hby hml hret hnm W0 S0 go fin
  have z0 : Z.heap.size ≤ h0.size := W0.sz
  show G s₁ (mkF m 0 #[.val u1, .val u2, .val u3] [])
  obtain ⟨x1, T1, h1, g1, W1, E1, A1, D1, U1, st1⟩ := own_new W0 hx (w48 C) (w49 C) (w46 C) (g := (mkF m 0 #[.val u1, .val u2, .val u3] [])) rfl (hb hby d9_0) (nle rfl) (nle rfl)
  have z2 : h0.size ≤ h1.size := E1.1
  have l1 : @LT.lt Nat _ x1 h1.size := A1.lt
  have F1_leafOfOwner : Fld Z h1 x1 "com/example/forseti/forseti/model/ClassFigures" "leafOfOwner" "Ljava/util/Map;" .null := D1 (Or.inr (w84 C)) (ty := (.object "java/util/Map")) (by decide)
  have F1_figuresOfOwner : Fld Z h1 x1 "com/example/forseti/forseti/model/ClassFigures" "figuresOfOwner" "Ljava/util/Map;" .null := D1 (Or.inr (w91 C)) (ty := (.object "java/util/Map")) (by decide)
  have F1_kind : Fld Z h1 x1 "com/example/forseti/forseti/model/ClassFigures" "kind" "Ljava/lang/String;" .null := D1 (Or.inr (w93 C)) (ty := (.object "java/lang/String")) (by decide)
  have F1_article : Fld Z h1 x1 "com/example/forseti/forseti/model/ClassFigures" "article" "Ljava/lang/String;" .null := D1 (Or.inr (w95 C)) (ty := (.object "java/lang/String")) (by decide)
  have F1_ownerKind : Fld Z h1 x1 "com/example/forseti/forseti/model/ClassFigures" "ownerKind" "Ljava/lang/String;" .null := D1 (Or.inr (w97 C)) (ty := (.object "java/lang/String")) (by decide)
  have F1_anyOwner : Fld Z h1 x1 "com/example/forseti/forseti/model/ClassFigures" "anyOwner" "Ljava/lang/String;" .null := D1 (Or.inr (w99 C)) (ty := (.object "java/lang/String")) (by decide)
  refine go (g' := (mkF m 3 #[.val u1, .val u2, .val u3] [(.ref x1)])) (st1) ?_
  refine go (g' := (mkF m 4 #[.val u1, .val u2, .val u3] [(.ref x1), (.ref x1)])) (fun _ k => XS.dup W1.here hx rfl (hb hby d9_3) rfl rfl k) ?_
  refine go (g' := (mkF m 5 #[.val u1, .val u2, .val u3] [u1, (.ref x1), (.ref x1)])) (fun _ k => XS.aloadN W1.here hx rfl (hb hby d9_4) rfl r1 k) ?_
  obtain ⟨x3, y3, k3, vm3, T3, h3, W3, E3, C3, A3, B3, D3, V3, N3, st3⟩ := own_ldcR W1 hx (w50 C) (own_wS C) (by decide) (vs := [(.int (97 : Int32))]) (z := (1 : Int32)) (by decide +kernel) (by decide) rfl (g := (mkF m 5 #[.val u1, .val u2, .val u3] [u1, (.ref x1), (.ref x1)])) rfl (hb hby d9_5) (n := 4) (by decide) (nle rfl) (nle rfl) (nle rfl)
  have z4 : h1.size ≤ h3.size := E3.1
  have S3_x1 : Safe Z own_EL vm3 h3 x1 := C3.safe (olt (by omega)) (own_safeE W1 A1 (by decide) (by decide))
  refine go (g' := (mkF m 7 #[.val u1, .val u2, .val u3] [(.ref x3), u1, (.ref x1), (.ref x1)])) (st3) ?_
  refine go (g' := (mkF m 8 #[.val u1, .val u2, .val u3] [u2, (.ref x3), u1, (.ref x1), (.ref x1)])) (fun _ k => XS.aloadN W3.here hx rfl (hb hby d9_7) rfl r2 k) ?_
  refine go (g' := (mkF m 9 #[.val u1, .val u2, .val u3] [u3, u2, (.ref x3), u1, (.ref x1), (.ref x1)])) (fun _ k => XS.aloadN W3.here hx rfl (hb hby d9_8) rfl r3 k) ?_
  have X6 : Ext h1 h3 := own_xt (own_xr h1) E3
  have f7 : Exa Z h3 x1 "com/example/forseti/forseti/model/ClassFigures" := A1.ext X6
  have f8 : Fld Z h3 x1 "com/example/forseti/forseti/model/ClassFigures" "leafOfOwner" "Ljava/util/Map;" .null := F1_leafOfOwner.ext X6
  have f9 : Fld Z h3 x1 "com/example/forseti/forseti/model/ClassFigures" "figuresOfOwner" "Ljava/util/Map;" .null := F1_figuresOfOwner.ext X6
  have f10 : Fld Z h3 x1 "com/example/forseti/forseti/model/ClassFigures" "kind" "Ljava/lang/String;" .null := F1_kind.ext X6
  have f11 : Fld Z h3 x1 "com/example/forseti/forseti/model/ClassFigures" "article" "Ljava/lang/String;" .null := F1_article.ext X6
  have f12 : Fld Z h3 x1 "com/example/forseti/forseti/model/ClassFigures" "ownerKind" "Ljava/lang/String;" .null := F1_ownerKind.ext X6
  have f13 : Fld Z h3 x1 "com/example/forseti/forseti/model/ClassFigures" "anyOwner" "Ljava/lang/String;" .null := F1_anyOwner.ext X6
  obtain ⟨v5, so5, vm5, T5, h5, W5, C5, q5, hso5, st5⟩ := own_special W3 hx (y := (⟨"com/example/forseti/forseti/model/ClassFigures", "<init>", "(Ljava/lang/String;Ljava/lang/String;Ljava/lang/String;Ljava/lang/String;)V"⟩ : MethodName)) rfl (w53 C) (w54 C) (w46 C) (w55 C) (by decide) (rm_cf C h3 x1 u1 (.ref x3) u2 u3 r1 rfl r2 r3 f7 f8 f9 f10 f11 f12 f13 (by omega)) (fun _ q => nomatch q) (Wd := 1) (nle rfl) (nle rfl) (nle rfl) (nle rfl) (g := (mkF m 9 #[.val u1, .val u2, .val u3] [u3, u2, (.ref x3), u1, (.ref x1), (.ref x1)])) rfl (by rw [hml]; rfl) (a := x1) (argsL := [u1, (.ref x3), u2, u3]) (rest := [(.ref x1)]) (lenOf pd_4 rfl) rfl rfl (by show 2 * 0 + _ ≤ _; exact Nat.le_of_eq rfl) (hb hby d9_9)
  obtain ⟨rfl, K5, E5, F5_kind, F5_article, F5_ownerKind, F5_anyOwner⟩ := q5
  have z14 : h3.size ≤ h5.size := K5.1
  refine go (g' := (mkF m 12 #[.val u1, .val u2, .val u3] [(.ref x1)])) (st5) ?_
  have f16 : Exa Z h5 x3 "java/lang/String" := A3.keep K5
  have f17 : Fld Z h5 x3 "java/lang/String" "coder" "B" (.int (0 : Int32)) := B3.keep K5 (ninS (fun q => (N3 _ S3_x1).1 q.symm) nin0)
  have f18 : Fld Z h5 x3 "java/lang/String" "value" "[B" (.ref y3) := D3.keep K5 (ninS (fun q => (N3 _ S3_x1).1 q.symm) nin0)
  have f19 : Arv Z h5 y3 k3 .byte (1 : Int32) [(.int (97 : Int32))] (.int 0) := V3.keep K5 (ninS (fun q => (N3 _ S3_x1).2 q.symm) nin0)
  have SL15 : Str Z h5 x3 [(97 : Int32)] := own_litS (cs := [(97 : Int32)]) f16 f17 f18 f19 rfl (own_alS ⟨by decide, by decide⟩ own_al0) (by decide)
  have X20 : Ext h0 h1 := own_xt (own_xr h0) E1
  have X21 : Ext h0 h3 := own_xt X20 E3
  have X22 : Ext h0 h5 := own_xk X21 K5 (allS (by omega) all0)
  exact fin (v := some (.ref x1)) (so := []) W5 (nle rfl) (nle rfl) (⟨_, _, rfl, X22, E5, F5_kind, F5_article, F5_ownerKind, F5_anyOwner, SL15⟩) (fun _ q => nomatch q) (fun q => nomatch q) (own_retA W5 hx hret rfl rfl rfl (hb hby d9_12))
set_option maxRecDepth 65536 in
set_option maxHeartbeats 40000000 in
theorem rm_get10 {l : Launch} {Z : State} {a0 : Array Value} (C : Cx Z a0) (h0 : Heap) (a : Addr) (u : Value) (ru : u.isRef = true) (Fa : Fld Z h0 a "com/example/forseti/forseti/model/ClassFigures" "kind" "Ljava/lang/String;" u) :
    Ct l Z a0 own_EL (⟨"com/example/forseti/forseti/model/ClassFigures", "kind", "()Ljava/lang/String;"⟩ : MethodName) prog_50_method_6_code 1 (Option.some (Jvm.ClassFile.FieldType.object "java/lang/String")) [] ({ frames := 0, cells := 0, slots := 0, locals := 0 } : Room) #[(.ref a)] h0 [] (fun v h so => v = some u ∧ h0 = h) := by
  refine own_enter (plainFor_of_name pn_5) C.ew (F0 := fun m => mkF m 0 #[.val (.ref a)] []) (fun m => by first | (simp [entryFrame, mkF, argsToLocals, Value.category]; done) | rfl) ?_
  intro p e s m below meth c s₁ G hx hby hml hret hnm W0 S0 go fin
  have z0 : Z.heap.size ≤ h0.size := W0.sz
  show G s₁ (mkF m 0 #[.val (.ref a)] [])
  refine go (g' := (mkF m 1 #[.val (.ref a)] [(.ref a)])) (fun _ k => XS.aloadN W0.here hx rfl (hb hby d10_0) rfl rfl k) ?_
  obtain ⟨T1, W1, st1⟩ := own_get W0 hx (host := "") (Or.inl (w92 C)) Via.refl Fa (g := (mkF m 1 #[.val (.ref a)] [(.ref a)])) rfl rfl (hb hby d10_1)
  refine go (g' := (mkF m 4 #[.val (.ref a)] [u])) (st1) ?_
  exact fin (v := some u) (so := []) W1 (nle rfl) (nle rfl) (⟨rfl, rfl⟩) (fun _ q => nomatch q) (fun q => nomatch q) (own_retA W1 hx hret rfl ru (own_nrR ru rfl) (hb hby d10_4))
set_option maxRecDepth 65536 in
set_option maxHeartbeats 40000000 in
theorem rm_asbinit {l : Launch} {Z : State} {a0 : Array Value} (C : Cx Z a0) (h0 : Heap) (x : Addr) (Ex : Exa Z h0 x "java/lang/StringBuilder") (Fv : Fld Z h0 x "java/lang/AbstractStringBuilder" "value" "[B" .null) (Fc : Fld Z h0 x "java/lang/AbstractStringBuilder" "coder" "B" (.int (0 : Int32))) (Fn : Fld Z h0 x "java/lang/AbstractStringBuilder" "count" "I" (.int (0 : Int32))) (nx : Z.heap.size ≤ x) :
    Ct l Z a0 own_EL (⟨"java/lang/AbstractStringBuilder", "<init>", "(I)V"⟩ : MethodName) jdk_68_method_2_code 2 (Option.none : Option Jvm.ClassFile.FieldType) [] ({ frames := 1, cells := 1, slots := 16, locals := 12 } : Room) #[(.ref x), (.int (16 : Int32))] h0 [] (fun v h so => v = none ∧ Keep h0 h [x] ∧ ∃ (t : Addr) (kt : ClassId), so = [t] ∧ h0.size ≤ t ∧ Exa Z h x "java/lang/StringBuilder" ∧ Fld Z h x "java/lang/AbstractStringBuilder" "value" "[B" (.ref t) ∧ Fld Z h x "java/lang/AbstractStringBuilder" "coder" "B" (.int (0 : Int32)) ∧ Fld Z h x "java/lang/AbstractStringBuilder" "count" "I" (.int (0 : Int32)) ∧ Arv Z h t kt .byte (16 : Int32) [(.int (0 : Int32)), (.int (0 : Int32)), (.int (0 : Int32)), (.int (0 : Int32)), (.int (0 : Int32)), (.int (0 : Int32)), (.int (0 : Int32)), (.int (0 : Int32)), (.int (0 : Int32)), (.int (0 : Int32)), (.int (0 : Int32)), (.int (0 : Int32)), (.int (0 : Int32)), (.int (0 : Int32)), (.int (0 : Int32)), (.int (0 : Int32))] (.int (0 : Int32))) := by
  refine own_enter (plainFor_of_name pn_6) C.ew (F0 := fun m => mkF m 0 #[.val (.ref x), .val (.int (16 : Int32))] []) (fun m => by first | (simp [entryFrame, mkF, argsToLocals, Value.category]; done) | rfl) ?_
  intro p e s m below meth c s₁ G hx hby hml hret hnm W0 S0 go fin
  have z0 : Z.heap.size ≤ h0.size := W0.sz
  show G s₁ (mkF m 0 #[.val (.ref x), .val (.int (16 : Int32))] [])
  have lx : @LT.lt Nat _ x h0.size := Ex.lt
  refine go (g' := (mkF m 1 #[.val (.ref x), .val (.int (16 : Int32))] [(.ref x)])) (fun _ k => XS.aloadN W0.here hx rfl (hb hby d11_0) rfl rfl k) ?_
  obtain ⟨T1, W1, st1⟩ := own_initO W0 hx (w130 C) (w12 C) (w13 C) (g := (mkF m 1 #[.val (.ref x), .val (.int (16 : Int32))] [(.ref x)])) rfl (by rw [hml]; rfl) rfl (hb hby d11_1) (nle rfl) (Wd := 0) (by show 2 * 0 + _ ≤ _; exact Nat.le_of_eq rfl) (nle rfl)
  refine go (g' := (mkF m 4 #[.val (.ref x), .val (.int (16 : Int32))] [])) (st1) ?_
  obtain ⟨gCS, OCS, nCS⟩ := C.cs
  obtain ⟨T2, W2, st2⟩ := own_getS W1 hx (host := "") (Or.inl (w131 C)) Via.refl OCS (g := (mkF m 4 #[.val (.ref x), .val (.int (16 : Int32))] [])) rfl (hb hby d11_4)
  refine go (g' := (mkF m 7 #[.val (.ref x), .val (.int (16 : Int32))] [(.int gCS)])) (st2) ?_
  refine go (g' := (mkF m 10 #[.val (.ref x), .val (.int (16 : Int32))] [])) (fun _ k => XS.ifNo W2.here hx rfl (hb hby d11_7) rfl ((if0 _ _).trans (feq nCS).1) k) ?_
  refine go (g' := (mkF m 11 #[.val (.ref x), .val (.int (16 : Int32))] [(.ref x)])) (fun _ k => XS.aloadN W2.here hx rfl (hb hby d11_10) rfl rfl k) ?_
  refine go (g' := (mkF m 12 #[.val (.ref x), .val (.int (16 : Int32))] [(.int (16 : Int32)), (.ref x)])) (fun _ k => XS.iloadN W2.here hx rfl (hb hby d11_11) rfl k) ?_
  obtain ⟨x3, T3, h3, k3, g3, W3, E3, A3, st3⟩ := own_newP W2 hx (aty := .byte) (w19 C) (g := (mkF m 12 #[.val (.ref x), .val (.int (16 : Int32))] [(.int (16 : Int32)), (.ref x)])) rfl (hb hby d11_12) rfl (by decide) (cap := 16) (by decide) (nle rfl) (nle rfl) (nle rfl)
  have z4 : h0.size ≤ h3.size := E3.1
  have l3 : @LT.lt Nat _ x3 h3.size := A3.lt
  have V3 : Arv Z h3 x3 k3 .byte (16 : Int32) [(.int (0 : Int32)), (.int (0 : Int32)), (.int (0 : Int32)), (.int (0 : Int32)), (.int (0 : Int32)), (.int (0 : Int32)), (.int (0 : Int32)), (.int (0 : Int32)), (.int (0 : Int32)), (.int (0 : Int32)), (.int (0 : Int32)), (.int (0 : Int32)), (.int (0 : Int32)), (.int (0 : Int32)), (.int (0 : Int32)), (.int (0 : Int32))] (.int (0 : Int32)) := A3.pad (pad_rep [] (.int (0 : Int32)) 16)
  refine go (g' := (mkF m 14 #[.val (.ref x), .val (.int (16 : Int32))] [(.ref x3), (.ref x)])) (st3) ?_
  have X5 : Ext h0 h3 := own_xt (own_xr h0) E3
  have f6 : Fld Z h3 x "java/lang/AbstractStringBuilder" "value" "[B" .null := Fv.ext X5
  have f7 : Exa Z h3 x "java/lang/StringBuilder" := Ex.ext X5
  obtain ⟨T8, h8, W8, R8, F8, st8⟩ := own_put W3 hx (host := "") (Or.inl (w132 C)) Via.refl f6 f7 (Or.inl (w133 C)) (w119 C) (ty := (.array .byte)) (by decide) rfl rfl (own_safeE W3 f7 (by decide) (by decide)) (by omega) (g := (mkF m 14 #[.val (.ref x), .val (.int (16 : Int32))] [(.ref x3), (.ref x)])) rfl rfl (hb hby d11_14)
  have f9 : Fld Z h3 x "java/lang/AbstractStringBuilder" "coder" "B" (.int (0 : Int32)) := Fc.ext X5
  have f10 : Fld Z h3 x "java/lang/AbstractStringBuilder" "count" "I" (.int (0 : Int32)) := Fn.ext X5
  have z11 : h8.size = h3.size := R8.size
  have f12 : Exa Z h8 x "java/lang/StringBuilder" := f7.wr R8
  have f13 : Fld Z h8 x "java/lang/AbstractStringBuilder" "coder" "B" (.int (0 : Int32)) := f9.other R8 (Or.inr (slot_ne (Or.inl (w135 C)) (Or.inl (w133 C)) (by decide) (t := .byte) (t' := (.array .byte)) (by decide) (by decide)))
  have f14 : Fld Z h8 x "java/lang/AbstractStringBuilder" "count" "I" (.int (0 : Int32)) := f10.other R8 (Or.inr (slot_ne (Or.inl (w157 C)) (Or.inl (w133 C)) (by decide) (t := .int) (t' := (.array .byte)) (by decide) (by decide)))
  have S8_x3 : Safe Z own_EL s.vm h8 x3 := Safe.wr R8 (own_safeE W3 f7 (by decide) (by decide)) W3.ch (own_safeB W2 X5 (by omega))
  refine go (g' := (mkF m 17 #[.val (.ref x), .val (.int (16 : Int32))] [])) (st8) ?_
  refine go (g' := (mkF m 18 #[.val (.ref x), .val (.int (16 : Int32))] [(.ref x)])) (fun _ k => XS.aloadN W8.here hx rfl (hb hby d11_17) rfl rfl k) ?_
  refine go (g' := (mkF m 19 #[.val (.ref x), .val (.int (16 : Int32))] [(.int (0 : Int32)), (.ref x)])) (fun _ k => XS.iconst W8.here hx rfl (hb hby d11_18) k) ?_
  obtain ⟨T15, h15, W15, R15, F15, st15⟩ := own_put W8 hx (host := "") (Or.inl (w134 C)) Via.refl f13 f12 (Or.inl (w135 C)) (w119 C) (ty := .byte) (by decide) rfl (by decide) (own_safeE W8 f12 (by decide) (by decide)) (by omega) (g := (mkF m 19 #[.val (.ref x), .val (.int (16 : Int32))] [(.int (0 : Int32)), (.ref x)])) rfl rfl (hb hby d11_19)
  have z16 : h15.size = h8.size := R15.size
  have f17 : Exa Z h15 x "java/lang/StringBuilder" := f12.wr R15
  have f18 : Fld Z h15 x "java/lang/AbstractStringBuilder" "value" "[B" (.ref x3) := F8.other R15 (Or.inr (slot_ne (Or.inl (w133 C)) (Or.inl (w135 C)) (by decide) (t := (.array .byte)) (t' := .byte) (by decide) (by decide)))
  have f19 : Fld Z h15 x "java/lang/AbstractStringBuilder" "count" "I" (.int (0 : Int32)) := f14.other R15 (Or.inr (slot_ne (Or.inl (w157 C)) (Or.inl (w135 C)) (by decide) (t := .int) (t' := .byte) (by decide) (by decide)))
  have S15_x3 : Safe Z own_EL s.vm h15 x3 := Safe.wr R15 (own_safeE W8 f12 (by decide) (by decide)) W8.ch S8_x3
  refine go (g' := (mkF m 22 #[.val (.ref x), .val (.int (16 : Int32))] [])) (st15) ?_
  refine go (g' := (mkF m 38 #[.val (.ref x), .val (.int (16 : Int32))] [])) (fun _ k => XS.goto W15.here hx rfl (pc0 := 22) (pc' := 38) rfl (hb hby d11_22) (by decide) (by decide) k) ?_
  have KK20 : Keep h0 h15 [x] := ((((Keep.refl h0 [x]).ext E3).wr R8 (Or.inl (List.mem_of_getElem? (i := 0) rfl))).wr R15 (Or.inl (List.mem_of_getElem? (i := 0) rfl)))
  have l22 : @LT.lt Nat _ x3 h3.size := V3.lt
  have f21 : Arv Z h8 x3 k3 .byte (16 : Int32) [(.int (0 : Int32)), (.int (0 : Int32)), (.int (0 : Int32)), (.int (0 : Int32)), (.int (0 : Int32)), (.int (0 : Int32)), (.int (0 : Int32)), (.int (0 : Int32)), (.int (0 : Int32)), (.int (0 : Int32)), (.int (0 : Int32)), (.int (0 : Int32)), (.int (0 : Int32)), (.int (0 : Int32)), (.int (0 : Int32)), (.int (0 : Int32))] (.int (0 : Int32)) := V3.other R8 (one (by omega))
  have l24 : @LT.lt Nat _ x3 h3.size := V3.lt
  have f23 : Arv Z h15 x3 k3 .byte (16 : Int32) [(.int (0 : Int32)), (.int (0 : Int32)), (.int (0 : Int32)), (.int (0 : Int32)), (.int (0 : Int32)), (.int (0 : Int32)), (.int (0 : Int32)), (.int (0 : Int32)), (.int (0 : Int32)), (.int (0 : Int32)), (.int (0 : Int32)), (.int (0 : Int32)), (.int (0 : Int32)), (.int (0 : Int32)), (.int (0 : Int32)), (.int (0 : Int32))] (.int (0 : Int32)) := f21.other R15 (one (by omega))
  exact fin (v := none) (so := [x3]) W15 (nle rfl) (nle rfl) (⟨rfl, KK20, x3, _, rfl, by omega, f17, f18, F15, f19, f23⟩) (allS S15_x3 all0) (fun _ => rfl) (own_retV W15 hx hret (hb hby d11_38))
set_option maxRecDepth 65536 in
set_option maxHeartbeats 40000000 in
theorem rm_sbinit {l : Launch} {Z : State} {a0 : Array Value} (C : Cx Z a0) (h0 : Heap) (x : Addr) (Ex : Exa Z h0 x "java/lang/StringBuilder") (Fv : Fld Z h0 x "java/lang/AbstractStringBuilder" "value" "[B" .null) (Fc : Fld Z h0 x "java/lang/AbstractStringBuilder" "coder" "B" (.int (0 : Int32))) (Fn : Fld Z h0 x "java/lang/AbstractStringBuilder" "count" "I" (.int (0 : Int32))) (nx : Z.heap.size ≤ x) :
    Ct l Z a0 own_EL (⟨"java/lang/StringBuilder", "<init>", "()V"⟩ : MethodName) jdk_67_method_1_code 1 (Option.none : Option Jvm.ClassFile.FieldType) [] ({ frames := 2, cells := 1, slots := 16, locals := 25 } : Room) #[(.ref x)] h0 [] (fun v h so => v = none ∧ Keep h0 h [x] ∧ ∃ (t : Addr) (kt : ClassId), so = [t] ∧ h0.size ≤ t ∧ Exa Z h x "java/lang/StringBuilder" ∧ Fld Z h x "java/lang/AbstractStringBuilder" "value" "[B" (.ref t) ∧ Fld Z h x "java/lang/AbstractStringBuilder" "coder" "B" (.int (0 : Int32)) ∧ Fld Z h x "java/lang/AbstractStringBuilder" "count" "I" (.int (0 : Int32)) ∧ Arv Z h t kt .byte (16 : Int32) [(.int (0 : Int32)), (.int (0 : Int32)), (.int (0 : Int32)), (.int (0 : Int32)), (.int (0 : Int32)), (.int (0 : Int32)), (.int (0 : Int32)), (.int (0 : Int32)), (.int (0 : Int32)), (.int (0 : Int32)), (.int (0 : Int32)), (.int (0 : Int32)), (.int (0 : Int32)), (.int (0 : Int32)), (.int (0 : Int32)), (.int (0 : Int32))] (.int (0 : Int32))) := by
  refine own_enter (plainFor_of_name pn_7) C.ew (F0 := fun m => mkF m 0 #[.val (.ref x)] []) (fun m => by first | (simp [entryFrame, mkF, argsToLocals, Value.category]; done) | rfl) ?_
  intro p e s m below meth c s₁ G hx hby hml hret hnm W0 S0 go fin
  have z0 : Z.heap.size ≤ h0.size := W0.sz
  show G s₁ (mkF m 0 #[.val (.ref x)] [])
  have lx : @LT.lt Nat _ x h0.size := Ex.lt
  refine go (g' := (mkF m 1 #[.val (.ref x)] [(.ref x)])) (fun _ k => XS.aloadN W0.here hx rfl (hb hby d12_0) rfl rfl k) ?_
  refine go (g' := (mkF m 3 #[.val (.ref x)] [(.int (16 : Int32)), (.ref x)])) (fun _ k => XS.bipush W0.here hx rfl (hb hby d12_1) k) ?_
  obtain ⟨v1, so1, vm1, T1, h1, W1, C1, q1, hso1, st1⟩ := own_special W0 hx (y := (⟨"java/lang/AbstractStringBuilder", "<init>", "(I)V"⟩ : MethodName)) rfl (w124 C) (w125 C) (w128 C) (w129 C) (by decide) (rm_asbinit C h0 x Ex Fv Fc Fn (by omega)) (fun _ q => nomatch q) (Wd := 0) (nle rfl) (nle rfl) (nle rfl) (nle rfl) (g := (mkF m 3 #[.val (.ref x)] [(.int (16 : Int32)), (.ref x)])) rfl (by rw [hml]; rfl) (a := x) (argsL := [(.int (16 : Int32))]) (rest := []) (lenOf pd_5 rfl) rfl rfl (by show 2 * 0 + _ ≤ _; exact Nat.le_of_eq rfl) (hb hby d12_3)
  obtain ⟨rfl, K1, t1, k1, rfl, g1, E1, Fv1, Fc1, Fn1, V1⟩ := q1
  have z2 : h0.size ≤ h1.size := K1.1
  have lt1 : @LT.lt Nat _ t1 h1.size := V1.lt
  refine go (g' := (mkF m 6 #[.val (.ref x)] [])) (st1) ?_
  have KK3 : Keep h0 h1 [x] := ((Keep.refl h0 [x]).trans K1 (allS (Or.inl (List.mem_of_getElem? (i := 0) rfl)) all0))
  exact fin (v := none) (so := [t1]) W1 (nle rfl) (nle rfl) (⟨rfl, KK3, t1, _, rfl, by omega, E1, Fv1, Fc1, Fn1, V1⟩) (allS (hso1 _ (List.mem_of_getElem? (i := 0) rfl)) all0) (fun _ => rfl) (own_retV W1 hx hret (hb hby d12_6))
set_option maxRecDepth 65536 in
set_option maxHeartbeats 40000000 in
theorem rm_coder {l : Launch} {Z : State} {a0 : Array Value} (C : Cx Z a0) (h0 : Heap) (a : Addr) (Fa : Fld Z h0 a "java/lang/String" "coder" "B" (.int (0 : Int32))) :
    Ct l Z a0 own_EL (⟨"java/lang/String", "coder", "()B"⟩ : MethodName) jdk_42_method_152_code 1 (Option.some Jvm.ClassFile.FieldType.byte) [] ({ frames := 0, cells := 0, slots := 0, locals := 0 } : Room) #[(.ref a)] h0 [] (fun v h so => v = some (.int 0) ∧ h0 = h) := by
  refine own_enter (plainFor_of_name pn_1) C.ew (F0 := fun m => mkF m 0 #[.val (.ref a)] []) (fun m => by first | (simp [entryFrame, mkF, argsToLocals, Value.category]; done) | rfl) ?_
  intro p e s m below meth c s₁ G hx hby hml hret hnm W0 S0 go fin
  have z0 : Z.heap.size ≤ h0.size := W0.sz
  show G s₁ (mkF m 0 #[.val (.ref a)] [])
  obtain ⟨gCS, OCS, nCS⟩ := C.cs
  obtain ⟨T1, W1, st1⟩ := own_getS W0 hx (host := "") (Or.inl (w14 C)) Via.refl OCS (g := (mkF m 0 #[.val (.ref a)] [])) rfl (hb hby d13_0)
  refine go (g' := (mkF m 3 #[.val (.ref a)] [(.int gCS)])) (st1) ?_
  refine go (g' := (mkF m 6 #[.val (.ref a)] [])) (fun _ k => XS.ifNo W1.here hx rfl (hb hby d13_3) rfl ((if0 _ _).trans (feq nCS).1) k) ?_
  refine go (g' := (mkF m 7 #[.val (.ref a)] [(.ref a)])) (fun _ k => XS.aloadN W1.here hx rfl (hb hby d13_6) rfl rfl k) ?_
  obtain ⟨T2, W2, st2⟩ := own_get W1 hx (host := "") (Or.inl (w26 C)) Via.refl Fa (g := (mkF m 7 #[.val (.ref a)] [(.ref a)])) rfl rfl (hb hby d13_7)
  refine go (g' := (mkF m 10 #[.val (.ref a)] [(.int (0 : Int32))])) (st2) ?_
  refine go (g' := (mkF m 14 #[.val (.ref a)] [(.int (0 : Int32))])) (fun _ k => XS.goto W2.here hx rfl (pc0 := 10) (pc' := 14) rfl (hb hby d13_10) (by decide) (by decide) k) ?_
  exact fin (v := some (.int (0 : Int32))) (so := []) W2 (nle rfl) (nle rfl) (⟨rfl, rfl⟩) (fun _ q => nomatch q) (fun q => nomatch q) (own_retI W2 hx hret (by decide) rfl (hb hby d13_14))
set_option maxRecDepth 65536 in
set_option maxHeartbeats 40000000 in
theorem rm_ens1_16 {l : Launch} {Z : State} {a0 : Array Value} (C : Cx Z a0) (h0 : Heap) (b t : Addr) (kt : ClassId) (vs : List Value) (Fv : Fld Z h0 b "java/lang/AbstractStringBuilder" "value" "[B" (.ref t)) (Fc : Fld Z h0 b "java/lang/AbstractStringBuilder" "coder" "B" (.int (0 : Int32))) (Vt : Arv Z h0 t kt .byte (16 : Int32) vs (.int (0 : Int32))) :
    Ct l Z a0 own_EL (⟨"java/lang/AbstractStringBuilder", "ensureCapacityInternal", "(I)V"⟩ : MethodName) jdk_68_method_9_code 3 (Option.none : Option Jvm.ClassFile.FieldType) [] ({ frames := 0, cells := 0, slots := 0, locals := 0 } : Room) #[(.ref b), (.int (1 : Int32))] h0 [] (fun v h so => v = none ∧ h0 = h) := by
  refine own_enter (plainFor_of_name pn_6) C.ew (F0 := fun m => mkF m 0 #[.val (.ref b), .val (.int (1 : Int32)), .unset] []) (fun m => by first | (simp [entryFrame, mkF, argsToLocals, Value.category]; done) | rfl) ?_
  intro p e s m below meth c s₁ G hx hby hml hret hnm W0 S0 go fin
  have z0 : Z.heap.size ≤ h0.size := W0.sz
  show G s₁ (mkF m 0 #[.val (.ref b), .val (.int (1 : Int32)), .unset] [])
  refine go (g' := (mkF m 1 #[.val (.ref b), .val (.int (1 : Int32)), .unset] [(.ref b)])) (fun _ k => XS.aloadN W0.here hx rfl (hb hby d14_0) rfl rfl k) ?_
  obtain ⟨T1, W1, st1⟩ := own_get W0 hx (host := "") (Or.inl (w132 C)) Via.refl Fv (g := (mkF m 1 #[.val (.ref b), .val (.int (1 : Int32)), .unset] [(.ref b)])) rfl rfl (hb hby d14_1)
  refine go (g' := (mkF m 4 #[.val (.ref b), .val (.int (1 : Int32)), .unset] [(.ref t)])) (st1) ?_
  refine go (g' := (mkF m 5 #[.val (.ref b), .val (.int (1 : Int32)), .unset] [(.int (16 : Int32))])) (own_alen W1 hx Vt (g := (mkF m 4 #[.val (.ref b), .val (.int (1 : Int32)), .unset] [(.ref t)])) rfl rfl (hb hby d14_4)) ?_
  refine go (g' := (mkF m 6 #[.val (.ref b), .val (.int (1 : Int32)), .unset] [(.ref b), (.int (16 : Int32))])) (fun _ k => XS.aloadN W1.here hx rfl (hb hby d14_5) rfl rfl k) ?_
  obtain ⟨T2, W2, st2⟩ := own_get W1 hx (host := "") (Or.inl (w134 C)) Via.refl Fc (g := (mkF m 6 #[.val (.ref b), .val (.int (1 : Int32)), .unset] [(.ref b), (.int (16 : Int32))])) rfl rfl (hb hby d14_6)
  refine go (g' := (mkF m 9 #[.val (.ref b), .val (.int (1 : Int32)), .unset] [(.int (0 : Int32)), (.int (16 : Int32))])) (st2) ?_
  refine go (g' := (mkF m 10 #[.val (.ref b), .val (.int (1 : Int32)), .unset] [(.int ((16 : Int32) >>> ((0 : Int32) &&& 31)))])) (fun _ k => XS.ishr W2.here hx rfl (hb hby d14_9) rfl k) ?_
  rw [show ((16 : Int32) >>> ((0 : Int32) &&& 31)) = (16 : Int32) from by decide]
  refine go (g' := (mkF m 11 #[.val (.ref b), .val (.int (1 : Int32)), .val (.int (16 : Int32))] [])) (fun _ k => XS.istoreN W2.here hx rfl (hb hby d14_10) rfl (l' := #[.val (.ref b), .val (.int (1 : Int32)), .val (.int (16 : Int32))]) rfl k) ?_
  refine go (g' := (mkF m 12 #[.val (.ref b), .val (.int (1 : Int32)), .val (.int (16 : Int32))] [(.int (1 : Int32))])) (fun _ k => XS.iloadN W2.here hx rfl (hb hby d14_11) rfl k) ?_
  refine go (g' := (mkF m 13 #[.val (.ref b), .val (.int (1 : Int32)), .val (.int (16 : Int32))] [(.int (16 : Int32)), (.int (1 : Int32))])) (fun _ k => XS.iloadN W2.here hx rfl (hb hby d14_12) rfl k) ?_
  refine go (g' := (mkF m 14 #[.val (.ref b), .val (.int (1 : Int32)), .val (.int (16 : Int32))] [(.int ((1 : Int32) - (16 : Int32)))])) (fun _ k => XS.isub W2.here hx rfl (hb hby d14_13) rfl k) ?_
  rw [show ((1 : Int32) - (16 : Int32)) = (-15 : Int32) from by decide]
  refine go (g' := (mkF m 38 #[.val (.ref b), .val (.int (1 : Int32)), .val (.int (16 : Int32))] [])) (fun _ k => XS.ifYes W2.here hx rfl (pc0 := 14) (pc' := 38) rfl (hb hby d14_14) rfl ((if0 _ _).trans (flt ((by decide) : ¬ ((0 : Int32) < (-15 : Int32)))).2.2.2) (by decide) (by decide) k) ?_
  exact fin (v := none) (so := []) W2 (nle rfl) (nle rfl) (⟨rfl, rfl⟩) (fun _ q => nomatch q) (fun _ => rfl) (own_retV W2 hx hret (hb hby d14_38))
set_option maxRecDepth 65536 in
set_option maxHeartbeats 40000000 in
theorem rm_infl {l : Launch} {Z : State} {a0 : Array Value} (C : Cx Z a0) (h0 : Heap) (b a : Addr) (Fc : Fld Z h0 b "java/lang/AbstractStringBuilder" "coder" "B" (.int (0 : Int32))) (Ea : Exa Z h0 a "java/lang/String") (Fa : Fld Z h0 a "java/lang/String" "coder" "B" (.int (0 : Int32))) :
    Ct l Z a0 own_EL (⟨"java/lang/AbstractStringBuilder", "inflateIfNeededFor", "(Ljava/lang/String;)V"⟩ : MethodName) jdk_68_method_71_code 2 (Option.none : Option Jvm.ClassFile.FieldType) [] ({ frames := 1, cells := 0, slots := 0, locals := 13 } : Room) #[(.ref b), (.ref a)] h0 [] (fun v h so => v = none ∧ h0 = h) := by
  refine own_enter (plainFor_of_name pn_6) C.ew (F0 := fun m => mkF m 0 #[.val (.ref b), .val (.ref a)] []) (fun m => by first | (simp [entryFrame, mkF, argsToLocals, Value.category]; done) | rfl) ?_
  intro p e s m below meth c s₁ G hx hby hml hret hnm W0 S0 go fin
  have z0 : Z.heap.size ≤ h0.size := W0.sz
  show G s₁ (mkF m 0 #[.val (.ref b), .val (.ref a)] [])
  obtain ⟨gCS, OCS, nCS⟩ := C.cs
  obtain ⟨T1, W1, st1⟩ := own_getS W0 hx (host := "") (Or.inl (w131 C)) Via.refl OCS (g := (mkF m 0 #[.val (.ref b), .val (.ref a)] [])) rfl (hb hby d15_0)
  refine go (g' := (mkF m 3 #[.val (.ref b), .val (.ref a)] [(.int gCS)])) (st1) ?_
  refine go (g' := (mkF m 6 #[.val (.ref b), .val (.ref a)] [])) (fun _ k => XS.ifNo W1.here hx rfl (hb hby d15_3) rfl ((if0 _ _).trans (feq nCS).1) k) ?_
  refine go (g' := (mkF m 7 #[.val (.ref b), .val (.ref a)] [(.ref b)])) (fun _ k => XS.aloadN W1.here hx rfl (hb hby d15_6) rfl rfl k) ?_
  obtain ⟨T2, W2, st2⟩ := own_get W1 hx (host := "") (Or.inl (w134 C)) Via.refl Fc (g := (mkF m 7 #[.val (.ref b), .val (.ref a)] [(.ref b)])) rfl rfl (hb hby d15_7)
  refine go (g' := (mkF m 10 #[.val (.ref b), .val (.ref a)] [(.int (0 : Int32))])) (st2) ?_
  refine go (g' := (mkF m 11 #[.val (.ref b), .val (.ref a)] [(.ref a), (.int (0 : Int32))])) (fun _ k => XS.aloadN W2.here hx rfl (hb hby d15_10) rfl rfl k) ?_
  obtain ⟨v3, so3, vm3, T3, h3, W3, C3, q3, hso3, st3⟩ := own_virtual W2 hx (y := (⟨"java/lang/String", "coder", "()B"⟩ : MethodName)) (z := (⟨"java/lang/String", "coder", "()B"⟩ : MethodName)) (w173 C) (w152 C) (w154 C) (w153 C) (w2 C) (w155 C) (by decide) (own_nf W2 (w154 C)) Ea (rm_coder C h0 a Fa) (fun _ q => nomatch q) (Wd := 1) (nle rfl) (nle rfl) (nle rfl) (nle rfl) (g := (mkF m 11 #[.val (.ref b), .val (.ref a)] [(.ref a), (.int (0 : Int32))])) rfl (by rw [hml]; rfl) (argsL := []) (rest := [(.int (0 : Int32))]) (lenOf pd_6 rfl) rfl rfl (by show 2 * 0 + _ ≤ _; exact Nat.le_of_eq rfl) (hb hby d15_11)
  obtain ⟨rfl, rfl⟩ := q3
  refine go (g' := (mkF m 14 #[.val (.ref b), .val (.ref a)] [(.int (0 : Int32)), (.int (0 : Int32))])) (st3) ?_
  refine go (g' := (mkF m 21 #[.val (.ref b), .val (.ref a)] [])) (fun _ k => XS.icmpYes W3.here hx rfl (pc0 := 14) (pc' := 21) rfl (hb hby d15_14) rfl (teq ((by decide) : (0 : Int32) = (0 : Int32))).1 (by decide) (by decide) k) ?_
  exact fin (v := none) (so := []) W3 (nle rfl) (nle rfl) (⟨rfl, rfl⟩) (fun _ q => nomatch q) (fun _ => rfl) (own_retV W3 hx hret (hb hby d15_21))
set_option maxRecDepth 65536 in
set_option maxHeartbeats 40000000 in
theorem rm_gb0_1_16 {l : Launch} {Z : State} {a0 : Array Value} (C : Cx Z a0) (h0 : Heap) (a : Addr) (c1 : Int32) (Sa : Str Z h0 a [c1]) (t : Addr) (kt : ClassId) (o1 o2 o3 o4 o5 o6 o7 o8 o9 o10 o11 o12 o13 o14 o15 o16 : Int32) (Vt : Arv Z h0 t kt .byte (16 : Int32) [(.int o1), (.int o2), (.int o3), (.int o4), (.int o5), (.int o6), (.int o7), (.int o8), (.int o9), (.int o10), (.int o11), (.int o12), (.int o13), (.int o14), (.int o15), (.int o16)] (.int (0 : Int32))) (nt : Z.heap.size ≤ t) :
    Ct l Z a0 own_EL (⟨"java/lang/String", "getBytes", "([BIB)V"⟩ : MethodName) jdk_42_method_147_code 4 (Option.none : Option Jvm.ClassFile.FieldType) [] ({ frames := 1, cells := 0, slots := 0, locals := 30 } : Room) #[(.ref a), (.ref t), (.int (0 : Int32)), (.int (0 : Int32))] h0 [t] (fun v h so => v = none ∧ Keep h0 h [t] ∧ Arv Z h t kt .byte (16 : Int32) [(.int c1.toInt8.toInt32), (.int o2), (.int o3), (.int o4), (.int o5), (.int o6), (.int o7), (.int o8), (.int o9), (.int o10), (.int o11), (.int o12), (.int o13), (.int o14), (.int o15), (.int o16)] (.int (0 : Int32))) := by
  refine own_enter (plainFor_of_name pn_1) C.ew (F0 := fun m => mkF m 0 #[.val (.ref a), .val (.ref t), .val (.int (0 : Int32)), .val (.int (0 : Int32))] []) (fun m => by first | (simp [entryFrame, mkF, argsToLocals, Value.category]; done) | rfl) ?_
  intro p e s m below meth c s₁ G hx hby hml hret hnm W0 S0 go fin
  have z0 : Z.heap.size ≤ h0.size := W0.sz
  show G s₁ (mkF m 0 #[.val (.ref a), .val (.ref t), .val (.int (0 : Int32)), .val (.int (0 : Int32))] [])
  have lt : @LT.lt Nat _ t h0.size := Vt.lt
  obtain ⟨sE1, sC1, sP1, t1, k1, sV1, sK1⟩ := Sa
  have sA1 : Arv Z h0 t1 k1 .byte (1 : Int32) [(.int c1.toInt8.toInt32)] (.int (0 : Int32)) := sK1
  refine go (g' := (mkF m 1 #[.val (.ref a), .val (.ref t), .val (.int (0 : Int32)), .val (.int (0 : Int32))] [(.ref a)])) (fun _ k => XS.aloadN W0.here hx rfl (hb hby d16_0) rfl rfl k) ?_
  obtain ⟨v2, so2, vm2, T2, h2, W2, C2, q2, hso2, st2⟩ := own_virtual W0 hx (y := (⟨"java/lang/String", "coder", "()B"⟩ : MethodName)) (z := (⟨"java/lang/String", "coder", "()B"⟩ : MethodName)) (w151 C) (w152 C) (w154 C) (w153 C) (w2 C) (w155 C) (by decide) (own_nf W0 (w154 C)) sE1 (rm_coder C h0 a sC1) (fun _ q => nomatch q) (Wd := 0) (nle rfl) (nle rfl) (nle rfl) (nle rfl) (g := (mkF m 1 #[.val (.ref a), .val (.ref t), .val (.int (0 : Int32)), .val (.int (0 : Int32))] [(.ref a)])) rfl (by rw [hml]; rfl) (argsL := []) (rest := []) (lenOf pd_6 rfl) rfl rfl (by show 2 * 0 + _ ≤ _; exact Nat.le_of_eq rfl) (hb hby d16_1)
  obtain ⟨rfl, rfl⟩ := q2
  have S2_t : Safe Z own_EL vm2 h0 t := C2.safe (olt (by omega)) (S0 _ (List.mem_of_getElem? (i := 0) rfl))
  refine go (g' := (mkF m 4 #[.val (.ref a), .val (.ref t), .val (.int (0 : Int32)), .val (.int (0 : Int32))] [(.int (0 : Int32))])) (st2) ?_
  refine go (g' := (mkF m 5 #[.val (.ref a), .val (.ref t), .val (.int (0 : Int32)), .val (.int (0 : Int32))] [(.int (0 : Int32)), (.int (0 : Int32))])) (fun _ k => XS.iloadN W2.here hx rfl (hb hby d16_4) rfl k) ?_
  refine go (g' := (mkF m 8 #[.val (.ref a), .val (.ref t), .val (.int (0 : Int32)), .val (.int (0 : Int32))] [])) (fun _ k => XS.icmpNo W2.here hx rfl (hb hby d16_5) rfl (teq ((by decide) : (0 : Int32) = (0 : Int32))).2 k) ?_
  refine go (g' := (mkF m 9 #[.val (.ref a), .val (.ref t), .val (.int (0 : Int32)), .val (.int (0 : Int32))] [(.ref a)])) (fun _ k => XS.aloadN W2.here hx rfl (hb hby d16_8) rfl rfl k) ?_
  obtain ⟨T3, W3, st3⟩ := own_get W2 hx (host := "") (Or.inl (w28 C)) Via.refl sV1 (g := (mkF m 9 #[.val (.ref a), .val (.ref t), .val (.int (0 : Int32)), .val (.int (0 : Int32))] [(.ref a)])) rfl rfl (hb hby d16_9)
  refine go (g' := (mkF m 12 #[.val (.ref a), .val (.ref t), .val (.int (0 : Int32)), .val (.int (0 : Int32))] [(.ref t1)])) (st3) ?_
  refine go (g' := (mkF m 13 #[.val (.ref a), .val (.ref t), .val (.int (0 : Int32)), .val (.int (0 : Int32))] [(.int (0 : Int32)), (.ref t1)])) (fun _ k => XS.iconst W3.here hx rfl (hb hby d16_12) k) ?_
  refine go (g' := (mkF m 14 #[.val (.ref a), .val (.ref t), .val (.int (0 : Int32)), .val (.int (0 : Int32))] [(.ref t), (.int (0 : Int32)), (.ref t1)])) (fun _ k => XS.aloadN W3.here hx rfl (hb hby d16_13) rfl rfl k) ?_
  refine go (g' := (mkF m 15 #[.val (.ref a), .val (.ref t), .val (.int (0 : Int32)), .val (.int (0 : Int32))] [(.int (0 : Int32)), (.ref t), (.int (0 : Int32)), (.ref t1)])) (fun _ k => XS.iloadN W3.here hx rfl (hb hby d16_14) rfl k) ?_
  refine go (g' := (mkF m 16 #[.val (.ref a), .val (.ref t), .val (.int (0 : Int32)), .val (.int (0 : Int32))] [(.int (0 : Int32)), (.int (0 : Int32)), (.ref t), (.int (0 : Int32)), (.ref t1)])) (fun _ k => XS.iloadN W3.here hx rfl (hb hby d16_15) rfl k) ?_
  refine go (g' := (mkF m 17 #[.val (.ref a), .val (.ref t), .val (.int (0 : Int32)), .val (.int (0 : Int32))] [(.int ((0 : Int32) <<< ((0 : Int32) &&& 31))), (.ref t), (.int (0 : Int32)), (.ref t1)])) (fun _ k => XS.ishl W3.here hx rfl (hb hby d16_16) rfl k) ?_
  rw [show ((0 : Int32) <<< ((0 : Int32) &&& 31)) = (0 : Int32) from by decide]
  refine go (g' := (mkF m 18 #[.val (.ref a), .val (.ref t), .val (.int (0 : Int32)), .val (.int (0 : Int32))] [(.ref a), (.int (0 : Int32)), (.ref t), (.int (0 : Int32)), (.ref t1)])) (fun _ k => XS.aloadN W3.here hx rfl (hb hby d16_17) rfl rfl k) ?_
  obtain ⟨T4, W4, st4⟩ := own_get W3 hx (host := "") (Or.inl (w28 C)) Via.refl sV1 (g := (mkF m 18 #[.val (.ref a), .val (.ref t), .val (.int (0 : Int32)), .val (.int (0 : Int32))] [(.ref a), (.int (0 : Int32)), (.ref t), (.int (0 : Int32)), (.ref t1)])) rfl rfl (hb hby d16_18)
  refine go (g' := (mkF m 21 #[.val (.ref a), .val (.ref t), .val (.int (0 : Int32)), .val (.int (0 : Int32))] [(.ref t1), (.int (0 : Int32)), (.ref t), (.int (0 : Int32)), (.ref t1)])) (st4) ?_
  refine go (g' := (mkF m 22 #[.val (.ref a), .val (.ref t), .val (.int (0 : Int32)), .val (.int (0 : Int32))] [(.int (1 : Int32)), (.int (0 : Int32)), (.ref t), (.int (0 : Int32)), (.ref t1)])) (own_alen W4 hx sA1 (g := (mkF m 21 #[.val (.ref a), .val (.ref t), .val (.int (0 : Int32)), .val (.int (0 : Int32))] [(.ref t1), (.int (0 : Int32)), (.ref t), (.int (0 : Int32)), (.ref t1)])) rfl rfl (hb hby d16_21)) ?_
  obtain ⟨T5, h5, W5, K5, V5, st5⟩ := own_cp W4 hx (w179 C) (w182 C) (w180 C) (w181 C) sA1 Vt rfl S2_t (sp := (0 : Int32)) (dp := (0 : Int32)) (nn := (1 : Int32)) (by decide) (by decide) (by decide) (by decide) (by decide) (us := [(.int c1.toInt8.toInt32)]) rfl (Nat.le_of_ble_eq_true rfl) (by omega) (g := (mkF m 22 #[.val (.ref a), .val (.ref t), .val (.int (0 : Int32)), .val (.int (0 : Int32))] [(.int (1 : Int32)), (.int (0 : Int32)), (.ref t), (.int (0 : Int32)), (.ref t1)])) rfl (by rw [hml]; rfl) rfl (hb hby d16_22) (nle rfl) (Wd := 0) (by show 2 * 0 + _ ≤ _; exact Nat.le_of_eq rfl) (nle rfl)
  have z6 : h0.size ≤ h5.size := K5.1
  have U5 : Arv Z h5 t kt .byte (16 : Int32) [(.int c1.toInt8.toInt32), (.int o2), (.int o3), (.int o4), (.int o5), (.int o6), (.int o7), (.int o8), (.int o9), (.int o10), (.int o11), (.int o12), (.int o13), (.int o14), (.int o15), (.int o16)] (.int (0 : Int32)) := V5
  have S5_t : Safe Z own_EL vm2 h5 t := Safe.keep K5 (allS S2_t all0) W4.ch S2_t
  refine go (g' := (mkF m 25 #[.val (.ref a), .val (.ref t), .val (.int (0 : Int32)), .val (.int (0 : Int32))] [])) (st5) ?_
  refine go (g' := (mkF m 43 #[.val (.ref a), .val (.ref t), .val (.int (0 : Int32)), .val (.int (0 : Int32))] [])) (fun _ k => XS.goto W5.here hx rfl (pc0 := 25) (pc' := 43) rfl (hb hby d16_25) (by decide) (by decide) k) ?_
  have KK7 : Keep h0 h5 [t] := ((Keep.refl h0 [t]).trans K5 (allS (Or.inl (List.mem_of_getElem? (i := 0) rfl)) all0))
  exact fin (v := none) (so := []) W5 (nle rfl) (nle rfl) (⟨rfl, KK7, U5⟩) (fun _ q => nomatch q) (fun _ => rfl) (own_retV W5 hx hret (hb hby d16_43))
set_option maxRecDepth 65536 in
set_option maxHeartbeats 40000000 in
theorem rm_psa0_1_16 {l : Launch} {Z : State} {a0 : Array Value} (C : Cx Z a0) (h0 : Heap) (a : Addr) (c1 : Int32) (Sa : Str Z h0 a [c1]) (b t : Addr) (kt : ClassId) (o1 o2 o3 o4 o5 o6 o7 o8 o9 o10 o11 o12 o13 o14 o15 o16 : Int32) (Eb : Exa Z h0 b "java/lang/StringBuilder") (Fv : Fld Z h0 b "java/lang/AbstractStringBuilder" "value" "[B" (.ref t)) (Fc : Fld Z h0 b "java/lang/AbstractStringBuilder" "coder" "B" (.int (0 : Int32))) (Fn : Fld Z h0 b "java/lang/AbstractStringBuilder" "count" "I" (.int (0 : Int32))) (Vt : Arv Z h0 t kt .byte (16 : Int32) [(.int o1), (.int o2), (.int o3), (.int o4), (.int o5), (.int o6), (.int o7), (.int o8), (.int o9), (.int o10), (.int o11), (.int o12), (.int o13), (.int o14), (.int o15), (.int o16)] (.int (0 : Int32))) (nb : Z.heap.size ≤ b) (nt : Z.heap.size ≤ t) :
    Ct l Z a0 own_EL (⟨"java/lang/AbstractStringBuilder", "putStringAt", "(ILjava/lang/String;)V"⟩ : MethodName) jdk_68_method_73_code 3 (Option.none : Option Jvm.ClassFile.FieldType) [] ({ frames := 2, cells := 0, slots := 0, locals := 45 } : Room) #[(.ref b), (.int (0 : Int32)), (.ref a)] h0 [t] (fun v h so => v = none ∧ Keep h0 h [t] ∧ Arv Z h t kt .byte (16 : Int32) [(.int c1.toInt8.toInt32), (.int o2), (.int o3), (.int o4), (.int o5), (.int o6), (.int o7), (.int o8), (.int o9), (.int o10), (.int o11), (.int o12), (.int o13), (.int o14), (.int o15), (.int o16)] (.int (0 : Int32))) := by
  refine own_enter (plainFor_of_name pn_6) C.ew (F0 := fun m => mkF m 0 #[.val (.ref b), .val (.int (0 : Int32)), .val (.ref a)] []) (fun m => by first | (simp [entryFrame, mkF, argsToLocals, Value.category]; done) | rfl) ?_
  intro p e s m below meth c s₁ G hx hby hml hret hnm W0 S0 go fin
  have z0 : Z.heap.size ≤ h0.size := W0.sz
  show G s₁ (mkF m 0 #[.val (.ref b), .val (.int (0 : Int32)), .val (.ref a)] [])
  have lt : @LT.lt Nat _ t h0.size := Vt.lt
  refine go (g' := (mkF m 1 #[.val (.ref b), .val (.int (0 : Int32)), .val (.ref a)] [(.ref b)])) (fun _ k => XS.aloadN W0.here hx rfl (hb hby d17_0) rfl rfl k) ?_
  refine go (g' := (mkF m 2 #[.val (.ref b), .val (.int (0 : Int32)), .val (.ref a)] [(.ref a), (.ref b)])) (fun _ k => XS.aloadN W0.here hx rfl (hb hby d17_1) rfl rfl k) ?_
  obtain ⟨v1, so1, vm1, T1, h1, W1, C1, q1, hso1, st1⟩ := own_virtual W0 hx (y := (⟨"java/lang/AbstractStringBuilder", "inflateIfNeededFor", "(Ljava/lang/String;)V"⟩ : MethodName)) (z := (⟨"java/lang/AbstractStringBuilder", "inflateIfNeededFor", "(Ljava/lang/String;)V"⟩ : MethodName)) (w168 C) (own_decl (w169 C) (w172 C)) (w171 C) (w169 C) (w128 C) (w172 C) (by decide) (own_nf W0 (w171 C)) Eb (rm_infl C h0 b a Fc Sa.1 Sa.2.1) (fun _ q => nomatch q) (Wd := 0) (nle rfl) (nle rfl) (nle rfl) (nle rfl) (g := (mkF m 2 #[.val (.ref b), .val (.int (0 : Int32)), .val (.ref a)] [(.ref a), (.ref b)])) rfl (by rw [hml]; rfl) (argsL := [(.ref a)]) (rest := []) (lenOf pd_7 rfl) rfl rfl (by show 2 * 0 + _ ≤ _; exact Nat.le_of_eq rfl) (hb hby d17_2)
  obtain ⟨rfl, rfl⟩ := q1
  have S1_t : Safe Z own_EL vm1 h0 t := C1.safe (olt (by omega)) (S0 _ (List.mem_of_getElem? (i := 0) rfl))
  refine go (g' := (mkF m 5 #[.val (.ref b), .val (.int (0 : Int32)), .val (.ref a)] [])) (st1) ?_
  refine go (g' := (mkF m 6 #[.val (.ref b), .val (.int (0 : Int32)), .val (.ref a)] [(.ref a)])) (fun _ k => XS.aloadN W1.here hx rfl (hb hby d17_5) rfl rfl k) ?_
  refine go (g' := (mkF m 7 #[.val (.ref b), .val (.int (0 : Int32)), .val (.ref a)] [(.ref b), (.ref a)])) (fun _ k => XS.aloadN W1.here hx rfl (hb hby d17_6) rfl rfl k) ?_
  obtain ⟨T2, W2, st2⟩ := own_get W1 hx (host := "") (Or.inl (w132 C)) Via.refl Fv (g := (mkF m 7 #[.val (.ref b), .val (.int (0 : Int32)), .val (.ref a)] [(.ref b), (.ref a)])) rfl rfl (hb hby d17_7)
  refine go (g' := (mkF m 10 #[.val (.ref b), .val (.int (0 : Int32)), .val (.ref a)] [(.ref t), (.ref a)])) (st2) ?_
  refine go (g' := (mkF m 11 #[.val (.ref b), .val (.int (0 : Int32)), .val (.ref a)] [(.int (0 : Int32)), (.ref t), (.ref a)])) (fun _ k => XS.iloadN W2.here hx rfl (hb hby d17_10) rfl k) ?_
  refine go (g' := (mkF m 12 #[.val (.ref b), .val (.int (0 : Int32)), .val (.ref a)] [(.ref b), (.int (0 : Int32)), (.ref t), (.ref a)])) (fun _ k => XS.aloadN W2.here hx rfl (hb hby d17_11) rfl rfl k) ?_
  obtain ⟨T3, W3, st3⟩ := own_get W2 hx (host := "") (Or.inl (w134 C)) Via.refl Fc (g := (mkF m 12 #[.val (.ref b), .val (.int (0 : Int32)), .val (.ref a)] [(.ref b), (.int (0 : Int32)), (.ref t), (.ref a)])) rfl rfl (hb hby d17_12)
  refine go (g' := (mkF m 15 #[.val (.ref b), .val (.int (0 : Int32)), .val (.ref a)] [(.int (0 : Int32)), (.int (0 : Int32)), (.ref t), (.ref a)])) (st3) ?_
  obtain ⟨v4, so4, vm4, T4, h4, W4, C4, q4, hso4, st4⟩ := own_virtual W3 hx (y := (⟨"java/lang/String", "getBytes", "([BIB)V"⟩ : MethodName)) (z := (⟨"java/lang/String", "getBytes", "([BIB)V"⟩ : MethodName)) (w174 C) (w175 C) (w177 C) (w176 C) (w2 C) (w178 C) (by decide) (own_nf W3 (w177 C)) Sa.1 (rm_gb0_1_16 C h0 a c1 Sa t kt o1 o2 o3 o4 o5 o6 o7 o8 o9 o10 o11 o12 o13 o14 o15 o16 Vt (by omega)) (allS S1_t all0) (Wd := 0) (nle rfl) (nle rfl) (nle rfl) (nle rfl) (g := (mkF m 15 #[.val (.ref b), .val (.int (0 : Int32)), .val (.ref a)] [(.int (0 : Int32)), (.int (0 : Int32)), (.ref t), (.ref a)])) rfl (by rw [hml]; rfl) (argsL := [(.ref t), (.int (0 : Int32)), (.int (0 : Int32))]) (rest := []) (lenOf pd_8 rfl) rfl rfl (by show 2 * 0 + _ ≤ _; exact Nat.le_of_eq rfl) (hb hby d17_15)
  obtain ⟨rfl, K4, V4⟩ := q4
  have z5 : h0.size ≤ h4.size := K4.1
  have S4_t : Safe Z own_EL vm4 h4 t := C4.safe (olt (by omega)) S1_t
  refine go (g' := (mkF m 18 #[.val (.ref b), .val (.int (0 : Int32)), .val (.ref a)] [])) (st4) ?_
  have KK6 : Keep h0 h4 [t] := ((Keep.refl h0 [t]).trans K4 (allS (Or.inl (List.mem_of_getElem? (i := 0) rfl)) all0))
  exact fin (v := none) (so := []) W4 (nle rfl) (nle rfl) (⟨rfl, KK6, V4⟩) (fun _ q => nomatch q) (fun _ => rfl) (own_retV W4 hx hret (hb hby d17_18))
set_option maxRecDepth 65536 in
set_option maxHeartbeats 40000000 in
theorem rm_asbapp0_1_16 {l : Launch} {Z : State} {a0 : Array Value} (C : Cx Z a0) (h0 : Heap) (a : Addr) (c1 : Int32) (Sa : Str Z h0 a [c1]) (b t : Addr) (kt : ClassId) (o1 o2 o3 o4 o5 o6 o7 o8 o9 o10 o11 o12 o13 o14 o15 o16 : Int32) (Eb : Exa Z h0 b "java/lang/StringBuilder") (Fv : Fld Z h0 b "java/lang/AbstractStringBuilder" "value" "[B" (.ref t)) (Fc : Fld Z h0 b "java/lang/AbstractStringBuilder" "coder" "B" (.int (0 : Int32))) (Fn : Fld Z h0 b "java/lang/AbstractStringBuilder" "count" "I" (.int (0 : Int32))) (Vt : Arv Z h0 t kt .byte (16 : Int32) [(.int o1), (.int o2), (.int o3), (.int o4), (.int o5), (.int o6), (.int o7), (.int o8), (.int o9), (.int o10), (.int o11), (.int o12), (.int o13), (.int o14), (.int o15), (.int o16)] (.int (0 : Int32))) (nb : Z.heap.size ≤ b) (nt : Z.heap.size ≤ t) :
    Ct l Z a0 own_EL (⟨"java/lang/AbstractStringBuilder", "append", "(Ljava/lang/String;)Ljava/lang/AbstractStringBuilder;"⟩ : MethodName) jdk_68_method_22_code 3 (Option.some (Jvm.ClassFile.FieldType.object "java/lang/AbstractStringBuilder")) [] ({ frames := 3, cells := 0, slots := 0, locals := 59 } : Room) #[(.ref b), (.ref a)] h0 [t] (fun v h so => v = some (.ref b) ∧ Keep h0 h [b, t] ∧ Exa Z h b "java/lang/StringBuilder" ∧ Fld Z h b "java/lang/AbstractStringBuilder" "value" "[B" (.ref t) ∧ Fld Z h b "java/lang/AbstractStringBuilder" "coder" "B" (.int (0 : Int32)) ∧ Fld Z h b "java/lang/AbstractStringBuilder" "count" "I" (.int (1 : Int32)) ∧ Arv Z h t kt .byte (16 : Int32) [(.int c1.toInt8.toInt32), (.int o2), (.int o3), (.int o4), (.int o5), (.int o6), (.int o7), (.int o8), (.int o9), (.int o10), (.int o11), (.int o12), (.int o13), (.int o14), (.int o15), (.int o16)] (.int (0 : Int32))) := by
  refine own_enter (plainFor_of_name pn_6) C.ew (F0 := fun m => mkF m 0 #[.val (.ref b), .val (.ref a), .unset] []) (fun m => by first | (simp [entryFrame, mkF, argsToLocals, Value.category]; done) | rfl) ?_
  intro p e s m below meth c s₁ G hx hby hml hret hnm W0 S0 go fin
  have z0 : Z.heap.size ≤ h0.size := W0.sz
  show G s₁ (mkF m 0 #[.val (.ref b), .val (.ref a), .unset] [])
  have lt : @LT.lt Nat _ t h0.size := Vt.lt
  have lb : @LT.lt Nat _ b h0.size := Eb.lt
  have nbt : b ≠ t := own_neBA Eb Vt (w119 C)
  refine go (g' := (mkF m 1 #[.val (.ref b), .val (.ref a), .unset] [(.ref a)])) (fun _ k => XS.aloadN W0.here hx rfl (hb hby d18_0) rfl rfl k) ?_
  refine go (g' := (mkF m 9 #[.val (.ref b), .val (.ref a), .unset] [])) (fun _ k => XS.ifnonnullYes W0.here hx rfl (pc0 := 1) (pc' := 9) rfl (hb hby d18_1) rfl (by decide) (by decide) k) ?_
  refine go (g' := (mkF m 10 #[.val (.ref b), .val (.ref a), .unset] [(.ref a)])) (fun _ k => XS.aloadN W0.here hx rfl (hb hby d18_9) rfl rfl k) ?_
  obtain ⟨T1, W1, st1⟩ := own_slen W0 hx (own_wln C) (w146 C) (w147 C) (w149 C) (w148 C) (w1 C) Sa C.cs (nle rfl) (Wd := 0) (nle rfl) (nle rfl) (nle rfl) (nle rfl) (g := (mkF m 10 #[.val (.ref b), .val (.ref a), .unset] [(.ref a)])) rfl (by rw [hml]; rfl) rfl (by show 2 * 0 + _ ≤ _; exact Nat.le_of_eq rfl) (hb hby d18_10)
  refine go (g' := (mkF m 13 #[.val (.ref b), .val (.ref a), .unset] [(.int (1 : Int32))])) (st1) ?_
  refine go (g' := (mkF m 14 #[.val (.ref b), .val (.ref a), .val (.int (1 : Int32))] [])) (fun _ k => XS.istoreN W1.here hx rfl (hb hby d18_13) rfl (l' := #[.val (.ref b), .val (.ref a), .val (.int (1 : Int32))]) rfl k) ?_
  refine go (g' := (mkF m 15 #[.val (.ref b), .val (.ref a), .val (.int (1 : Int32))] [(.ref b)])) (fun _ k => XS.aloadN W1.here hx rfl (hb hby d18_14) rfl rfl k) ?_
  refine go (g' := (mkF m 16 #[.val (.ref b), .val (.ref a), .val (.int (1 : Int32))] [(.ref b), (.ref b)])) (fun _ k => XS.aloadN W1.here hx rfl (hb hby d18_15) rfl rfl k) ?_
  obtain ⟨T2, W2, st2⟩ := own_get W1 hx (host := "") (Or.inl (w156 C)) Via.refl Fn (g := (mkF m 16 #[.val (.ref b), .val (.ref a), .val (.int (1 : Int32))] [(.ref b), (.ref b)])) rfl rfl (hb hby d18_16)
  refine go (g' := (mkF m 19 #[.val (.ref b), .val (.ref a), .val (.int (1 : Int32))] [(.int (0 : Int32)), (.ref b)])) (st2) ?_
  refine go (g' := (mkF m 20 #[.val (.ref b), .val (.ref a), .val (.int (1 : Int32))] [(.int (1 : Int32)), (.int (0 : Int32)), (.ref b)])) (fun _ k => XS.iloadN W2.here hx rfl (hb hby d18_19) rfl k) ?_
  refine go (g' := (mkF m 21 #[.val (.ref b), .val (.ref a), .val (.int (1 : Int32))] [(.int ((0 : Int32) + (1 : Int32))), (.ref b)])) (fun _ k => XS.iadd W2.here hx rfl (hb hby d18_20) rfl k) ?_
  rw [show ((0 : Int32) + (1 : Int32)) = (1 : Int32) from by decide]
  obtain ⟨v3, so3, vm3, T3, h3, W3, C3, q3, hso3, st3⟩ := own_virtual W2 hx (y := (⟨"java/lang/AbstractStringBuilder", "ensureCapacityInternal", "(I)V"⟩ : MethodName)) (z := (⟨"java/lang/AbstractStringBuilder", "ensureCapacityInternal", "(I)V"⟩ : MethodName)) (w158 C) (own_decl (w159 C) (w162 C)) (w161 C) (w159 C) (w128 C) (w162 C) (by decide) (own_nf W2 (w161 C)) Eb (rm_ens1_16 C h0 b t kt [(.int o1), (.int o2), (.int o3), (.int o4), (.int o5), (.int o6), (.int o7), (.int o8), (.int o9), (.int o10), (.int o11), (.int o12), (.int o13), (.int o14), (.int o15), (.int o16)] Fv Fc Vt) (fun _ q => nomatch q) (Wd := 0) (nle rfl) (nle rfl) (nle rfl) (nle rfl) (g := (mkF m 21 #[.val (.ref b), .val (.ref a), .val (.int (1 : Int32))] [(.int (1 : Int32)), (.ref b)])) rfl (by rw [hml]; rfl) (argsL := [(.int (1 : Int32))]) (rest := []) (lenOf pd_5 rfl) rfl rfl (by show 2 * 0 + _ ≤ _; exact Nat.le_of_eq rfl) (hb hby d18_21)
  obtain ⟨rfl, rfl⟩ := q3
  have S3_t : Safe Z own_EL vm3 h0 t := C3.safe (olt (by omega)) (S0 _ (List.mem_of_getElem? (i := 0) rfl))
  refine go (g' := (mkF m 24 #[.val (.ref b), .val (.ref a), .val (.int (1 : Int32))] [])) (st3) ?_
  refine go (g' := (mkF m 25 #[.val (.ref b), .val (.ref a), .val (.int (1 : Int32))] [(.ref b)])) (fun _ k => XS.aloadN W3.here hx rfl (hb hby d18_24) rfl rfl k) ?_
  refine go (g' := (mkF m 26 #[.val (.ref b), .val (.ref a), .val (.int (1 : Int32))] [(.ref b), (.ref b)])) (fun _ k => XS.aloadN W3.here hx rfl (hb hby d18_25) rfl rfl k) ?_
  obtain ⟨T4, W4, st4⟩ := own_get W3 hx (host := "") (Or.inl (w156 C)) Via.refl Fn (g := (mkF m 26 #[.val (.ref b), .val (.ref a), .val (.int (1 : Int32))] [(.ref b), (.ref b)])) rfl rfl (hb hby d18_26)
  refine go (g' := (mkF m 29 #[.val (.ref b), .val (.ref a), .val (.int (1 : Int32))] [(.int (0 : Int32)), (.ref b)])) (st4) ?_
  refine go (g' := (mkF m 30 #[.val (.ref b), .val (.ref a), .val (.int (1 : Int32))] [(.ref a), (.int (0 : Int32)), (.ref b)])) (fun _ k => XS.aloadN W4.here hx rfl (hb hby d18_29) rfl rfl k) ?_
  obtain ⟨v5, so5, vm5, T5, h5, W5, C5, q5, hso5, st5⟩ := own_virtual W4 hx (y := (⟨"java/lang/AbstractStringBuilder", "putStringAt", "(ILjava/lang/String;)V"⟩ : MethodName)) (z := (⟨"java/lang/AbstractStringBuilder", "putStringAt", "(ILjava/lang/String;)V"⟩ : MethodName)) (w163 C) (own_decl (w164 C) (w167 C)) (w166 C) (w164 C) (w128 C) (w167 C) (by decide) (own_nf W4 (w166 C)) Eb (rm_psa0_1_16 C h0 a c1 Sa b t kt o1 o2 o3 o4 o5 o6 o7 o8 o9 o10 o11 o12 o13 o14 o15 o16 Eb Fv Fc Fn Vt (by omega) (by omega)) (allS S3_t all0) (Wd := 0) (nle rfl) (nle rfl) (nle rfl) (nle rfl) (g := (mkF m 30 #[.val (.ref b), .val (.ref a), .val (.int (1 : Int32))] [(.ref a), (.int (0 : Int32)), (.ref b)])) rfl (by rw [hml]; rfl) (argsL := [(.int (0 : Int32)), (.ref a)]) (rest := []) (lenOf pd_9 rfl) rfl rfl (by show 2 * 0 + _ ≤ _; exact Nat.le_of_eq rfl) (hb hby d18_30)
  obtain ⟨rfl, K5, V5⟩ := q5
  have z6 : h0.size ≤ h5.size := K5.1
  have S5_t : Safe Z own_EL vm5 h5 t := C5.safe (olt (by omega)) S3_t
  refine go (g' := (mkF m 33 #[.val (.ref b), .val (.ref a), .val (.int (1 : Int32))] [])) (st5) ?_
  refine go (g' := (mkF m 34 #[.val (.ref b), .val (.ref a), .val (.int (1 : Int32))] [(.ref b)])) (fun _ k => XS.aloadN W5.here hx rfl (hb hby d18_33) rfl rfl k) ?_
  refine go (g' := (mkF m 35 #[.val (.ref b), .val (.ref a), .val (.int (1 : Int32))] [(.ref b), (.ref b)])) (fun _ k => XS.dup W5.here hx rfl (hb hby d18_34) rfl rfl k) ?_
  have f7 : Fld Z h5 b "java/lang/AbstractStringBuilder" "count" "I" (.int (0 : Int32)) := Fn.keep K5 (ninS nbt nin0)
  obtain ⟨T8, W8, st8⟩ := own_get W5 hx (host := "") (Or.inl (w156 C)) Via.refl f7 (g := (mkF m 35 #[.val (.ref b), .val (.ref a), .val (.int (1 : Int32))] [(.ref b), (.ref b)])) rfl rfl (hb hby d18_35)
  refine go (g' := (mkF m 38 #[.val (.ref b), .val (.ref a), .val (.int (1 : Int32))] [(.int (0 : Int32)), (.ref b)])) (st8) ?_
  refine go (g' := (mkF m 39 #[.val (.ref b), .val (.ref a), .val (.int (1 : Int32))] [(.int (1 : Int32)), (.int (0 : Int32)), (.ref b)])) (fun _ k => XS.iloadN W8.here hx rfl (hb hby d18_38) rfl k) ?_
  refine go (g' := (mkF m 40 #[.val (.ref b), .val (.ref a), .val (.int (1 : Int32))] [(.int ((0 : Int32) + (1 : Int32))), (.ref b)])) (fun _ k => XS.iadd W8.here hx rfl (hb hby d18_39) rfl k) ?_
  rw [show ((0 : Int32) + (1 : Int32)) = (1 : Int32) from by decide]
  have f9 : Exa Z h5 b "java/lang/StringBuilder" := Eb.keep K5
  obtain ⟨T10, h10, W10, R10, F10, st10⟩ := own_put W8 hx (host := "") (Or.inl (w156 C)) Via.refl f7 f9 (Or.inl (w157 C)) (w119 C) (ty := .int) (by decide) rfl rfl (own_safeE W8 f9 (by decide) (by decide)) (by omega) (g := (mkF m 40 #[.val (.ref b), .val (.ref a), .val (.int (1 : Int32))] [(.int (1 : Int32)), (.ref b)])) rfl rfl (hb hby d18_40)
  have f11 : Fld Z h5 b "java/lang/AbstractStringBuilder" "value" "[B" (.ref t) := Fv.keep K5 (ninS nbt nin0)
  have f12 : Fld Z h5 b "java/lang/AbstractStringBuilder" "coder" "B" (.int (0 : Int32)) := Fc.keep K5 (ninS nbt nin0)
  have z13 : h10.size = h5.size := R10.size
  have f14 : Exa Z h10 b "java/lang/StringBuilder" := f9.wr R10
  have f15 : Fld Z h10 b "java/lang/AbstractStringBuilder" "value" "[B" (.ref t) := f11.other R10 (Or.inr (slot_ne (Or.inl (w133 C)) (Or.inl (w157 C)) (by decide) (t := (.array .byte)) (t' := .int) (by decide) (by decide)))
  have f16 : Fld Z h10 b "java/lang/AbstractStringBuilder" "coder" "B" (.int (0 : Int32)) := f12.other R10 (Or.inr (slot_ne (Or.inl (w135 C)) (Or.inl (w157 C)) (by decide) (t := .byte) (t' := .int) (by decide) (by decide)))
  have S10_t : Safe Z own_EL vm5 h10 t := Safe.wr R10 (own_safeE W8 f9 (by decide) (by decide)) W8.ch S5_t
  refine go (g' := (mkF m 43 #[.val (.ref b), .val (.ref a), .val (.int (1 : Int32))] [])) (st10) ?_
  refine go (g' := (mkF m 44 #[.val (.ref b), .val (.ref a), .val (.int (1 : Int32))] [(.ref b)])) (fun _ k => XS.aloadN W10.here hx rfl (hb hby d18_43) rfl rfl k) ?_
  have KK17 : Keep h0 h10 [b, t] := (((Keep.refl h0 [b, t]).trans K5 (allS (Or.inl (List.mem_of_getElem? (i := 1) rfl)) all0)).wr R10 (Or.inl (List.mem_of_getElem? (i := 0) rfl)))
  have f18 : Arv Z h10 t kt .byte (16 : Int32) [(.int c1.toInt8.toInt32), (.int o2), (.int o3), (.int o4), (.int o5), (.int o6), (.int o7), (.int o8), (.int o9), (.int o10), (.int o11), (.int o12), (.int o13), (.int o14), (.int o15), (.int o16)] (.int (0 : Int32)) := V5.other R10 (Ne.symm nbt)
  exact fin (v := some (.ref b)) (so := []) W10 (nle rfl) (nle rfl) (⟨rfl, KK17, f14, f15, f16, F10, f18⟩) (fun _ q => nomatch q) (fun q => nomatch q) (own_retA W10 hx hret rfl rfl rfl (hb hby d18_44))
set_option maxRecDepth 65536 in
set_option maxHeartbeats 40000000 in
theorem rm_sbapp0_1_16 {l : Launch} {Z : State} {a0 : Array Value} (C : Cx Z a0) (h0 : Heap) (a : Addr) (c1 : Int32) (Sa : Str Z h0 a [c1]) (b t : Addr) (kt : ClassId) (o1 o2 o3 o4 o5 o6 o7 o8 o9 o10 o11 o12 o13 o14 o15 o16 : Int32) (Eb : Exa Z h0 b "java/lang/StringBuilder") (Fv : Fld Z h0 b "java/lang/AbstractStringBuilder" "value" "[B" (.ref t)) (Fc : Fld Z h0 b "java/lang/AbstractStringBuilder" "coder" "B" (.int (0 : Int32))) (Fn : Fld Z h0 b "java/lang/AbstractStringBuilder" "count" "I" (.int (0 : Int32))) (Vt : Arv Z h0 t kt .byte (16 : Int32) [(.int o1), (.int o2), (.int o3), (.int o4), (.int o5), (.int o6), (.int o7), (.int o8), (.int o9), (.int o10), (.int o11), (.int o12), (.int o13), (.int o14), (.int o15), (.int o16)] (.int (0 : Int32))) (nb : Z.heap.size ≤ b) (nt : Z.heap.size ≤ t) :
    Ct l Z a0 own_EL (⟨"java/lang/StringBuilder", "append", "(Ljava/lang/String;)Ljava/lang/StringBuilder;"⟩ : MethodName) jdk_67_method_7_code 2 (Option.some (Jvm.ClassFile.FieldType.object "java/lang/StringBuilder")) [] ({ frames := 4, cells := 0, slots := 0, locals := 73 } : Room) #[(.ref b), (.ref a)] h0 [t] (fun v h so => v = some (.ref b) ∧ Keep h0 h [b, t] ∧ Exa Z h b "java/lang/StringBuilder" ∧ Fld Z h b "java/lang/AbstractStringBuilder" "value" "[B" (.ref t) ∧ Fld Z h b "java/lang/AbstractStringBuilder" "coder" "B" (.int (0 : Int32)) ∧ Fld Z h b "java/lang/AbstractStringBuilder" "count" "I" (.int (1 : Int32)) ∧ Arv Z h t kt .byte (16 : Int32) [(.int c1.toInt8.toInt32), (.int o2), (.int o3), (.int o4), (.int o5), (.int o6), (.int o7), (.int o8), (.int o9), (.int o10), (.int o11), (.int o12), (.int o13), (.int o14), (.int o15), (.int o16)] (.int (0 : Int32))) := by
  refine own_enter (plainFor_of_name pn_7) C.ew (F0 := fun m => mkF m 0 #[.val (.ref b), .val (.ref a)] []) (fun m => by first | (simp [entryFrame, mkF, argsToLocals, Value.category]; done) | rfl) ?_
  intro p e s m below meth c s₁ G hx hby hml hret hnm W0 S0 go fin
  have z0 : Z.heap.size ≤ h0.size := W0.sz
  show G s₁ (mkF m 0 #[.val (.ref b), .val (.ref a)] [])
  have lt : @LT.lt Nat _ t h0.size := Vt.lt
  have lb : @LT.lt Nat _ b h0.size := Eb.lt
  have nbt : b ≠ t := own_neBA Eb Vt (w119 C)
  refine go (g' := (mkF m 1 #[.val (.ref b), .val (.ref a)] [(.ref b)])) (fun _ k => XS.aloadN W0.here hx rfl (hb hby d19_0) rfl rfl k) ?_
  refine go (g' := (mkF m 2 #[.val (.ref b), .val (.ref a)] [(.ref a), (.ref b)])) (fun _ k => XS.aloadN W0.here hx rfl (hb hby d19_1) rfl rfl k) ?_
  obtain ⟨v1, so1, vm1, T1, h1, W1, C1, q1, hso1, st1⟩ := own_super W0 hx (y := (⟨"java/lang/AbstractStringBuilder", "append", "(Ljava/lang/String;)Ljava/lang/AbstractStringBuilder;"⟩ : MethodName)) (w141 C) (own_sameM (y := (⟨"java/lang/AbstractStringBuilder", "append", "(Ljava/lang/String;)Ljava/lang/AbstractStringBuilder;"⟩ : MethodName)) (w144 C) (w161 C) rfl (by decide)) (w142 C) (w143 C) (by decide) (w128 C) (w145 C) (Ins.self Eb) (rm_asbapp0_1_16 C h0 a c1 Sa b t kt o1 o2 o3 o4 o5 o6 o7 o8 o9 o10 o11 o12 o13 o14 o15 o16 Eb Fv Fc Fn Vt (by omega) (by omega)) (allS (S0 _ (List.mem_of_getElem? (i := 0) rfl)) all0) (Wd := 0) (nle rfl) (nle rfl) (nle rfl) (nle rfl) (g := (mkF m 2 #[.val (.ref b), .val (.ref a)] [(.ref a), (.ref b)])) rfl (by rw [hml]; rfl) (argsL := [(.ref a)]) (rest := []) (lenOf pd_10 rfl) rfl rfl (by show 2 * 0 + _ ≤ _; exact Nat.le_of_eq rfl) (hb hby d19_2)
  obtain ⟨rfl, K1, E1, Fv1, Fc1, Fn1, V1⟩ := q1
  have z2 : h0.size ≤ h1.size := K1.1
  have S1_t : Safe Z own_EL vm1 h1 t := C1.safe (olt (by omega)) (S0 _ (List.mem_of_getElem? (i := 0) rfl))
  refine go (g' := (mkF m 5 #[.val (.ref b), .val (.ref a)] [(.ref b)])) (st1) ?_
  refine go (g' := (mkF m 6 #[.val (.ref b), .val (.ref a)] [])) (fun _ k => XS.pop W1.here hx rfl (hb hby d19_5) rfl rfl k) ?_
  refine go (g' := (mkF m 7 #[.val (.ref b), .val (.ref a)] [(.ref b)])) (fun _ k => XS.aloadN W1.here hx rfl (hb hby d19_6) rfl rfl k) ?_
  have KK3 : Keep h0 h1 [b, t] := ((Keep.refl h0 [b, t]).trans K1 (allS (Or.inl (List.mem_of_getElem? (i := 0) rfl)) (allS (Or.inl (List.mem_of_getElem? (i := 1) rfl)) all0)))
  exact fin (v := some (.ref b)) (so := []) W1 (nle rfl) (nle rfl) (⟨rfl, KK3, E1, Fv1, Fc1, Fn1, V1⟩) (fun _ q => nomatch q) (fun q => nomatch q) (own_retA W1 hx hret rfl rfl rfl (hb hby d19_7))
set_option maxRecDepth 65536 in
set_option maxHeartbeats 40000000 in
theorem rm_ens2_16 {l : Launch} {Z : State} {a0 : Array Value} (C : Cx Z a0) (h0 : Heap) (b t : Addr) (kt : ClassId) (vs : List Value) (Fv : Fld Z h0 b "java/lang/AbstractStringBuilder" "value" "[B" (.ref t)) (Fc : Fld Z h0 b "java/lang/AbstractStringBuilder" "coder" "B" (.int (0 : Int32))) (Vt : Arv Z h0 t kt .byte (16 : Int32) vs (.int (0 : Int32))) :
    Ct l Z a0 own_EL (⟨"java/lang/AbstractStringBuilder", "ensureCapacityInternal", "(I)V"⟩ : MethodName) jdk_68_method_9_code 3 (Option.none : Option Jvm.ClassFile.FieldType) [] ({ frames := 0, cells := 0, slots := 0, locals := 0 } : Room) #[(.ref b), (.int (2 : Int32))] h0 [] (fun v h so => v = none ∧ h0 = h) := by
  refine own_enter (plainFor_of_name pn_6) C.ew (F0 := fun m => mkF m 0 #[.val (.ref b), .val (.int (2 : Int32)), .unset] []) (fun m => by first | (simp [entryFrame, mkF, argsToLocals, Value.category]; done) | rfl) ?_
  intro p e s m below meth c s₁ G hx hby hml hret hnm W0 S0 go fin
  have z0 : Z.heap.size ≤ h0.size := W0.sz
  show G s₁ (mkF m 0 #[.val (.ref b), .val (.int (2 : Int32)), .unset] [])
  refine go (g' := (mkF m 1 #[.val (.ref b), .val (.int (2 : Int32)), .unset] [(.ref b)])) (fun _ k => XS.aloadN W0.here hx rfl (hb hby d14_0) rfl rfl k) ?_
  obtain ⟨T1, W1, st1⟩ := own_get W0 hx (host := "") (Or.inl (w132 C)) Via.refl Fv (g := (mkF m 1 #[.val (.ref b), .val (.int (2 : Int32)), .unset] [(.ref b)])) rfl rfl (hb hby d14_1)
  refine go (g' := (mkF m 4 #[.val (.ref b), .val (.int (2 : Int32)), .unset] [(.ref t)])) (st1) ?_
  refine go (g' := (mkF m 5 #[.val (.ref b), .val (.int (2 : Int32)), .unset] [(.int (16 : Int32))])) (own_alen W1 hx Vt (g := (mkF m 4 #[.val (.ref b), .val (.int (2 : Int32)), .unset] [(.ref t)])) rfl rfl (hb hby d14_4)) ?_
  refine go (g' := (mkF m 6 #[.val (.ref b), .val (.int (2 : Int32)), .unset] [(.ref b), (.int (16 : Int32))])) (fun _ k => XS.aloadN W1.here hx rfl (hb hby d14_5) rfl rfl k) ?_
  obtain ⟨T2, W2, st2⟩ := own_get W1 hx (host := "") (Or.inl (w134 C)) Via.refl Fc (g := (mkF m 6 #[.val (.ref b), .val (.int (2 : Int32)), .unset] [(.ref b), (.int (16 : Int32))])) rfl rfl (hb hby d14_6)
  refine go (g' := (mkF m 9 #[.val (.ref b), .val (.int (2 : Int32)), .unset] [(.int (0 : Int32)), (.int (16 : Int32))])) (st2) ?_
  refine go (g' := (mkF m 10 #[.val (.ref b), .val (.int (2 : Int32)), .unset] [(.int ((16 : Int32) >>> ((0 : Int32) &&& 31)))])) (fun _ k => XS.ishr W2.here hx rfl (hb hby d14_9) rfl k) ?_
  rw [show ((16 : Int32) >>> ((0 : Int32) &&& 31)) = (16 : Int32) from by decide]
  refine go (g' := (mkF m 11 #[.val (.ref b), .val (.int (2 : Int32)), .val (.int (16 : Int32))] [])) (fun _ k => XS.istoreN W2.here hx rfl (hb hby d14_10) rfl (l' := #[.val (.ref b), .val (.int (2 : Int32)), .val (.int (16 : Int32))]) rfl k) ?_
  refine go (g' := (mkF m 12 #[.val (.ref b), .val (.int (2 : Int32)), .val (.int (16 : Int32))] [(.int (2 : Int32))])) (fun _ k => XS.iloadN W2.here hx rfl (hb hby d14_11) rfl k) ?_
  refine go (g' := (mkF m 13 #[.val (.ref b), .val (.int (2 : Int32)), .val (.int (16 : Int32))] [(.int (16 : Int32)), (.int (2 : Int32))])) (fun _ k => XS.iloadN W2.here hx rfl (hb hby d14_12) rfl k) ?_
  refine go (g' := (mkF m 14 #[.val (.ref b), .val (.int (2 : Int32)), .val (.int (16 : Int32))] [(.int ((2 : Int32) - (16 : Int32)))])) (fun _ k => XS.isub W2.here hx rfl (hb hby d14_13) rfl k) ?_
  rw [show ((2 : Int32) - (16 : Int32)) = (-14 : Int32) from by decide]
  refine go (g' := (mkF m 38 #[.val (.ref b), .val (.int (2 : Int32)), .val (.int (16 : Int32))] [])) (fun _ k => XS.ifYes W2.here hx rfl (pc0 := 14) (pc' := 38) rfl (hb hby d14_14) rfl ((if0 _ _).trans (flt ((by decide) : ¬ ((0 : Int32) < (-14 : Int32)))).2.2.2) (by decide) (by decide) k) ?_
  exact fin (v := none) (so := []) W2 (nle rfl) (nle rfl) (⟨rfl, rfl⟩) (fun _ q => nomatch q) (fun _ => rfl) (own_retV W2 hx hret (hb hby d14_38))
set_option maxRecDepth 65536 in
set_option maxHeartbeats 40000000 in
theorem rm_gb1_1_16 {l : Launch} {Z : State} {a0 : Array Value} (C : Cx Z a0) (h0 : Heap) (a : Addr) (c1 : Int32) (Sa : Str Z h0 a [c1]) (t : Addr) (kt : ClassId) (o1 o2 o3 o4 o5 o6 o7 o8 o9 o10 o11 o12 o13 o14 o15 o16 : Int32) (Vt : Arv Z h0 t kt .byte (16 : Int32) [(.int o1), (.int o2), (.int o3), (.int o4), (.int o5), (.int o6), (.int o7), (.int o8), (.int o9), (.int o10), (.int o11), (.int o12), (.int o13), (.int o14), (.int o15), (.int o16)] (.int (0 : Int32))) (nt : Z.heap.size ≤ t) :
    Ct l Z a0 own_EL (⟨"java/lang/String", "getBytes", "([BIB)V"⟩ : MethodName) jdk_42_method_147_code 4 (Option.none : Option Jvm.ClassFile.FieldType) [] ({ frames := 1, cells := 0, slots := 0, locals := 30 } : Room) #[(.ref a), (.ref t), (.int (1 : Int32)), (.int (0 : Int32))] h0 [t] (fun v h so => v = none ∧ Keep h0 h [t] ∧ Arv Z h t kt .byte (16 : Int32) [(.int o1), (.int c1.toInt8.toInt32), (.int o3), (.int o4), (.int o5), (.int o6), (.int o7), (.int o8), (.int o9), (.int o10), (.int o11), (.int o12), (.int o13), (.int o14), (.int o15), (.int o16)] (.int (0 : Int32))) := by
  refine own_enter (plainFor_of_name pn_1) C.ew (F0 := fun m => mkF m 0 #[.val (.ref a), .val (.ref t), .val (.int (1 : Int32)), .val (.int (0 : Int32))] []) (fun m => by first | (simp [entryFrame, mkF, argsToLocals, Value.category]; done) | rfl) ?_
  intro p e s m below meth c s₁ G hx hby hml hret hnm W0 S0 go fin
  have z0 : Z.heap.size ≤ h0.size := W0.sz
  show G s₁ (mkF m 0 #[.val (.ref a), .val (.ref t), .val (.int (1 : Int32)), .val (.int (0 : Int32))] [])
  have lt : @LT.lt Nat _ t h0.size := Vt.lt
  obtain ⟨sE1, sC1, sP1, t1, k1, sV1, sK1⟩ := Sa
  have sA1 : Arv Z h0 t1 k1 .byte (1 : Int32) [(.int c1.toInt8.toInt32)] (.int (0 : Int32)) := sK1
  refine go (g' := (mkF m 1 #[.val (.ref a), .val (.ref t), .val (.int (1 : Int32)), .val (.int (0 : Int32))] [(.ref a)])) (fun _ k => XS.aloadN W0.here hx rfl (hb hby d16_0) rfl rfl k) ?_
  obtain ⟨v2, so2, vm2, T2, h2, W2, C2, q2, hso2, st2⟩ := own_virtual W0 hx (y := (⟨"java/lang/String", "coder", "()B"⟩ : MethodName)) (z := (⟨"java/lang/String", "coder", "()B"⟩ : MethodName)) (w151 C) (w152 C) (w154 C) (w153 C) (w2 C) (w155 C) (by decide) (own_nf W0 (w154 C)) sE1 (rm_coder C h0 a sC1) (fun _ q => nomatch q) (Wd := 0) (nle rfl) (nle rfl) (nle rfl) (nle rfl) (g := (mkF m 1 #[.val (.ref a), .val (.ref t), .val (.int (1 : Int32)), .val (.int (0 : Int32))] [(.ref a)])) rfl (by rw [hml]; rfl) (argsL := []) (rest := []) (lenOf pd_6 rfl) rfl rfl (by show 2 * 0 + _ ≤ _; exact Nat.le_of_eq rfl) (hb hby d16_1)
  obtain ⟨rfl, rfl⟩ := q2
  have S2_t : Safe Z own_EL vm2 h0 t := C2.safe (olt (by omega)) (S0 _ (List.mem_of_getElem? (i := 0) rfl))
  refine go (g' := (mkF m 4 #[.val (.ref a), .val (.ref t), .val (.int (1 : Int32)), .val (.int (0 : Int32))] [(.int (0 : Int32))])) (st2) ?_
  refine go (g' := (mkF m 5 #[.val (.ref a), .val (.ref t), .val (.int (1 : Int32)), .val (.int (0 : Int32))] [(.int (0 : Int32)), (.int (0 : Int32))])) (fun _ k => XS.iloadN W2.here hx rfl (hb hby d16_4) rfl k) ?_
  refine go (g' := (mkF m 8 #[.val (.ref a), .val (.ref t), .val (.int (1 : Int32)), .val (.int (0 : Int32))] [])) (fun _ k => XS.icmpNo W2.here hx rfl (hb hby d16_5) rfl (teq ((by decide) : (0 : Int32) = (0 : Int32))).2 k) ?_
  refine go (g' := (mkF m 9 #[.val (.ref a), .val (.ref t), .val (.int (1 : Int32)), .val (.int (0 : Int32))] [(.ref a)])) (fun _ k => XS.aloadN W2.here hx rfl (hb hby d16_8) rfl rfl k) ?_
  obtain ⟨T3, W3, st3⟩ := own_get W2 hx (host := "") (Or.inl (w28 C)) Via.refl sV1 (g := (mkF m 9 #[.val (.ref a), .val (.ref t), .val (.int (1 : Int32)), .val (.int (0 : Int32))] [(.ref a)])) rfl rfl (hb hby d16_9)
  refine go (g' := (mkF m 12 #[.val (.ref a), .val (.ref t), .val (.int (1 : Int32)), .val (.int (0 : Int32))] [(.ref t1)])) (st3) ?_
  refine go (g' := (mkF m 13 #[.val (.ref a), .val (.ref t), .val (.int (1 : Int32)), .val (.int (0 : Int32))] [(.int (0 : Int32)), (.ref t1)])) (fun _ k => XS.iconst W3.here hx rfl (hb hby d16_12) k) ?_
  refine go (g' := (mkF m 14 #[.val (.ref a), .val (.ref t), .val (.int (1 : Int32)), .val (.int (0 : Int32))] [(.ref t), (.int (0 : Int32)), (.ref t1)])) (fun _ k => XS.aloadN W3.here hx rfl (hb hby d16_13) rfl rfl k) ?_
  refine go (g' := (mkF m 15 #[.val (.ref a), .val (.ref t), .val (.int (1 : Int32)), .val (.int (0 : Int32))] [(.int (1 : Int32)), (.ref t), (.int (0 : Int32)), (.ref t1)])) (fun _ k => XS.iloadN W3.here hx rfl (hb hby d16_14) rfl k) ?_
  refine go (g' := (mkF m 16 #[.val (.ref a), .val (.ref t), .val (.int (1 : Int32)), .val (.int (0 : Int32))] [(.int (0 : Int32)), (.int (1 : Int32)), (.ref t), (.int (0 : Int32)), (.ref t1)])) (fun _ k => XS.iloadN W3.here hx rfl (hb hby d16_15) rfl k) ?_
  refine go (g' := (mkF m 17 #[.val (.ref a), .val (.ref t), .val (.int (1 : Int32)), .val (.int (0 : Int32))] [(.int ((1 : Int32) <<< ((0 : Int32) &&& 31))), (.ref t), (.int (0 : Int32)), (.ref t1)])) (fun _ k => XS.ishl W3.here hx rfl (hb hby d16_16) rfl k) ?_
  rw [show ((1 : Int32) <<< ((0 : Int32) &&& 31)) = (1 : Int32) from by decide]
  refine go (g' := (mkF m 18 #[.val (.ref a), .val (.ref t), .val (.int (1 : Int32)), .val (.int (0 : Int32))] [(.ref a), (.int (1 : Int32)), (.ref t), (.int (0 : Int32)), (.ref t1)])) (fun _ k => XS.aloadN W3.here hx rfl (hb hby d16_17) rfl rfl k) ?_
  obtain ⟨T4, W4, st4⟩ := own_get W3 hx (host := "") (Or.inl (w28 C)) Via.refl sV1 (g := (mkF m 18 #[.val (.ref a), .val (.ref t), .val (.int (1 : Int32)), .val (.int (0 : Int32))] [(.ref a), (.int (1 : Int32)), (.ref t), (.int (0 : Int32)), (.ref t1)])) rfl rfl (hb hby d16_18)
  refine go (g' := (mkF m 21 #[.val (.ref a), .val (.ref t), .val (.int (1 : Int32)), .val (.int (0 : Int32))] [(.ref t1), (.int (1 : Int32)), (.ref t), (.int (0 : Int32)), (.ref t1)])) (st4) ?_
  refine go (g' := (mkF m 22 #[.val (.ref a), .val (.ref t), .val (.int (1 : Int32)), .val (.int (0 : Int32))] [(.int (1 : Int32)), (.int (1 : Int32)), (.ref t), (.int (0 : Int32)), (.ref t1)])) (own_alen W4 hx sA1 (g := (mkF m 21 #[.val (.ref a), .val (.ref t), .val (.int (1 : Int32)), .val (.int (0 : Int32))] [(.ref t1), (.int (1 : Int32)), (.ref t), (.int (0 : Int32)), (.ref t1)])) rfl rfl (hb hby d16_21)) ?_
  obtain ⟨T5, h5, W5, K5, V5, st5⟩ := own_cp W4 hx (w179 C) (w182 C) (w180 C) (w181 C) sA1 Vt rfl S2_t (sp := (0 : Int32)) (dp := (1 : Int32)) (nn := (1 : Int32)) (by decide) (by decide) (by decide) (by decide) (by decide) (us := [(.int c1.toInt8.toInt32)]) rfl (Nat.le_of_ble_eq_true rfl) (by omega) (g := (mkF m 22 #[.val (.ref a), .val (.ref t), .val (.int (1 : Int32)), .val (.int (0 : Int32))] [(.int (1 : Int32)), (.int (1 : Int32)), (.ref t), (.int (0 : Int32)), (.ref t1)])) rfl (by rw [hml]; rfl) rfl (hb hby d16_22) (nle rfl) (Wd := 0) (by show 2 * 0 + _ ≤ _; exact Nat.le_of_eq rfl) (nle rfl)
  have z6 : h0.size ≤ h5.size := K5.1
  have U5 : Arv Z h5 t kt .byte (16 : Int32) [(.int o1), (.int c1.toInt8.toInt32), (.int o3), (.int o4), (.int o5), (.int o6), (.int o7), (.int o8), (.int o9), (.int o10), (.int o11), (.int o12), (.int o13), (.int o14), (.int o15), (.int o16)] (.int (0 : Int32)) := V5
  have S5_t : Safe Z own_EL vm2 h5 t := Safe.keep K5 (allS S2_t all0) W4.ch S2_t
  refine go (g' := (mkF m 25 #[.val (.ref a), .val (.ref t), .val (.int (1 : Int32)), .val (.int (0 : Int32))] [])) (st5) ?_
  refine go (g' := (mkF m 43 #[.val (.ref a), .val (.ref t), .val (.int (1 : Int32)), .val (.int (0 : Int32))] [])) (fun _ k => XS.goto W5.here hx rfl (pc0 := 25) (pc' := 43) rfl (hb hby d16_25) (by decide) (by decide) k) ?_
  have KK7 : Keep h0 h5 [t] := ((Keep.refl h0 [t]).trans K5 (allS (Or.inl (List.mem_of_getElem? (i := 0) rfl)) all0))
  exact fin (v := none) (so := []) W5 (nle rfl) (nle rfl) (⟨rfl, KK7, U5⟩) (fun _ q => nomatch q) (fun _ => rfl) (own_retV W5 hx hret (hb hby d16_43))
set_option maxRecDepth 65536 in
set_option maxHeartbeats 40000000 in
theorem rm_psa1_1_16 {l : Launch} {Z : State} {a0 : Array Value} (C : Cx Z a0) (h0 : Heap) (a : Addr) (c1 : Int32) (Sa : Str Z h0 a [c1]) (b t : Addr) (kt : ClassId) (o1 o2 o3 o4 o5 o6 o7 o8 o9 o10 o11 o12 o13 o14 o15 o16 : Int32) (Eb : Exa Z h0 b "java/lang/StringBuilder") (Fv : Fld Z h0 b "java/lang/AbstractStringBuilder" "value" "[B" (.ref t)) (Fc : Fld Z h0 b "java/lang/AbstractStringBuilder" "coder" "B" (.int (0 : Int32))) (Fn : Fld Z h0 b "java/lang/AbstractStringBuilder" "count" "I" (.int (1 : Int32))) (Vt : Arv Z h0 t kt .byte (16 : Int32) [(.int o1), (.int o2), (.int o3), (.int o4), (.int o5), (.int o6), (.int o7), (.int o8), (.int o9), (.int o10), (.int o11), (.int o12), (.int o13), (.int o14), (.int o15), (.int o16)] (.int (0 : Int32))) (nb : Z.heap.size ≤ b) (nt : Z.heap.size ≤ t) :
    Ct l Z a0 own_EL (⟨"java/lang/AbstractStringBuilder", "putStringAt", "(ILjava/lang/String;)V"⟩ : MethodName) jdk_68_method_73_code 3 (Option.none : Option Jvm.ClassFile.FieldType) [] ({ frames := 2, cells := 0, slots := 0, locals := 45 } : Room) #[(.ref b), (.int (1 : Int32)), (.ref a)] h0 [t] (fun v h so => v = none ∧ Keep h0 h [t] ∧ Arv Z h t kt .byte (16 : Int32) [(.int o1), (.int c1.toInt8.toInt32), (.int o3), (.int o4), (.int o5), (.int o6), (.int o7), (.int o8), (.int o9), (.int o10), (.int o11), (.int o12), (.int o13), (.int o14), (.int o15), (.int o16)] (.int (0 : Int32))) := by
  refine own_enter (plainFor_of_name pn_6) C.ew (F0 := fun m => mkF m 0 #[.val (.ref b), .val (.int (1 : Int32)), .val (.ref a)] []) (fun m => by first | (simp [entryFrame, mkF, argsToLocals, Value.category]; done) | rfl) ?_
  intro p e s m below meth c s₁ G hx hby hml hret hnm W0 S0 go fin
  have z0 : Z.heap.size ≤ h0.size := W0.sz
  show G s₁ (mkF m 0 #[.val (.ref b), .val (.int (1 : Int32)), .val (.ref a)] [])
  have lt : @LT.lt Nat _ t h0.size := Vt.lt
  refine go (g' := (mkF m 1 #[.val (.ref b), .val (.int (1 : Int32)), .val (.ref a)] [(.ref b)])) (fun _ k => XS.aloadN W0.here hx rfl (hb hby d17_0) rfl rfl k) ?_
  refine go (g' := (mkF m 2 #[.val (.ref b), .val (.int (1 : Int32)), .val (.ref a)] [(.ref a), (.ref b)])) (fun _ k => XS.aloadN W0.here hx rfl (hb hby d17_1) rfl rfl k) ?_
  obtain ⟨v1, so1, vm1, T1, h1, W1, C1, q1, hso1, st1⟩ := own_virtual W0 hx (y := (⟨"java/lang/AbstractStringBuilder", "inflateIfNeededFor", "(Ljava/lang/String;)V"⟩ : MethodName)) (z := (⟨"java/lang/AbstractStringBuilder", "inflateIfNeededFor", "(Ljava/lang/String;)V"⟩ : MethodName)) (w168 C) (own_decl (w169 C) (w172 C)) (w171 C) (w169 C) (w128 C) (w172 C) (by decide) (own_nf W0 (w171 C)) Eb (rm_infl C h0 b a Fc Sa.1 Sa.2.1) (fun _ q => nomatch q) (Wd := 0) (nle rfl) (nle rfl) (nle rfl) (nle rfl) (g := (mkF m 2 #[.val (.ref b), .val (.int (1 : Int32)), .val (.ref a)] [(.ref a), (.ref b)])) rfl (by rw [hml]; rfl) (argsL := [(.ref a)]) (rest := []) (lenOf pd_7 rfl) rfl rfl (by show 2 * 0 + _ ≤ _; exact Nat.le_of_eq rfl) (hb hby d17_2)
  obtain ⟨rfl, rfl⟩ := q1
  have S1_t : Safe Z own_EL vm1 h0 t := C1.safe (olt (by omega)) (S0 _ (List.mem_of_getElem? (i := 0) rfl))
  refine go (g' := (mkF m 5 #[.val (.ref b), .val (.int (1 : Int32)), .val (.ref a)] [])) (st1) ?_
  refine go (g' := (mkF m 6 #[.val (.ref b), .val (.int (1 : Int32)), .val (.ref a)] [(.ref a)])) (fun _ k => XS.aloadN W1.here hx rfl (hb hby d17_5) rfl rfl k) ?_
  refine go (g' := (mkF m 7 #[.val (.ref b), .val (.int (1 : Int32)), .val (.ref a)] [(.ref b), (.ref a)])) (fun _ k => XS.aloadN W1.here hx rfl (hb hby d17_6) rfl rfl k) ?_
  obtain ⟨T2, W2, st2⟩ := own_get W1 hx (host := "") (Or.inl (w132 C)) Via.refl Fv (g := (mkF m 7 #[.val (.ref b), .val (.int (1 : Int32)), .val (.ref a)] [(.ref b), (.ref a)])) rfl rfl (hb hby d17_7)
  refine go (g' := (mkF m 10 #[.val (.ref b), .val (.int (1 : Int32)), .val (.ref a)] [(.ref t), (.ref a)])) (st2) ?_
  refine go (g' := (mkF m 11 #[.val (.ref b), .val (.int (1 : Int32)), .val (.ref a)] [(.int (1 : Int32)), (.ref t), (.ref a)])) (fun _ k => XS.iloadN W2.here hx rfl (hb hby d17_10) rfl k) ?_
  refine go (g' := (mkF m 12 #[.val (.ref b), .val (.int (1 : Int32)), .val (.ref a)] [(.ref b), (.int (1 : Int32)), (.ref t), (.ref a)])) (fun _ k => XS.aloadN W2.here hx rfl (hb hby d17_11) rfl rfl k) ?_
  obtain ⟨T3, W3, st3⟩ := own_get W2 hx (host := "") (Or.inl (w134 C)) Via.refl Fc (g := (mkF m 12 #[.val (.ref b), .val (.int (1 : Int32)), .val (.ref a)] [(.ref b), (.int (1 : Int32)), (.ref t), (.ref a)])) rfl rfl (hb hby d17_12)
  refine go (g' := (mkF m 15 #[.val (.ref b), .val (.int (1 : Int32)), .val (.ref a)] [(.int (0 : Int32)), (.int (1 : Int32)), (.ref t), (.ref a)])) (st3) ?_
  obtain ⟨v4, so4, vm4, T4, h4, W4, C4, q4, hso4, st4⟩ := own_virtual W3 hx (y := (⟨"java/lang/String", "getBytes", "([BIB)V"⟩ : MethodName)) (z := (⟨"java/lang/String", "getBytes", "([BIB)V"⟩ : MethodName)) (w174 C) (w175 C) (w177 C) (w176 C) (w2 C) (w178 C) (by decide) (own_nf W3 (w177 C)) Sa.1 (rm_gb1_1_16 C h0 a c1 Sa t kt o1 o2 o3 o4 o5 o6 o7 o8 o9 o10 o11 o12 o13 o14 o15 o16 Vt (by omega)) (allS S1_t all0) (Wd := 0) (nle rfl) (nle rfl) (nle rfl) (nle rfl) (g := (mkF m 15 #[.val (.ref b), .val (.int (1 : Int32)), .val (.ref a)] [(.int (0 : Int32)), (.int (1 : Int32)), (.ref t), (.ref a)])) rfl (by rw [hml]; rfl) (argsL := [(.ref t), (.int (1 : Int32)), (.int (0 : Int32))]) (rest := []) (lenOf pd_8 rfl) rfl rfl (by show 2 * 0 + _ ≤ _; exact Nat.le_of_eq rfl) (hb hby d17_15)
  obtain ⟨rfl, K4, V4⟩ := q4
  have z5 : h0.size ≤ h4.size := K4.1
  have S4_t : Safe Z own_EL vm4 h4 t := C4.safe (olt (by omega)) S1_t
  refine go (g' := (mkF m 18 #[.val (.ref b), .val (.int (1 : Int32)), .val (.ref a)] [])) (st4) ?_
  have KK6 : Keep h0 h4 [t] := ((Keep.refl h0 [t]).trans K4 (allS (Or.inl (List.mem_of_getElem? (i := 0) rfl)) all0))
  exact fin (v := none) (so := []) W4 (nle rfl) (nle rfl) (⟨rfl, KK6, V4⟩) (fun _ q => nomatch q) (fun _ => rfl) (own_retV W4 hx hret (hb hby d17_18))
set_option maxRecDepth 65536 in
set_option maxHeartbeats 40000000 in
theorem rm_asbapp1_1_16 {l : Launch} {Z : State} {a0 : Array Value} (C : Cx Z a0) (h0 : Heap) (a : Addr) (c1 : Int32) (Sa : Str Z h0 a [c1]) (b t : Addr) (kt : ClassId) (o1 o2 o3 o4 o5 o6 o7 o8 o9 o10 o11 o12 o13 o14 o15 o16 : Int32) (Eb : Exa Z h0 b "java/lang/StringBuilder") (Fv : Fld Z h0 b "java/lang/AbstractStringBuilder" "value" "[B" (.ref t)) (Fc : Fld Z h0 b "java/lang/AbstractStringBuilder" "coder" "B" (.int (0 : Int32))) (Fn : Fld Z h0 b "java/lang/AbstractStringBuilder" "count" "I" (.int (1 : Int32))) (Vt : Arv Z h0 t kt .byte (16 : Int32) [(.int o1), (.int o2), (.int o3), (.int o4), (.int o5), (.int o6), (.int o7), (.int o8), (.int o9), (.int o10), (.int o11), (.int o12), (.int o13), (.int o14), (.int o15), (.int o16)] (.int (0 : Int32))) (nb : Z.heap.size ≤ b) (nt : Z.heap.size ≤ t) :
    Ct l Z a0 own_EL (⟨"java/lang/AbstractStringBuilder", "append", "(Ljava/lang/String;)Ljava/lang/AbstractStringBuilder;"⟩ : MethodName) jdk_68_method_22_code 3 (Option.some (Jvm.ClassFile.FieldType.object "java/lang/AbstractStringBuilder")) [] ({ frames := 3, cells := 0, slots := 0, locals := 59 } : Room) #[(.ref b), (.ref a)] h0 [t] (fun v h so => v = some (.ref b) ∧ Keep h0 h [b, t] ∧ Exa Z h b "java/lang/StringBuilder" ∧ Fld Z h b "java/lang/AbstractStringBuilder" "value" "[B" (.ref t) ∧ Fld Z h b "java/lang/AbstractStringBuilder" "coder" "B" (.int (0 : Int32)) ∧ Fld Z h b "java/lang/AbstractStringBuilder" "count" "I" (.int (2 : Int32)) ∧ Arv Z h t kt .byte (16 : Int32) [(.int o1), (.int c1.toInt8.toInt32), (.int o3), (.int o4), (.int o5), (.int o6), (.int o7), (.int o8), (.int o9), (.int o10), (.int o11), (.int o12), (.int o13), (.int o14), (.int o15), (.int o16)] (.int (0 : Int32))) := by
  refine own_enter (plainFor_of_name pn_6) C.ew (F0 := fun m => mkF m 0 #[.val (.ref b), .val (.ref a), .unset] []) (fun m => by first | (simp [entryFrame, mkF, argsToLocals, Value.category]; done) | rfl) ?_
  intro p e s m below meth c s₁ G hx hby hml hret hnm W0 S0 go fin
  have z0 : Z.heap.size ≤ h0.size := W0.sz
  show G s₁ (mkF m 0 #[.val (.ref b), .val (.ref a), .unset] [])
  have lt : @LT.lt Nat _ t h0.size := Vt.lt
  have lb : @LT.lt Nat _ b h0.size := Eb.lt
  have nbt : b ≠ t := own_neBA Eb Vt (w119 C)
  refine go (g' := (mkF m 1 #[.val (.ref b), .val (.ref a), .unset] [(.ref a)])) (fun _ k => XS.aloadN W0.here hx rfl (hb hby d18_0) rfl rfl k) ?_
  refine go (g' := (mkF m 9 #[.val (.ref b), .val (.ref a), .unset] [])) (fun _ k => XS.ifnonnullYes W0.here hx rfl (pc0 := 1) (pc' := 9) rfl (hb hby d18_1) rfl (by decide) (by decide) k) ?_
  refine go (g' := (mkF m 10 #[.val (.ref b), .val (.ref a), .unset] [(.ref a)])) (fun _ k => XS.aloadN W0.here hx rfl (hb hby d18_9) rfl rfl k) ?_
  obtain ⟨T1, W1, st1⟩ := own_slen W0 hx (own_wln C) (w146 C) (w147 C) (w149 C) (w148 C) (w1 C) Sa C.cs (nle rfl) (Wd := 0) (nle rfl) (nle rfl) (nle rfl) (nle rfl) (g := (mkF m 10 #[.val (.ref b), .val (.ref a), .unset] [(.ref a)])) rfl (by rw [hml]; rfl) rfl (by show 2 * 0 + _ ≤ _; exact Nat.le_of_eq rfl) (hb hby d18_10)
  refine go (g' := (mkF m 13 #[.val (.ref b), .val (.ref a), .unset] [(.int (1 : Int32))])) (st1) ?_
  refine go (g' := (mkF m 14 #[.val (.ref b), .val (.ref a), .val (.int (1 : Int32))] [])) (fun _ k => XS.istoreN W1.here hx rfl (hb hby d18_13) rfl (l' := #[.val (.ref b), .val (.ref a), .val (.int (1 : Int32))]) rfl k) ?_
  refine go (g' := (mkF m 15 #[.val (.ref b), .val (.ref a), .val (.int (1 : Int32))] [(.ref b)])) (fun _ k => XS.aloadN W1.here hx rfl (hb hby d18_14) rfl rfl k) ?_
  refine go (g' := (mkF m 16 #[.val (.ref b), .val (.ref a), .val (.int (1 : Int32))] [(.ref b), (.ref b)])) (fun _ k => XS.aloadN W1.here hx rfl (hb hby d18_15) rfl rfl k) ?_
  obtain ⟨T2, W2, st2⟩ := own_get W1 hx (host := "") (Or.inl (w156 C)) Via.refl Fn (g := (mkF m 16 #[.val (.ref b), .val (.ref a), .val (.int (1 : Int32))] [(.ref b), (.ref b)])) rfl rfl (hb hby d18_16)
  refine go (g' := (mkF m 19 #[.val (.ref b), .val (.ref a), .val (.int (1 : Int32))] [(.int (1 : Int32)), (.ref b)])) (st2) ?_
  refine go (g' := (mkF m 20 #[.val (.ref b), .val (.ref a), .val (.int (1 : Int32))] [(.int (1 : Int32)), (.int (1 : Int32)), (.ref b)])) (fun _ k => XS.iloadN W2.here hx rfl (hb hby d18_19) rfl k) ?_
  refine go (g' := (mkF m 21 #[.val (.ref b), .val (.ref a), .val (.int (1 : Int32))] [(.int ((1 : Int32) + (1 : Int32))), (.ref b)])) (fun _ k => XS.iadd W2.here hx rfl (hb hby d18_20) rfl k) ?_
  rw [show ((1 : Int32) + (1 : Int32)) = (2 : Int32) from by decide]
  obtain ⟨v3, so3, vm3, T3, h3, W3, C3, q3, hso3, st3⟩ := own_virtual W2 hx (y := (⟨"java/lang/AbstractStringBuilder", "ensureCapacityInternal", "(I)V"⟩ : MethodName)) (z := (⟨"java/lang/AbstractStringBuilder", "ensureCapacityInternal", "(I)V"⟩ : MethodName)) (w158 C) (own_decl (w159 C) (w162 C)) (w161 C) (w159 C) (w128 C) (w162 C) (by decide) (own_nf W2 (w161 C)) Eb (rm_ens2_16 C h0 b t kt [(.int o1), (.int o2), (.int o3), (.int o4), (.int o5), (.int o6), (.int o7), (.int o8), (.int o9), (.int o10), (.int o11), (.int o12), (.int o13), (.int o14), (.int o15), (.int o16)] Fv Fc Vt) (fun _ q => nomatch q) (Wd := 0) (nle rfl) (nle rfl) (nle rfl) (nle rfl) (g := (mkF m 21 #[.val (.ref b), .val (.ref a), .val (.int (1 : Int32))] [(.int (2 : Int32)), (.ref b)])) rfl (by rw [hml]; rfl) (argsL := [(.int (2 : Int32))]) (rest := []) (lenOf pd_5 rfl) rfl rfl (by show 2 * 0 + _ ≤ _; exact Nat.le_of_eq rfl) (hb hby d18_21)
  obtain ⟨rfl, rfl⟩ := q3
  have S3_t : Safe Z own_EL vm3 h0 t := C3.safe (olt (by omega)) (S0 _ (List.mem_of_getElem? (i := 0) rfl))
  refine go (g' := (mkF m 24 #[.val (.ref b), .val (.ref a), .val (.int (1 : Int32))] [])) (st3) ?_
  refine go (g' := (mkF m 25 #[.val (.ref b), .val (.ref a), .val (.int (1 : Int32))] [(.ref b)])) (fun _ k => XS.aloadN W3.here hx rfl (hb hby d18_24) rfl rfl k) ?_
  refine go (g' := (mkF m 26 #[.val (.ref b), .val (.ref a), .val (.int (1 : Int32))] [(.ref b), (.ref b)])) (fun _ k => XS.aloadN W3.here hx rfl (hb hby d18_25) rfl rfl k) ?_
  obtain ⟨T4, W4, st4⟩ := own_get W3 hx (host := "") (Or.inl (w156 C)) Via.refl Fn (g := (mkF m 26 #[.val (.ref b), .val (.ref a), .val (.int (1 : Int32))] [(.ref b), (.ref b)])) rfl rfl (hb hby d18_26)
  refine go (g' := (mkF m 29 #[.val (.ref b), .val (.ref a), .val (.int (1 : Int32))] [(.int (1 : Int32)), (.ref b)])) (st4) ?_
  refine go (g' := (mkF m 30 #[.val (.ref b), .val (.ref a), .val (.int (1 : Int32))] [(.ref a), (.int (1 : Int32)), (.ref b)])) (fun _ k => XS.aloadN W4.here hx rfl (hb hby d18_29) rfl rfl k) ?_
  obtain ⟨v5, so5, vm5, T5, h5, W5, C5, q5, hso5, st5⟩ := own_virtual W4 hx (y := (⟨"java/lang/AbstractStringBuilder", "putStringAt", "(ILjava/lang/String;)V"⟩ : MethodName)) (z := (⟨"java/lang/AbstractStringBuilder", "putStringAt", "(ILjava/lang/String;)V"⟩ : MethodName)) (w163 C) (own_decl (w164 C) (w167 C)) (w166 C) (w164 C) (w128 C) (w167 C) (by decide) (own_nf W4 (w166 C)) Eb (rm_psa1_1_16 C h0 a c1 Sa b t kt o1 o2 o3 o4 o5 o6 o7 o8 o9 o10 o11 o12 o13 o14 o15 o16 Eb Fv Fc Fn Vt (by omega) (by omega)) (allS S3_t all0) (Wd := 0) (nle rfl) (nle rfl) (nle rfl) (nle rfl) (g := (mkF m 30 #[.val (.ref b), .val (.ref a), .val (.int (1 : Int32))] [(.ref a), (.int (1 : Int32)), (.ref b)])) rfl (by rw [hml]; rfl) (argsL := [(.int (1 : Int32)), (.ref a)]) (rest := []) (lenOf pd_9 rfl) rfl rfl (by show 2 * 0 + _ ≤ _; exact Nat.le_of_eq rfl) (hb hby d18_30)
  obtain ⟨rfl, K5, V5⟩ := q5
  have z6 : h0.size ≤ h5.size := K5.1
  have S5_t : Safe Z own_EL vm5 h5 t := C5.safe (olt (by omega)) S3_t
  refine go (g' := (mkF m 33 #[.val (.ref b), .val (.ref a), .val (.int (1 : Int32))] [])) (st5) ?_
  refine go (g' := (mkF m 34 #[.val (.ref b), .val (.ref a), .val (.int (1 : Int32))] [(.ref b)])) (fun _ k => XS.aloadN W5.here hx rfl (hb hby d18_33) rfl rfl k) ?_
  refine go (g' := (mkF m 35 #[.val (.ref b), .val (.ref a), .val (.int (1 : Int32))] [(.ref b), (.ref b)])) (fun _ k => XS.dup W5.here hx rfl (hb hby d18_34) rfl rfl k) ?_
  have f7 : Fld Z h5 b "java/lang/AbstractStringBuilder" "count" "I" (.int (1 : Int32)) := Fn.keep K5 (ninS nbt nin0)
  obtain ⟨T8, W8, st8⟩ := own_get W5 hx (host := "") (Or.inl (w156 C)) Via.refl f7 (g := (mkF m 35 #[.val (.ref b), .val (.ref a), .val (.int (1 : Int32))] [(.ref b), (.ref b)])) rfl rfl (hb hby d18_35)
  refine go (g' := (mkF m 38 #[.val (.ref b), .val (.ref a), .val (.int (1 : Int32))] [(.int (1 : Int32)), (.ref b)])) (st8) ?_
  refine go (g' := (mkF m 39 #[.val (.ref b), .val (.ref a), .val (.int (1 : Int32))] [(.int (1 : Int32)), (.int (1 : Int32)), (.ref b)])) (fun _ k => XS.iloadN W8.here hx rfl (hb hby d18_38) rfl k) ?_
  refine go (g' := (mkF m 40 #[.val (.ref b), .val (.ref a), .val (.int (1 : Int32))] [(.int ((1 : Int32) + (1 : Int32))), (.ref b)])) (fun _ k => XS.iadd W8.here hx rfl (hb hby d18_39) rfl k) ?_
  rw [show ((1 : Int32) + (1 : Int32)) = (2 : Int32) from by decide]
  have f9 : Exa Z h5 b "java/lang/StringBuilder" := Eb.keep K5
  obtain ⟨T10, h10, W10, R10, F10, st10⟩ := own_put W8 hx (host := "") (Or.inl (w156 C)) Via.refl f7 f9 (Or.inl (w157 C)) (w119 C) (ty := .int) (by decide) rfl rfl (own_safeE W8 f9 (by decide) (by decide)) (by omega) (g := (mkF m 40 #[.val (.ref b), .val (.ref a), .val (.int (1 : Int32))] [(.int (2 : Int32)), (.ref b)])) rfl rfl (hb hby d18_40)
  have f11 : Fld Z h5 b "java/lang/AbstractStringBuilder" "value" "[B" (.ref t) := Fv.keep K5 (ninS nbt nin0)
  have f12 : Fld Z h5 b "java/lang/AbstractStringBuilder" "coder" "B" (.int (0 : Int32)) := Fc.keep K5 (ninS nbt nin0)
  have z13 : h10.size = h5.size := R10.size
  have f14 : Exa Z h10 b "java/lang/StringBuilder" := f9.wr R10
  have f15 : Fld Z h10 b "java/lang/AbstractStringBuilder" "value" "[B" (.ref t) := f11.other R10 (Or.inr (slot_ne (Or.inl (w133 C)) (Or.inl (w157 C)) (by decide) (t := (.array .byte)) (t' := .int) (by decide) (by decide)))
  have f16 : Fld Z h10 b "java/lang/AbstractStringBuilder" "coder" "B" (.int (0 : Int32)) := f12.other R10 (Or.inr (slot_ne (Or.inl (w135 C)) (Or.inl (w157 C)) (by decide) (t := .byte) (t' := .int) (by decide) (by decide)))
  have S10_t : Safe Z own_EL vm5 h10 t := Safe.wr R10 (own_safeE W8 f9 (by decide) (by decide)) W8.ch S5_t
  refine go (g' := (mkF m 43 #[.val (.ref b), .val (.ref a), .val (.int (1 : Int32))] [])) (st10) ?_
  refine go (g' := (mkF m 44 #[.val (.ref b), .val (.ref a), .val (.int (1 : Int32))] [(.ref b)])) (fun _ k => XS.aloadN W10.here hx rfl (hb hby d18_43) rfl rfl k) ?_
  have KK17 : Keep h0 h10 [b, t] := (((Keep.refl h0 [b, t]).trans K5 (allS (Or.inl (List.mem_of_getElem? (i := 1) rfl)) all0)).wr R10 (Or.inl (List.mem_of_getElem? (i := 0) rfl)))
  have f18 : Arv Z h10 t kt .byte (16 : Int32) [(.int o1), (.int c1.toInt8.toInt32), (.int o3), (.int o4), (.int o5), (.int o6), (.int o7), (.int o8), (.int o9), (.int o10), (.int o11), (.int o12), (.int o13), (.int o14), (.int o15), (.int o16)] (.int (0 : Int32)) := V5.other R10 (Ne.symm nbt)
  exact fin (v := some (.ref b)) (so := []) W10 (nle rfl) (nle rfl) (⟨rfl, KK17, f14, f15, f16, F10, f18⟩) (fun _ q => nomatch q) (fun q => nomatch q) (own_retA W10 hx hret rfl rfl rfl (hb hby d18_44))
set_option maxRecDepth 65536 in
set_option maxHeartbeats 40000000 in
theorem rm_sbapp1_1_16 {l : Launch} {Z : State} {a0 : Array Value} (C : Cx Z a0) (h0 : Heap) (a : Addr) (c1 : Int32) (Sa : Str Z h0 a [c1]) (b t : Addr) (kt : ClassId) (o1 o2 o3 o4 o5 o6 o7 o8 o9 o10 o11 o12 o13 o14 o15 o16 : Int32) (Eb : Exa Z h0 b "java/lang/StringBuilder") (Fv : Fld Z h0 b "java/lang/AbstractStringBuilder" "value" "[B" (.ref t)) (Fc : Fld Z h0 b "java/lang/AbstractStringBuilder" "coder" "B" (.int (0 : Int32))) (Fn : Fld Z h0 b "java/lang/AbstractStringBuilder" "count" "I" (.int (1 : Int32))) (Vt : Arv Z h0 t kt .byte (16 : Int32) [(.int o1), (.int o2), (.int o3), (.int o4), (.int o5), (.int o6), (.int o7), (.int o8), (.int o9), (.int o10), (.int o11), (.int o12), (.int o13), (.int o14), (.int o15), (.int o16)] (.int (0 : Int32))) (nb : Z.heap.size ≤ b) (nt : Z.heap.size ≤ t) :
    Ct l Z a0 own_EL (⟨"java/lang/StringBuilder", "append", "(Ljava/lang/String;)Ljava/lang/StringBuilder;"⟩ : MethodName) jdk_67_method_7_code 2 (Option.some (Jvm.ClassFile.FieldType.object "java/lang/StringBuilder")) [] ({ frames := 4, cells := 0, slots := 0, locals := 73 } : Room) #[(.ref b), (.ref a)] h0 [t] (fun v h so => v = some (.ref b) ∧ Keep h0 h [b, t] ∧ Exa Z h b "java/lang/StringBuilder" ∧ Fld Z h b "java/lang/AbstractStringBuilder" "value" "[B" (.ref t) ∧ Fld Z h b "java/lang/AbstractStringBuilder" "coder" "B" (.int (0 : Int32)) ∧ Fld Z h b "java/lang/AbstractStringBuilder" "count" "I" (.int (2 : Int32)) ∧ Arv Z h t kt .byte (16 : Int32) [(.int o1), (.int c1.toInt8.toInt32), (.int o3), (.int o4), (.int o5), (.int o6), (.int o7), (.int o8), (.int o9), (.int o10), (.int o11), (.int o12), (.int o13), (.int o14), (.int o15), (.int o16)] (.int (0 : Int32))) := by
  refine own_enter (plainFor_of_name pn_7) C.ew (F0 := fun m => mkF m 0 #[.val (.ref b), .val (.ref a)] []) (fun m => by first | (simp [entryFrame, mkF, argsToLocals, Value.category]; done) | rfl) ?_
  intro p e s m below meth c s₁ G hx hby hml hret hnm W0 S0 go fin
  have z0 : Z.heap.size ≤ h0.size := W0.sz
  show G s₁ (mkF m 0 #[.val (.ref b), .val (.ref a)] [])
  have lt : @LT.lt Nat _ t h0.size := Vt.lt
  have lb : @LT.lt Nat _ b h0.size := Eb.lt
  have nbt : b ≠ t := own_neBA Eb Vt (w119 C)
  refine go (g' := (mkF m 1 #[.val (.ref b), .val (.ref a)] [(.ref b)])) (fun _ k => XS.aloadN W0.here hx rfl (hb hby d19_0) rfl rfl k) ?_
  refine go (g' := (mkF m 2 #[.val (.ref b), .val (.ref a)] [(.ref a), (.ref b)])) (fun _ k => XS.aloadN W0.here hx rfl (hb hby d19_1) rfl rfl k) ?_
  obtain ⟨v1, so1, vm1, T1, h1, W1, C1, q1, hso1, st1⟩ := own_super W0 hx (y := (⟨"java/lang/AbstractStringBuilder", "append", "(Ljava/lang/String;)Ljava/lang/AbstractStringBuilder;"⟩ : MethodName)) (w141 C) (own_sameM (y := (⟨"java/lang/AbstractStringBuilder", "append", "(Ljava/lang/String;)Ljava/lang/AbstractStringBuilder;"⟩ : MethodName)) (w144 C) (w161 C) rfl (by decide)) (w142 C) (w143 C) (by decide) (w128 C) (w145 C) (Ins.self Eb) (rm_asbapp1_1_16 C h0 a c1 Sa b t kt o1 o2 o3 o4 o5 o6 o7 o8 o9 o10 o11 o12 o13 o14 o15 o16 Eb Fv Fc Fn Vt (by omega) (by omega)) (allS (S0 _ (List.mem_of_getElem? (i := 0) rfl)) all0) (Wd := 0) (nle rfl) (nle rfl) (nle rfl) (nle rfl) (g := (mkF m 2 #[.val (.ref b), .val (.ref a)] [(.ref a), (.ref b)])) rfl (by rw [hml]; rfl) (argsL := [(.ref a)]) (rest := []) (lenOf pd_10 rfl) rfl rfl (by show 2 * 0 + _ ≤ _; exact Nat.le_of_eq rfl) (hb hby d19_2)
  obtain ⟨rfl, K1, E1, Fv1, Fc1, Fn1, V1⟩ := q1
  have z2 : h0.size ≤ h1.size := K1.1
  have S1_t : Safe Z own_EL vm1 h1 t := C1.safe (olt (by omega)) (S0 _ (List.mem_of_getElem? (i := 0) rfl))
  refine go (g' := (mkF m 5 #[.val (.ref b), .val (.ref a)] [(.ref b)])) (st1) ?_
  refine go (g' := (mkF m 6 #[.val (.ref b), .val (.ref a)] [])) (fun _ k => XS.pop W1.here hx rfl (hb hby d19_5) rfl rfl k) ?_
  refine go (g' := (mkF m 7 #[.val (.ref b), .val (.ref a)] [(.ref b)])) (fun _ k => XS.aloadN W1.here hx rfl (hb hby d19_6) rfl rfl k) ?_
  have KK3 : Keep h0 h1 [b, t] := ((Keep.refl h0 [b, t]).trans K1 (allS (Or.inl (List.mem_of_getElem? (i := 0) rfl)) (allS (Or.inl (List.mem_of_getElem? (i := 1) rfl)) all0)))
  exact fin (v := some (.ref b)) (so := []) W1 (nle rfl) (nle rfl) (⟨rfl, KK3, E1, Fv1, Fc1, Fn1, V1⟩) (fun _ q => nomatch q) (fun q => nomatch q) (own_retA W1 hx hret rfl rfl rfl (hb hby d19_7))
set_option maxRecDepth 65536 in
set_option maxHeartbeats 40000000 in
theorem rm_ens4_16 {l : Launch} {Z : State} {a0 : Array Value} (C : Cx Z a0) (h0 : Heap) (b t : Addr) (kt : ClassId) (vs : List Value) (Fv : Fld Z h0 b "java/lang/AbstractStringBuilder" "value" "[B" (.ref t)) (Fc : Fld Z h0 b "java/lang/AbstractStringBuilder" "coder" "B" (.int (0 : Int32))) (Vt : Arv Z h0 t kt .byte (16 : Int32) vs (.int (0 : Int32))) :
    Ct l Z a0 own_EL (⟨"java/lang/AbstractStringBuilder", "ensureCapacityInternal", "(I)V"⟩ : MethodName) jdk_68_method_9_code 3 (Option.none : Option Jvm.ClassFile.FieldType) [] ({ frames := 0, cells := 0, slots := 0, locals := 0 } : Room) #[(.ref b), (.int (4 : Int32))] h0 [] (fun v h so => v = none ∧ h0 = h) := by
  refine own_enter (plainFor_of_name pn_6) C.ew (F0 := fun m => mkF m 0 #[.val (.ref b), .val (.int (4 : Int32)), .unset] []) (fun m => by first | (simp [entryFrame, mkF, argsToLocals, Value.category]; done) | rfl) ?_
  intro p e s m below meth c s₁ G hx hby hml hret hnm W0 S0 go fin
  have z0 : Z.heap.size ≤ h0.size := W0.sz
  show G s₁ (mkF m 0 #[.val (.ref b), .val (.int (4 : Int32)), .unset] [])
  refine go (g' := (mkF m 1 #[.val (.ref b), .val (.int (4 : Int32)), .unset] [(.ref b)])) (fun _ k => XS.aloadN W0.here hx rfl (hb hby d14_0) rfl rfl k) ?_
  obtain ⟨T1, W1, st1⟩ := own_get W0 hx (host := "") (Or.inl (w132 C)) Via.refl Fv (g := (mkF m 1 #[.val (.ref b), .val (.int (4 : Int32)), .unset] [(.ref b)])) rfl rfl (hb hby d14_1)
  refine go (g' := (mkF m 4 #[.val (.ref b), .val (.int (4 : Int32)), .unset] [(.ref t)])) (st1) ?_
  refine go (g' := (mkF m 5 #[.val (.ref b), .val (.int (4 : Int32)), .unset] [(.int (16 : Int32))])) (own_alen W1 hx Vt (g := (mkF m 4 #[.val (.ref b), .val (.int (4 : Int32)), .unset] [(.ref t)])) rfl rfl (hb hby d14_4)) ?_
  refine go (g' := (mkF m 6 #[.val (.ref b), .val (.int (4 : Int32)), .unset] [(.ref b), (.int (16 : Int32))])) (fun _ k => XS.aloadN W1.here hx rfl (hb hby d14_5) rfl rfl k) ?_
  obtain ⟨T2, W2, st2⟩ := own_get W1 hx (host := "") (Or.inl (w134 C)) Via.refl Fc (g := (mkF m 6 #[.val (.ref b), .val (.int (4 : Int32)), .unset] [(.ref b), (.int (16 : Int32))])) rfl rfl (hb hby d14_6)
  refine go (g' := (mkF m 9 #[.val (.ref b), .val (.int (4 : Int32)), .unset] [(.int (0 : Int32)), (.int (16 : Int32))])) (st2) ?_
  refine go (g' := (mkF m 10 #[.val (.ref b), .val (.int (4 : Int32)), .unset] [(.int ((16 : Int32) >>> ((0 : Int32) &&& 31)))])) (fun _ k => XS.ishr W2.here hx rfl (hb hby d14_9) rfl k) ?_
  rw [show ((16 : Int32) >>> ((0 : Int32) &&& 31)) = (16 : Int32) from by decide]
  refine go (g' := (mkF m 11 #[.val (.ref b), .val (.int (4 : Int32)), .val (.int (16 : Int32))] [])) (fun _ k => XS.istoreN W2.here hx rfl (hb hby d14_10) rfl (l' := #[.val (.ref b), .val (.int (4 : Int32)), .val (.int (16 : Int32))]) rfl k) ?_
  refine go (g' := (mkF m 12 #[.val (.ref b), .val (.int (4 : Int32)), .val (.int (16 : Int32))] [(.int (4 : Int32))])) (fun _ k => XS.iloadN W2.here hx rfl (hb hby d14_11) rfl k) ?_
  refine go (g' := (mkF m 13 #[.val (.ref b), .val (.int (4 : Int32)), .val (.int (16 : Int32))] [(.int (16 : Int32)), (.int (4 : Int32))])) (fun _ k => XS.iloadN W2.here hx rfl (hb hby d14_12) rfl k) ?_
  refine go (g' := (mkF m 14 #[.val (.ref b), .val (.int (4 : Int32)), .val (.int (16 : Int32))] [(.int ((4 : Int32) - (16 : Int32)))])) (fun _ k => XS.isub W2.here hx rfl (hb hby d14_13) rfl k) ?_
  rw [show ((4 : Int32) - (16 : Int32)) = (-12 : Int32) from by decide]
  refine go (g' := (mkF m 38 #[.val (.ref b), .val (.int (4 : Int32)), .val (.int (16 : Int32))] [])) (fun _ k => XS.ifYes W2.here hx rfl (pc0 := 14) (pc' := 38) rfl (hb hby d14_14) rfl ((if0 _ _).trans (flt ((by decide) : ¬ ((0 : Int32) < (-12 : Int32)))).2.2.2) (by decide) (by decide) k) ?_
  exact fin (v := none) (so := []) W2 (nle rfl) (nle rfl) (⟨rfl, rfl⟩) (fun _ q => nomatch q) (fun _ => rfl) (own_retV W2 hx hret (hb hby d14_38))
set_option maxRecDepth 65536 in
set_option maxHeartbeats 40000000 in
theorem rm_gb2_2_16 {l : Launch} {Z : State} {a0 : Array Value} (C : Cx Z a0) (h0 : Heap) (a : Addr) (c1 c2 : Int32) (Sa : Str Z h0 a [c1, c2]) (t : Addr) (kt : ClassId) (o1 o2 o3 o4 o5 o6 o7 o8 o9 o10 o11 o12 o13 o14 o15 o16 : Int32) (Vt : Arv Z h0 t kt .byte (16 : Int32) [(.int o1), (.int o2), (.int o3), (.int o4), (.int o5), (.int o6), (.int o7), (.int o8), (.int o9), (.int o10), (.int o11), (.int o12), (.int o13), (.int o14), (.int o15), (.int o16)] (.int (0 : Int32))) (nt : Z.heap.size ≤ t) :
    Ct l Z a0 own_EL (⟨"java/lang/String", "getBytes", "([BIB)V"⟩ : MethodName) jdk_42_method_147_code 4 (Option.none : Option Jvm.ClassFile.FieldType) [] ({ frames := 1, cells := 0, slots := 0, locals := 30 } : Room) #[(.ref a), (.ref t), (.int (2 : Int32)), (.int (0 : Int32))] h0 [t] (fun v h so => v = none ∧ Keep h0 h [t] ∧ Arv Z h t kt .byte (16 : Int32) [(.int o1), (.int o2), (.int c1.toInt8.toInt32), (.int c2.toInt8.toInt32), (.int o5), (.int o6), (.int o7), (.int o8), (.int o9), (.int o10), (.int o11), (.int o12), (.int o13), (.int o14), (.int o15), (.int o16)] (.int (0 : Int32))) := by
  refine own_enter (plainFor_of_name pn_1) C.ew (F0 := fun m => mkF m 0 #[.val (.ref a), .val (.ref t), .val (.int (2 : Int32)), .val (.int (0 : Int32))] []) (fun m => by first | (simp [entryFrame, mkF, argsToLocals, Value.category]; done) | rfl) ?_
  intro p e s m below meth c s₁ G hx hby hml hret hnm W0 S0 go fin
  have z0 : Z.heap.size ≤ h0.size := W0.sz
  show G s₁ (mkF m 0 #[.val (.ref a), .val (.ref t), .val (.int (2 : Int32)), .val (.int (0 : Int32))] [])
  have lt : @LT.lt Nat _ t h0.size := Vt.lt
  obtain ⟨sE1, sC1, sP1, t1, k1, sV1, sK1⟩ := Sa
  have sA1 : Arv Z h0 t1 k1 .byte (2 : Int32) [(.int c1.toInt8.toInt32), (.int c2.toInt8.toInt32)] (.int (0 : Int32)) := sK1
  refine go (g' := (mkF m 1 #[.val (.ref a), .val (.ref t), .val (.int (2 : Int32)), .val (.int (0 : Int32))] [(.ref a)])) (fun _ k => XS.aloadN W0.here hx rfl (hb hby d16_0) rfl rfl k) ?_
  obtain ⟨v2, so2, vm2, T2, h2, W2, C2, q2, hso2, st2⟩ := own_virtual W0 hx (y := (⟨"java/lang/String", "coder", "()B"⟩ : MethodName)) (z := (⟨"java/lang/String", "coder", "()B"⟩ : MethodName)) (w151 C) (w152 C) (w154 C) (w153 C) (w2 C) (w155 C) (by decide) (own_nf W0 (w154 C)) sE1 (rm_coder C h0 a sC1) (fun _ q => nomatch q) (Wd := 0) (nle rfl) (nle rfl) (nle rfl) (nle rfl) (g := (mkF m 1 #[.val (.ref a), .val (.ref t), .val (.int (2 : Int32)), .val (.int (0 : Int32))] [(.ref a)])) rfl (by rw [hml]; rfl) (argsL := []) (rest := []) (lenOf pd_6 rfl) rfl rfl (by show 2 * 0 + _ ≤ _; exact Nat.le_of_eq rfl) (hb hby d16_1)
  obtain ⟨rfl, rfl⟩ := q2
  have S2_t : Safe Z own_EL vm2 h0 t := C2.safe (olt (by omega)) (S0 _ (List.mem_of_getElem? (i := 0) rfl))
  refine go (g' := (mkF m 4 #[.val (.ref a), .val (.ref t), .val (.int (2 : Int32)), .val (.int (0 : Int32))] [(.int (0 : Int32))])) (st2) ?_
  refine go (g' := (mkF m 5 #[.val (.ref a), .val (.ref t), .val (.int (2 : Int32)), .val (.int (0 : Int32))] [(.int (0 : Int32)), (.int (0 : Int32))])) (fun _ k => XS.iloadN W2.here hx rfl (hb hby d16_4) rfl k) ?_
  refine go (g' := (mkF m 8 #[.val (.ref a), .val (.ref t), .val (.int (2 : Int32)), .val (.int (0 : Int32))] [])) (fun _ k => XS.icmpNo W2.here hx rfl (hb hby d16_5) rfl (teq ((by decide) : (0 : Int32) = (0 : Int32))).2 k) ?_
  refine go (g' := (mkF m 9 #[.val (.ref a), .val (.ref t), .val (.int (2 : Int32)), .val (.int (0 : Int32))] [(.ref a)])) (fun _ k => XS.aloadN W2.here hx rfl (hb hby d16_8) rfl rfl k) ?_
  obtain ⟨T3, W3, st3⟩ := own_get W2 hx (host := "") (Or.inl (w28 C)) Via.refl sV1 (g := (mkF m 9 #[.val (.ref a), .val (.ref t), .val (.int (2 : Int32)), .val (.int (0 : Int32))] [(.ref a)])) rfl rfl (hb hby d16_9)
  refine go (g' := (mkF m 12 #[.val (.ref a), .val (.ref t), .val (.int (2 : Int32)), .val (.int (0 : Int32))] [(.ref t1)])) (st3) ?_
  refine go (g' := (mkF m 13 #[.val (.ref a), .val (.ref t), .val (.int (2 : Int32)), .val (.int (0 : Int32))] [(.int (0 : Int32)), (.ref t1)])) (fun _ k => XS.iconst W3.here hx rfl (hb hby d16_12) k) ?_
  refine go (g' := (mkF m 14 #[.val (.ref a), .val (.ref t), .val (.int (2 : Int32)), .val (.int (0 : Int32))] [(.ref t), (.int (0 : Int32)), (.ref t1)])) (fun _ k => XS.aloadN W3.here hx rfl (hb hby d16_13) rfl rfl k) ?_
  refine go (g' := (mkF m 15 #[.val (.ref a), .val (.ref t), .val (.int (2 : Int32)), .val (.int (0 : Int32))] [(.int (2 : Int32)), (.ref t), (.int (0 : Int32)), (.ref t1)])) (fun _ k => XS.iloadN W3.here hx rfl (hb hby d16_14) rfl k) ?_
  refine go (g' := (mkF m 16 #[.val (.ref a), .val (.ref t), .val (.int (2 : Int32)), .val (.int (0 : Int32))] [(.int (0 : Int32)), (.int (2 : Int32)), (.ref t), (.int (0 : Int32)), (.ref t1)])) (fun _ k => XS.iloadN W3.here hx rfl (hb hby d16_15) rfl k) ?_
  refine go (g' := (mkF m 17 #[.val (.ref a), .val (.ref t), .val (.int (2 : Int32)), .val (.int (0 : Int32))] [(.int ((2 : Int32) <<< ((0 : Int32) &&& 31))), (.ref t), (.int (0 : Int32)), (.ref t1)])) (fun _ k => XS.ishl W3.here hx rfl (hb hby d16_16) rfl k) ?_
  rw [show ((2 : Int32) <<< ((0 : Int32) &&& 31)) = (2 : Int32) from by decide]
  refine go (g' := (mkF m 18 #[.val (.ref a), .val (.ref t), .val (.int (2 : Int32)), .val (.int (0 : Int32))] [(.ref a), (.int (2 : Int32)), (.ref t), (.int (0 : Int32)), (.ref t1)])) (fun _ k => XS.aloadN W3.here hx rfl (hb hby d16_17) rfl rfl k) ?_
  obtain ⟨T4, W4, st4⟩ := own_get W3 hx (host := "") (Or.inl (w28 C)) Via.refl sV1 (g := (mkF m 18 #[.val (.ref a), .val (.ref t), .val (.int (2 : Int32)), .val (.int (0 : Int32))] [(.ref a), (.int (2 : Int32)), (.ref t), (.int (0 : Int32)), (.ref t1)])) rfl rfl (hb hby d16_18)
  refine go (g' := (mkF m 21 #[.val (.ref a), .val (.ref t), .val (.int (2 : Int32)), .val (.int (0 : Int32))] [(.ref t1), (.int (2 : Int32)), (.ref t), (.int (0 : Int32)), (.ref t1)])) (st4) ?_
  refine go (g' := (mkF m 22 #[.val (.ref a), .val (.ref t), .val (.int (2 : Int32)), .val (.int (0 : Int32))] [(.int (2 : Int32)), (.int (2 : Int32)), (.ref t), (.int (0 : Int32)), (.ref t1)])) (own_alen W4 hx sA1 (g := (mkF m 21 #[.val (.ref a), .val (.ref t), .val (.int (2 : Int32)), .val (.int (0 : Int32))] [(.ref t1), (.int (2 : Int32)), (.ref t), (.int (0 : Int32)), (.ref t1)])) rfl rfl (hb hby d16_21)) ?_
  obtain ⟨T5, h5, W5, K5, V5, st5⟩ := own_cp W4 hx (w179 C) (w182 C) (w180 C) (w181 C) sA1 Vt rfl S2_t (sp := (0 : Int32)) (dp := (2 : Int32)) (nn := (2 : Int32)) (by decide) (by decide) (by decide) (by decide) (by decide) (us := [(.int c1.toInt8.toInt32), (.int c2.toInt8.toInt32)]) rfl (Nat.le_of_ble_eq_true rfl) (by omega) (g := (mkF m 22 #[.val (.ref a), .val (.ref t), .val (.int (2 : Int32)), .val (.int (0 : Int32))] [(.int (2 : Int32)), (.int (2 : Int32)), (.ref t), (.int (0 : Int32)), (.ref t1)])) rfl (by rw [hml]; rfl) rfl (hb hby d16_22) (nle rfl) (Wd := 0) (by show 2 * 0 + _ ≤ _; exact Nat.le_of_eq rfl) (nle rfl)
  have z6 : h0.size ≤ h5.size := K5.1
  have U5 : Arv Z h5 t kt .byte (16 : Int32) [(.int o1), (.int o2), (.int c1.toInt8.toInt32), (.int c2.toInt8.toInt32), (.int o5), (.int o6), (.int o7), (.int o8), (.int o9), (.int o10), (.int o11), (.int o12), (.int o13), (.int o14), (.int o15), (.int o16)] (.int (0 : Int32)) := V5
  have S5_t : Safe Z own_EL vm2 h5 t := Safe.keep K5 (allS S2_t all0) W4.ch S2_t
  refine go (g' := (mkF m 25 #[.val (.ref a), .val (.ref t), .val (.int (2 : Int32)), .val (.int (0 : Int32))] [])) (st5) ?_
  refine go (g' := (mkF m 43 #[.val (.ref a), .val (.ref t), .val (.int (2 : Int32)), .val (.int (0 : Int32))] [])) (fun _ k => XS.goto W5.here hx rfl (pc0 := 25) (pc' := 43) rfl (hb hby d16_25) (by decide) (by decide) k) ?_
  have KK7 : Keep h0 h5 [t] := ((Keep.refl h0 [t]).trans K5 (allS (Or.inl (List.mem_of_getElem? (i := 0) rfl)) all0))
  exact fin (v := none) (so := []) W5 (nle rfl) (nle rfl) (⟨rfl, KK7, U5⟩) (fun _ q => nomatch q) (fun _ => rfl) (own_retV W5 hx hret (hb hby d16_43))
set_option maxRecDepth 65536 in
set_option maxHeartbeats 40000000 in
theorem rm_psa2_2_16 {l : Launch} {Z : State} {a0 : Array Value} (C : Cx Z a0) (h0 : Heap) (a : Addr) (c1 c2 : Int32) (Sa : Str Z h0 a [c1, c2]) (b t : Addr) (kt : ClassId) (o1 o2 o3 o4 o5 o6 o7 o8 o9 o10 o11 o12 o13 o14 o15 o16 : Int32) (Eb : Exa Z h0 b "java/lang/StringBuilder") (Fv : Fld Z h0 b "java/lang/AbstractStringBuilder" "value" "[B" (.ref t)) (Fc : Fld Z h0 b "java/lang/AbstractStringBuilder" "coder" "B" (.int (0 : Int32))) (Fn : Fld Z h0 b "java/lang/AbstractStringBuilder" "count" "I" (.int (2 : Int32))) (Vt : Arv Z h0 t kt .byte (16 : Int32) [(.int o1), (.int o2), (.int o3), (.int o4), (.int o5), (.int o6), (.int o7), (.int o8), (.int o9), (.int o10), (.int o11), (.int o12), (.int o13), (.int o14), (.int o15), (.int o16)] (.int (0 : Int32))) (nb : Z.heap.size ≤ b) (nt : Z.heap.size ≤ t) :
    Ct l Z a0 own_EL (⟨"java/lang/AbstractStringBuilder", "putStringAt", "(ILjava/lang/String;)V"⟩ : MethodName) jdk_68_method_73_code 3 (Option.none : Option Jvm.ClassFile.FieldType) [] ({ frames := 2, cells := 0, slots := 0, locals := 45 } : Room) #[(.ref b), (.int (2 : Int32)), (.ref a)] h0 [t] (fun v h so => v = none ∧ Keep h0 h [t] ∧ Arv Z h t kt .byte (16 : Int32) [(.int o1), (.int o2), (.int c1.toInt8.toInt32), (.int c2.toInt8.toInt32), (.int o5), (.int o6), (.int o7), (.int o8), (.int o9), (.int o10), (.int o11), (.int o12), (.int o13), (.int o14), (.int o15), (.int o16)] (.int (0 : Int32))) := by
  refine own_enter (plainFor_of_name pn_6) C.ew (F0 := fun m => mkF m 0 #[.val (.ref b), .val (.int (2 : Int32)), .val (.ref a)] []) (fun m => by first | (simp [entryFrame, mkF, argsToLocals, Value.category]; done) | rfl) ?_
  intro p e s m below meth c s₁ G hx hby hml hret hnm W0 S0 go fin
  have z0 : Z.heap.size ≤ h0.size := W0.sz
  show G s₁ (mkF m 0 #[.val (.ref b), .val (.int (2 : Int32)), .val (.ref a)] [])
  have lt : @LT.lt Nat _ t h0.size := Vt.lt
  refine go (g' := (mkF m 1 #[.val (.ref b), .val (.int (2 : Int32)), .val (.ref a)] [(.ref b)])) (fun _ k => XS.aloadN W0.here hx rfl (hb hby d17_0) rfl rfl k) ?_
  refine go (g' := (mkF m 2 #[.val (.ref b), .val (.int (2 : Int32)), .val (.ref a)] [(.ref a), (.ref b)])) (fun _ k => XS.aloadN W0.here hx rfl (hb hby d17_1) rfl rfl k) ?_
  obtain ⟨v1, so1, vm1, T1, h1, W1, C1, q1, hso1, st1⟩ := own_virtual W0 hx (y := (⟨"java/lang/AbstractStringBuilder", "inflateIfNeededFor", "(Ljava/lang/String;)V"⟩ : MethodName)) (z := (⟨"java/lang/AbstractStringBuilder", "inflateIfNeededFor", "(Ljava/lang/String;)V"⟩ : MethodName)) (w168 C) (own_decl (w169 C) (w172 C)) (w171 C) (w169 C) (w128 C) (w172 C) (by decide) (own_nf W0 (w171 C)) Eb (rm_infl C h0 b a Fc Sa.1 Sa.2.1) (fun _ q => nomatch q) (Wd := 0) (nle rfl) (nle rfl) (nle rfl) (nle rfl) (g := (mkF m 2 #[.val (.ref b), .val (.int (2 : Int32)), .val (.ref a)] [(.ref a), (.ref b)])) rfl (by rw [hml]; rfl) (argsL := [(.ref a)]) (rest := []) (lenOf pd_7 rfl) rfl rfl (by show 2 * 0 + _ ≤ _; exact Nat.le_of_eq rfl) (hb hby d17_2)
  obtain ⟨rfl, rfl⟩ := q1
  have S1_t : Safe Z own_EL vm1 h0 t := C1.safe (olt (by omega)) (S0 _ (List.mem_of_getElem? (i := 0) rfl))
  refine go (g' := (mkF m 5 #[.val (.ref b), .val (.int (2 : Int32)), .val (.ref a)] [])) (st1) ?_
  refine go (g' := (mkF m 6 #[.val (.ref b), .val (.int (2 : Int32)), .val (.ref a)] [(.ref a)])) (fun _ k => XS.aloadN W1.here hx rfl (hb hby d17_5) rfl rfl k) ?_
  refine go (g' := (mkF m 7 #[.val (.ref b), .val (.int (2 : Int32)), .val (.ref a)] [(.ref b), (.ref a)])) (fun _ k => XS.aloadN W1.here hx rfl (hb hby d17_6) rfl rfl k) ?_
  obtain ⟨T2, W2, st2⟩ := own_get W1 hx (host := "") (Or.inl (w132 C)) Via.refl Fv (g := (mkF m 7 #[.val (.ref b), .val (.int (2 : Int32)), .val (.ref a)] [(.ref b), (.ref a)])) rfl rfl (hb hby d17_7)
  refine go (g' := (mkF m 10 #[.val (.ref b), .val (.int (2 : Int32)), .val (.ref a)] [(.ref t), (.ref a)])) (st2) ?_
  refine go (g' := (mkF m 11 #[.val (.ref b), .val (.int (2 : Int32)), .val (.ref a)] [(.int (2 : Int32)), (.ref t), (.ref a)])) (fun _ k => XS.iloadN W2.here hx rfl (hb hby d17_10) rfl k) ?_
  refine go (g' := (mkF m 12 #[.val (.ref b), .val (.int (2 : Int32)), .val (.ref a)] [(.ref b), (.int (2 : Int32)), (.ref t), (.ref a)])) (fun _ k => XS.aloadN W2.here hx rfl (hb hby d17_11) rfl rfl k) ?_
  obtain ⟨T3, W3, st3⟩ := own_get W2 hx (host := "") (Or.inl (w134 C)) Via.refl Fc (g := (mkF m 12 #[.val (.ref b), .val (.int (2 : Int32)), .val (.ref a)] [(.ref b), (.int (2 : Int32)), (.ref t), (.ref a)])) rfl rfl (hb hby d17_12)
  refine go (g' := (mkF m 15 #[.val (.ref b), .val (.int (2 : Int32)), .val (.ref a)] [(.int (0 : Int32)), (.int (2 : Int32)), (.ref t), (.ref a)])) (st3) ?_
  obtain ⟨v4, so4, vm4, T4, h4, W4, C4, q4, hso4, st4⟩ := own_virtual W3 hx (y := (⟨"java/lang/String", "getBytes", "([BIB)V"⟩ : MethodName)) (z := (⟨"java/lang/String", "getBytes", "([BIB)V"⟩ : MethodName)) (w174 C) (w175 C) (w177 C) (w176 C) (w2 C) (w178 C) (by decide) (own_nf W3 (w177 C)) Sa.1 (rm_gb2_2_16 C h0 a c1 c2 Sa t kt o1 o2 o3 o4 o5 o6 o7 o8 o9 o10 o11 o12 o13 o14 o15 o16 Vt (by omega)) (allS S1_t all0) (Wd := 0) (nle rfl) (nle rfl) (nle rfl) (nle rfl) (g := (mkF m 15 #[.val (.ref b), .val (.int (2 : Int32)), .val (.ref a)] [(.int (0 : Int32)), (.int (2 : Int32)), (.ref t), (.ref a)])) rfl (by rw [hml]; rfl) (argsL := [(.ref t), (.int (2 : Int32)), (.int (0 : Int32))]) (rest := []) (lenOf pd_8 rfl) rfl rfl (by show 2 * 0 + _ ≤ _; exact Nat.le_of_eq rfl) (hb hby d17_15)
  obtain ⟨rfl, K4, V4⟩ := q4
  have z5 : h0.size ≤ h4.size := K4.1
  have S4_t : Safe Z own_EL vm4 h4 t := C4.safe (olt (by omega)) S1_t
  refine go (g' := (mkF m 18 #[.val (.ref b), .val (.int (2 : Int32)), .val (.ref a)] [])) (st4) ?_
  have KK6 : Keep h0 h4 [t] := ((Keep.refl h0 [t]).trans K4 (allS (Or.inl (List.mem_of_getElem? (i := 0) rfl)) all0))
  exact fin (v := none) (so := []) W4 (nle rfl) (nle rfl) (⟨rfl, KK6, V4⟩) (fun _ q => nomatch q) (fun _ => rfl) (own_retV W4 hx hret (hb hby d17_18))
set_option maxRecDepth 65536 in
set_option maxHeartbeats 40000000 in
theorem rm_asbapp2_2_16 {l : Launch} {Z : State} {a0 : Array Value} (C : Cx Z a0) (h0 : Heap) (a : Addr) (c1 c2 : Int32) (Sa : Str Z h0 a [c1, c2]) (b t : Addr) (kt : ClassId) (o1 o2 o3 o4 o5 o6 o7 o8 o9 o10 o11 o12 o13 o14 o15 o16 : Int32) (Eb : Exa Z h0 b "java/lang/StringBuilder") (Fv : Fld Z h0 b "java/lang/AbstractStringBuilder" "value" "[B" (.ref t)) (Fc : Fld Z h0 b "java/lang/AbstractStringBuilder" "coder" "B" (.int (0 : Int32))) (Fn : Fld Z h0 b "java/lang/AbstractStringBuilder" "count" "I" (.int (2 : Int32))) (Vt : Arv Z h0 t kt .byte (16 : Int32) [(.int o1), (.int o2), (.int o3), (.int o4), (.int o5), (.int o6), (.int o7), (.int o8), (.int o9), (.int o10), (.int o11), (.int o12), (.int o13), (.int o14), (.int o15), (.int o16)] (.int (0 : Int32))) (nb : Z.heap.size ≤ b) (nt : Z.heap.size ≤ t) :
    Ct l Z a0 own_EL (⟨"java/lang/AbstractStringBuilder", "append", "(Ljava/lang/String;)Ljava/lang/AbstractStringBuilder;"⟩ : MethodName) jdk_68_method_22_code 3 (Option.some (Jvm.ClassFile.FieldType.object "java/lang/AbstractStringBuilder")) [] ({ frames := 3, cells := 0, slots := 0, locals := 59 } : Room) #[(.ref b), (.ref a)] h0 [t] (fun v h so => v = some (.ref b) ∧ Keep h0 h [b, t] ∧ Exa Z h b "java/lang/StringBuilder" ∧ Fld Z h b "java/lang/AbstractStringBuilder" "value" "[B" (.ref t) ∧ Fld Z h b "java/lang/AbstractStringBuilder" "coder" "B" (.int (0 : Int32)) ∧ Fld Z h b "java/lang/AbstractStringBuilder" "count" "I" (.int (4 : Int32)) ∧ Arv Z h t kt .byte (16 : Int32) [(.int o1), (.int o2), (.int c1.toInt8.toInt32), (.int c2.toInt8.toInt32), (.int o5), (.int o6), (.int o7), (.int o8), (.int o9), (.int o10), (.int o11), (.int o12), (.int o13), (.int o14), (.int o15), (.int o16)] (.int (0 : Int32))) := by
  refine own_enter (plainFor_of_name pn_6) C.ew (F0 := fun m => mkF m 0 #[.val (.ref b), .val (.ref a), .unset] []) (fun m => by first | (simp [entryFrame, mkF, argsToLocals, Value.category]; done) | rfl) ?_
  intro p e s m below meth c s₁ G hx hby hml hret hnm W0 S0 go fin
  have z0 : Z.heap.size ≤ h0.size := W0.sz
  show G s₁ (mkF m 0 #[.val (.ref b), .val (.ref a), .unset] [])
  have lt : @LT.lt Nat _ t h0.size := Vt.lt
  have lb : @LT.lt Nat _ b h0.size := Eb.lt
  have nbt : b ≠ t := own_neBA Eb Vt (w119 C)
  refine go (g' := (mkF m 1 #[.val (.ref b), .val (.ref a), .unset] [(.ref a)])) (fun _ k => XS.aloadN W0.here hx rfl (hb hby d18_0) rfl rfl k) ?_
  refine go (g' := (mkF m 9 #[.val (.ref b), .val (.ref a), .unset] [])) (fun _ k => XS.ifnonnullYes W0.here hx rfl (pc0 := 1) (pc' := 9) rfl (hb hby d18_1) rfl (by decide) (by decide) k) ?_
  refine go (g' := (mkF m 10 #[.val (.ref b), .val (.ref a), .unset] [(.ref a)])) (fun _ k => XS.aloadN W0.here hx rfl (hb hby d18_9) rfl rfl k) ?_
  obtain ⟨T1, W1, st1⟩ := own_slen W0 hx (own_wln C) (w146 C) (w147 C) (w149 C) (w148 C) (w1 C) Sa C.cs (nle rfl) (Wd := 0) (nle rfl) (nle rfl) (nle rfl) (nle rfl) (g := (mkF m 10 #[.val (.ref b), .val (.ref a), .unset] [(.ref a)])) rfl (by rw [hml]; rfl) rfl (by show 2 * 0 + _ ≤ _; exact Nat.le_of_eq rfl) (hb hby d18_10)
  refine go (g' := (mkF m 13 #[.val (.ref b), .val (.ref a), .unset] [(.int (2 : Int32))])) (st1) ?_
  refine go (g' := (mkF m 14 #[.val (.ref b), .val (.ref a), .val (.int (2 : Int32))] [])) (fun _ k => XS.istoreN W1.here hx rfl (hb hby d18_13) rfl (l' := #[.val (.ref b), .val (.ref a), .val (.int (2 : Int32))]) rfl k) ?_
  refine go (g' := (mkF m 15 #[.val (.ref b), .val (.ref a), .val (.int (2 : Int32))] [(.ref b)])) (fun _ k => XS.aloadN W1.here hx rfl (hb hby d18_14) rfl rfl k) ?_
  refine go (g' := (mkF m 16 #[.val (.ref b), .val (.ref a), .val (.int (2 : Int32))] [(.ref b), (.ref b)])) (fun _ k => XS.aloadN W1.here hx rfl (hb hby d18_15) rfl rfl k) ?_
  obtain ⟨T2, W2, st2⟩ := own_get W1 hx (host := "") (Or.inl (w156 C)) Via.refl Fn (g := (mkF m 16 #[.val (.ref b), .val (.ref a), .val (.int (2 : Int32))] [(.ref b), (.ref b)])) rfl rfl (hb hby d18_16)
  refine go (g' := (mkF m 19 #[.val (.ref b), .val (.ref a), .val (.int (2 : Int32))] [(.int (2 : Int32)), (.ref b)])) (st2) ?_
  refine go (g' := (mkF m 20 #[.val (.ref b), .val (.ref a), .val (.int (2 : Int32))] [(.int (2 : Int32)), (.int (2 : Int32)), (.ref b)])) (fun _ k => XS.iloadN W2.here hx rfl (hb hby d18_19) rfl k) ?_
  refine go (g' := (mkF m 21 #[.val (.ref b), .val (.ref a), .val (.int (2 : Int32))] [(.int ((2 : Int32) + (2 : Int32))), (.ref b)])) (fun _ k => XS.iadd W2.here hx rfl (hb hby d18_20) rfl k) ?_
  rw [show ((2 : Int32) + (2 : Int32)) = (4 : Int32) from by decide]
  obtain ⟨v3, so3, vm3, T3, h3, W3, C3, q3, hso3, st3⟩ := own_virtual W2 hx (y := (⟨"java/lang/AbstractStringBuilder", "ensureCapacityInternal", "(I)V"⟩ : MethodName)) (z := (⟨"java/lang/AbstractStringBuilder", "ensureCapacityInternal", "(I)V"⟩ : MethodName)) (w158 C) (own_decl (w159 C) (w162 C)) (w161 C) (w159 C) (w128 C) (w162 C) (by decide) (own_nf W2 (w161 C)) Eb (rm_ens4_16 C h0 b t kt [(.int o1), (.int o2), (.int o3), (.int o4), (.int o5), (.int o6), (.int o7), (.int o8), (.int o9), (.int o10), (.int o11), (.int o12), (.int o13), (.int o14), (.int o15), (.int o16)] Fv Fc Vt) (fun _ q => nomatch q) (Wd := 0) (nle rfl) (nle rfl) (nle rfl) (nle rfl) (g := (mkF m 21 #[.val (.ref b), .val (.ref a), .val (.int (2 : Int32))] [(.int (4 : Int32)), (.ref b)])) rfl (by rw [hml]; rfl) (argsL := [(.int (4 : Int32))]) (rest := []) (lenOf pd_5 rfl) rfl rfl (by show 2 * 0 + _ ≤ _; exact Nat.le_of_eq rfl) (hb hby d18_21)
  obtain ⟨rfl, rfl⟩ := q3
  have S3_t : Safe Z own_EL vm3 h0 t := C3.safe (olt (by omega)) (S0 _ (List.mem_of_getElem? (i := 0) rfl))
  refine go (g' := (mkF m 24 #[.val (.ref b), .val (.ref a), .val (.int (2 : Int32))] [])) (st3) ?_
  refine go (g' := (mkF m 25 #[.val (.ref b), .val (.ref a), .val (.int (2 : Int32))] [(.ref b)])) (fun _ k => XS.aloadN W3.here hx rfl (hb hby d18_24) rfl rfl k) ?_
  refine go (g' := (mkF m 26 #[.val (.ref b), .val (.ref a), .val (.int (2 : Int32))] [(.ref b), (.ref b)])) (fun _ k => XS.aloadN W3.here hx rfl (hb hby d18_25) rfl rfl k) ?_
  obtain ⟨T4, W4, st4⟩ := own_get W3 hx (host := "") (Or.inl (w156 C)) Via.refl Fn (g := (mkF m 26 #[.val (.ref b), .val (.ref a), .val (.int (2 : Int32))] [(.ref b), (.ref b)])) rfl rfl (hb hby d18_26)
  refine go (g' := (mkF m 29 #[.val (.ref b), .val (.ref a), .val (.int (2 : Int32))] [(.int (2 : Int32)), (.ref b)])) (st4) ?_
  refine go (g' := (mkF m 30 #[.val (.ref b), .val (.ref a), .val (.int (2 : Int32))] [(.ref a), (.int (2 : Int32)), (.ref b)])) (fun _ k => XS.aloadN W4.here hx rfl (hb hby d18_29) rfl rfl k) ?_
  obtain ⟨v5, so5, vm5, T5, h5, W5, C5, q5, hso5, st5⟩ := own_virtual W4 hx (y := (⟨"java/lang/AbstractStringBuilder", "putStringAt", "(ILjava/lang/String;)V"⟩ : MethodName)) (z := (⟨"java/lang/AbstractStringBuilder", "putStringAt", "(ILjava/lang/String;)V"⟩ : MethodName)) (w163 C) (own_decl (w164 C) (w167 C)) (w166 C) (w164 C) (w128 C) (w167 C) (by decide) (own_nf W4 (w166 C)) Eb (rm_psa2_2_16 C h0 a c1 c2 Sa b t kt o1 o2 o3 o4 o5 o6 o7 o8 o9 o10 o11 o12 o13 o14 o15 o16 Eb Fv Fc Fn Vt (by omega) (by omega)) (allS S3_t all0) (Wd := 0) (nle rfl) (nle rfl) (nle rfl) (nle rfl) (g := (mkF m 30 #[.val (.ref b), .val (.ref a), .val (.int (2 : Int32))] [(.ref a), (.int (2 : Int32)), (.ref b)])) rfl (by rw [hml]; rfl) (argsL := [(.int (2 : Int32)), (.ref a)]) (rest := []) (lenOf pd_9 rfl) rfl rfl (by show 2 * 0 + _ ≤ _; exact Nat.le_of_eq rfl) (hb hby d18_30)
  obtain ⟨rfl, K5, V5⟩ := q5
  have z6 : h0.size ≤ h5.size := K5.1
  have S5_t : Safe Z own_EL vm5 h5 t := C5.safe (olt (by omega)) S3_t
  refine go (g' := (mkF m 33 #[.val (.ref b), .val (.ref a), .val (.int (2 : Int32))] [])) (st5) ?_
  refine go (g' := (mkF m 34 #[.val (.ref b), .val (.ref a), .val (.int (2 : Int32))] [(.ref b)])) (fun _ k => XS.aloadN W5.here hx rfl (hb hby d18_33) rfl rfl k) ?_
  refine go (g' := (mkF m 35 #[.val (.ref b), .val (.ref a), .val (.int (2 : Int32))] [(.ref b), (.ref b)])) (fun _ k => XS.dup W5.here hx rfl (hb hby d18_34) rfl rfl k) ?_
  have f7 : Fld Z h5 b "java/lang/AbstractStringBuilder" "count" "I" (.int (2 : Int32)) := Fn.keep K5 (ninS nbt nin0)
  obtain ⟨T8, W8, st8⟩ := own_get W5 hx (host := "") (Or.inl (w156 C)) Via.refl f7 (g := (mkF m 35 #[.val (.ref b), .val (.ref a), .val (.int (2 : Int32))] [(.ref b), (.ref b)])) rfl rfl (hb hby d18_35)
  refine go (g' := (mkF m 38 #[.val (.ref b), .val (.ref a), .val (.int (2 : Int32))] [(.int (2 : Int32)), (.ref b)])) (st8) ?_
  refine go (g' := (mkF m 39 #[.val (.ref b), .val (.ref a), .val (.int (2 : Int32))] [(.int (2 : Int32)), (.int (2 : Int32)), (.ref b)])) (fun _ k => XS.iloadN W8.here hx rfl (hb hby d18_38) rfl k) ?_
  refine go (g' := (mkF m 40 #[.val (.ref b), .val (.ref a), .val (.int (2 : Int32))] [(.int ((2 : Int32) + (2 : Int32))), (.ref b)])) (fun _ k => XS.iadd W8.here hx rfl (hb hby d18_39) rfl k) ?_
  rw [show ((2 : Int32) + (2 : Int32)) = (4 : Int32) from by decide]
  have f9 : Exa Z h5 b "java/lang/StringBuilder" := Eb.keep K5
  obtain ⟨T10, h10, W10, R10, F10, st10⟩ := own_put W8 hx (host := "") (Or.inl (w156 C)) Via.refl f7 f9 (Or.inl (w157 C)) (w119 C) (ty := .int) (by decide) rfl rfl (own_safeE W8 f9 (by decide) (by decide)) (by omega) (g := (mkF m 40 #[.val (.ref b), .val (.ref a), .val (.int (2 : Int32))] [(.int (4 : Int32)), (.ref b)])) rfl rfl (hb hby d18_40)
  have f11 : Fld Z h5 b "java/lang/AbstractStringBuilder" "value" "[B" (.ref t) := Fv.keep K5 (ninS nbt nin0)
  have f12 : Fld Z h5 b "java/lang/AbstractStringBuilder" "coder" "B" (.int (0 : Int32)) := Fc.keep K5 (ninS nbt nin0)
  have z13 : h10.size = h5.size := R10.size
  have f14 : Exa Z h10 b "java/lang/StringBuilder" := f9.wr R10
  have f15 : Fld Z h10 b "java/lang/AbstractStringBuilder" "value" "[B" (.ref t) := f11.other R10 (Or.inr (slot_ne (Or.inl (w133 C)) (Or.inl (w157 C)) (by decide) (t := (.array .byte)) (t' := .int) (by decide) (by decide)))
  have f16 : Fld Z h10 b "java/lang/AbstractStringBuilder" "coder" "B" (.int (0 : Int32)) := f12.other R10 (Or.inr (slot_ne (Or.inl (w135 C)) (Or.inl (w157 C)) (by decide) (t := .byte) (t' := .int) (by decide) (by decide)))
  have S10_t : Safe Z own_EL vm5 h10 t := Safe.wr R10 (own_safeE W8 f9 (by decide) (by decide)) W8.ch S5_t
  refine go (g' := (mkF m 43 #[.val (.ref b), .val (.ref a), .val (.int (2 : Int32))] [])) (st10) ?_
  refine go (g' := (mkF m 44 #[.val (.ref b), .val (.ref a), .val (.int (2 : Int32))] [(.ref b)])) (fun _ k => XS.aloadN W10.here hx rfl (hb hby d18_43) rfl rfl k) ?_
  have KK17 : Keep h0 h10 [b, t] := (((Keep.refl h0 [b, t]).trans K5 (allS (Or.inl (List.mem_of_getElem? (i := 1) rfl)) all0)).wr R10 (Or.inl (List.mem_of_getElem? (i := 0) rfl)))
  have f18 : Arv Z h10 t kt .byte (16 : Int32) [(.int o1), (.int o2), (.int c1.toInt8.toInt32), (.int c2.toInt8.toInt32), (.int o5), (.int o6), (.int o7), (.int o8), (.int o9), (.int o10), (.int o11), (.int o12), (.int o13), (.int o14), (.int o15), (.int o16)] (.int (0 : Int32)) := V5.other R10 (Ne.symm nbt)
  exact fin (v := some (.ref b)) (so := []) W10 (nle rfl) (nle rfl) (⟨rfl, KK17, f14, f15, f16, F10, f18⟩) (fun _ q => nomatch q) (fun q => nomatch q) (own_retA W10 hx hret rfl rfl rfl (hb hby d18_44))
set_option maxRecDepth 65536 in
set_option maxHeartbeats 40000000 in
theorem rm_sbapp2_2_16 {l : Launch} {Z : State} {a0 : Array Value} (C : Cx Z a0) (h0 : Heap) (a : Addr) (c1 c2 : Int32) (Sa : Str Z h0 a [c1, c2]) (b t : Addr) (kt : ClassId) (o1 o2 o3 o4 o5 o6 o7 o8 o9 o10 o11 o12 o13 o14 o15 o16 : Int32) (Eb : Exa Z h0 b "java/lang/StringBuilder") (Fv : Fld Z h0 b "java/lang/AbstractStringBuilder" "value" "[B" (.ref t)) (Fc : Fld Z h0 b "java/lang/AbstractStringBuilder" "coder" "B" (.int (0 : Int32))) (Fn : Fld Z h0 b "java/lang/AbstractStringBuilder" "count" "I" (.int (2 : Int32))) (Vt : Arv Z h0 t kt .byte (16 : Int32) [(.int o1), (.int o2), (.int o3), (.int o4), (.int o5), (.int o6), (.int o7), (.int o8), (.int o9), (.int o10), (.int o11), (.int o12), (.int o13), (.int o14), (.int o15), (.int o16)] (.int (0 : Int32))) (nb : Z.heap.size ≤ b) (nt : Z.heap.size ≤ t) :
    Ct l Z a0 own_EL (⟨"java/lang/StringBuilder", "append", "(Ljava/lang/String;)Ljava/lang/StringBuilder;"⟩ : MethodName) jdk_67_method_7_code 2 (Option.some (Jvm.ClassFile.FieldType.object "java/lang/StringBuilder")) [] ({ frames := 4, cells := 0, slots := 0, locals := 73 } : Room) #[(.ref b), (.ref a)] h0 [t] (fun v h so => v = some (.ref b) ∧ Keep h0 h [b, t] ∧ Exa Z h b "java/lang/StringBuilder" ∧ Fld Z h b "java/lang/AbstractStringBuilder" "value" "[B" (.ref t) ∧ Fld Z h b "java/lang/AbstractStringBuilder" "coder" "B" (.int (0 : Int32)) ∧ Fld Z h b "java/lang/AbstractStringBuilder" "count" "I" (.int (4 : Int32)) ∧ Arv Z h t kt .byte (16 : Int32) [(.int o1), (.int o2), (.int c1.toInt8.toInt32), (.int c2.toInt8.toInt32), (.int o5), (.int o6), (.int o7), (.int o8), (.int o9), (.int o10), (.int o11), (.int o12), (.int o13), (.int o14), (.int o15), (.int o16)] (.int (0 : Int32))) := by
  refine own_enter (plainFor_of_name pn_7) C.ew (F0 := fun m => mkF m 0 #[.val (.ref b), .val (.ref a)] []) (fun m => by first | (simp [entryFrame, mkF, argsToLocals, Value.category]; done) | rfl) ?_
  intro p e s m below meth c s₁ G hx hby hml hret hnm W0 S0 go fin
  have z0 : Z.heap.size ≤ h0.size := W0.sz
  show G s₁ (mkF m 0 #[.val (.ref b), .val (.ref a)] [])
  have lt : @LT.lt Nat _ t h0.size := Vt.lt
  have lb : @LT.lt Nat _ b h0.size := Eb.lt
  have nbt : b ≠ t := own_neBA Eb Vt (w119 C)
  refine go (g' := (mkF m 1 #[.val (.ref b), .val (.ref a)] [(.ref b)])) (fun _ k => XS.aloadN W0.here hx rfl (hb hby d19_0) rfl rfl k) ?_
  refine go (g' := (mkF m 2 #[.val (.ref b), .val (.ref a)] [(.ref a), (.ref b)])) (fun _ k => XS.aloadN W0.here hx rfl (hb hby d19_1) rfl rfl k) ?_
  obtain ⟨v1, so1, vm1, T1, h1, W1, C1, q1, hso1, st1⟩ := own_super W0 hx (y := (⟨"java/lang/AbstractStringBuilder", "append", "(Ljava/lang/String;)Ljava/lang/AbstractStringBuilder;"⟩ : MethodName)) (w141 C) (own_sameM (y := (⟨"java/lang/AbstractStringBuilder", "append", "(Ljava/lang/String;)Ljava/lang/AbstractStringBuilder;"⟩ : MethodName)) (w144 C) (w161 C) rfl (by decide)) (w142 C) (w143 C) (by decide) (w128 C) (w145 C) (Ins.self Eb) (rm_asbapp2_2_16 C h0 a c1 c2 Sa b t kt o1 o2 o3 o4 o5 o6 o7 o8 o9 o10 o11 o12 o13 o14 o15 o16 Eb Fv Fc Fn Vt (by omega) (by omega)) (allS (S0 _ (List.mem_of_getElem? (i := 0) rfl)) all0) (Wd := 0) (nle rfl) (nle rfl) (nle rfl) (nle rfl) (g := (mkF m 2 #[.val (.ref b), .val (.ref a)] [(.ref a), (.ref b)])) rfl (by rw [hml]; rfl) (argsL := [(.ref a)]) (rest := []) (lenOf pd_10 rfl) rfl rfl (by show 2 * 0 + _ ≤ _; exact Nat.le_of_eq rfl) (hb hby d19_2)
  obtain ⟨rfl, K1, E1, Fv1, Fc1, Fn1, V1⟩ := q1
  have z2 : h0.size ≤ h1.size := K1.1
  have S1_t : Safe Z own_EL vm1 h1 t := C1.safe (olt (by omega)) (S0 _ (List.mem_of_getElem? (i := 0) rfl))
  refine go (g' := (mkF m 5 #[.val (.ref b), .val (.ref a)] [(.ref b)])) (st1) ?_
  refine go (g' := (mkF m 6 #[.val (.ref b), .val (.ref a)] [])) (fun _ k => XS.pop W1.here hx rfl (hb hby d19_5) rfl rfl k) ?_
  refine go (g' := (mkF m 7 #[.val (.ref b), .val (.ref a)] [(.ref b)])) (fun _ k => XS.aloadN W1.here hx rfl (hb hby d19_6) rfl rfl k) ?_
  have KK3 : Keep h0 h1 [b, t] := ((Keep.refl h0 [b, t]).trans K1 (allS (Or.inl (List.mem_of_getElem? (i := 0) rfl)) (allS (Or.inl (List.mem_of_getElem? (i := 1) rfl)) all0)))
  exact fin (v := some (.ref b)) (so := []) W1 (nle rfl) (nle rfl) (⟨rfl, KK3, E1, Fv1, Fc1, Fn1, V1⟩) (fun _ q => nomatch q) (fun q => nomatch q) (own_retA W1 hx hret rfl rfl rfl (hb hby d19_7))
set_option maxRecDepth 65536 in
set_option maxHeartbeats 40000000 in
theorem rm_asb_getValue {l : Launch} {Z : State} {a0 : Array Value} (C : Cx Z a0) (h0 : Heap) (a : Addr) (u : Value) (ru : u.isRef = true) (Fa : Fld Z h0 a "java/lang/AbstractStringBuilder" "value" "[B" u) :
    Ct l Z a0 own_EL (⟨"java/lang/AbstractStringBuilder", "getValue", "()[B"⟩ : MethodName) jdk_68_method_64_code 1 (Option.some (Jvm.ClassFile.FieldType.array Jvm.ClassFile.FieldType.byte)) [] ({ frames := 0, cells := 0, slots := 0, locals := 0 } : Room) #[(.ref a)] h0 [] (fun v h so => v = some u ∧ h0 = h) := by
  refine own_enter (plainFor_of_name pn_6) C.ew (F0 := fun m => mkF m 0 #[.val (.ref a)] []) (fun m => by first | (simp [entryFrame, mkF, argsToLocals, Value.category]; done) | rfl) ?_
  intro p e s m below meth c s₁ G hx hby hml hret hnm W0 S0 go fin
  have z0 : Z.heap.size ≤ h0.size := W0.sz
  show G s₁ (mkF m 0 #[.val (.ref a)] [])
  refine go (g' := (mkF m 1 #[.val (.ref a)] [(.ref a)])) (fun _ k => XS.aloadN W0.here hx rfl (hb hby d20_0) rfl rfl k) ?_
  obtain ⟨T1, W1, st1⟩ := own_get W0 hx (host := "") (Or.inl (w132 C)) Via.refl Fa (g := (mkF m 1 #[.val (.ref a)] [(.ref a)])) rfl rfl (hb hby d20_1)
  refine go (g' := (mkF m 4 #[.val (.ref a)] [u])) (st1) ?_
  exact fin (v := some u) (so := []) W1 (nle rfl) (nle rfl) (⟨rfl, rfl⟩) (fun _ q => nomatch q) (fun q => nomatch q) (own_retA W1 hx hret rfl ru (own_nrR ru rfl) (hb hby d20_4))
set_option maxRecDepth 65536 in
set_option maxHeartbeats 40000000 in
theorem rm_asb_length {l : Launch} {Z : State} {a0 : Array Value} (C : Cx Z a0) (h0 : Heap) (a : Addr) (u : Int32) (Fa : Fld Z h0 a "java/lang/AbstractStringBuilder" "count" "I" (.int u)) :
    Ct l Z a0 own_EL (⟨"java/lang/AbstractStringBuilder", "length", "()I"⟩ : MethodName) jdk_68_method_6_code 1 (Option.some Jvm.ClassFile.FieldType.int) [] ({ frames := 0, cells := 0, slots := 0, locals := 0 } : Room) #[(.ref a)] h0 [] (fun v h so => v = some (.int u) ∧ h0 = h) := by
  refine own_enter (plainFor_of_name pn_6) C.ew (F0 := fun m => mkF m 0 #[.val (.ref a)] []) (fun m => by first | (simp [entryFrame, mkF, argsToLocals, Value.category]; done) | rfl) ?_
  intro p e s m below meth c s₁ G hx hby hml hret hnm W0 S0 go fin
  have z0 : Z.heap.size ≤ h0.size := W0.sz
  show G s₁ (mkF m 0 #[.val (.ref a)] [])
  refine go (g' := (mkF m 1 #[.val (.ref a)] [(.ref a)])) (fun _ k => XS.aloadN W0.here hx rfl (hb hby d21_0) rfl rfl k) ?_
  obtain ⟨T1, W1, st1⟩ := own_get W0 hx (host := "") (Or.inl (w156 C)) Via.refl Fa (g := (mkF m 1 #[.val (.ref a)] [(.ref a)])) rfl rfl (hb hby d21_1)
  refine go (g' := (mkF m 4 #[.val (.ref a)] [(.int u)])) (st1) ?_
  exact fin (v := some (.int u)) (so := []) W1 (nle rfl) (nle rfl) (⟨rfl, rfl⟩) (fun _ q => nomatch q) (fun q => nomatch q) (own_retI W1 hx hret (by decide) rfl (hb hby d21_4))
set_option maxRecDepth 65536 in
set_option maxHeartbeats 40000000 in
theorem rm_sblen {l : Launch} {Z : State} {a0 : Array Value} (C : Cx Z a0) (h0 : Heap) (b : Addr) (u : Int32) (Eb : Exa Z h0 b "java/lang/StringBuilder") (Fn : Fld Z h0 b "java/lang/AbstractStringBuilder" "count" "I" (.int u)) :
    Ct l Z a0 own_EL (⟨"java/lang/StringBuilder", "length", "()I"⟩ : MethodName) jdk_67_method_93_code 1 (Option.some Jvm.ClassFile.FieldType.int) [] ({ frames := 1, cells := 0, slots := 0, locals := 12 } : Room) #[(.ref b)] h0 [] (fun v h so => v = some (.int u) ∧ h0 = h) := by
  refine own_enter (plainFor_of_name pn_7) C.ew (F0 := fun m => mkF m 0 #[.val (.ref b)] []) (fun m => by first | (simp [entryFrame, mkF, argsToLocals, Value.category]; done) | rfl) ?_
  intro p e s m below meth c s₁ G hx hby hml hret hnm W0 S0 go fin
  have z0 : Z.heap.size ≤ h0.size := W0.sz
  show G s₁ (mkF m 0 #[.val (.ref b)] [])
  refine go (g' := (mkF m 1 #[.val (.ref b)] [(.ref b)])) (fun _ k => XS.aloadN W0.here hx rfl (hb hby d22_0) rfl rfl k) ?_
  obtain ⟨v1, so1, vm1, T1, h1, W1, C1, q1, hso1, st1⟩ := own_super W0 hx (y := (⟨"java/lang/AbstractStringBuilder", "length", "()I"⟩ : MethodName)) (w207 C) (own_sameM (y := (⟨"java/lang/AbstractStringBuilder", "length", "()I"⟩ : MethodName)) (w202 C) (w161 C) rfl (by decide)) (w203 C) (w143 C) (by decide) (w128 C) (w208 C) (Ins.self Eb) (rm_asb_length C h0 b u Fn) (fun _ q => nomatch q) (Wd := 0) (nle rfl) (nle rfl) (nle rfl) (nle rfl) (g := (mkF m 1 #[.val (.ref b)] [(.ref b)])) rfl (by rw [hml]; rfl) (argsL := []) (rest := []) (lenOf pd_11 rfl) rfl rfl (by show 2 * 0 + _ ≤ _; exact Nat.le_of_eq rfl) (hb hby d22_1)
  obtain ⟨rfl, rfl⟩ := q1
  refine go (g' := (mkF m 4 #[.val (.ref b)] [(.int u)])) (st1) ?_
  exact fin (v := some (.int u)) (so := []) W1 (nle rfl) (nle rfl) (⟨rfl, rfl⟩) (fun _ q => nomatch q) (fun q => nomatch q) (own_retI W1 hx hret (by decide) rfl (hb hby d22_4))
set_option maxRecDepth 65536 in
set_option maxHeartbeats 40000000 in
theorem rm_asbl1 {l : Launch} {Z : State} {a0 : Array Value} (C : Cx Z a0) (h0 : Heap) (b : Addr) (Fc : Fld Z h0 b "java/lang/AbstractStringBuilder" "coder" "B" (.int (0 : Int32))) :
    Ct l Z a0 own_EL (⟨"java/lang/AbstractStringBuilder", "isLatin1", "()Z"⟩ : MethodName) jdk_68_method_68_code 1 (Option.some Jvm.ClassFile.FieldType.boolean) [] ({ frames := 0, cells := 0, slots := 0, locals := 0 } : Room) #[(.ref b)] h0 [] (fun v h so => v = some (.int 1) ∧ h0 = h) := by
  refine own_enter (plainFor_of_name pn_6) C.ew (F0 := fun m => mkF m 0 #[.val (.ref b)] []) (fun m => by first | (simp [entryFrame, mkF, argsToLocals, Value.category]; done) | rfl) ?_
  intro p e s m below meth c s₁ G hx hby hml hret hnm W0 S0 go fin
  have z0 : Z.heap.size ≤ h0.size := W0.sz
  show G s₁ (mkF m 0 #[.val (.ref b)] [])
  obtain ⟨gCS, OCS, nCS⟩ := C.cs
  obtain ⟨T1, W1, st1⟩ := own_getS W0 hx (host := "") (Or.inl (w131 C)) Via.refl OCS (g := (mkF m 0 #[.val (.ref b)] [])) rfl (hb hby d23_0)
  refine go (g' := (mkF m 3 #[.val (.ref b)] [(.int gCS)])) (st1) ?_
  refine go (g' := (mkF m 6 #[.val (.ref b)] [])) (fun _ k => XS.ifNo W1.here hx rfl (hb hby d23_3) rfl ((if0 _ _).trans (feq nCS).1) k) ?_
  refine go (g' := (mkF m 7 #[.val (.ref b)] [(.ref b)])) (fun _ k => XS.aloadN W1.here hx rfl (hb hby d23_6) rfl rfl k) ?_
  obtain ⟨T2, W2, st2⟩ := own_get W1 hx (host := "") (Or.inl (w134 C)) Via.refl Fc (g := (mkF m 7 #[.val (.ref b)] [(.ref b)])) rfl rfl (hb hby d23_7)
  refine go (g' := (mkF m 10 #[.val (.ref b)] [(.int (0 : Int32))])) (st2) ?_
  refine go (g' := (mkF m 13 #[.val (.ref b)] [])) (fun _ k => XS.ifNo W2.here hx rfl (hb hby d23_10) rfl ((if0 _ _).trans (teq ((by decide) : (0 : Int32) = (0 : Int32))).2) k) ?_
  refine go (g' := (mkF m 14 #[.val (.ref b)] [(.int (1 : Int32))])) (fun _ k => XS.iconst W2.here hx rfl (hb hby d23_13) k) ?_
  refine go (g' := (mkF m 18 #[.val (.ref b)] [(.int (1 : Int32))])) (fun _ k => XS.goto W2.here hx rfl (pc0 := 14) (pc' := 18) rfl (hb hby d23_14) (by decide) (by decide) k) ?_
  exact fin (v := some (.int (1 : Int32))) (so := []) W2 (nle rfl) (nle rfl) (⟨rfl, rfl⟩) (fun _ q => nomatch q) (fun q => nomatch q) (own_retI W2 hx hret (by decide) rfl (hb hby d23_18))
set_option maxRecDepth 65536 in
set_option maxHeartbeats 40000000 in
theorem rm_chk0_4 {l : Launch} {Z : State} {a0 : Array Value} (C : Cx Z a0) (h0 : Heap) :
    Ct l Z a0 own_EL (⟨"java/util/Arrays", "checkLength", "(II)V"⟩ : MethodName) jdk_65_method_131_code 2 (Option.none : Option Jvm.ClassFile.FieldType) [] ({ frames := 0, cells := 0, slots := 0, locals := 0 } : Room) #[(.int (0 : Int32)), (.int (4 : Int32))] h0 [] (fun v h so => v = none ∧ h0 = h) := by
  refine own_enter (plainFor_of_name pn_8) C.ew (F0 := fun m => mkF m 0 #[.val (.int (0 : Int32)), .val (.int (4 : Int32))] []) (fun m => by first | (simp [entryFrame, mkF, argsToLocals, Value.category]; done) | rfl) ?_
  intro p e s m below meth c s₁ G hx hby hml hret hnm W0 S0 go fin
  have z0 : Z.heap.size ≤ h0.size := W0.sz
  show G s₁ (mkF m 0 #[.val (.int (0 : Int32)), .val (.int (4 : Int32))] [])
  refine go (g' := (mkF m 1 #[.val (.int (0 : Int32)), .val (.int (4 : Int32))] [(.int (4 : Int32))])) (fun _ k => XS.iloadN W0.here hx rfl (hb hby d24_0) rfl k) ?_
  refine go (g' := (mkF m 2 #[.val (.int (0 : Int32)), .val (.int (4 : Int32))] [(.int (0 : Int32)), (.int (4 : Int32))])) (fun _ k => XS.iloadN W0.here hx rfl (hb hby d24_1) rfl k) ?_
  refine go (g' := (mkF m 37 #[.val (.int (0 : Int32)), .val (.int (4 : Int32))] [])) (fun _ k => XS.icmpYes W0.here hx rfl (pc0 := 2) (pc' := 37) rfl (hb hby d24_2) rfl (flt ((by decide) : ¬ ((4 : Int32) < (0 : Int32)))).2.1 (by decide) (by decide) k) ?_
  exact fin (v := none) (so := []) W0 (nle rfl) (nle rfl) (⟨rfl, rfl⟩) (fun _ q => nomatch q) (fun _ => rfl) (own_retV W0 hx hret (hb hby d24_37))
set_option maxRecDepth 65536 in
set_option maxHeartbeats 40000000 in
theorem rm_min16_4 {l : Launch} {Z : State} {a0 : Array Value} (C : Cx Z a0) (h0 : Heap) :
    Ct l Z a0 own_EL (⟨"java/lang/Math", "min", "(II)I"⟩ : MethodName) jdk_29_method_69_code 2 (Option.some Jvm.ClassFile.FieldType.int) [] ({ frames := 0, cells := 0, slots := 0, locals := 0 } : Room) #[(.int (16 : Int32)), (.int (4 : Int32))] h0 [] (fun v h so => v = some (.int (4 : Int32)) ∧ h0 = h) := by
  refine own_enter (Jvm.Free.JP.mathPlain rfl (by decide +kernel)) C.ew (F0 := fun m => mkF m 0 #[.val (.int (16 : Int32)), .val (.int (4 : Int32))] []) (fun m => by first | (simp [entryFrame, mkF, argsToLocals, Value.category]; done) | rfl) ?_
  intro p e s m below meth c s₁ G hx hby hml hret hnm W0 S0 go fin
  have z0 : Z.heap.size ≤ h0.size := W0.sz
  show G s₁ (mkF m 0 #[.val (.int (16 : Int32)), .val (.int (4 : Int32))] [])
  refine go (g' := (mkF m 1 #[.val (.int (16 : Int32)), .val (.int (4 : Int32))] [(.int (16 : Int32))])) (fun _ k => XS.iloadN W0.here hx rfl (hb hby d25_0) rfl k) ?_
  refine go (g' := (mkF m 2 #[.val (.int (16 : Int32)), .val (.int (4 : Int32))] [(.int (4 : Int32)), (.int (16 : Int32))])) (fun _ k => XS.iloadN W0.here hx rfl (hb hby d25_1) rfl k) ?_
  refine go (g' := (mkF m 9 #[.val (.int (16 : Int32)), .val (.int (4 : Int32))] [])) (fun _ k => XS.icmpYes W0.here hx rfl (pc0 := 2) (pc' := 9) rfl (hb hby d25_2) rfl (tlt ((by decide) : (4 : Int32) < (16 : Int32))).2.2.1 (by decide) (by decide) k) ?_
  refine go (g' := (mkF m 10 #[.val (.int (16 : Int32)), .val (.int (4 : Int32))] [(.int (4 : Int32))])) (fun _ k => XS.iloadN W0.here hx rfl (hb hby d25_9) rfl k) ?_
  exact fin (v := some (.int (4 : Int32))) (so := []) W0 (nle rfl) (nle rfl) (⟨rfl, rfl⟩) (fun _ q => nomatch q) (fun q => nomatch q) (own_retI W0 hx hret (by decide) rfl (hb hby d25_10))
set_option maxRecDepth 65536 in
set_option maxHeartbeats 40000000 in
theorem rm_corb0_4_16 {l : Launch} {Z : State} {a0 : Array Value} (C : Cx Z a0) (h0 : Heap) (t : Addr) (kt : ClassId) (o1 o2 o3 o4 o5 o6 o7 o8 o9 o10 o11 o12 o13 o14 o15 o16 : Int32) (Vt : Arv Z h0 t kt .byte (16 : Int32) [(.int o1), (.int o2), (.int o3), (.int o4), (.int o5), (.int o6), (.int o7), (.int o8), (.int o9), (.int o10), (.int o11), (.int o12), (.int o13), (.int o14), (.int o15), (.int o16)] (.int (0 : Int32))) :
    Ct l Z a0 own_EL (⟨"java/util/Arrays", "copyOfRangeByte", "([BII)[B"⟩ : MethodName) jdk_65_method_133_code 5 (Option.some (Jvm.ClassFile.FieldType.array Jvm.ClassFile.FieldType.byte)) [] ({ frames := 1, cells := 1, slots := 4, locals := 30 } : Room) #[(.ref t), (.int (0 : Int32)), (.int (4 : Int32))] h0 [] (fun v h so => ∃ (x : Addr) (kx : ClassId), v = some (.ref x) ∧ Ext h0 h ∧ h0.size ≤ x ∧ Arv Z h x kx .byte (4 : Int32) [(.int o1), (.int o2), (.int o3), (.int o4)] (.int (0 : Int32))) := by
  refine own_enter (plainFor_of_name pn_8) C.ew (F0 := fun m => mkF m 0 #[.val (.ref t), .val (.int (0 : Int32)), .val (.int (4 : Int32)), .unset, .unset] []) (fun m => by first | (simp [entryFrame, mkF, argsToLocals, Value.category]; done) | rfl) ?_
  intro p e s m below meth c s₁ G hx hby hml hret hnm W0 S0 go fin
  have z0 : Z.heap.size ≤ h0.size := W0.sz
  show G s₁ (mkF m 0 #[.val (.ref t), .val (.int (0 : Int32)), .val (.int (4 : Int32)), .unset, .unset] [])
  refine go (g' := (mkF m 1 #[.val (.ref t), .val (.int (0 : Int32)), .val (.int (4 : Int32)), .unset, .unset] [(.int (0 : Int32))])) (fun _ k => XS.iloadN W0.here hx rfl (hb hby d26_0) rfl k) ?_
  refine go (g' := (mkF m 2 #[.val (.ref t), .val (.int (0 : Int32)), .val (.int (4 : Int32)), .unset, .unset] [(.int (4 : Int32)), (.int (0 : Int32))])) (fun _ k => XS.iloadN W0.here hx rfl (hb hby d26_1) rfl k) ?_
  obtain ⟨v1, so1, vm1, T1, h1, W1, C1, q1, hso1, st1⟩ := own_static W0 hx (y := (⟨"java/util/Arrays", "checkLength", "(II)V"⟩ : MethodName)) (w221 C) (w222 C) (w216 C) (w223 C) (by decide) (rm_chk0_4 C h0) (fun _ q => nomatch q) (Wd := 0) (nle rfl) (nle rfl) (nle rfl) (nle rfl) (g := (mkF m 2 #[.val (.ref t), .val (.int (0 : Int32)), .val (.int (4 : Int32)), .unset, .unset] [(.int (4 : Int32)), (.int (0 : Int32))])) rfl (by rw [hml]; rfl) (argsL := [(.int (0 : Int32)), (.int (4 : Int32))]) (rest := []) (lenOf pd_12 rfl) rfl rfl (by show 2 * 0 + _ ≤ _; exact Nat.le_of_eq rfl) (hb hby d26_2)
  obtain ⟨rfl, rfl⟩ := q1
  refine go (g' := (mkF m 5 #[.val (.ref t), .val (.int (0 : Int32)), .val (.int (4 : Int32)), .unset, .unset] [])) (st1) ?_
  refine go (g' := (mkF m 6 #[.val (.ref t), .val (.int (0 : Int32)), .val (.int (4 : Int32)), .unset, .unset] [(.int (4 : Int32))])) (fun _ k => XS.iloadN W1.here hx rfl (hb hby d26_5) rfl k) ?_
  refine go (g' := (mkF m 7 #[.val (.ref t), .val (.int (0 : Int32)), .val (.int (4 : Int32)), .unset, .unset] [(.int (0 : Int32)), (.int (4 : Int32))])) (fun _ k => XS.iloadN W1.here hx rfl (hb hby d26_6) rfl k) ?_
  refine go (g' := (mkF m 8 #[.val (.ref t), .val (.int (0 : Int32)), .val (.int (4 : Int32)), .unset, .unset] [(.int ((4 : Int32) - (0 : Int32)))])) (fun _ k => XS.isub W1.here hx rfl (hb hby d26_7) rfl k) ?_
  rw [show ((4 : Int32) - (0 : Int32)) = (4 : Int32) from by decide]
  refine go (g' := (mkF m 9 #[.val (.ref t), .val (.int (0 : Int32)), .val (.int (4 : Int32)), .val (.int (4 : Int32)), .unset] [])) (fun _ k => XS.istoreN W1.here hx rfl (hb hby d26_8) rfl (l' := #[.val (.ref t), .val (.int (0 : Int32)), .val (.int (4 : Int32)), .val (.int (4 : Int32)), .unset]) rfl k) ?_
  refine go (g' := (mkF m 10 #[.val (.ref t), .val (.int (0 : Int32)), .val (.int (4 : Int32)), .val (.int (4 : Int32)), .unset] [(.int (4 : Int32))])) (fun _ k => XS.iloadN W1.here hx rfl (hb hby d26_9) rfl k) ?_
  obtain ⟨x2, T2, h2, k2, g2, W2, E2, A2, st2⟩ := own_newP W1 hx (aty := .byte) (w19 C) (g := (mkF m 10 #[.val (.ref t), .val (.int (0 : Int32)), .val (.int (4 : Int32)), .val (.int (4 : Int32)), .unset] [(.int (4 : Int32))])) rfl (hb hby d26_10) rfl (by decide) (cap := 4) (by decide) (nle rfl) (nle rfl) (nle rfl)
  have z3 : h0.size ≤ h2.size := E2.1
  have l2 : @LT.lt Nat _ x2 h2.size := A2.lt
  have V2 : Arv Z h2 x2 k2 .byte (4 : Int32) [(.int (0 : Int32)), (.int (0 : Int32)), (.int (0 : Int32)), (.int (0 : Int32))] (.int (0 : Int32)) := A2.pad (pad_rep [] (.int (0 : Int32)) 4)
  refine go (g' := (mkF m 12 #[.val (.ref t), .val (.int (0 : Int32)), .val (.int (4 : Int32)), .val (.int (4 : Int32)), .unset] [(.ref x2)])) (st2) ?_
  refine go (g' := (mkF m 14 #[.val (.ref t), .val (.int (0 : Int32)), .val (.int (4 : Int32)), .val (.int (4 : Int32)), .val (.ref x2)] [])) (fun _ k => XS.astore W2.here hx rfl (hb hby d26_12) rfl rfl (l' := #[.val (.ref t), .val (.int (0 : Int32)), .val (.int (4 : Int32)), .val (.int (4 : Int32)), .val (.ref x2)]) rfl k) ?_
  refine go (g' := (mkF m 15 #[.val (.ref t), .val (.int (0 : Int32)), .val (.int (4 : Int32)), .val (.int (4 : Int32)), .val (.ref x2)] [(.ref t)])) (fun _ k => XS.aloadN W2.here hx rfl (hb hby d26_14) rfl rfl k) ?_
  refine go (g' := (mkF m 16 #[.val (.ref t), .val (.int (0 : Int32)), .val (.int (4 : Int32)), .val (.int (4 : Int32)), .val (.ref x2)] [(.int (0 : Int32)), (.ref t)])) (fun _ k => XS.iloadN W2.here hx rfl (hb hby d26_15) rfl k) ?_
  refine go (g' := (mkF m 18 #[.val (.ref t), .val (.int (0 : Int32)), .val (.int (4 : Int32)), .val (.int (4 : Int32)), .val (.ref x2)] [(.ref x2), (.int (0 : Int32)), (.ref t)])) (fun _ k => XS.aload W2.here hx rfl (hb hby d26_16) rfl rfl k) ?_
  refine go (g' := (mkF m 19 #[.val (.ref t), .val (.int (0 : Int32)), .val (.int (4 : Int32)), .val (.int (4 : Int32)), .val (.ref x2)] [(.int (0 : Int32)), (.ref x2), (.int (0 : Int32)), (.ref t)])) (fun _ k => XS.iconst W2.here hx rfl (hb hby d26_18) k) ?_
  refine go (g' := (mkF m 20 #[.val (.ref t), .val (.int (0 : Int32)), .val (.int (4 : Int32)), .val (.int (4 : Int32)), .val (.ref x2)] [(.ref t), (.int (0 : Int32)), (.ref x2), (.int (0 : Int32)), (.ref t)])) (fun _ k => XS.aloadN W2.here hx rfl (hb hby d26_19) rfl rfl k) ?_
  have X4 : Ext h0 h2 := own_xt (own_xr h0) E2
  have f5 : Arv Z h2 t kt .byte (16 : Int32) [(.int o1), (.int o2), (.int o3), (.int o4), (.int o5), (.int o6), (.int o7), (.int o8), (.int o9), (.int o10), (.int o11), (.int o12), (.int o13), (.int o14), (.int o15), (.int o16)] (.int (0 : Int32)) := Vt.ext X4
  refine go (g' := (mkF m 21 #[.val (.ref t), .val (.int (0 : Int32)), .val (.int (4 : Int32)), .val (.int (4 : Int32)), .val (.ref x2)] [(.int (16 : Int32)), (.int (0 : Int32)), (.ref x2), (.int (0 : Int32)), (.ref t)])) (own_alen W2 hx f5 (g := (mkF m 20 #[.val (.ref t), .val (.int (0 : Int32)), .val (.int (4 : Int32)), .val (.int (4 : Int32)), .val (.ref x2)] [(.ref t), (.int (0 : Int32)), (.ref x2), (.int (0 : Int32)), (.ref t)])) rfl rfl (hb hby d26_20)) ?_
  refine go (g' := (mkF m 22 #[.val (.ref t), .val (.int (0 : Int32)), .val (.int (4 : Int32)), .val (.int (4 : Int32)), .val (.ref x2)] [(.int (0 : Int32)), (.int (16 : Int32)), (.int (0 : Int32)), (.ref x2), (.int (0 : Int32)), (.ref t)])) (fun _ k => XS.iloadN W2.here hx rfl (hb hby d26_21) rfl k) ?_
  refine go (g' := (mkF m 23 #[.val (.ref t), .val (.int (0 : Int32)), .val (.int (4 : Int32)), .val (.int (4 : Int32)), .val (.ref x2)] [(.int ((16 : Int32) - (0 : Int32))), (.int (0 : Int32)), (.ref x2), (.int (0 : Int32)), (.ref t)])) (fun _ k => XS.isub W2.here hx rfl (hb hby d26_22) rfl k) ?_
  rw [show ((16 : Int32) - (0 : Int32)) = (16 : Int32) from by decide]
  refine go (g' := (mkF m 24 #[.val (.ref t), .val (.int (0 : Int32)), .val (.int (4 : Int32)), .val (.int (4 : Int32)), .val (.ref x2)] [(.int (4 : Int32)), (.int (16 : Int32)), (.int (0 : Int32)), (.ref x2), (.int (0 : Int32)), (.ref t)])) (fun _ k => XS.iloadN W2.here hx rfl (hb hby d26_23) rfl k) ?_
  obtain ⟨v6, so6, vm6, T6, h6, W6, C6, q6, hso6, st6⟩ := own_static W2 hx (y := (⟨"java/lang/Math", "min", "(II)I"⟩ : MethodName)) (w224 C) (w225 C) (w226 C) (w227 C) (by decide) (rm_min16_4 C h2) (fun _ q => nomatch q) (Wd := 4) (nle rfl) (nle rfl) (nle rfl) (nle rfl) (g := (mkF m 24 #[.val (.ref t), .val (.int (0 : Int32)), .val (.int (4 : Int32)), .val (.int (4 : Int32)), .val (.ref x2)] [(.int (4 : Int32)), (.int (16 : Int32)), (.int (0 : Int32)), (.ref x2), (.int (0 : Int32)), (.ref t)])) rfl (by rw [hml]; rfl) (argsL := [(.int (16 : Int32)), (.int (4 : Int32))]) (rest := [(.int (0 : Int32)), (.ref x2), (.int (0 : Int32)), (.ref t)]) (lenOf pd_13 rfl) rfl rfl (by show 2 * 0 + _ ≤ _; exact Nat.le_of_eq rfl) (hb hby d26_24)
  obtain ⟨rfl, rfl⟩ := q6
  have S6_x2 : Safe Z own_EL vm6 h2 x2 := C6.safe (olt (by omega)) (own_safeB W1 X4 (by omega))
  refine go (g' := (mkF m 27 #[.val (.ref t), .val (.int (0 : Int32)), .val (.int (4 : Int32)), .val (.int (4 : Int32)), .val (.ref x2)] [(.int (4 : Int32)), (.int (0 : Int32)), (.ref x2), (.int (0 : Int32)), (.ref t)])) (st6) ?_
  obtain ⟨T7, h7, W7, K7, V7, st7⟩ := own_cp W6 hx (w228 C) (w182 C) (w180 C) (w181 C) f5 V2 rfl S6_x2 (sp := (0 : Int32)) (dp := (0 : Int32)) (nn := (4 : Int32)) (by decide) (by decide) (by decide) (by decide) (by decide) (us := [(.int o1), (.int o2), (.int o3), (.int o4)]) rfl (Nat.le_of_ble_eq_true rfl) (by omega) (g := (mkF m 27 #[.val (.ref t), .val (.int (0 : Int32)), .val (.int (4 : Int32)), .val (.int (4 : Int32)), .val (.ref x2)] [(.int (4 : Int32)), (.int (0 : Int32)), (.ref x2), (.int (0 : Int32)), (.ref t)])) rfl (by rw [hml]; rfl) rfl (hb hby d26_27) (nle rfl) (Wd := 0) (by show 2 * 0 + _ ≤ _; exact Nat.le_of_eq rfl) (nle rfl)
  have z8 : h2.size ≤ h7.size := K7.1
  have U7 : Arv Z h7 x2 k2 .byte (4 : Int32) [(.int o1), (.int o2), (.int o3), (.int o4)] (.int (0 : Int32)) := V7
  have S7_x2 : Safe Z own_EL vm6 h7 x2 := Safe.keep K7 (allS S6_x2 all0) W6.ch S6_x2
  refine go (g' := (mkF m 30 #[.val (.ref t), .val (.int (0 : Int32)), .val (.int (4 : Int32)), .val (.int (4 : Int32)), .val (.ref x2)] [])) (st7) ?_
  refine go (g' := (mkF m 32 #[.val (.ref t), .val (.int (0 : Int32)), .val (.int (4 : Int32)), .val (.int (4 : Int32)), .val (.ref x2)] [(.ref x2)])) (fun _ k => XS.aload W7.here hx rfl (hb hby d26_30) rfl rfl k) ?_
  have X9 : Ext h0 h7 := own_xk X4 K7 (allS (by omega) all0)
  exact fin (v := some (.ref x2)) (so := []) W7 (nle rfl) (nle rfl) (⟨_, _, rfl, X9, by omega, U7⟩) (fun _ q => nomatch q) (fun q => nomatch q) (own_retA W7 hx hret rfl rfl rfl (hb hby d26_32))
set_option maxRecDepth 65536 in
set_option maxHeartbeats 40000000 in
theorem rm_cor0_4_16 {l : Launch} {Z : State} {a0 : Array Value} (C : Cx Z a0) (h0 : Heap) (t : Addr) (kt : ClassId) (o1 o2 o3 o4 o5 o6 o7 o8 o9 o10 o11 o12 o13 o14 o15 o16 : Int32) (Vt : Arv Z h0 t kt .byte (16 : Int32) [(.int o1), (.int o2), (.int o3), (.int o4), (.int o5), (.int o6), (.int o7), (.int o8), (.int o9), (.int o10), (.int o11), (.int o12), (.int o13), (.int o14), (.int o15), (.int o16)] (.int (0 : Int32))) :
    Ct l Z a0 own_EL (⟨"java/util/Arrays", "copyOfRange", "([BII)[B"⟩ : MethodName) jdk_65_method_132_code 3 (Option.some (Jvm.ClassFile.FieldType.array Jvm.ClassFile.FieldType.byte)) [] ({ frames := 2, cells := 1, slots := 4, locals := 46 } : Room) #[(.ref t), (.int (0 : Int32)), (.int (4 : Int32))] h0 [] (fun v h so => ∃ (x : Addr) (kx : ClassId), v = some (.ref x) ∧ Ext h0 h ∧ h0.size ≤ x ∧ Arv Z h x kx .byte (4 : Int32) [(.int o1), (.int o2), (.int o3), (.int o4)] (.int (0 : Int32))) := by
  refine own_enter (plainFor_of_name pn_8) C.ew (F0 := fun m => mkF m 0 #[.val (.ref t), .val (.int (0 : Int32)), .val (.int (4 : Int32))] []) (fun m => by first | (simp [entryFrame, mkF, argsToLocals, Value.category]; done) | rfl) ?_
  intro p e s m below meth c s₁ G hx hby hml hret hnm W0 S0 go fin
  have z0 : Z.heap.size ≤ h0.size := W0.sz
  show G s₁ (mkF m 0 #[.val (.ref t), .val (.int (0 : Int32)), .val (.int (4 : Int32))] [])
  refine go (g' := (mkF m 1 #[.val (.ref t), .val (.int (0 : Int32)), .val (.int (4 : Int32))] [(.int (0 : Int32))])) (fun _ k => XS.iloadN W0.here hx rfl (hb hby d27_0) rfl k) ?_
  refine go (g' := (mkF m 4 #[.val (.ref t), .val (.int (0 : Int32)), .val (.int (4 : Int32))] [])) (fun _ k => XS.ifNo W0.here hx rfl (hb hby d27_1) rfl ((if0 _ _).trans (teq ((by decide) : (0 : Int32) = (0 : Int32))).2) k) ?_
  refine go (g' := (mkF m 5 #[.val (.ref t), .val (.int (0 : Int32)), .val (.int (4 : Int32))] [(.int (4 : Int32))])) (fun _ k => XS.iloadN W0.here hx rfl (hb hby d27_4) rfl k) ?_
  refine go (g' := (mkF m 6 #[.val (.ref t), .val (.int (0 : Int32)), .val (.int (4 : Int32))] [(.ref t), (.int (4 : Int32))])) (fun _ k => XS.aloadN W0.here hx rfl (hb hby d27_5) rfl rfl k) ?_
  refine go (g' := (mkF m 7 #[.val (.ref t), .val (.int (0 : Int32)), .val (.int (4 : Int32))] [(.int (16 : Int32)), (.int (4 : Int32))])) (own_alen W0 hx Vt (g := (mkF m 6 #[.val (.ref t), .val (.int (0 : Int32)), .val (.int (4 : Int32))] [(.ref t), (.int (4 : Int32))])) rfl rfl (hb hby d27_6)) ?_
  refine go (g' := (mkF m 10 #[.val (.ref t), .val (.int (0 : Int32)), .val (.int (4 : Int32))] [])) (fun _ k => XS.icmpNo W0.here hx rfl (hb hby d27_7) rfl (feq ((by decide) : ¬ ((4 : Int32) = (16 : Int32)))).1 k) ?_
  refine go (g' := (mkF m 11 #[.val (.ref t), .val (.int (0 : Int32)), .val (.int (4 : Int32))] [(.ref t)])) (fun _ k => XS.aloadN W0.here hx rfl (hb hby d27_10) rfl rfl k) ?_
  refine go (g' := (mkF m 12 #[.val (.ref t), .val (.int (0 : Int32)), .val (.int (4 : Int32))] [(.int (0 : Int32)), (.ref t)])) (fun _ k => XS.iloadN W0.here hx rfl (hb hby d27_11) rfl k) ?_
  refine go (g' := (mkF m 13 #[.val (.ref t), .val (.int (0 : Int32)), .val (.int (4 : Int32))] [(.int (4 : Int32)), (.int (0 : Int32)), (.ref t)])) (fun _ k => XS.iloadN W0.here hx rfl (hb hby d27_12) rfl k) ?_
  obtain ⟨v1, so1, vm1, T1, h1, W1, C1, q1, hso1, st1⟩ := own_static W0 hx (y := (⟨"java/util/Arrays", "copyOfRangeByte", "([BII)[B"⟩ : MethodName)) (w218 C) (w219 C) (w216 C) (w220 C) (by decide) (rm_corb0_4_16 C h0 t kt o1 o2 o3 o4 o5 o6 o7 o8 o9 o10 o11 o12 o13 o14 o15 o16 Vt) (fun _ q => nomatch q) (Wd := 0) (nle rfl) (nle rfl) (nle rfl) (nle rfl) (g := (mkF m 13 #[.val (.ref t), .val (.int (0 : Int32)), .val (.int (4 : Int32))] [(.int (4 : Int32)), (.int (0 : Int32)), (.ref t)])) rfl (by rw [hml]; rfl) (argsL := [(.ref t), (.int (0 : Int32)), (.int (4 : Int32))]) (rest := []) (lenOf pd_14 rfl) rfl rfl (by show 2 * 0 + _ ≤ _; exact Nat.le_of_eq rfl) (hb hby d27_13)
  obtain ⟨x1, k1, rfl, E1, g1, V1⟩ := q1
  have z2 : h0.size ≤ h1.size := E1.1
  refine go (g' := (mkF m 16 #[.val (.ref t), .val (.int (0 : Int32)), .val (.int (4 : Int32))] [(.ref x1)])) (st1) ?_
  have X3 : Ext h0 h1 := own_xt (own_xr h0) E1
  exact fin (v := some (.ref x1)) (so := []) W1 (nle rfl) (nle rfl) (⟨_, _, rfl, X3, by omega, V1⟩) (fun _ q => nomatch q) (fun q => nomatch q) (own_retA W1 hx hret rfl rfl rfl (hb hby d27_16))
set_option maxRecDepth 65536 in
set_option maxHeartbeats 40000000 in
theorem rm_sia4_16 {l : Launch} {Z : State} {a0 : Array Value} (C : Cx Z a0) (h0 : Heap) (x : Addr) (Ex : Exa Z h0 x "java/lang/String") (Xv : Fld Z h0 x "java/lang/String" "value" "[B" .null) (Xc : Fld Z h0 x "java/lang/String" "coder" "B" (.int (0 : Int32))) (nx : Z.heap.size ≤ x) (b t : Addr) (kt : ClassId) (o1 o2 o3 o4 o5 o6 o7 o8 o9 o10 o11 o12 o13 o14 o15 o16 : Int32) (Eb : Exa Z h0 b "java/lang/StringBuilder") (Fv : Fld Z h0 b "java/lang/AbstractStringBuilder" "value" "[B" (.ref t)) (Fc : Fld Z h0 b "java/lang/AbstractStringBuilder" "coder" "B" (.int (0 : Int32))) (Fn : Fld Z h0 b "java/lang/AbstractStringBuilder" "count" "I" (.int (4 : Int32))) (Vt : Arv Z h0 t kt .byte (16 : Int32) [(.int o1), (.int o2), (.int o3), (.int o4), (.int o5), (.int o6), (.int o7), (.int o8), (.int o9), (.int o10), (.int o11), (.int o12), (.int o13), (.int o14), (.int o15), (.int o16)] (.int (0 : Int32))) (nb : Z.heap.size ≤ b) (nt : Z.heap.size ≤ t) :
    Ct l Z a0 own_EL (⟨"java/lang/String", "<init>", "(Ljava/lang/AbstractStringBuilder;Ljava/lang/Void;)V"⟩ : MethodName) jdk_42_method_150_code 5 (Option.none : Option Jvm.ClassFile.FieldType) [] ({ frames := 3, cells := 1, slots := 4, locals := 61 } : Room) #[(.ref x), (.ref b), .null] h0 [x] (fun v h so => v = none ∧ Keep h0 h [x] ∧ Exa Z h x "java/lang/String" ∧ Fld Z h x "java/lang/String" "coder" "B" (.int (0 : Int32)) ∧ ∃ (u : Addr) (ku : ClassId), Fld Z h x "java/lang/String" "value" "[B" (.ref u) ∧ Arv Z h u ku .byte (4 : Int32) [(.int o1), (.int o2), (.int o3), (.int o4)] (.int (0 : Int32))) := by
  refine own_enter (plainFor_of_name pn_1) C.ew (F0 := fun m => mkF m 0 #[.val (.ref x), .val (.ref b), .val .null, .unset, .unset] []) (fun m => by first | (simp [entryFrame, mkF, argsToLocals, Value.category]; done) | rfl) ?_
  intro p e s m below meth c s₁ G hx hby hml hret hnm W0 S0 go fin
  have z0 : Z.heap.size ≤ h0.size := W0.sz
  show G s₁ (mkF m 0 #[.val (.ref x), .val (.ref b), .val .null, .unset, .unset] [])
  have lx : @LT.lt Nat _ x h0.size := Ex.lt
  have nbx : b ≠ x := ne_exa Eb Ex (by decide)
  have ntx : t ≠ x := Ne.symm (own_neBA Ex Vt (w1 C))
  refine go (g' := (mkF m 1 #[.val (.ref x), .val (.ref b), .val .null, .unset, .unset] [(.ref x)])) (fun _ k => XS.aloadN W0.here hx rfl (hb hby d28_0) rfl rfl k) ?_
  obtain ⟨T1, W1, st1⟩ := own_initO W0 hx (w11 C) (w12 C) (w13 C) (g := (mkF m 1 #[.val (.ref x), .val (.ref b), .val .null, .unset, .unset] [(.ref x)])) rfl (by rw [hml]; rfl) rfl (hb hby d28_1) (nle rfl) (Wd := 0) (by show 2 * 0 + _ ≤ _; exact Nat.le_of_eq rfl) (nle rfl)
  refine go (g' := (mkF m 4 #[.val (.ref x), .val (.ref b), .val .null, .unset, .unset] [])) (st1) ?_
  refine go (g' := (mkF m 5 #[.val (.ref x), .val (.ref b), .val .null, .unset, .unset] [(.ref b)])) (fun _ k => XS.aloadN W1.here hx rfl (hb hby d28_4) rfl rfl k) ?_
  obtain ⟨v2, so2, vm2, T2, h2, W2, C2, q2, hso2, st2⟩ := own_virtual W1 hx (y := (⟨"java/lang/AbstractStringBuilder", "getValue", "()[B"⟩ : MethodName)) (z := (⟨"java/lang/AbstractStringBuilder", "getValue", "()[B"⟩ : MethodName)) (w196 C) (w197 C) (w199 C) (w198 C) (w128 C) (w200 C) (by decide) (own_nf W1 (w199 C)) Eb (rm_asb_getValue C h0 b (.ref t) rfl Fv) (fun _ q => nomatch q) (Wd := 0) (nle rfl) (nle rfl) (nle rfl) (nle rfl) (g := (mkF m 5 #[.val (.ref x), .val (.ref b), .val .null, .unset, .unset] [(.ref b)])) rfl (by rw [hml]; rfl) (argsL := []) (rest := []) (lenOf pd_15 rfl) rfl rfl (by show 2 * 0 + _ ≤ _; exact Nat.le_of_eq rfl) (hb hby d28_5)
  obtain ⟨rfl, rfl⟩ := q2
  have S2_x : Safe Z own_EL vm2 h0 x := C2.safe (olt (by omega)) (S0 _ (List.mem_of_getElem? (i := 0) rfl))
  refine go (g' := (mkF m 8 #[.val (.ref x), .val (.ref b), .val .null, .unset, .unset] [(.ref t)])) (st2) ?_
  refine go (g' := (mkF m 9 #[.val (.ref x), .val (.ref b), .val .null, .val (.ref t), .unset] [])) (fun _ k => XS.astoreN W2.here hx rfl (hb hby d28_8) rfl rfl (l' := #[.val (.ref x), .val (.ref b), .val .null, .val (.ref t), .unset]) rfl k) ?_
  refine go (g' := (mkF m 10 #[.val (.ref x), .val (.ref b), .val .null, .val (.ref t), .unset] [(.ref b)])) (fun _ k => XS.aloadN W2.here hx rfl (hb hby d28_9) rfl rfl k) ?_
  obtain ⟨v3, so3, vm3, T3, h3, W3, C3, q3, hso3, st3⟩ := own_virtual W2 hx (y := (⟨"java/lang/AbstractStringBuilder", "length", "()I"⟩ : MethodName)) (z := (⟨"java/lang/StringBuilder", "length", "()I"⟩ : MethodName)) (w201 C) (w202 C) (w204 C) (w205 C) (w120 C) (w206 C) (by decide) (own_nf2 W2 (y := (⟨"java/lang/AbstractStringBuilder", "length", "()I"⟩ : MethodName)) (w161 C) rfl) Eb (rm_sblen C h0 b (4 : Int32) Eb Fn) (fun _ q => nomatch q) (Wd := 0) (nle rfl) (nle rfl) (nle rfl) (nle rfl) (g := (mkF m 10 #[.val (.ref x), .val (.ref b), .val .null, .val (.ref t), .unset] [(.ref b)])) rfl (by rw [hml]; rfl) (argsL := []) (rest := []) (lenOf pd_11 rfl) rfl rfl (by show 2 * 0 + _ ≤ _; exact Nat.le_of_eq rfl) (hb hby d28_10)
  obtain ⟨rfl, rfl⟩ := q3
  have S3_x : Safe Z own_EL vm3 h0 x := C3.safe (olt (by omega)) S2_x
  refine go (g' := (mkF m 13 #[.val (.ref x), .val (.ref b), .val .null, .val (.ref t), .unset] [(.int (4 : Int32))])) (st3) ?_
  refine go (g' := (mkF m 15 #[.val (.ref x), .val (.ref b), .val .null, .val (.ref t), .val (.int (4 : Int32))] [])) (fun _ k => XS.istore W3.here hx rfl (hb hby d28_13) rfl (l' := #[.val (.ref x), .val (.ref b), .val .null, .val (.ref t), .val (.int (4 : Int32))]) rfl k) ?_
  refine go (g' := (mkF m 16 #[.val (.ref x), .val (.ref b), .val .null, .val (.ref t), .val (.int (4 : Int32))] [(.ref b)])) (fun _ k => XS.aloadN W3.here hx rfl (hb hby d28_15) rfl rfl k) ?_
  obtain ⟨v4, so4, vm4, T4, h4, W4, C4, q4, hso4, st4⟩ := own_virtual W3 hx (y := (⟨"java/lang/AbstractStringBuilder", "isLatin1", "()Z"⟩ : MethodName)) (z := (⟨"java/lang/AbstractStringBuilder", "isLatin1", "()Z"⟩ : MethodName)) (w209 C) (w210 C) (w212 C) (w211 C) (w128 C) (w213 C) (by decide) (own_nf W3 (w212 C)) Eb (rm_asbl1 C h0 b Fc) (fun _ q => nomatch q) (Wd := 0) (nle rfl) (nle rfl) (nle rfl) (nle rfl) (g := (mkF m 16 #[.val (.ref x), .val (.ref b), .val .null, .val (.ref t), .val (.int (4 : Int32))] [(.ref b)])) rfl (by rw [hml]; rfl) (argsL := []) (rest := []) (lenOf pd_16 rfl) rfl rfl (by show 2 * 0 + _ ≤ _; exact Nat.le_of_eq rfl) (hb hby d28_16)
  obtain ⟨rfl, rfl⟩ := q4
  have S4_x : Safe Z own_EL vm4 h0 x := C4.safe (olt (by omega)) S3_x
  refine go (g' := (mkF m 19 #[.val (.ref x), .val (.ref b), .val .null, .val (.ref t), .val (.int (4 : Int32))] [(.int (1 : Int32))])) (st4) ?_
  refine go (g' := (mkF m 22 #[.val (.ref x), .val (.ref b), .val .null, .val (.ref t), .val (.int (4 : Int32))] [])) (fun _ k => XS.ifNo W4.here hx rfl (hb hby d28_19) rfl ((if0 _ _).trans (feq ((by decide) : ¬ ((1 : Int32) = (0 : Int32)))).1) k) ?_
  refine go (g' := (mkF m 23 #[.val (.ref x), .val (.ref b), .val .null, .val (.ref t), .val (.int (4 : Int32))] [(.ref x)])) (fun _ k => XS.aloadN W4.here hx rfl (hb hby d28_22) rfl rfl k) ?_
  refine go (g' := (mkF m 24 #[.val (.ref x), .val (.ref b), .val .null, .val (.ref t), .val (.int (4 : Int32))] [(.int (0 : Int32)), (.ref x)])) (fun _ k => XS.iconst W4.here hx rfl (hb hby d28_23) k) ?_
  obtain ⟨T5, h5, W5, R5, F5, st5⟩ := own_put W4 hx (host := "") (Or.inl (w26 C)) Via.refl Xc Ex (Or.inr ⟨(w27 C), rfl, hnm⟩) (w1 C) (ty := .byte) (by decide) rfl (by decide) S4_x (by omega) (g := (mkF m 24 #[.val (.ref x), .val (.ref b), .val .null, .val (.ref t), .val (.int (4 : Int32))] [(.int (0 : Int32)), (.ref x)])) rfl rfl (hb hby d28_24)
  have z6 : h5.size = h0.size := R5.size
  have f7 : Exa Z h5 x "java/lang/String" := Ex.wr R5
  have f8 : Fld Z h5 x "java/lang/String" "value" "[B" .null := Xv.other R5 (Or.inr (slot_ne (Or.inr (w29 C)) (Or.inr (w27 C)) (by decide) (t := (.array .byte)) (t' := .byte) (by decide) (by decide)))
  have S5 : Safe Z own_EL vm4 h5 x := Safe.wr R5 S4_x W4.ch S4_x
  refine go (g' := (mkF m 27 #[.val (.ref x), .val (.ref b), .val .null, .val (.ref t), .val (.int (4 : Int32))] [])) (st5) ?_
  refine go (g' := (mkF m 28 #[.val (.ref x), .val (.ref b), .val .null, .val (.ref t), .val (.int (4 : Int32))] [(.ref x)])) (fun _ k => XS.aloadN W5.here hx rfl (hb hby d28_27) rfl rfl k) ?_
  refine go (g' := (mkF m 29 #[.val (.ref x), .val (.ref b), .val .null, .val (.ref t), .val (.int (4 : Int32))] [(.ref t), (.ref x)])) (fun _ k => XS.aloadN W5.here hx rfl (hb hby d28_28) rfl rfl k) ?_
  refine go (g' := (mkF m 30 #[.val (.ref x), .val (.ref b), .val .null, .val (.ref t), .val (.int (4 : Int32))] [(.int (0 : Int32)), (.ref t), (.ref x)])) (fun _ k => XS.iconst W5.here hx rfl (hb hby d28_29) k) ?_
  refine go (g' := (mkF m 32 #[.val (.ref x), .val (.ref b), .val .null, .val (.ref t), .val (.int (4 : Int32))] [(.int (4 : Int32)), (.int (0 : Int32)), (.ref t), (.ref x)])) (fun _ k => XS.iload W5.here hx rfl (hb hby d28_30) rfl k) ?_
  have f10 : Arv Z h5 t kt .byte (16 : Int32) [(.int o1), (.int o2), (.int o3), (.int o4), (.int o5), (.int o6), (.int o7), (.int o8), (.int o9), (.int o10), (.int o11), (.int o12), (.int o13), (.int o14), (.int o15), (.int o16)] (.int (0 : Int32)) := Vt.other R5 ntx
  obtain ⟨v9, so9, vm9, T9, h9, W9, C9, q9, hso9, st9⟩ := own_static W5 hx (y := (⟨"java/util/Arrays", "copyOfRange", "([BII)[B"⟩ : MethodName)) (w214 C) (w215 C) (w216 C) (w217 C) (by decide) (rm_cor0_4_16 C h5 t kt o1 o2 o3 o4 o5 o6 o7 o8 o9 o10 o11 o12 o13 o14 o15 o16 f10) (fun _ q => nomatch q) (Wd := 1) (nle rfl) (nle rfl) (nle rfl) (nle rfl) (g := (mkF m 32 #[.val (.ref x), .val (.ref b), .val .null, .val (.ref t), .val (.int (4 : Int32))] [(.int (4 : Int32)), (.int (0 : Int32)), (.ref t), (.ref x)])) rfl (by rw [hml]; rfl) (argsL := [(.ref t), (.int (0 : Int32)), (.int (4 : Int32))]) (rest := [(.ref x)]) (lenOf pd_14 rfl) rfl rfl (by show 2 * 0 + _ ≤ _; exact Nat.le_of_eq rfl) (hb hby d28_32)
  obtain ⟨x9, k9, rfl, E9, g9, V9⟩ := q9
  have z11 : h5.size ≤ h9.size := E9.1
  have S9_x : Safe Z own_EL vm9 h9 x := C9.safe (olt (by omega)) S5
  refine go (g' := (mkF m 35 #[.val (.ref x), .val (.ref b), .val .null, .val (.ref t), .val (.int (4 : Int32))] [(.ref x9), (.ref x)])) (st9) ?_
  have X12 : Ext h5 h9 := own_xt (own_xr h5) E9
  have f13 : Fld Z h9 x "java/lang/String" "value" "[B" .null := f8.ext X12
  have f14 : Exa Z h9 x "java/lang/String" := f7.ext X12
  obtain ⟨T15, h15, W15, R15, F15, st15⟩ := own_put W9 hx (host := "") (Or.inl (w28 C)) Via.refl f13 f14 (Or.inr ⟨(w29 C), rfl, hnm⟩) (w1 C) (ty := (.array .byte)) (by decide) rfl rfl S9_x (by omega) (g := (mkF m 35 #[.val (.ref x), .val (.ref b), .val .null, .val (.ref t), .val (.int (4 : Int32))] [(.ref x9), (.ref x)])) rfl rfl (hb hby d28_35)
  have f16 : Fld Z h9 x "java/lang/String" "coder" "B" (.int (0 : Int32)) := F5.ext X12
  have z17 : h15.size = h9.size := R15.size
  have f18 : Exa Z h15 x "java/lang/String" := f14.wr R15
  have f19 : Fld Z h15 x "java/lang/String" "coder" "B" (.int (0 : Int32)) := f16.other R15 (Or.inr (slot_ne (Or.inr (w27 C)) (Or.inr (w29 C)) (by decide) (t := .byte) (t' := (.array .byte)) (by decide) (by decide)))
  have S15 : Safe Z own_EL vm9 h15 x := Safe.wr R15 S9_x W9.ch S9_x
  refine go (g' := (mkF m 38 #[.val (.ref x), .val (.ref b), .val .null, .val (.ref t), .val (.int (4 : Int32))] [])) (st15) ?_
  refine go (g' := (mkF m 97 #[.val (.ref x), .val (.ref b), .val .null, .val (.ref t), .val (.int (4 : Int32))] [])) (fun _ k => XS.goto W15.here hx rfl (pc0 := 38) (pc' := 97) rfl (hb hby d28_38) (by decide) (by decide) k) ?_
  have KK20 : Keep h0 h15 [x] := ((((Keep.refl h0 [x]).wr R5 (Or.inl (List.mem_of_getElem? (i := 0) rfl))).ext E9).wr R15 (Or.inl (List.mem_of_getElem? (i := 0) rfl)))
  have l22 : @LT.lt Nat _ x9 h9.size := V9.lt
  have f21 : Arv Z h15 x9 k9 .byte (4 : Int32) [(.int o1), (.int o2), (.int o3), (.int o4)] (.int (0 : Int32)) := V9.other R15 (one (by omega))
  exact fin (v := none) (so := []) W15 (nle rfl) (nle rfl) (⟨rfl, KK20, f18, f19, _, _, F15, f21⟩) (fun _ q => nomatch q) (fun _ => rfl) (own_retV W15 hx hret (hb hby d28_97))
set_option maxRecDepth 65536 in
set_option maxHeartbeats 40000000 in
theorem rm_sis4_16 {l : Launch} {Z : State} {a0 : Array Value} (C : Cx Z a0) (h0 : Heap) (x : Addr) (Ex : Exa Z h0 x "java/lang/String") (Xv : Fld Z h0 x "java/lang/String" "value" "[B" .null) (Xc : Fld Z h0 x "java/lang/String" "coder" "B" (.int (0 : Int32))) (nx : Z.heap.size ≤ x) (b t : Addr) (kt : ClassId) (o1 o2 o3 o4 o5 o6 o7 o8 o9 o10 o11 o12 o13 o14 o15 o16 : Int32) (Eb : Exa Z h0 b "java/lang/StringBuilder") (Fv : Fld Z h0 b "java/lang/AbstractStringBuilder" "value" "[B" (.ref t)) (Fc : Fld Z h0 b "java/lang/AbstractStringBuilder" "coder" "B" (.int (0 : Int32))) (Fn : Fld Z h0 b "java/lang/AbstractStringBuilder" "count" "I" (.int (4 : Int32))) (Vt : Arv Z h0 t kt .byte (16 : Int32) [(.int o1), (.int o2), (.int o3), (.int o4), (.int o5), (.int o6), (.int o7), (.int o8), (.int o9), (.int o10), (.int o11), (.int o12), (.int o13), (.int o14), (.int o15), (.int o16)] (.int (0 : Int32))) (nb : Z.heap.size ≤ b) (nt : Z.heap.size ≤ t) :
    Ct l Z a0 own_EL (⟨"java/lang/String", "<init>", "(Ljava/lang/StringBuilder;)V"⟩ : MethodName) jdk_42_method_53_code 2 (Option.none : Option Jvm.ClassFile.FieldType) [] ({ frames := 4, cells := 1, slots := 4, locals := 77 } : Room) #[(.ref x), (.ref b)] h0 [x] (fun v h so => v = none ∧ Keep h0 h [x] ∧ Exa Z h x "java/lang/String" ∧ Fld Z h x "java/lang/String" "coder" "B" (.int (0 : Int32)) ∧ ∃ (u : Addr) (ku : ClassId), Fld Z h x "java/lang/String" "value" "[B" (.ref u) ∧ Arv Z h u ku .byte (4 : Int32) [(.int o1), (.int o2), (.int o3), (.int o4)] (.int (0 : Int32))) := by
  refine own_enter (plainFor_of_name pn_1) C.ew (F0 := fun m => mkF m 0 #[.val (.ref x), .val (.ref b)] []) (fun m => by first | (simp [entryFrame, mkF, argsToLocals, Value.category]; done) | rfl) ?_
  intro p e s m below meth c s₁ G hx hby hml hret hnm W0 S0 go fin
  have z0 : Z.heap.size ≤ h0.size := W0.sz
  show G s₁ (mkF m 0 #[.val (.ref x), .val (.ref b)] [])
  have lx : @LT.lt Nat _ x h0.size := Ex.lt
  have nbx : b ≠ x := ne_exa Eb Ex (by decide)
  have ntx : t ≠ x := Ne.symm (own_neBA Ex Vt (w1 C))
  refine go (g' := (mkF m 1 #[.val (.ref x), .val (.ref b)] [(.ref x)])) (fun _ k => XS.aloadN W0.here hx rfl (hb hby d29_0) rfl rfl k) ?_
  refine go (g' := (mkF m 2 #[.val (.ref x), .val (.ref b)] [(.ref b), (.ref x)])) (fun _ k => XS.aloadN W0.here hx rfl (hb hby d29_1) rfl rfl k) ?_
  refine go (g' := (mkF m 3 #[.val (.ref x), .val (.ref b)] [.null, (.ref b), (.ref x)])) (fun _ k => XS.aconstNull W0.here hx rfl (hb hby d29_2) k) ?_
  obtain ⟨v1, so1, vm1, T1, h1, W1, C1, q1, hso1, st1⟩ := own_special W0 hx (y := (⟨"java/lang/String", "<init>", "(Ljava/lang/AbstractStringBuilder;Ljava/lang/Void;)V"⟩ : MethodName)) rfl (w193 C) (w194 C) (w2 C) (w195 C) (by decide) (rm_sia4_16 C h0 x Ex Xv Xc (by omega) b t kt o1 o2 o3 o4 o5 o6 o7 o8 o9 o10 o11 o12 o13 o14 o15 o16 Eb Fv Fc Fn Vt (by omega) (by omega)) (allS (S0 _ (List.mem_of_getElem? (i := 0) rfl)) all0) (Wd := 0) (nle rfl) (nle rfl) (nle rfl) (nle rfl) (g := (mkF m 3 #[.val (.ref x), .val (.ref b)] [.null, (.ref b), (.ref x)])) rfl (by rw [hml]; rfl) (a := x) (argsL := [(.ref b), .null]) (rest := []) (lenOf pd_17 rfl) rfl rfl (by show 2 * 0 + _ ≤ _; exact Nat.le_of_eq rfl) (hb hby d29_3)
  obtain ⟨rfl, K1, E1, Fc1, u1, ku1, Fv1, V1⟩ := q1
  have z2 : h0.size ≤ h1.size := K1.1
  have S1_x : Safe Z own_EL vm1 h1 x := C1.safe (olt (by omega)) (S0 _ (List.mem_of_getElem? (i := 0) rfl))
  refine go (g' := (mkF m 6 #[.val (.ref x), .val (.ref b)] [])) (st1) ?_
  have KK3 : Keep h0 h1 [x] := ((Keep.refl h0 [x]).trans K1 (allS (Or.inl (List.mem_of_getElem? (i := 0) rfl)) all0))
  exact fin (v := none) (so := []) W1 (nle rfl) (nle rfl) (⟨rfl, KK3, E1, Fc1, _, _, Fv1, V1⟩) (fun _ q => nomatch q) (fun _ => rfl) (own_retV W1 hx hret (hb hby d29_6))
set_option maxRecDepth 65536 in
set_option maxHeartbeats 40000000 in
theorem rm_sbts4_16 {l : Launch} {Z : State} {a0 : Array Value} (C : Cx Z a0) (h0 : Heap) (b t : Addr) (kt : ClassId) (o1 o2 o3 o4 o5 o6 o7 o8 o9 o10 o11 o12 o13 o14 o15 o16 : Int32) (Eb : Exa Z h0 b "java/lang/StringBuilder") (Fv : Fld Z h0 b "java/lang/AbstractStringBuilder" "value" "[B" (.ref t)) (Fc : Fld Z h0 b "java/lang/AbstractStringBuilder" "coder" "B" (.int (0 : Int32))) (Fn : Fld Z h0 b "java/lang/AbstractStringBuilder" "count" "I" (.int (4 : Int32))) (Vt : Arv Z h0 t kt .byte (16 : Int32) [(.int o1), (.int o2), (.int o3), (.int o4), (.int o5), (.int o6), (.int o7), (.int o8), (.int o9), (.int o10), (.int o11), (.int o12), (.int o13), (.int o14), (.int o15), (.int o16)] (.int (0 : Int32))) (nb : Z.heap.size ≤ b) (nt : Z.heap.size ≤ t) :
    Ct l Z a0 own_EL (⟨"java/lang/StringBuilder", "toString", "()Ljava/lang/String;"⟩ : MethodName) jdk_67_method_42_code 1 (Option.some (Jvm.ClassFile.FieldType.object "java/lang/String")) [] ({ frames := 5, cells := 2, slots := 8, locals := 91 } : Room) #[(.ref b)] h0 [] (fun v h so => ∃ x : Addr, v = some (.ref x) ∧ Ext h0 h ∧ Exa Z h x "java/lang/String" ∧ Fld Z h x "java/lang/String" "coder" "B" (.int (0 : Int32)) ∧ ∃ (u : Addr) (ku : ClassId), Fld Z h x "java/lang/String" "value" "[B" (.ref u) ∧ Arv Z h u ku .byte (4 : Int32) [(.int o1), (.int o2), (.int o3), (.int o4)] (.int (0 : Int32))) := by
  refine own_enter (plainFor_of_name pn_7) C.ew (F0 := fun m => mkF m 0 #[.val (.ref b)] []) (fun m => by first | (simp [entryFrame, mkF, argsToLocals, Value.category]; done) | rfl) ?_
  intro p e s m below meth c s₁ G hx hby hml hret hnm W0 S0 go fin
  have z0 : Z.heap.size ≤ h0.size := W0.sz
  show G s₁ (mkF m 0 #[.val (.ref b)] [])
  obtain ⟨x1, T1, h1, g1, W1, E1, A1, D1, U1, st1⟩ := own_new W0 hx (w189 C) (w1 C) (w2 C) (g := (mkF m 0 #[.val (.ref b)] [])) rfl (hb hby d30_0) (nle rfl) (nle rfl)
  have z2 : h0.size ≤ h1.size := E1.1
  have l1 : @LT.lt Nat _ x1 h1.size := A1.lt
  have F1_coder : Fld Z h1 x1 "java/lang/String" "coder" "B" (.int (0 : Int32)) := D1 (Or.inr (w27 C)) (ty := .byte) (by decide)
  have F1_value : Fld Z h1 x1 "java/lang/String" "value" "[B" .null := D1 (Or.inr (w29 C)) (ty := (.array .byte)) (by decide)
  refine go (g' := (mkF m 3 #[.val (.ref b)] [(.ref x1)])) (st1) ?_
  refine go (g' := (mkF m 4 #[.val (.ref b)] [(.ref x1), (.ref x1)])) (fun _ k => XS.dup W1.here hx rfl (hb hby d30_3) rfl rfl k) ?_
  refine go (g' := (mkF m 5 #[.val (.ref b)] [(.ref b), (.ref x1), (.ref x1)])) (fun _ k => XS.aloadN W1.here hx rfl (hb hby d30_4) rfl rfl k) ?_
  have X4 : Ext h0 h1 := own_xt (own_xr h0) E1
  have f5 : Exa Z h1 b "java/lang/StringBuilder" := Eb.ext X4
  have f6 : Fld Z h1 b "java/lang/AbstractStringBuilder" "value" "[B" (.ref t) := Fv.ext X4
  have f7 : Fld Z h1 b "java/lang/AbstractStringBuilder" "coder" "B" (.int (0 : Int32)) := Fc.ext X4
  have f8 : Fld Z h1 b "java/lang/AbstractStringBuilder" "count" "I" (.int (4 : Int32)) := Fn.ext X4
  have f9 : Arv Z h1 t kt .byte (16 : Int32) [(.int o1), (.int o2), (.int o3), (.int o4), (.int o5), (.int o6), (.int o7), (.int o8), (.int o9), (.int o10), (.int o11), (.int o12), (.int o13), (.int o14), (.int o15), (.int o16)] (.int (0 : Int32)) := Vt.ext X4
  obtain ⟨v3, so3, vm3, T3, h3, W3, C3, q3, hso3, st3⟩ := own_special W1 hx (y := (⟨"java/lang/String", "<init>", "(Ljava/lang/StringBuilder;)V"⟩ : MethodName)) rfl (w190 C) (w191 C) (w2 C) (w192 C) (by decide) (rm_sis4_16 C h1 x1 A1 F1_value F1_coder (by omega) b t kt o1 o2 o3 o4 o5 o6 o7 o8 o9 o10 o11 o12 o13 o14 o15 o16 f5 f6 f7 f8 f9 (by omega) (by omega)) (allS (own_safeB W0 X4 (by omega)) all0) (Wd := 1) (nle rfl) (nle rfl) (nle rfl) (nle rfl) (g := (mkF m 5 #[.val (.ref b)] [(.ref b), (.ref x1), (.ref x1)])) rfl (by rw [hml]; rfl) (a := x1) (argsL := [(.ref b)]) (rest := [(.ref x1)]) (lenOf pd_18 rfl) rfl rfl (by show 2 * 0 + _ ≤ _; exact Nat.le_of_eq rfl) (hb hby d30_5)
  obtain ⟨rfl, K3, E3, Fc3, u3, ku3, Fv3, V3⟩ := q3
  have z10 : h1.size ≤ h3.size := K3.1
  have S3_x1 : Safe Z own_EL vm3 h3 x1 := C3.safe (olt (by omega)) (own_safeB W0 X4 (by omega))
  refine go (g' := (mkF m 8 #[.val (.ref b)] [(.ref x1)])) (st3) ?_
  have X11 : Ext h0 h3 := own_xk X4 K3 (allS (by omega) all0)
  exact fin (v := some (.ref x1)) (so := []) W3 (nle rfl) (nle rfl) (⟨_, rfl, X11, E3, Fc3, _, _, Fv3, V3⟩) (fun _ q => nomatch q) (fun q => nomatch q) (own_retA W3 hx hret rfl rfl rfl (hb hby d30_8))
set_option maxRecDepth 65536 in
set_option maxHeartbeats 40000000 in
theorem rm_akind {l : Launch} {Z : State} {a0 : Array Value} (C : Cx Z a0) (h0 : Heap) (x q k : Addr) (c1 c2 : Int32) (Fa : Fld Z h0 x "com/example/forseti/forseti/model/ClassFigures" "article" "Ljava/lang/String;" (.ref q)) (Fk : Fld Z h0 x "com/example/forseti/forseti/model/ClassFigures" "kind" "Ljava/lang/String;" (.ref k)) (Sq : Str Z h0 q [(97 : Int32)]) (Sk : Str Z h0 k [c1, c2]) :
    Ct l Z a0 own_EL (⟨"com/example/forseti/forseti/model/ClassFigures", "aKind", "()Ljava/lang/String;"⟩ : MethodName) prog_50_method_7_code 1 (Option.some (Jvm.ClassFile.FieldType.object "java/lang/String")) [] ({ frames := 6, cells := 6, slots := 36, locals := 103 } : Room) #[(.ref x)] h0 [] (fun v h so => ∃ y : Addr, v = some (.ref y) ∧ Ext h0 h ∧ Str Z h y [(97 : Int32), (32 : Int32), c1, c2]) := by
  refine own_enter (plainFor_of_name pn_5) C.ew (F0 := fun m => mkF m 0 #[.val (.ref x)] []) (fun m => by first | (simp [entryFrame, mkF, argsToLocals, Value.category]; done) | rfl) ?_
  intro p e s m below meth c s₁ G hx hby hml hret hnm W0 S0 go fin
  have z0 : Z.heap.size ≤ h0.size := W0.sz
  show G s₁ (mkF m 0 #[.val (.ref x)] [])
  obtain ⟨x1, T1, h1, g1, W1, E1, A1, D1, U1, st1⟩ := own_new W0 hx (w118 C) (w119 C) (w120 C) (g := (mkF m 0 #[.val (.ref x)] [])) rfl (hb hby d31_0) (nle rfl) (nle rfl)
  have z2 : h0.size ≤ h1.size := E1.1
  have l1 : @LT.lt Nat _ x1 h1.size := A1.lt
  have F1_value : Fld Z h1 x1 "java/lang/AbstractStringBuilder" "value" "[B" .null := D1 (Or.inl (w133 C)) (ty := (.array .byte)) (by decide)
  have F1_coder : Fld Z h1 x1 "java/lang/AbstractStringBuilder" "coder" "B" (.int (0 : Int32)) := D1 (Or.inl (w135 C)) (ty := .byte) (by decide)
  have F1_count : Fld Z h1 x1 "java/lang/AbstractStringBuilder" "count" "I" (.int (0 : Int32)) := D1 (Or.inl (w157 C)) (ty := .int) (by decide)
  refine go (g' := (mkF m 3 #[.val (.ref x)] [(.ref x1)])) (st1) ?_
  refine go (g' := (mkF m 4 #[.val (.ref x)] [(.ref x1), (.ref x1)])) (fun _ k => XS.dup W1.here hx rfl (hb hby d31_3) rfl rfl k) ?_
  obtain ⟨v3, so3, vm3, T3, h3, W3, C3, q3, hso3, st3⟩ := own_special W1 hx (y := (⟨"java/lang/StringBuilder", "<init>", "()V"⟩ : MethodName)) rfl (w121 C) (w122 C) (w120 C) (w123 C) (by decide) (rm_sbinit C h1 x1 A1 F1_value F1_coder F1_count (by omega)) (fun _ q => nomatch q) (Wd := 1) (nle rfl) (nle rfl) (nle rfl) (nle rfl) (g := (mkF m 4 #[.val (.ref x)] [(.ref x1), (.ref x1)])) rfl (by rw [hml]; rfl) (a := x1) (argsL := []) (rest := [(.ref x1)]) (lenOf pd_3 rfl) rfl rfl (by show 2 * 0 + _ ≤ _; exact Nat.le_of_eq rfl) (hb hby d31_4)
  obtain ⟨rfl, K3, t3, k3, rfl, g3, E3, Fv3, Fc3, Fn3, V3⟩ := q3
  have z4 : h1.size ≤ h3.size := K3.1
  have lt3 : @LT.lt Nat _ t3 h3.size := V3.lt
  refine go (g' := (mkF m 7 #[.val (.ref x)] [(.ref x1)])) (st3) ?_
  refine go (g' := (mkF m 8 #[.val (.ref x)] [(.ref x), (.ref x1)])) (fun _ k => XS.aloadN W3.here hx rfl (hb hby d31_7) rfl rfl k) ?_
  have X5 : Ext h0 h1 := own_xt (own_xr h0) E1
  have X6 : Ext h0 h3 := own_xk X5 K3 (allS (by omega) all0)
  have f7 : Fld Z h3 x "com/example/forseti/forseti/model/ClassFigures" "article" "Ljava/lang/String;" (.ref q) := Fa.ext X6
  obtain ⟨T8, W8, st8⟩ := own_get W3 hx (host := "") (Or.inl (w94 C)) Via.refl f7 (g := (mkF m 8 #[.val (.ref x)] [(.ref x), (.ref x1)])) rfl rfl (hb hby d31_8)
  refine go (g' := (mkF m 11 #[.val (.ref x)] [(.ref q), (.ref x1)])) (st8) ?_
  have f10 : Str Z h3 q [(97 : Int32)] := Sq.ext X6
  obtain ⟨v9, so9, vm9, T9, h9, W9, C9, q9, hso9, st9⟩ := own_virtual W8 hx (y := (⟨"java/lang/StringBuilder", "append", "(Ljava/lang/String;)Ljava/lang/StringBuilder;"⟩ : MethodName)) (z := (⟨"java/lang/StringBuilder", "append", "(Ljava/lang/String;)Ljava/lang/StringBuilder;"⟩ : MethodName)) (w136 C) (w137 C) (w139 C) (w138 C) (w120 C) (w140 C) (by decide) (own_nf W8 (w139 C)) E3 (rm_sbapp0_1_16 C h3 q (97 : Int32) f10 x1 t3 k3 (0 : Int32) (0 : Int32) (0 : Int32) (0 : Int32) (0 : Int32) (0 : Int32) (0 : Int32) (0 : Int32) (0 : Int32) (0 : Int32) (0 : Int32) (0 : Int32) (0 : Int32) (0 : Int32) (0 : Int32) (0 : Int32) E3 Fv3 Fc3 Fn3 V3 (by omega) (by omega)) (allS (hso3 _ (List.mem_of_getElem? (i := 0) rfl)) all0) (Wd := 0) (nle rfl) (nle rfl) (nle rfl) (nle rfl) (g := (mkF m 11 #[.val (.ref x)] [(.ref q), (.ref x1)])) rfl (by rw [hml]; rfl) (argsL := [(.ref q)]) (rest := []) (lenOf pd_19 rfl) rfl rfl (by show 2 * 0 + _ ≤ _; exact Nat.le_of_eq rfl) (hb hby d31_11)
  obtain ⟨rfl, K9, E9, Fv9, Fc9, Fn9, V9⟩ := q9
  have z11 : h3.size ≤ h9.size := K9.1
  have S9_t3 : Safe Z own_EL vm9 h9 t3 := C9.safe (olt (by omega)) (hso3 _ (List.mem_of_getElem? (i := 0) rfl))
  refine go (g' := (mkF m 14 #[.val (.ref x)] [(.ref x1)])) (st9) ?_
  obtain ⟨x12, y12, k12, vm12, T12, h12, W12, E12, C12, A12, B12, D12, V12, N12, st12⟩ := own_ldcR W9 hx (w183 C) (own_wS C) (by decide) (vs := [(.int (32 : Int32))]) (z := (1 : Int32)) (by decide +kernel) (by decide) rfl (g := (mkF m 14 #[.val (.ref x)] [(.ref x1)])) rfl (hb hby d31_14) (n := 4) (by decide) (nle rfl) (nle rfl) (nle rfl)
  have z13 : h9.size ≤ h12.size := E12.1
  have S12_t3 : Safe Z own_EL vm12 h12 t3 := C12.safe (olt (by omega)) S9_t3
  have S12_x1 : Safe Z own_EL vm12 h12 x1 := C12.safe (olt (by omega)) (own_safeE W9 E9 (by decide) (by decide))
  refine go (g' := (mkF m 16 #[.val (.ref x)] [(.ref x12), (.ref x1)])) (st12) ?_
  have SL14 : Str Z h12 x12 [(32 : Int32)] := own_litS (cs := [(32 : Int32)]) A12 B12 D12 V12 rfl (own_alS ⟨by decide, by decide⟩ own_al0) (by decide)
  have X16 : Ext h9 h12 := own_xt (own_xr h9) E12
  have f17 : Exa Z h12 x1 "java/lang/StringBuilder" := E9.ext X16
  have f18 : Fld Z h12 x1 "java/lang/AbstractStringBuilder" "value" "[B" (.ref t3) := Fv9.ext X16
  have f19 : Fld Z h12 x1 "java/lang/AbstractStringBuilder" "coder" "B" (.int (0 : Int32)) := Fc9.ext X16
  have f20 : Fld Z h12 x1 "java/lang/AbstractStringBuilder" "count" "I" (.int (1 : Int32)) := Fn9.ext X16
  have f21 : Arv Z h12 t3 k3 .byte (16 : Int32) [(.int (97 : Int32).toInt8.toInt32), (.int (0 : Int32)), (.int (0 : Int32)), (.int (0 : Int32)), (.int (0 : Int32)), (.int (0 : Int32)), (.int (0 : Int32)), (.int (0 : Int32)), (.int (0 : Int32)), (.int (0 : Int32)), (.int (0 : Int32)), (.int (0 : Int32)), (.int (0 : Int32)), (.int (0 : Int32)), (.int (0 : Int32)), (.int (0 : Int32))] (.int (0 : Int32)) := V9.ext X16
  obtain ⟨v15, so15, vm15, T15, h15, W15, C15, q15, hso15, st15⟩ := own_virtual W12 hx (y := (⟨"java/lang/StringBuilder", "append", "(Ljava/lang/String;)Ljava/lang/StringBuilder;"⟩ : MethodName)) (z := (⟨"java/lang/StringBuilder", "append", "(Ljava/lang/String;)Ljava/lang/StringBuilder;"⟩ : MethodName)) (w136 C) (w137 C) (w139 C) (w138 C) (w120 C) (w140 C) (by decide) (own_nf W12 (w139 C)) f17 (rm_sbapp1_1_16 C h12 x12 (32 : Int32) SL14 x1 t3 k3 (97 : Int32).toInt8.toInt32 (0 : Int32) (0 : Int32) (0 : Int32) (0 : Int32) (0 : Int32) (0 : Int32) (0 : Int32) (0 : Int32) (0 : Int32) (0 : Int32) (0 : Int32) (0 : Int32) (0 : Int32) (0 : Int32) (0 : Int32) f17 f18 f19 f20 f21 (by omega) (by omega)) (allS S12_t3 all0) (Wd := 0) (nle rfl) (nle rfl) (nle rfl) (nle rfl) (g := (mkF m 16 #[.val (.ref x)] [(.ref x12), (.ref x1)])) rfl (by rw [hml]; rfl) (argsL := [(.ref x12)]) (rest := []) (lenOf pd_19 rfl) rfl rfl (by show 2 * 0 + _ ≤ _; exact Nat.le_of_eq rfl) (hb hby d31_16)
  obtain ⟨rfl, K15, E15, Fv15, Fc15, Fn15, V15⟩ := q15
  have z22 : h12.size ≤ h15.size := K15.1
  have S15_t3 : Safe Z own_EL vm15 h15 t3 := C15.safe (olt (by omega)) S12_t3
  refine go (g' := (mkF m 19 #[.val (.ref x)] [(.ref x1)])) (st15) ?_
  refine go (g' := (mkF m 20 #[.val (.ref x)] [(.ref x), (.ref x1)])) (fun _ k => XS.aloadN W15.here hx rfl (hb hby d31_19) rfl rfl k) ?_
  have X23 : Ext h0 h9 := own_xk X6 K9 (allS (by omega) (allS (by omega) all0))
  have X24 : Ext h0 h12 := own_xt X23 E12
  have X25 : Ext h0 h15 := own_xk X24 K15 (allS (by omega) (allS (by omega) all0))
  have f26 : Fld Z h15 x "com/example/forseti/forseti/model/ClassFigures" "kind" "Ljava/lang/String;" (.ref k) := Fk.ext X25
  obtain ⟨T27, W27, st27⟩ := own_get W15 hx (host := "") (Or.inl (w92 C)) Via.refl f26 (g := (mkF m 20 #[.val (.ref x)] [(.ref x), (.ref x1)])) rfl rfl (hb hby d31_20)
  refine go (g' := (mkF m 23 #[.val (.ref x)] [(.ref k), (.ref x1)])) (st27) ?_
  have f29 : Str Z h15 k [c1, c2] := Sk.ext X25
  obtain ⟨v28, so28, vm28, T28, h28, W28, C28, q28, hso28, st28⟩ := own_virtual W27 hx (y := (⟨"java/lang/StringBuilder", "append", "(Ljava/lang/String;)Ljava/lang/StringBuilder;"⟩ : MethodName)) (z := (⟨"java/lang/StringBuilder", "append", "(Ljava/lang/String;)Ljava/lang/StringBuilder;"⟩ : MethodName)) (w136 C) (w137 C) (w139 C) (w138 C) (w120 C) (w140 C) (by decide) (own_nf W27 (w139 C)) E15 (rm_sbapp2_2_16 C h15 k c1 c2 f29 x1 t3 k3 (97 : Int32).toInt8.toInt32 (32 : Int32).toInt8.toInt32 (0 : Int32) (0 : Int32) (0 : Int32) (0 : Int32) (0 : Int32) (0 : Int32) (0 : Int32) (0 : Int32) (0 : Int32) (0 : Int32) (0 : Int32) (0 : Int32) (0 : Int32) (0 : Int32) E15 Fv15 Fc15 Fn15 V15 (by omega) (by omega)) (allS S15_t3 all0) (Wd := 0) (nle rfl) (nle rfl) (nle rfl) (nle rfl) (g := (mkF m 23 #[.val (.ref x)] [(.ref k), (.ref x1)])) rfl (by rw [hml]; rfl) (argsL := [(.ref k)]) (rest := []) (lenOf pd_19 rfl) rfl rfl (by show 2 * 0 + _ ≤ _; exact Nat.le_of_eq rfl) (hb hby d31_23)
  obtain ⟨rfl, K28, E28, Fv28, Fc28, Fn28, V28⟩ := q28
  have z30 : h15.size ≤ h28.size := K28.1
  have S28_t3 : Safe Z own_EL vm28 h28 t3 := C28.safe (olt (by omega)) S15_t3
  refine go (g' := (mkF m 26 #[.val (.ref x)] [(.ref x1)])) (st28) ?_
  obtain ⟨v31, so31, vm31, T31, h31, W31, C31, q31, hso31, st31⟩ := own_virtual W28 hx (y := (⟨"java/lang/StringBuilder", "toString", "()Ljava/lang/String;"⟩ : MethodName)) (z := (⟨"java/lang/StringBuilder", "toString", "()Ljava/lang/String;"⟩ : MethodName)) (w184 C) (w185 C) (w187 C) (w186 C) (w120 C) (w188 C) (by decide) (own_nf W28 (w187 C)) E28 (rm_sbts4_16 C h28 x1 t3 k3 (97 : Int32).toInt8.toInt32 (32 : Int32).toInt8.toInt32 c1.toInt8.toInt32 c2.toInt8.toInt32 (0 : Int32) (0 : Int32) (0 : Int32) (0 : Int32) (0 : Int32) (0 : Int32) (0 : Int32) (0 : Int32) (0 : Int32) (0 : Int32) (0 : Int32) (0 : Int32) E28 Fv28 Fc28 Fn28 V28 (by omega) (by omega)) (fun _ q => nomatch q) (Wd := 0) (nle rfl) (nle rfl) (nle rfl) (nle rfl) (g := (mkF m 26 #[.val (.ref x)] [(.ref x1)])) rfl (by rw [hml]; rfl) (argsL := []) (rest := []) (lenOf pd_20 rfl) rfl rfl (by show 2 * 0 + _ ≤ _; exact Nat.le_of_eq rfl) (hb hby d31_26)
  obtain ⟨x31, rfl, E31, A31, Fc31, u31, ku31, Fv31, V31⟩ := q31
  have z32 : h28.size ≤ h31.size := E31.1
  have S31_t3 : Safe Z own_EL vm31 h31 t3 := C31.safe (olt (by omega)) S28_t3
  have S31 : Str Z h31 x31 [(97 : Int32), (32 : Int32), c1, c2] := ⟨A31, Fc31, (own_alS ⟨by decide, by decide⟩ (own_alS ⟨by decide, by decide⟩ (own_alS (Sk.2.2.1 _ (List.mem_of_getElem? (i := 0) rfl)) (own_alS (Sk.2.2.1 _ (List.mem_of_getElem? (i := 1) rfl)) own_al0)))), u31, ku31, Fv31, V31⟩
  refine go (g' := (mkF m 29 #[.val (.ref x)] [(.ref x31)])) (st31) ?_
  have X33 : Ext h0 h28 := own_xk X25 K28 (allS (by omega) (allS (by omega) all0))
  have X34 : Ext h0 h31 := own_xt X33 E31
  exact fin (v := some (.ref x31)) (so := []) W31 (nle rfl) (nle rfl) (⟨_, rfl, X34, S31⟩) (fun _ q => nomatch q) (fun q => nomatch q) (own_retA W31 hx hret rfl rfl rfl (hb hby d31_29))
set_option maxRecDepth 65536 in
set_option maxHeartbeats 40000000 in
theorem rm_owner {l : Launch} {Z : State} {a0 : Array Value} (C : Cx Z a0) (h0 : Heap) (x o : Addr) (u : Value) (ru : u.isRef = true) (Fo : Fld Z h0 x "com/example/forseti/forseti/model/ClassFigures" "anyOwner" "Ljava/lang/String;" (.ref o)) :
    Ct l Z a0 own_EL (⟨"com/example/forseti/forseti/model/ClassFigures", "ownerName", "(Ljava/lang/String;)Ljava/lang/String;"⟩ : MethodName) prog_50_method_8_code 2 (Option.some (Jvm.ClassFile.FieldType.object "java/lang/String")) [] ({ frames := 0, cells := 0, slots := 0, locals := 0 } : Room) #[(.ref x), u] h0 [] (fun v h so => v = some (.ref o) ∧ h0 = h) := by
  refine own_enter (plainFor_of_name pn_5) C.ew (F0 := fun m => mkF m 0 #[.val (.ref x), .val u] []) (fun m => by rcases ref_cases ru with rfl | ⟨_, rfl⟩ <;> rfl) ?_
  intro p e s m below meth c s₁ G hx hby hml hret hnm W0 S0 go fin
  have z0 : Z.heap.size ≤ h0.size := W0.sz
  show G s₁ (mkF m 0 #[.val (.ref x), .val u] [])
  refine go (g' := (mkF m 1 #[.val (.ref x), .val u] [(.ref x)])) (fun _ k => XS.aloadN W0.here hx rfl (hb hby d32_0) rfl rfl k) ?_
  obtain ⟨T1, W1, st1⟩ := own_get W0 hx (host := "") (Or.inl (w98 C)) Via.refl Fo (g := (mkF m 1 #[.val (.ref x), .val u] [(.ref x)])) rfl rfl (hb hby d32_1)
  refine go (g' := (mkF m 4 #[.val (.ref x), .val u] [(.ref o)])) (st1) ?_
  refine go (g' := (mkF m 36 #[.val (.ref x), .val u] [])) (fun _ k => XS.ifnonnullYes W1.here hx rfl (pc0 := 4) (pc' := 36) rfl (hb hby d32_4) rfl (by decide) (by decide) k) ?_
  refine go (g' := (mkF m 37 #[.val (.ref x), .val u] [(.ref x)])) (fun _ k => XS.aloadN W1.here hx rfl (hb hby d32_36) rfl rfl k) ?_
  obtain ⟨T2, W2, st2⟩ := own_get W1 hx (host := "") (Or.inl (w98 C)) Via.refl Fo (g := (mkF m 37 #[.val (.ref x), .val u] [(.ref x)])) rfl rfl (hb hby d32_37)
  refine go (g' := (mkF m 40 #[.val (.ref x), .val u] [(.ref o)])) (st2) ?_
  exact fin (v := some (.ref o)) (so := []) W2 (nle rfl) (nle rfl) (⟨rfl, rfl⟩) (fun _ q => nomatch q) (fun q => nomatch q) (own_retA W2 hx hret rfl rfl rfl (hb hby d32_40))
set_option maxRecDepth 65536 in
set_option maxHeartbeats 40000000 in
theorem rm0 {l : Launch} {Z : State} {a0 : Array Value} (C : Cx Z a0) (h0 : Heap) (p1 p2 p3 p4 : Int32) :
    Ct l Z a0 own_EL x code maxLocals ret tables_1 room_1 #[(.int p1), (.int p2), (.int p3), (.int p4)] h0 [] (fun v h so => v = some (.int 1)) := by
  refine own_enter (plainFor_of_name pn_9) C.ew (F0 := fun m => mkF m 0 #[.val (.int p1), .val (.int p2), .val (.int p3), .val (.int p4), .unset, .unset, .unset, .unset, .unset, .unset, .unset, .unset, .unset, .unset, .unset, .unset, .unset, .unset, .unset, .unset, .unset, .unset, .unset] []) (fun m => by first | (simp [entryFrame, mkF, argsToLocals, Value.category, maxLocals]; done) | rfl) ?_
  intro p e s m below meth c s₁ G hx hby hml hret hnm W0 S0 go fin
  have z0 : Z.heap.size ≤ h0.size := W0.sz
  show G s₁ (mkF m 0 #[.val (.int p1), .val (.int p2), .val (.int p3), .val (.int p4), .unset, .unset, .unset, .unset, .unset, .unset, .unset, .unset, .unset, .unset, .unset, .unset, .unset, .unset, .unset, .unset, .unset, .unset, .unset] [])
  refine go (g' := (mkF m 1 #[.val (.int p1), .val (.int p2), .val (.int p3), .val (.int p4), .unset, .unset, .unset, .unset, .unset, .unset, .unset, .unset, .unset, .unset, .unset, .unset, .unset, .unset, .unset, .unset, .unset, .unset, .unset] [(.int p1)])) (fun _ k => XS.iloadN W0.here hx rfl (hb hby at_0) rfl k) ?_
  refine go (g' := (mkF m 4 #[.val (.int p1), .val (.int p2), .val (.int p3), .val (.int p4), .unset, .unset, .unset, .unset, .unset, .unset, .unset, .unset, .unset, .unset, .unset, .unset, .unset, .unset, .unset, .unset, .unset, .unset, .unset] [(.int (255 : Int32)), (.int p1)])) (fun _ k => XS.sipush W0.here hx rfl (hb hby at_1) k) ?_
  refine go (g' := (mkF m 5 #[.val (.int p1), .val (.int p2), .val (.int p3), .val (.int p4), .unset, .unset, .unset, .unset, .unset, .unset, .unset, .unset, .unset, .unset, .unset, .unset, .unset, .unset, .unset, .unset, .unset, .unset, .unset] [(.int (p1 &&& (255 : Int32)))])) (fun _ k => XS.iand W0.here hx rfl (hb hby at_4) rfl k) ?_
  refine go (g' := (mkF m 6 #[.val (.int p1), .val (.int p2), .val (.int p3), .val (.int p4), .unset, .unset, .unset, .unset, .unset, .unset, .unset, .unset, .unset, .unset, .unset, .unset, .unset, .unset, .unset, .unset, .unset, .unset, .unset] [(.int ((p1 &&& (255 : Int32)).toUInt32.toUInt16.toUInt32.toInt32))])) (fun _ k => XS.i2c W0.here hx rfl (hb hby at_5) rfl k) ?_
  generalize ec1 : ((p1 &&& (255 : Int32)).toUInt32.toUInt16.toUInt32.toInt32) = c1
  have yc1 : ¬ c1 < 0 ∧ ¬ (255 : Int32) < c1 := ec1 ▸ own_c255 _
  refine go (g' := (mkF m 8 #[.val (.int p1), .val (.int p2), .val (.int p3), .val (.int p4), .val (.int c1), .unset, .unset, .unset, .unset, .unset, .unset, .unset, .unset, .unset, .unset, .unset, .unset, .unset, .unset, .unset, .unset, .unset, .unset] [])) (fun _ k => XS.istore W0.here hx rfl (hb hby at_6) rfl (l' := #[.val (.int p1), .val (.int p2), .val (.int p3), .val (.int p4), .val (.int c1), .unset, .unset, .unset, .unset, .unset, .unset, .unset, .unset, .unset, .unset, .unset, .unset, .unset, .unset, .unset, .unset, .unset, .unset]) rfl k) ?_
  refine go (g' := (mkF m 9 #[.val (.int p1), .val (.int p2), .val (.int p3), .val (.int p4), .val (.int c1), .unset, .unset, .unset, .unset, .unset, .unset, .unset, .unset, .unset, .unset, .unset, .unset, .unset, .unset, .unset, .unset, .unset, .unset] [(.int p1)])) (fun _ k => XS.iloadN W0.here hx rfl (hb hby at_8) rfl k) ?_
  refine go (g' := (mkF m 11 #[.val (.int p1), .val (.int p2), .val (.int p3), .val (.int p4), .val (.int c1), .unset, .unset, .unset, .unset, .unset, .unset, .unset, .unset, .unset, .unset, .unset, .unset, .unset, .unset, .unset, .unset, .unset, .unset] [(.int (8 : Int32)), (.int p1)])) (fun _ k => XS.bipush W0.here hx rfl (hb hby at_9) k) ?_
  refine go (g' := (mkF m 12 #[.val (.int p1), .val (.int p2), .val (.int p3), .val (.int p4), .val (.int c1), .unset, .unset, .unset, .unset, .unset, .unset, .unset, .unset, .unset, .unset, .unset, .unset, .unset, .unset, .unset, .unset, .unset, .unset] [(.int ((p1.toUInt32 >>> ((8 : Int32) &&& 31).toUInt32).toInt32))])) (fun _ k => XS.iushr W0.here hx rfl (hb hby at_11) rfl k) ?_
  refine go (g' := (mkF m 15 #[.val (.int p1), .val (.int p2), .val (.int p3), .val (.int p4), .val (.int c1), .unset, .unset, .unset, .unset, .unset, .unset, .unset, .unset, .unset, .unset, .unset, .unset, .unset, .unset, .unset, .unset, .unset, .unset] [(.int (255 : Int32)), (.int ((p1.toUInt32 >>> ((8 : Int32) &&& 31).toUInt32).toInt32))])) (fun _ k => XS.sipush W0.here hx rfl (hb hby at_12) k) ?_
  refine go (g' := (mkF m 16 #[.val (.int p1), .val (.int p2), .val (.int p3), .val (.int p4), .val (.int c1), .unset, .unset, .unset, .unset, .unset, .unset, .unset, .unset, .unset, .unset, .unset, .unset, .unset, .unset, .unset, .unset, .unset, .unset] [(.int (((p1.toUInt32 >>> ((8 : Int32) &&& 31).toUInt32).toInt32) &&& (255 : Int32)))])) (fun _ k => XS.iand W0.here hx rfl (hb hby at_15) rfl k) ?_
  refine go (g' := (mkF m 17 #[.val (.int p1), .val (.int p2), .val (.int p3), .val (.int p4), .val (.int c1), .unset, .unset, .unset, .unset, .unset, .unset, .unset, .unset, .unset, .unset, .unset, .unset, .unset, .unset, .unset, .unset, .unset, .unset] [(.int ((((p1.toUInt32 >>> ((8 : Int32) &&& 31).toUInt32).toInt32) &&& (255 : Int32)).toUInt32.toUInt16.toUInt32.toInt32))])) (fun _ k => XS.i2c W0.here hx rfl (hb hby at_16) rfl k) ?_
  generalize ec2 : ((((p1.toUInt32 >>> ((8 : Int32) &&& 31).toUInt32).toInt32) &&& (255 : Int32)).toUInt32.toUInt16.toUInt32.toInt32) = c2
  have yc2 : ¬ c2 < 0 ∧ ¬ (255 : Int32) < c2 := ec2 ▸ own_c255 _
  refine go (g' := (mkF m 19 #[.val (.int p1), .val (.int p2), .val (.int p3), .val (.int p4), .val (.int c1), .val (.int c2), .unset, .unset, .unset, .unset, .unset, .unset, .unset, .unset, .unset, .unset, .unset, .unset, .unset, .unset, .unset, .unset, .unset] [])) (fun _ k => XS.istore W0.here hx rfl (hb hby at_17) rfl (l' := #[.val (.int p1), .val (.int p2), .val (.int p3), .val (.int p4), .val (.int c1), .val (.int c2), .unset, .unset, .unset, .unset, .unset, .unset, .unset, .unset, .unset, .unset, .unset, .unset, .unset, .unset, .unset, .unset, .unset]) rfl k) ?_
  refine go (g' := (mkF m 20 #[.val (.int p1), .val (.int p2), .val (.int p3), .val (.int p4), .val (.int c1), .val (.int c2), .unset, .unset, .unset, .unset, .unset, .unset, .unset, .unset, .unset, .unset, .unset, .unset, .unset, .unset, .unset, .unset, .unset] [(.int p2)])) (fun _ k => XS.iloadN W0.here hx rfl (hb hby at_19) rfl k) ?_
  refine go (g' := (mkF m 23 #[.val (.int p1), .val (.int p2), .val (.int p3), .val (.int p4), .val (.int c1), .val (.int c2), .unset, .unset, .unset, .unset, .unset, .unset, .unset, .unset, .unset, .unset, .unset, .unset, .unset, .unset, .unset, .unset, .unset] [(.int (255 : Int32)), (.int p2)])) (fun _ k => XS.sipush W0.here hx rfl (hb hby at_20) k) ?_
  refine go (g' := (mkF m 24 #[.val (.int p1), .val (.int p2), .val (.int p3), .val (.int p4), .val (.int c1), .val (.int c2), .unset, .unset, .unset, .unset, .unset, .unset, .unset, .unset, .unset, .unset, .unset, .unset, .unset, .unset, .unset, .unset, .unset] [(.int (p2 &&& (255 : Int32)))])) (fun _ k => XS.iand W0.here hx rfl (hb hby at_23) rfl k) ?_
  refine go (g' := (mkF m 25 #[.val (.int p1), .val (.int p2), .val (.int p3), .val (.int p4), .val (.int c1), .val (.int c2), .unset, .unset, .unset, .unset, .unset, .unset, .unset, .unset, .unset, .unset, .unset, .unset, .unset, .unset, .unset, .unset, .unset] [(.int ((p2 &&& (255 : Int32)).toUInt32.toUInt16.toUInt32.toInt32))])) (fun _ k => XS.i2c W0.here hx rfl (hb hby at_24) rfl k) ?_
  generalize ec3 : ((p2 &&& (255 : Int32)).toUInt32.toUInt16.toUInt32.toInt32) = c3
  have yc3 : ¬ c3 < 0 ∧ ¬ (255 : Int32) < c3 := ec3 ▸ own_c255 _
  refine go (g' := (mkF m 27 #[.val (.int p1), .val (.int p2), .val (.int p3), .val (.int p4), .val (.int c1), .val (.int c2), .val (.int c3), .unset, .unset, .unset, .unset, .unset, .unset, .unset, .unset, .unset, .unset, .unset, .unset, .unset, .unset, .unset, .unset] [])) (fun _ k => XS.istore W0.here hx rfl (hb hby at_25) rfl (l' := #[.val (.int p1), .val (.int p2), .val (.int p3), .val (.int p4), .val (.int c1), .val (.int c2), .val (.int c3), .unset, .unset, .unset, .unset, .unset, .unset, .unset, .unset, .unset, .unset, .unset, .unset, .unset, .unset, .unset, .unset]) rfl k) ?_
  refine go (g' := (mkF m 28 #[.val (.int p1), .val (.int p2), .val (.int p3), .val (.int p4), .val (.int c1), .val (.int c2), .val (.int c3), .unset, .unset, .unset, .unset, .unset, .unset, .unset, .unset, .unset, .unset, .unset, .unset, .unset, .unset, .unset, .unset] [(.int p2)])) (fun _ k => XS.iloadN W0.here hx rfl (hb hby at_27) rfl k) ?_
  refine go (g' := (mkF m 30 #[.val (.int p1), .val (.int p2), .val (.int p3), .val (.int p4), .val (.int c1), .val (.int c2), .val (.int c3), .unset, .unset, .unset, .unset, .unset, .unset, .unset, .unset, .unset, .unset, .unset, .unset, .unset, .unset, .unset, .unset] [(.int (8 : Int32)), (.int p2)])) (fun _ k => XS.bipush W0.here hx rfl (hb hby at_28) k) ?_
  refine go (g' := (mkF m 31 #[.val (.int p1), .val (.int p2), .val (.int p3), .val (.int p4), .val (.int c1), .val (.int c2), .val (.int c3), .unset, .unset, .unset, .unset, .unset, .unset, .unset, .unset, .unset, .unset, .unset, .unset, .unset, .unset, .unset, .unset] [(.int ((p2.toUInt32 >>> ((8 : Int32) &&& 31).toUInt32).toInt32))])) (fun _ k => XS.iushr W0.here hx rfl (hb hby at_30) rfl k) ?_
  refine go (g' := (mkF m 34 #[.val (.int p1), .val (.int p2), .val (.int p3), .val (.int p4), .val (.int c1), .val (.int c2), .val (.int c3), .unset, .unset, .unset, .unset, .unset, .unset, .unset, .unset, .unset, .unset, .unset, .unset, .unset, .unset, .unset, .unset] [(.int (255 : Int32)), (.int ((p2.toUInt32 >>> ((8 : Int32) &&& 31).toUInt32).toInt32))])) (fun _ k => XS.sipush W0.here hx rfl (hb hby at_31) k) ?_
  refine go (g' := (mkF m 35 #[.val (.int p1), .val (.int p2), .val (.int p3), .val (.int p4), .val (.int c1), .val (.int c2), .val (.int c3), .unset, .unset, .unset, .unset, .unset, .unset, .unset, .unset, .unset, .unset, .unset, .unset, .unset, .unset, .unset, .unset] [(.int (((p2.toUInt32 >>> ((8 : Int32) &&& 31).toUInt32).toInt32) &&& (255 : Int32)))])) (fun _ k => XS.iand W0.here hx rfl (hb hby at_34) rfl k) ?_
  refine go (g' := (mkF m 36 #[.val (.int p1), .val (.int p2), .val (.int p3), .val (.int p4), .val (.int c1), .val (.int c2), .val (.int c3), .unset, .unset, .unset, .unset, .unset, .unset, .unset, .unset, .unset, .unset, .unset, .unset, .unset, .unset, .unset, .unset] [(.int ((((p2.toUInt32 >>> ((8 : Int32) &&& 31).toUInt32).toInt32) &&& (255 : Int32)).toUInt32.toUInt16.toUInt32.toInt32))])) (fun _ k => XS.i2c W0.here hx rfl (hb hby at_35) rfl k) ?_
  generalize ec4 : ((((p2.toUInt32 >>> ((8 : Int32) &&& 31).toUInt32).toInt32) &&& (255 : Int32)).toUInt32.toUInt16.toUInt32.toInt32) = c4
  have yc4 : ¬ c4 < 0 ∧ ¬ (255 : Int32) < c4 := ec4 ▸ own_c255 _
  refine go (g' := (mkF m 38 #[.val (.int p1), .val (.int p2), .val (.int p3), .val (.int p4), .val (.int c1), .val (.int c2), .val (.int c3), .val (.int c4), .unset, .unset, .unset, .unset, .unset, .unset, .unset, .unset, .unset, .unset, .unset, .unset, .unset, .unset, .unset] [])) (fun _ k => XS.istore W0.here hx rfl (hb hby at_36) rfl (l' := #[.val (.int p1), .val (.int p2), .val (.int p3), .val (.int p4), .val (.int c1), .val (.int c2), .val (.int c3), .val (.int c4), .unset, .unset, .unset, .unset, .unset, .unset, .unset, .unset, .unset, .unset, .unset, .unset, .unset, .unset, .unset]) rfl k) ?_
  refine go (g' := (mkF m 39 #[.val (.int p1), .val (.int p2), .val (.int p3), .val (.int p4), .val (.int c1), .val (.int c2), .val (.int c3), .val (.int c4), .unset, .unset, .unset, .unset, .unset, .unset, .unset, .unset, .unset, .unset, .unset, .unset, .unset, .unset, .unset] [(.int p3)])) (fun _ k => XS.iloadN W0.here hx rfl (hb hby at_38) rfl k) ?_
  refine go (g' := (mkF m 42 #[.val (.int p1), .val (.int p2), .val (.int p3), .val (.int p4), .val (.int c1), .val (.int c2), .val (.int c3), .val (.int c4), .unset, .unset, .unset, .unset, .unset, .unset, .unset, .unset, .unset, .unset, .unset, .unset, .unset, .unset, .unset] [(.int (255 : Int32)), (.int p3)])) (fun _ k => XS.sipush W0.here hx rfl (hb hby at_39) k) ?_
  refine go (g' := (mkF m 43 #[.val (.int p1), .val (.int p2), .val (.int p3), .val (.int p4), .val (.int c1), .val (.int c2), .val (.int c3), .val (.int c4), .unset, .unset, .unset, .unset, .unset, .unset, .unset, .unset, .unset, .unset, .unset, .unset, .unset, .unset, .unset] [(.int (p3 &&& (255 : Int32)))])) (fun _ k => XS.iand W0.here hx rfl (hb hby at_42) rfl k) ?_
  refine go (g' := (mkF m 44 #[.val (.int p1), .val (.int p2), .val (.int p3), .val (.int p4), .val (.int c1), .val (.int c2), .val (.int c3), .val (.int c4), .unset, .unset, .unset, .unset, .unset, .unset, .unset, .unset, .unset, .unset, .unset, .unset, .unset, .unset, .unset] [(.int ((p3 &&& (255 : Int32)).toUInt32.toUInt16.toUInt32.toInt32))])) (fun _ k => XS.i2c W0.here hx rfl (hb hby at_43) rfl k) ?_
  generalize ec5 : ((p3 &&& (255 : Int32)).toUInt32.toUInt16.toUInt32.toInt32) = c5
  have yc5 : ¬ c5 < 0 ∧ ¬ (255 : Int32) < c5 := ec5 ▸ own_c255 _
  refine go (g' := (mkF m 46 #[.val (.int p1), .val (.int p2), .val (.int p3), .val (.int p4), .val (.int c1), .val (.int c2), .val (.int c3), .val (.int c4), .val (.int c5), .unset, .unset, .unset, .unset, .unset, .unset, .unset, .unset, .unset, .unset, .unset, .unset, .unset, .unset] [])) (fun _ k => XS.istore W0.here hx rfl (hb hby at_44) rfl (l' := #[.val (.int p1), .val (.int p2), .val (.int p3), .val (.int p4), .val (.int c1), .val (.int c2), .val (.int c3), .val (.int c4), .val (.int c5), .unset, .unset, .unset, .unset, .unset, .unset, .unset, .unset, .unset, .unset, .unset, .unset, .unset, .unset]) rfl k) ?_
  refine go (g' := (mkF m 47 #[.val (.int p1), .val (.int p2), .val (.int p3), .val (.int p4), .val (.int c1), .val (.int c2), .val (.int c3), .val (.int c4), .val (.int c5), .unset, .unset, .unset, .unset, .unset, .unset, .unset, .unset, .unset, .unset, .unset, .unset, .unset, .unset] [(.int p3)])) (fun _ k => XS.iloadN W0.here hx rfl (hb hby at_46) rfl k) ?_
  refine go (g' := (mkF m 49 #[.val (.int p1), .val (.int p2), .val (.int p3), .val (.int p4), .val (.int c1), .val (.int c2), .val (.int c3), .val (.int c4), .val (.int c5), .unset, .unset, .unset, .unset, .unset, .unset, .unset, .unset, .unset, .unset, .unset, .unset, .unset, .unset] [(.int (8 : Int32)), (.int p3)])) (fun _ k => XS.bipush W0.here hx rfl (hb hby at_47) k) ?_
  refine go (g' := (mkF m 50 #[.val (.int p1), .val (.int p2), .val (.int p3), .val (.int p4), .val (.int c1), .val (.int c2), .val (.int c3), .val (.int c4), .val (.int c5), .unset, .unset, .unset, .unset, .unset, .unset, .unset, .unset, .unset, .unset, .unset, .unset, .unset, .unset] [(.int ((p3.toUInt32 >>> ((8 : Int32) &&& 31).toUInt32).toInt32))])) (fun _ k => XS.iushr W0.here hx rfl (hb hby at_49) rfl k) ?_
  refine go (g' := (mkF m 53 #[.val (.int p1), .val (.int p2), .val (.int p3), .val (.int p4), .val (.int c1), .val (.int c2), .val (.int c3), .val (.int c4), .val (.int c5), .unset, .unset, .unset, .unset, .unset, .unset, .unset, .unset, .unset, .unset, .unset, .unset, .unset, .unset] [(.int (255 : Int32)), (.int ((p3.toUInt32 >>> ((8 : Int32) &&& 31).toUInt32).toInt32))])) (fun _ k => XS.sipush W0.here hx rfl (hb hby at_50) k) ?_
  refine go (g' := (mkF m 54 #[.val (.int p1), .val (.int p2), .val (.int p3), .val (.int p4), .val (.int c1), .val (.int c2), .val (.int c3), .val (.int c4), .val (.int c5), .unset, .unset, .unset, .unset, .unset, .unset, .unset, .unset, .unset, .unset, .unset, .unset, .unset, .unset] [(.int (((p3.toUInt32 >>> ((8 : Int32) &&& 31).toUInt32).toInt32) &&& (255 : Int32)))])) (fun _ k => XS.iand W0.here hx rfl (hb hby at_53) rfl k) ?_
  refine go (g' := (mkF m 55 #[.val (.int p1), .val (.int p2), .val (.int p3), .val (.int p4), .val (.int c1), .val (.int c2), .val (.int c3), .val (.int c4), .val (.int c5), .unset, .unset, .unset, .unset, .unset, .unset, .unset, .unset, .unset, .unset, .unset, .unset, .unset, .unset] [(.int ((((p3.toUInt32 >>> ((8 : Int32) &&& 31).toUInt32).toInt32) &&& (255 : Int32)).toUInt32.toUInt16.toUInt32.toInt32))])) (fun _ k => XS.i2c W0.here hx rfl (hb hby at_54) rfl k) ?_
  generalize ec6 : ((((p3.toUInt32 >>> ((8 : Int32) &&& 31).toUInt32).toInt32) &&& (255 : Int32)).toUInt32.toUInt16.toUInt32.toInt32) = c6
  have yc6 : ¬ c6 < 0 ∧ ¬ (255 : Int32) < c6 := ec6 ▸ own_c255 _
  refine go (g' := (mkF m 57 #[.val (.int p1), .val (.int p2), .val (.int p3), .val (.int p4), .val (.int c1), .val (.int c2), .val (.int c3), .val (.int c4), .val (.int c5), .val (.int c6), .unset, .unset, .unset, .unset, .unset, .unset, .unset, .unset, .unset, .unset, .unset, .unset, .unset] [])) (fun _ k => XS.istore W0.here hx rfl (hb hby at_55) rfl (l' := #[.val (.int p1), .val (.int p2), .val (.int p3), .val (.int p4), .val (.int c1), .val (.int c2), .val (.int c3), .val (.int c4), .val (.int c5), .val (.int c6), .unset, .unset, .unset, .unset, .unset, .unset, .unset, .unset, .unset, .unset, .unset, .unset, .unset]) rfl k) ?_
  refine go (g' := (mkF m 58 #[.val (.int p1), .val (.int p2), .val (.int p3), .val (.int p4), .val (.int c1), .val (.int c2), .val (.int c3), .val (.int c4), .val (.int c5), .val (.int c6), .unset, .unset, .unset, .unset, .unset, .unset, .unset, .unset, .unset, .unset, .unset, .unset, .unset] [(.int p4)])) (fun _ k => XS.iloadN W0.here hx rfl (hb hby at_57) rfl k) ?_
  refine go (g' := (mkF m 61 #[.val (.int p1), .val (.int p2), .val (.int p3), .val (.int p4), .val (.int c1), .val (.int c2), .val (.int c3), .val (.int c4), .val (.int c5), .val (.int c6), .unset, .unset, .unset, .unset, .unset, .unset, .unset, .unset, .unset, .unset, .unset, .unset, .unset] [(.int (255 : Int32)), (.int p4)])) (fun _ k => XS.sipush W0.here hx rfl (hb hby at_58) k) ?_
  refine go (g' := (mkF m 62 #[.val (.int p1), .val (.int p2), .val (.int p3), .val (.int p4), .val (.int c1), .val (.int c2), .val (.int c3), .val (.int c4), .val (.int c5), .val (.int c6), .unset, .unset, .unset, .unset, .unset, .unset, .unset, .unset, .unset, .unset, .unset, .unset, .unset] [(.int (p4 &&& (255 : Int32)))])) (fun _ k => XS.iand W0.here hx rfl (hb hby at_61) rfl k) ?_
  refine go (g' := (mkF m 63 #[.val (.int p1), .val (.int p2), .val (.int p3), .val (.int p4), .val (.int c1), .val (.int c2), .val (.int c3), .val (.int c4), .val (.int c5), .val (.int c6), .unset, .unset, .unset, .unset, .unset, .unset, .unset, .unset, .unset, .unset, .unset, .unset, .unset] [(.int ((p4 &&& (255 : Int32)).toUInt32.toUInt16.toUInt32.toInt32))])) (fun _ k => XS.i2c W0.here hx rfl (hb hby at_62) rfl k) ?_
  generalize ec7 : ((p4 &&& (255 : Int32)).toUInt32.toUInt16.toUInt32.toInt32) = c7
  have yc7 : ¬ c7 < 0 ∧ ¬ (255 : Int32) < c7 := ec7 ▸ own_c255 _
  refine go (g' := (mkF m 65 #[.val (.int p1), .val (.int p2), .val (.int p3), .val (.int p4), .val (.int c1), .val (.int c2), .val (.int c3), .val (.int c4), .val (.int c5), .val (.int c6), .val (.int c7), .unset, .unset, .unset, .unset, .unset, .unset, .unset, .unset, .unset, .unset, .unset, .unset] [])) (fun _ k => XS.istore W0.here hx rfl (hb hby at_63) rfl (l' := #[.val (.int p1), .val (.int p2), .val (.int p3), .val (.int p4), .val (.int c1), .val (.int c2), .val (.int c3), .val (.int c4), .val (.int c5), .val (.int c6), .val (.int c7), .unset, .unset, .unset, .unset, .unset, .unset, .unset, .unset, .unset, .unset, .unset, .unset]) rfl k) ?_
  obtain ⟨x8, T8, h8, g8, W8, E8, A8, D8, U8, st8⟩ := own_new W0 hx (w0 C) (w1 C) (w2 C) (g := (mkF m 65 #[.val (.int p1), .val (.int p2), .val (.int p3), .val (.int p4), .val (.int c1), .val (.int c2), .val (.int c3), .val (.int c4), .val (.int c5), .val (.int c6), .val (.int c7), .unset, .unset, .unset, .unset, .unset, .unset, .unset, .unset, .unset, .unset, .unset, .unset] [])) rfl (hb hby at_65) (nle rfl) (nle rfl)
  have z9 : h0.size ≤ h8.size := E8.1
  have l8 : @LT.lt Nat _ x8 h8.size := A8.lt
  have F8_coder : Fld Z h8 x8 "java/lang/String" "coder" "B" (.int (0 : Int32)) := D8 (Or.inr (w27 C)) (ty := .byte) (by decide)
  have F8_value : Fld Z h8 x8 "java/lang/String" "value" "[B" .null := D8 (Or.inr (w29 C)) (ty := (.array .byte)) (by decide)
  refine go (g' := (mkF m 68 #[.val (.int p1), .val (.int p2), .val (.int p3), .val (.int p4), .val (.int c1), .val (.int c2), .val (.int c3), .val (.int c4), .val (.int c5), .val (.int c6), .val (.int c7), .unset, .unset, .unset, .unset, .unset, .unset, .unset, .unset, .unset, .unset, .unset, .unset] [(.ref x8)])) (st8) ?_
  refine go (g' := (mkF m 69 #[.val (.int p1), .val (.int p2), .val (.int p3), .val (.int p4), .val (.int c1), .val (.int c2), .val (.int c3), .val (.int c4), .val (.int c5), .val (.int c6), .val (.int c7), .unset, .unset, .unset, .unset, .unset, .unset, .unset, .unset, .unset, .unset, .unset, .unset] [(.ref x8), (.ref x8)])) (fun _ k => XS.dup W8.here hx rfl (hb hby at_68) rfl rfl k) ?_
  refine go (g' := (mkF m 70 #[.val (.int p1), .val (.int p2), .val (.int p3), .val (.int p4), .val (.int c1), .val (.int c2), .val (.int c3), .val (.int c4), .val (.int c5), .val (.int c6), .val (.int c7), .unset, .unset, .unset, .unset, .unset, .unset, .unset, .unset, .unset, .unset, .unset, .unset] [(.int (2 : Int32)), (.ref x8), (.ref x8)])) (fun _ k => XS.iconst W8.here hx rfl (hb hby at_69) k) ?_
  obtain ⟨x10, T10, h10, k10, g10, W10, E10, A10, st10⟩ := own_newP W8 hx (aty := .char) (w3 C) (g := (mkF m 70 #[.val (.int p1), .val (.int p2), .val (.int p3), .val (.int p4), .val (.int c1), .val (.int c2), .val (.int c3), .val (.int c4), .val (.int c5), .val (.int c6), .val (.int c7), .unset, .unset, .unset, .unset, .unset, .unset, .unset, .unset, .unset, .unset, .unset, .unset] [(.int (2 : Int32)), (.ref x8), (.ref x8)])) rfl (hb hby at_70) rfl (by decide) (cap := 2) (by decide) (nle rfl) (nle rfl) (nle rfl)
  have z11 : h8.size ≤ h10.size := E10.1
  have l10 : @LT.lt Nat _ x10 h10.size := A10.lt
  have V10 : Arv Z h10 x10 k10 .char (2 : Int32) [(.int (0 : Int32)), (.int (0 : Int32))] (.int (0 : Int32)) := A10.pad (pad_rep [] (.int (0 : Int32)) 2)
  refine go (g' := (mkF m 72 #[.val (.int p1), .val (.int p2), .val (.int p3), .val (.int p4), .val (.int c1), .val (.int c2), .val (.int c3), .val (.int c4), .val (.int c5), .val (.int c6), .val (.int c7), .unset, .unset, .unset, .unset, .unset, .unset, .unset, .unset, .unset, .unset, .unset, .unset] [(.ref x10), (.ref x8), (.ref x8)])) (st10) ?_
  refine go (g' := (mkF m 73 #[.val (.int p1), .val (.int p2), .val (.int p3), .val (.int p4), .val (.int c1), .val (.int c2), .val (.int c3), .val (.int c4), .val (.int c5), .val (.int c6), .val (.int c7), .unset, .unset, .unset, .unset, .unset, .unset, .unset, .unset, .unset, .unset, .unset, .unset] [(.ref x10), (.ref x10), (.ref x8), (.ref x8)])) (fun _ k => XS.dup W10.here hx rfl (hb hby at_72) rfl rfl k) ?_
  refine go (g' := (mkF m 74 #[.val (.int p1), .val (.int p2), .val (.int p3), .val (.int p4), .val (.int c1), .val (.int c2), .val (.int c3), .val (.int c4), .val (.int c5), .val (.int c6), .val (.int c7), .unset, .unset, .unset, .unset, .unset, .unset, .unset, .unset, .unset, .unset, .unset, .unset] [(.int (0 : Int32)), (.ref x10), (.ref x10), (.ref x8), (.ref x8)])) (fun _ k => XS.iconst W10.here hx rfl (hb hby at_73) k) ?_
  refine go (g' := (mkF m 76 #[.val (.int p1), .val (.int p2), .val (.int p3), .val (.int p4), .val (.int c1), .val (.int c2), .val (.int c3), .val (.int c4), .val (.int c5), .val (.int c6), .val (.int c7), .unset, .unset, .unset, .unset, .unset, .unset, .unset, .unset, .unset, .unset, .unset, .unset] [(.int c1), (.int (0 : Int32)), (.ref x10), (.ref x10), (.ref x8), (.ref x8)])) (fun _ k => XS.iload W10.here hx rfl (hb hby at_74) rfl k) ?_
  obtain ⟨T12, h12, W12, R12, V12, st12⟩ := own_stC W10 hx V10 (by omega) (j := (0 : Int32)) (i := 0) ⟨by decide, by decide⟩ rfl (Nat.le_of_ble_eq_true rfl) (own_up yc1) (g := (mkF m 76 #[.val (.int p1), .val (.int p2), .val (.int p3), .val (.int p4), .val (.int c1), .val (.int c2), .val (.int c3), .val (.int c4), .val (.int c5), .val (.int c6), .val (.int c7), .unset, .unset, .unset, .unset, .unset, .unset, .unset, .unset, .unset, .unset, .unset, .unset] [(.int c1), (.int (0 : Int32)), (.ref x10), (.ref x10), (.ref x8), (.ref x8)])) rfl rfl (hb hby at_76)
  have z13 : h12.size = h10.size := R12.size
  have U12 : Arv Z h12 x10 k10 .char (2 : Int32) [(.int c1), (.int (0 : Int32))] (.int (0 : Int32)) := V12
  refine go (g' := (mkF m 77 #[.val (.int p1), .val (.int p2), .val (.int p3), .val (.int p4), .val (.int c1), .val (.int c2), .val (.int c3), .val (.int c4), .val (.int c5), .val (.int c6), .val (.int c7), .unset, .unset, .unset, .unset, .unset, .unset, .unset, .unset, .unset, .unset, .unset, .unset] [(.ref x10), (.ref x8), (.ref x8)])) (st12) ?_
  refine go (g' := (mkF m 78 #[.val (.int p1), .val (.int p2), .val (.int p3), .val (.int p4), .val (.int c1), .val (.int c2), .val (.int c3), .val (.int c4), .val (.int c5), .val (.int c6), .val (.int c7), .unset, .unset, .unset, .unset, .unset, .unset, .unset, .unset, .unset, .unset, .unset, .unset] [(.ref x10), (.ref x10), (.ref x8), (.ref x8)])) (fun _ k => XS.dup W12.here hx rfl (hb hby at_77) rfl rfl k) ?_
  refine go (g' := (mkF m 79 #[.val (.int p1), .val (.int p2), .val (.int p3), .val (.int p4), .val (.int c1), .val (.int c2), .val (.int c3), .val (.int c4), .val (.int c5), .val (.int c6), .val (.int c7), .unset, .unset, .unset, .unset, .unset, .unset, .unset, .unset, .unset, .unset, .unset, .unset] [(.int (1 : Int32)), (.ref x10), (.ref x10), (.ref x8), (.ref x8)])) (fun _ k => XS.iconst W12.here hx rfl (hb hby at_78) k) ?_
  refine go (g' := (mkF m 81 #[.val (.int p1), .val (.int p2), .val (.int p3), .val (.int p4), .val (.int c1), .val (.int c2), .val (.int c3), .val (.int c4), .val (.int c5), .val (.int c6), .val (.int c7), .unset, .unset, .unset, .unset, .unset, .unset, .unset, .unset, .unset, .unset, .unset, .unset] [(.int c2), (.int (1 : Int32)), (.ref x10), (.ref x10), (.ref x8), (.ref x8)])) (fun _ k => XS.iload W12.here hx rfl (hb hby at_79) rfl k) ?_
  obtain ⟨T14, h14, W14, R14, V14, st14⟩ := own_stC W12 hx U12 (by omega) (j := (1 : Int32)) (i := 1) ⟨by decide, by decide⟩ rfl (Nat.le_of_ble_eq_true rfl) (own_up yc2) (g := (mkF m 81 #[.val (.int p1), .val (.int p2), .val (.int p3), .val (.int p4), .val (.int c1), .val (.int c2), .val (.int c3), .val (.int c4), .val (.int c5), .val (.int c6), .val (.int c7), .unset, .unset, .unset, .unset, .unset, .unset, .unset, .unset, .unset, .unset, .unset, .unset] [(.int c2), (.int (1 : Int32)), (.ref x10), (.ref x10), (.ref x8), (.ref x8)])) rfl rfl (hb hby at_81)
  have z15 : h14.size = h12.size := R14.size
  have U14 : Arv Z h14 x10 k10 .char (2 : Int32) [(.int c1), (.int c2)] (.int (0 : Int32)) := V14
  refine go (g' := (mkF m 82 #[.val (.int p1), .val (.int p2), .val (.int p3), .val (.int p4), .val (.int c1), .val (.int c2), .val (.int c3), .val (.int c4), .val (.int c5), .val (.int c6), .val (.int c7), .unset, .unset, .unset, .unset, .unset, .unset, .unset, .unset, .unset, .unset, .unset, .unset] [(.ref x10), (.ref x8), (.ref x8)])) (st14) ?_
  have X17 : Ext h0 h8 := own_xt (own_xr h0) E8
  have X18 : Ext h0 h10 := own_xt X17 E10
  have X19 : Ext h0 h12 := own_xw X18 R12 (by omega)
  have X20 : Ext h0 h14 := own_xw X19 R14 (by omega)
  have X21 : Ext h8 h10 := own_xt (own_xr h8) E10
  have X22 : Ext h8 h12 := own_xw X21 R12 (by omega)
  have X23 : Ext h8 h14 := own_xw X22 R14 (by omega)
  have f24 : Exa Z h14 x8 "java/lang/String" := A8.ext X23
  have f25 : Fld Z h14 x8 "java/lang/String" "value" "[B" .null := F8_value.ext X23
  have f26 : Fld Z h14 x8 "java/lang/String" "coder" "B" (.int (0 : Int32)) := F8_coder.ext X23
  obtain ⟨T16, h16, W16, K16, S16, st16⟩ := own_strNew W14 hx (own_ws C) (w4 C) (w5 C) (w6 C) (w1 C) f24 f25 f26 (cs := [c1, c2]) U14 rfl C.cs (nle rfl) (nle rfl) (own_alS yc1 (own_alS yc2 own_al0)) (own_safeB W0 X20 (by omega)) (by omega) (Wd := 1) (nle rfl) (nle rfl) (nle rfl) (nle rfl) (g := (mkF m 82 #[.val (.int p1), .val (.int p2), .val (.int p3), .val (.int p4), .val (.int c1), .val (.int c2), .val (.int c3), .val (.int c4), .val (.int c5), .val (.int c6), .val (.int c7), .unset, .unset, .unset, .unset, .unset, .unset, .unset, .unset, .unset, .unset, .unset, .unset] [(.ref x10), (.ref x8), (.ref x8)])) rfl (by rw [hml]; rfl) rfl (by show 2 * 0 + _ ≤ _; exact Nat.le_of_eq rfl) (hb hby at_82)
  have z27 : h14.size ≤ h16.size := K16.1
  refine go (g' := (mkF m 85 #[.val (.int p1), .val (.int p2), .val (.int p3), .val (.int p4), .val (.int c1), .val (.int c2), .val (.int c3), .val (.int c4), .val (.int c5), .val (.int c6), .val (.int c7), .unset, .unset, .unset, .unset, .unset, .unset, .unset, .unset, .unset, .unset, .unset, .unset] [(.ref x8)])) (st16) ?_
  refine go (g' := (mkF m 87 #[.val (.int p1), .val (.int p2), .val (.int p3), .val (.int p4), .val (.int c1), .val (.int c2), .val (.int c3), .val (.int c4), .val (.int c5), .val (.int c6), .val (.int c7), .val (.ref x8), .unset, .unset, .unset, .unset, .unset, .unset, .unset, .unset, .unset, .unset, .unset] [])) (fun _ k => XS.astore W16.here hx rfl (hb hby at_85) rfl rfl (l' := #[.val (.int p1), .val (.int p2), .val (.int p3), .val (.int p4), .val (.int c1), .val (.int c2), .val (.int c3), .val (.int c4), .val (.int c5), .val (.int c6), .val (.int c7), .val (.ref x8), .unset, .unset, .unset, .unset, .unset, .unset, .unset, .unset, .unset, .unset, .unset]) rfl k) ?_
  obtain ⟨x28, T28, h28, g28, W28, E28, A28, D28, U28, st28⟩ := own_new W16 hx (w0 C) (w1 C) (w2 C) (g := (mkF m 87 #[.val (.int p1), .val (.int p2), .val (.int p3), .val (.int p4), .val (.int c1), .val (.int c2), .val (.int c3), .val (.int c4), .val (.int c5), .val (.int c6), .val (.int c7), .val (.ref x8), .unset, .unset, .unset, .unset, .unset, .unset, .unset, .unset, .unset, .unset, .unset] [])) rfl (hb hby at_87) (nle rfl) (nle rfl)
  have z29 : h16.size ≤ h28.size := E28.1
  have l28 : @LT.lt Nat _ x28 h28.size := A28.lt
  have F28_coder : Fld Z h28 x28 "java/lang/String" "coder" "B" (.int (0 : Int32)) := D28 (Or.inr (w27 C)) (ty := .byte) (by decide)
  have F28_value : Fld Z h28 x28 "java/lang/String" "value" "[B" .null := D28 (Or.inr (w29 C)) (ty := (.array .byte)) (by decide)
  refine go (g' := (mkF m 90 #[.val (.int p1), .val (.int p2), .val (.int p3), .val (.int p4), .val (.int c1), .val (.int c2), .val (.int c3), .val (.int c4), .val (.int c5), .val (.int c6), .val (.int c7), .val (.ref x8), .unset, .unset, .unset, .unset, .unset, .unset, .unset, .unset, .unset, .unset, .unset] [(.ref x28)])) (st28) ?_
  refine go (g' := (mkF m 91 #[.val (.int p1), .val (.int p2), .val (.int p3), .val (.int p4), .val (.int c1), .val (.int c2), .val (.int c3), .val (.int c4), .val (.int c5), .val (.int c6), .val (.int c7), .val (.ref x8), .unset, .unset, .unset, .unset, .unset, .unset, .unset, .unset, .unset, .unset, .unset] [(.ref x28), (.ref x28)])) (fun _ k => XS.dup W28.here hx rfl (hb hby at_90) rfl rfl k) ?_
  refine go (g' := (mkF m 92 #[.val (.int p1), .val (.int p2), .val (.int p3), .val (.int p4), .val (.int c1), .val (.int c2), .val (.int c3), .val (.int c4), .val (.int c5), .val (.int c6), .val (.int c7), .val (.ref x8), .unset, .unset, .unset, .unset, .unset, .unset, .unset, .unset, .unset, .unset, .unset] [(.int (2 : Int32)), (.ref x28), (.ref x28)])) (fun _ k => XS.iconst W28.here hx rfl (hb hby at_91) k) ?_
  obtain ⟨x30, T30, h30, k30, g30, W30, E30, A30, st30⟩ := own_newP W28 hx (aty := .char) (w3 C) (g := (mkF m 92 #[.val (.int p1), .val (.int p2), .val (.int p3), .val (.int p4), .val (.int c1), .val (.int c2), .val (.int c3), .val (.int c4), .val (.int c5), .val (.int c6), .val (.int c7), .val (.ref x8), .unset, .unset, .unset, .unset, .unset, .unset, .unset, .unset, .unset, .unset, .unset] [(.int (2 : Int32)), (.ref x28), (.ref x28)])) rfl (hb hby at_92) rfl (by decide) (cap := 2) (by decide) (nle rfl) (nle rfl) (nle rfl)
  have z31 : h28.size ≤ h30.size := E30.1
  have l30 : @LT.lt Nat _ x30 h30.size := A30.lt
  have V30 : Arv Z h30 x30 k30 .char (2 : Int32) [(.int (0 : Int32)), (.int (0 : Int32))] (.int (0 : Int32)) := A30.pad (pad_rep [] (.int (0 : Int32)) 2)
  refine go (g' := (mkF m 94 #[.val (.int p1), .val (.int p2), .val (.int p3), .val (.int p4), .val (.int c1), .val (.int c2), .val (.int c3), .val (.int c4), .val (.int c5), .val (.int c6), .val (.int c7), .val (.ref x8), .unset, .unset, .unset, .unset, .unset, .unset, .unset, .unset, .unset, .unset, .unset] [(.ref x30), (.ref x28), (.ref x28)])) (st30) ?_
  refine go (g' := (mkF m 95 #[.val (.int p1), .val (.int p2), .val (.int p3), .val (.int p4), .val (.int c1), .val (.int c2), .val (.int c3), .val (.int c4), .val (.int c5), .val (.int c6), .val (.int c7), .val (.ref x8), .unset, .unset, .unset, .unset, .unset, .unset, .unset, .unset, .unset, .unset, .unset] [(.ref x30), (.ref x30), (.ref x28), (.ref x28)])) (fun _ k => XS.dup W30.here hx rfl (hb hby at_94) rfl rfl k) ?_
  refine go (g' := (mkF m 96 #[.val (.int p1), .val (.int p2), .val (.int p3), .val (.int p4), .val (.int c1), .val (.int c2), .val (.int c3), .val (.int c4), .val (.int c5), .val (.int c6), .val (.int c7), .val (.ref x8), .unset, .unset, .unset, .unset, .unset, .unset, .unset, .unset, .unset, .unset, .unset] [(.int (0 : Int32)), (.ref x30), (.ref x30), (.ref x28), (.ref x28)])) (fun _ k => XS.iconst W30.here hx rfl (hb hby at_95) k) ?_
  refine go (g' := (mkF m 98 #[.val (.int p1), .val (.int p2), .val (.int p3), .val (.int p4), .val (.int c1), .val (.int c2), .val (.int c3), .val (.int c4), .val (.int c5), .val (.int c6), .val (.int c7), .val (.ref x8), .unset, .unset, .unset, .unset, .unset, .unset, .unset, .unset, .unset, .unset, .unset] [(.int c3), (.int (0 : Int32)), (.ref x30), (.ref x30), (.ref x28), (.ref x28)])) (fun _ k => XS.iload W30.here hx rfl (hb hby at_96) rfl k) ?_
  obtain ⟨T32, h32, W32, R32, V32, st32⟩ := own_stC W30 hx V30 (by omega) (j := (0 : Int32)) (i := 0) ⟨by decide, by decide⟩ rfl (Nat.le_of_ble_eq_true rfl) (own_up yc3) (g := (mkF m 98 #[.val (.int p1), .val (.int p2), .val (.int p3), .val (.int p4), .val (.int c1), .val (.int c2), .val (.int c3), .val (.int c4), .val (.int c5), .val (.int c6), .val (.int c7), .val (.ref x8), .unset, .unset, .unset, .unset, .unset, .unset, .unset, .unset, .unset, .unset, .unset] [(.int c3), (.int (0 : Int32)), (.ref x30), (.ref x30), (.ref x28), (.ref x28)])) rfl rfl (hb hby at_98)
  have z33 : h32.size = h30.size := R32.size
  have U32 : Arv Z h32 x30 k30 .char (2 : Int32) [(.int c3), (.int (0 : Int32))] (.int (0 : Int32)) := V32
  refine go (g' := (mkF m 99 #[.val (.int p1), .val (.int p2), .val (.int p3), .val (.int p4), .val (.int c1), .val (.int c2), .val (.int c3), .val (.int c4), .val (.int c5), .val (.int c6), .val (.int c7), .val (.ref x8), .unset, .unset, .unset, .unset, .unset, .unset, .unset, .unset, .unset, .unset, .unset] [(.ref x30), (.ref x28), (.ref x28)])) (st32) ?_
  refine go (g' := (mkF m 100 #[.val (.int p1), .val (.int p2), .val (.int p3), .val (.int p4), .val (.int c1), .val (.int c2), .val (.int c3), .val (.int c4), .val (.int c5), .val (.int c6), .val (.int c7), .val (.ref x8), .unset, .unset, .unset, .unset, .unset, .unset, .unset, .unset, .unset, .unset, .unset] [(.ref x30), (.ref x30), (.ref x28), (.ref x28)])) (fun _ k => XS.dup W32.here hx rfl (hb hby at_99) rfl rfl k) ?_
  refine go (g' := (mkF m 101 #[.val (.int p1), .val (.int p2), .val (.int p3), .val (.int p4), .val (.int c1), .val (.int c2), .val (.int c3), .val (.int c4), .val (.int c5), .val (.int c6), .val (.int c7), .val (.ref x8), .unset, .unset, .unset, .unset, .unset, .unset, .unset, .unset, .unset, .unset, .unset] [(.int (1 : Int32)), (.ref x30), (.ref x30), (.ref x28), (.ref x28)])) (fun _ k => XS.iconst W32.here hx rfl (hb hby at_100) k) ?_
  refine go (g' := (mkF m 103 #[.val (.int p1), .val (.int p2), .val (.int p3), .val (.int p4), .val (.int c1), .val (.int c2), .val (.int c3), .val (.int c4), .val (.int c5), .val (.int c6), .val (.int c7), .val (.ref x8), .unset, .unset, .unset, .unset, .unset, .unset, .unset, .unset, .unset, .unset, .unset] [(.int c4), (.int (1 : Int32)), (.ref x30), (.ref x30), (.ref x28), (.ref x28)])) (fun _ k => XS.iload W32.here hx rfl (hb hby at_101) rfl k) ?_
  obtain ⟨T34, h34, W34, R34, V34, st34⟩ := own_stC W32 hx U32 (by omega) (j := (1 : Int32)) (i := 1) ⟨by decide, by decide⟩ rfl (Nat.le_of_ble_eq_true rfl) (own_up yc4) (g := (mkF m 103 #[.val (.int p1), .val (.int p2), .val (.int p3), .val (.int p4), .val (.int c1), .val (.int c2), .val (.int c3), .val (.int c4), .val (.int c5), .val (.int c6), .val (.int c7), .val (.ref x8), .unset, .unset, .unset, .unset, .unset, .unset, .unset, .unset, .unset, .unset, .unset] [(.int c4), (.int (1 : Int32)), (.ref x30), (.ref x30), (.ref x28), (.ref x28)])) rfl rfl (hb hby at_103)
  have z35 : h34.size = h32.size := R34.size
  have U34 : Arv Z h34 x30 k30 .char (2 : Int32) [(.int c3), (.int c4)] (.int (0 : Int32)) := V34
  refine go (g' := (mkF m 104 #[.val (.int p1), .val (.int p2), .val (.int p3), .val (.int p4), .val (.int c1), .val (.int c2), .val (.int c3), .val (.int c4), .val (.int c5), .val (.int c6), .val (.int c7), .val (.ref x8), .unset, .unset, .unset, .unset, .unset, .unset, .unset, .unset, .unset, .unset, .unset] [(.ref x30), (.ref x28), (.ref x28)])) (st34) ?_
  have X37 : Ext h16 h28 := own_xt (own_xr h16) E28
  have X38 : Ext h16 h30 := own_xt X37 E30
  have X39 : Ext h16 h32 := own_xw X38 R32 (by omega)
  have X40 : Ext h16 h34 := own_xw X39 R34 (by omega)
  have X41 : Ext h28 h30 := own_xt (own_xr h28) E30
  have X42 : Ext h28 h32 := own_xw X41 R32 (by omega)
  have X43 : Ext h28 h34 := own_xw X42 R34 (by omega)
  have f44 : Exa Z h34 x28 "java/lang/String" := A28.ext X43
  have f45 : Fld Z h34 x28 "java/lang/String" "value" "[B" .null := F28_value.ext X43
  have f46 : Fld Z h34 x28 "java/lang/String" "coder" "B" (.int (0 : Int32)) := F28_coder.ext X43
  obtain ⟨T36, h36, W36, K36, S36, st36⟩ := own_strNew W34 hx (own_ws C) (w4 C) (w5 C) (w6 C) (w1 C) f44 f45 f46 (cs := [c3, c4]) U34 rfl C.cs (nle rfl) (nle rfl) (own_alS yc3 (own_alS yc4 own_al0)) (own_safeB W16 X40 (by omega)) (by omega) (Wd := 1) (nle rfl) (nle rfl) (nle rfl) (nle rfl) (g := (mkF m 104 #[.val (.int p1), .val (.int p2), .val (.int p3), .val (.int p4), .val (.int c1), .val (.int c2), .val (.int c3), .val (.int c4), .val (.int c5), .val (.int c6), .val (.int c7), .val (.ref x8), .unset, .unset, .unset, .unset, .unset, .unset, .unset, .unset, .unset, .unset, .unset] [(.ref x30), (.ref x28), (.ref x28)])) rfl (by rw [hml]; rfl) rfl (by show 2 * 0 + _ ≤ _; exact Nat.le_of_eq rfl) (hb hby at_104)
  have z47 : h34.size ≤ h36.size := K36.1
  refine go (g' := (mkF m 107 #[.val (.int p1), .val (.int p2), .val (.int p3), .val (.int p4), .val (.int c1), .val (.int c2), .val (.int c3), .val (.int c4), .val (.int c5), .val (.int c6), .val (.int c7), .val (.ref x8), .unset, .unset, .unset, .unset, .unset, .unset, .unset, .unset, .unset, .unset, .unset] [(.ref x28)])) (st36) ?_
  refine go (g' := (mkF m 109 #[.val (.int p1), .val (.int p2), .val (.int p3), .val (.int p4), .val (.int c1), .val (.int c2), .val (.int c3), .val (.int c4), .val (.int c5), .val (.int c6), .val (.int c7), .val (.ref x8), .val (.ref x28), .unset, .unset, .unset, .unset, .unset, .unset, .unset, .unset, .unset, .unset] [])) (fun _ k => XS.astore W36.here hx rfl (hb hby at_107) rfl rfl (l' := #[.val (.int p1), .val (.int p2), .val (.int p3), .val (.int p4), .val (.int c1), .val (.int c2), .val (.int c3), .val (.int c4), .val (.int c5), .val (.int c6), .val (.int c7), .val (.ref x8), .val (.ref x28), .unset, .unset, .unset, .unset, .unset, .unset, .unset, .unset, .unset, .unset]) rfl k) ?_
  obtain ⟨x48, T48, h48, g48, W48, E48, A48, D48, U48, st48⟩ := own_new W36 hx (w0 C) (w1 C) (w2 C) (g := (mkF m 109 #[.val (.int p1), .val (.int p2), .val (.int p3), .val (.int p4), .val (.int c1), .val (.int c2), .val (.int c3), .val (.int c4), .val (.int c5), .val (.int c6), .val (.int c7), .val (.ref x8), .val (.ref x28), .unset, .unset, .unset, .unset, .unset, .unset, .unset, .unset, .unset, .unset] [])) rfl (hb hby at_109) (nle rfl) (nle rfl)
  have z49 : h36.size ≤ h48.size := E48.1
  have l48 : @LT.lt Nat _ x48 h48.size := A48.lt
  have F48_coder : Fld Z h48 x48 "java/lang/String" "coder" "B" (.int (0 : Int32)) := D48 (Or.inr (w27 C)) (ty := .byte) (by decide)
  have F48_value : Fld Z h48 x48 "java/lang/String" "value" "[B" .null := D48 (Or.inr (w29 C)) (ty := (.array .byte)) (by decide)
  refine go (g' := (mkF m 112 #[.val (.int p1), .val (.int p2), .val (.int p3), .val (.int p4), .val (.int c1), .val (.int c2), .val (.int c3), .val (.int c4), .val (.int c5), .val (.int c6), .val (.int c7), .val (.ref x8), .val (.ref x28), .unset, .unset, .unset, .unset, .unset, .unset, .unset, .unset, .unset, .unset] [(.ref x48)])) (st48) ?_
  refine go (g' := (mkF m 113 #[.val (.int p1), .val (.int p2), .val (.int p3), .val (.int p4), .val (.int c1), .val (.int c2), .val (.int c3), .val (.int c4), .val (.int c5), .val (.int c6), .val (.int c7), .val (.ref x8), .val (.ref x28), .unset, .unset, .unset, .unset, .unset, .unset, .unset, .unset, .unset, .unset] [(.ref x48), (.ref x48)])) (fun _ k => XS.dup W48.here hx rfl (hb hby at_112) rfl rfl k) ?_
  refine go (g' := (mkF m 114 #[.val (.int p1), .val (.int p2), .val (.int p3), .val (.int p4), .val (.int c1), .val (.int c2), .val (.int c3), .val (.int c4), .val (.int c5), .val (.int c6), .val (.int c7), .val (.ref x8), .val (.ref x28), .unset, .unset, .unset, .unset, .unset, .unset, .unset, .unset, .unset, .unset] [(.int (2 : Int32)), (.ref x48), (.ref x48)])) (fun _ k => XS.iconst W48.here hx rfl (hb hby at_113) k) ?_
  obtain ⟨x50, T50, h50, k50, g50, W50, E50, A50, st50⟩ := own_newP W48 hx (aty := .char) (w3 C) (g := (mkF m 114 #[.val (.int p1), .val (.int p2), .val (.int p3), .val (.int p4), .val (.int c1), .val (.int c2), .val (.int c3), .val (.int c4), .val (.int c5), .val (.int c6), .val (.int c7), .val (.ref x8), .val (.ref x28), .unset, .unset, .unset, .unset, .unset, .unset, .unset, .unset, .unset, .unset] [(.int (2 : Int32)), (.ref x48), (.ref x48)])) rfl (hb hby at_114) rfl (by decide) (cap := 2) (by decide) (nle rfl) (nle rfl) (nle rfl)
  have z51 : h48.size ≤ h50.size := E50.1
  have l50 : @LT.lt Nat _ x50 h50.size := A50.lt
  have V50 : Arv Z h50 x50 k50 .char (2 : Int32) [(.int (0 : Int32)), (.int (0 : Int32))] (.int (0 : Int32)) := A50.pad (pad_rep [] (.int (0 : Int32)) 2)
  refine go (g' := (mkF m 116 #[.val (.int p1), .val (.int p2), .val (.int p3), .val (.int p4), .val (.int c1), .val (.int c2), .val (.int c3), .val (.int c4), .val (.int c5), .val (.int c6), .val (.int c7), .val (.ref x8), .val (.ref x28), .unset, .unset, .unset, .unset, .unset, .unset, .unset, .unset, .unset, .unset] [(.ref x50), (.ref x48), (.ref x48)])) (st50) ?_
  refine go (g' := (mkF m 117 #[.val (.int p1), .val (.int p2), .val (.int p3), .val (.int p4), .val (.int c1), .val (.int c2), .val (.int c3), .val (.int c4), .val (.int c5), .val (.int c6), .val (.int c7), .val (.ref x8), .val (.ref x28), .unset, .unset, .unset, .unset, .unset, .unset, .unset, .unset, .unset, .unset] [(.ref x50), (.ref x50), (.ref x48), (.ref x48)])) (fun _ k => XS.dup W50.here hx rfl (hb hby at_116) rfl rfl k) ?_
  refine go (g' := (mkF m 118 #[.val (.int p1), .val (.int p2), .val (.int p3), .val (.int p4), .val (.int c1), .val (.int c2), .val (.int c3), .val (.int c4), .val (.int c5), .val (.int c6), .val (.int c7), .val (.ref x8), .val (.ref x28), .unset, .unset, .unset, .unset, .unset, .unset, .unset, .unset, .unset, .unset] [(.int (0 : Int32)), (.ref x50), (.ref x50), (.ref x48), (.ref x48)])) (fun _ k => XS.iconst W50.here hx rfl (hb hby at_117) k) ?_
  refine go (g' := (mkF m 120 #[.val (.int p1), .val (.int p2), .val (.int p3), .val (.int p4), .val (.int c1), .val (.int c2), .val (.int c3), .val (.int c4), .val (.int c5), .val (.int c6), .val (.int c7), .val (.ref x8), .val (.ref x28), .unset, .unset, .unset, .unset, .unset, .unset, .unset, .unset, .unset, .unset] [(.int c5), (.int (0 : Int32)), (.ref x50), (.ref x50), (.ref x48), (.ref x48)])) (fun _ k => XS.iload W50.here hx rfl (hb hby at_118) rfl k) ?_
  obtain ⟨T52, h52, W52, R52, V52, st52⟩ := own_stC W50 hx V50 (by omega) (j := (0 : Int32)) (i := 0) ⟨by decide, by decide⟩ rfl (Nat.le_of_ble_eq_true rfl) (own_up yc5) (g := (mkF m 120 #[.val (.int p1), .val (.int p2), .val (.int p3), .val (.int p4), .val (.int c1), .val (.int c2), .val (.int c3), .val (.int c4), .val (.int c5), .val (.int c6), .val (.int c7), .val (.ref x8), .val (.ref x28), .unset, .unset, .unset, .unset, .unset, .unset, .unset, .unset, .unset, .unset] [(.int c5), (.int (0 : Int32)), (.ref x50), (.ref x50), (.ref x48), (.ref x48)])) rfl rfl (hb hby at_120)
  have z53 : h52.size = h50.size := R52.size
  have U52 : Arv Z h52 x50 k50 .char (2 : Int32) [(.int c5), (.int (0 : Int32))] (.int (0 : Int32)) := V52
  refine go (g' := (mkF m 121 #[.val (.int p1), .val (.int p2), .val (.int p3), .val (.int p4), .val (.int c1), .val (.int c2), .val (.int c3), .val (.int c4), .val (.int c5), .val (.int c6), .val (.int c7), .val (.ref x8), .val (.ref x28), .unset, .unset, .unset, .unset, .unset, .unset, .unset, .unset, .unset, .unset] [(.ref x50), (.ref x48), (.ref x48)])) (st52) ?_
  refine go (g' := (mkF m 122 #[.val (.int p1), .val (.int p2), .val (.int p3), .val (.int p4), .val (.int c1), .val (.int c2), .val (.int c3), .val (.int c4), .val (.int c5), .val (.int c6), .val (.int c7), .val (.ref x8), .val (.ref x28), .unset, .unset, .unset, .unset, .unset, .unset, .unset, .unset, .unset, .unset] [(.ref x50), (.ref x50), (.ref x48), (.ref x48)])) (fun _ k => XS.dup W52.here hx rfl (hb hby at_121) rfl rfl k) ?_
  refine go (g' := (mkF m 123 #[.val (.int p1), .val (.int p2), .val (.int p3), .val (.int p4), .val (.int c1), .val (.int c2), .val (.int c3), .val (.int c4), .val (.int c5), .val (.int c6), .val (.int c7), .val (.ref x8), .val (.ref x28), .unset, .unset, .unset, .unset, .unset, .unset, .unset, .unset, .unset, .unset] [(.int (1 : Int32)), (.ref x50), (.ref x50), (.ref x48), (.ref x48)])) (fun _ k => XS.iconst W52.here hx rfl (hb hby at_122) k) ?_
  refine go (g' := (mkF m 125 #[.val (.int p1), .val (.int p2), .val (.int p3), .val (.int p4), .val (.int c1), .val (.int c2), .val (.int c3), .val (.int c4), .val (.int c5), .val (.int c6), .val (.int c7), .val (.ref x8), .val (.ref x28), .unset, .unset, .unset, .unset, .unset, .unset, .unset, .unset, .unset, .unset] [(.int c6), (.int (1 : Int32)), (.ref x50), (.ref x50), (.ref x48), (.ref x48)])) (fun _ k => XS.iload W52.here hx rfl (hb hby at_123) rfl k) ?_
  obtain ⟨T54, h54, W54, R54, V54, st54⟩ := own_stC W52 hx U52 (by omega) (j := (1 : Int32)) (i := 1) ⟨by decide, by decide⟩ rfl (Nat.le_of_ble_eq_true rfl) (own_up yc6) (g := (mkF m 125 #[.val (.int p1), .val (.int p2), .val (.int p3), .val (.int p4), .val (.int c1), .val (.int c2), .val (.int c3), .val (.int c4), .val (.int c5), .val (.int c6), .val (.int c7), .val (.ref x8), .val (.ref x28), .unset, .unset, .unset, .unset, .unset, .unset, .unset, .unset, .unset, .unset] [(.int c6), (.int (1 : Int32)), (.ref x50), (.ref x50), (.ref x48), (.ref x48)])) rfl rfl (hb hby at_125)
  have z55 : h54.size = h52.size := R54.size
  have U54 : Arv Z h54 x50 k50 .char (2 : Int32) [(.int c5), (.int c6)] (.int (0 : Int32)) := V54
  refine go (g' := (mkF m 126 #[.val (.int p1), .val (.int p2), .val (.int p3), .val (.int p4), .val (.int c1), .val (.int c2), .val (.int c3), .val (.int c4), .val (.int c5), .val (.int c6), .val (.int c7), .val (.ref x8), .val (.ref x28), .unset, .unset, .unset, .unset, .unset, .unset, .unset, .unset, .unset, .unset] [(.ref x50), (.ref x48), (.ref x48)])) (st54) ?_
  have X57 : Ext h36 h48 := own_xt (own_xr h36) E48
  have X58 : Ext h36 h50 := own_xt X57 E50
  have X59 : Ext h36 h52 := own_xw X58 R52 (by omega)
  have X60 : Ext h36 h54 := own_xw X59 R54 (by omega)
  have X61 : Ext h48 h50 := own_xt (own_xr h48) E50
  have X62 : Ext h48 h52 := own_xw X61 R52 (by omega)
  have X63 : Ext h48 h54 := own_xw X62 R54 (by omega)
  have f64 : Exa Z h54 x48 "java/lang/String" := A48.ext X63
  have f65 : Fld Z h54 x48 "java/lang/String" "value" "[B" .null := F48_value.ext X63
  have f66 : Fld Z h54 x48 "java/lang/String" "coder" "B" (.int (0 : Int32)) := F48_coder.ext X63
  obtain ⟨T56, h56, W56, K56, S56, st56⟩ := own_strNew W54 hx (own_ws C) (w4 C) (w5 C) (w6 C) (w1 C) f64 f65 f66 (cs := [c5, c6]) U54 rfl C.cs (nle rfl) (nle rfl) (own_alS yc5 (own_alS yc6 own_al0)) (own_safeB W36 X60 (by omega)) (by omega) (Wd := 1) (nle rfl) (nle rfl) (nle rfl) (nle rfl) (g := (mkF m 126 #[.val (.int p1), .val (.int p2), .val (.int p3), .val (.int p4), .val (.int c1), .val (.int c2), .val (.int c3), .val (.int c4), .val (.int c5), .val (.int c6), .val (.int c7), .val (.ref x8), .val (.ref x28), .unset, .unset, .unset, .unset, .unset, .unset, .unset, .unset, .unset, .unset] [(.ref x50), (.ref x48), (.ref x48)])) rfl (by rw [hml]; rfl) rfl (by show 2 * 0 + _ ≤ _; exact Nat.le_of_eq rfl) (hb hby at_126)
  have z67 : h54.size ≤ h56.size := K56.1
  refine go (g' := (mkF m 129 #[.val (.int p1), .val (.int p2), .val (.int p3), .val (.int p4), .val (.int c1), .val (.int c2), .val (.int c3), .val (.int c4), .val (.int c5), .val (.int c6), .val (.int c7), .val (.ref x8), .val (.ref x28), .unset, .unset, .unset, .unset, .unset, .unset, .unset, .unset, .unset, .unset] [(.ref x48)])) (st56) ?_
  refine go (g' := (mkF m 131 #[.val (.int p1), .val (.int p2), .val (.int p3), .val (.int p4), .val (.int c1), .val (.int c2), .val (.int c3), .val (.int c4), .val (.int c5), .val (.int c6), .val (.int c7), .val (.ref x8), .val (.ref x28), .val (.ref x48), .unset, .unset, .unset, .unset, .unset, .unset, .unset, .unset, .unset] [])) (fun _ k => XS.astore W56.here hx rfl (hb hby at_129) rfl rfl (l' := #[.val (.int p1), .val (.int p2), .val (.int p3), .val (.int p4), .val (.int c1), .val (.int c2), .val (.int c3), .val (.int c4), .val (.int c5), .val (.int c6), .val (.int c7), .val (.ref x8), .val (.ref x28), .val (.ref x48), .unset, .unset, .unset, .unset, .unset, .unset, .unset, .unset, .unset]) rfl k) ?_
  refine go (g' := (mkF m 133 #[.val (.int p1), .val (.int p2), .val (.int p3), .val (.int p4), .val (.int c1), .val (.int c2), .val (.int c3), .val (.int c4), .val (.int c5), .val (.int c6), .val (.int c7), .val (.ref x8), .val (.ref x28), .val (.ref x48), .unset, .unset, .unset, .unset, .unset, .unset, .unset, .unset, .unset] [(.int c7)])) (fun _ k => XS.iload W56.here hx rfl (hb hby at_131) rfl k) ?_
  obtain ⟨v68, so68, vm68, T68, h68, W68, C68, q68, hso68, st68⟩ := own_static W56 hx (y := (⟨"java/lang/String", "valueOf", "(C)Ljava/lang/String;"⟩ : MethodName)) (w30 C) (w31 C) (w2 C) (w32 C) (by decide) (rm_valof C h56 c7 yc7) (fun _ q => nomatch q) (Wd := 0) (nle rfl) (nle rfl) (nle rfl) (nle rfl) (g := (mkF m 133 #[.val (.int p1), .val (.int p2), .val (.int p3), .val (.int p4), .val (.int c1), .val (.int c2), .val (.int c3), .val (.int c4), .val (.int c5), .val (.int c6), .val (.int c7), .val (.ref x8), .val (.ref x28), .val (.ref x48), .unset, .unset, .unset, .unset, .unset, .unset, .unset, .unset, .unset] [(.int c7)])) rfl (by rw [hml]; rfl) (argsL := [(.int c7)]) (rest := []) (lenOf pd_21 rfl) rfl rfl (by show 2 * 0 + _ ≤ _; exact Nat.le_of_eq rfl) (hb hby at_133)
  obtain ⟨x68, rfl, E68, g68, S68⟩ := q68
  have z69 : h56.size ≤ h68.size := E68.1
  refine go (g' := (mkF m 136 #[.val (.int p1), .val (.int p2), .val (.int p3), .val (.int p4), .val (.int c1), .val (.int c2), .val (.int c3), .val (.int c4), .val (.int c5), .val (.int c6), .val (.int c7), .val (.ref x8), .val (.ref x28), .val (.ref x48), .unset, .unset, .unset, .unset, .unset, .unset, .unset, .unset, .unset] [(.ref x68)])) (st68) ?_
  refine go (g' := (mkF m 138 #[.val (.int p1), .val (.int p2), .val (.int p3), .val (.int p4), .val (.int c1), .val (.int c2), .val (.int c3), .val (.int c4), .val (.int c5), .val (.int c6), .val (.int c7), .val (.ref x8), .val (.ref x28), .val (.ref x48), .val (.ref x68), .unset, .unset, .unset, .unset, .unset, .unset, .unset, .unset] [])) (fun _ k => XS.astore W68.here hx rfl (hb hby at_136) rfl rfl (l' := #[.val (.int p1), .val (.int p2), .val (.int p3), .val (.int p4), .val (.int c1), .val (.int c2), .val (.int c3), .val (.int c4), .val (.int c5), .val (.int c6), .val (.int c7), .val (.ref x8), .val (.ref x28), .val (.ref x48), .val (.ref x68), .unset, .unset, .unset, .unset, .unset, .unset, .unset, .unset]) rfl k) ?_
  obtain ⟨x70, T70, h70, g70, W70, E70, A70, D70, U70, st70⟩ := own_new W68 hx (w0 C) (w1 C) (w2 C) (g := (mkF m 138 #[.val (.int p1), .val (.int p2), .val (.int p3), .val (.int p4), .val (.int c1), .val (.int c2), .val (.int c3), .val (.int c4), .val (.int c5), .val (.int c6), .val (.int c7), .val (.ref x8), .val (.ref x28), .val (.ref x48), .val (.ref x68), .unset, .unset, .unset, .unset, .unset, .unset, .unset, .unset] [])) rfl (hb hby at_138) (nle rfl) (nle rfl)
  have z71 : h68.size ≤ h70.size := E70.1
  have l70 : @LT.lt Nat _ x70 h70.size := A70.lt
  have F70_coder : Fld Z h70 x70 "java/lang/String" "coder" "B" (.int (0 : Int32)) := D70 (Or.inr (w27 C)) (ty := .byte) (by decide)
  have F70_value : Fld Z h70 x70 "java/lang/String" "value" "[B" .null := D70 (Or.inr (w29 C)) (ty := (.array .byte)) (by decide)
  refine go (g' := (mkF m 141 #[.val (.int p1), .val (.int p2), .val (.int p3), .val (.int p4), .val (.int c1), .val (.int c2), .val (.int c3), .val (.int c4), .val (.int c5), .val (.int c6), .val (.int c7), .val (.ref x8), .val (.ref x28), .val (.ref x48), .val (.ref x68), .unset, .unset, .unset, .unset, .unset, .unset, .unset, .unset] [(.ref x70)])) (st70) ?_
  refine go (g' := (mkF m 142 #[.val (.int p1), .val (.int p2), .val (.int p3), .val (.int p4), .val (.int c1), .val (.int c2), .val (.int c3), .val (.int c4), .val (.int c5), .val (.int c6), .val (.int c7), .val (.ref x8), .val (.ref x28), .val (.ref x48), .val (.ref x68), .unset, .unset, .unset, .unset, .unset, .unset, .unset, .unset] [(.ref x70), (.ref x70)])) (fun _ k => XS.dup W70.here hx rfl (hb hby at_141) rfl rfl k) ?_
  refine go (g' := (mkF m 143 #[.val (.int p1), .val (.int p2), .val (.int p3), .val (.int p4), .val (.int c1), .val (.int c2), .val (.int c3), .val (.int c4), .val (.int c5), .val (.int c6), .val (.int c7), .val (.ref x8), .val (.ref x28), .val (.ref x48), .val (.ref x68), .unset, .unset, .unset, .unset, .unset, .unset, .unset, .unset] [(.int (2 : Int32)), (.ref x70), (.ref x70)])) (fun _ k => XS.iconst W70.here hx rfl (hb hby at_142) k) ?_
  obtain ⟨x72, T72, h72, k72, g72, W72, E72, A72, st72⟩ := own_newP W70 hx (aty := .char) (w3 C) (g := (mkF m 143 #[.val (.int p1), .val (.int p2), .val (.int p3), .val (.int p4), .val (.int c1), .val (.int c2), .val (.int c3), .val (.int c4), .val (.int c5), .val (.int c6), .val (.int c7), .val (.ref x8), .val (.ref x28), .val (.ref x48), .val (.ref x68), .unset, .unset, .unset, .unset, .unset, .unset, .unset, .unset] [(.int (2 : Int32)), (.ref x70), (.ref x70)])) rfl (hb hby at_143) rfl (by decide) (cap := 2) (by decide) (nle rfl) (nle rfl) (nle rfl)
  have z73 : h70.size ≤ h72.size := E72.1
  have l72 : @LT.lt Nat _ x72 h72.size := A72.lt
  have V72 : Arv Z h72 x72 k72 .char (2 : Int32) [(.int (0 : Int32)), (.int (0 : Int32))] (.int (0 : Int32)) := A72.pad (pad_rep [] (.int (0 : Int32)) 2)
  refine go (g' := (mkF m 145 #[.val (.int p1), .val (.int p2), .val (.int p3), .val (.int p4), .val (.int c1), .val (.int c2), .val (.int c3), .val (.int c4), .val (.int c5), .val (.int c6), .val (.int c7), .val (.ref x8), .val (.ref x28), .val (.ref x48), .val (.ref x68), .unset, .unset, .unset, .unset, .unset, .unset, .unset, .unset] [(.ref x72), (.ref x70), (.ref x70)])) (st72) ?_
  refine go (g' := (mkF m 146 #[.val (.int p1), .val (.int p2), .val (.int p3), .val (.int p4), .val (.int c1), .val (.int c2), .val (.int c3), .val (.int c4), .val (.int c5), .val (.int c6), .val (.int c7), .val (.ref x8), .val (.ref x28), .val (.ref x48), .val (.ref x68), .unset, .unset, .unset, .unset, .unset, .unset, .unset, .unset] [(.ref x72), (.ref x72), (.ref x70), (.ref x70)])) (fun _ k => XS.dup W72.here hx rfl (hb hby at_145) rfl rfl k) ?_
  refine go (g' := (mkF m 147 #[.val (.int p1), .val (.int p2), .val (.int p3), .val (.int p4), .val (.int c1), .val (.int c2), .val (.int c3), .val (.int c4), .val (.int c5), .val (.int c6), .val (.int c7), .val (.ref x8), .val (.ref x28), .val (.ref x48), .val (.ref x68), .unset, .unset, .unset, .unset, .unset, .unset, .unset, .unset] [(.int (0 : Int32)), (.ref x72), (.ref x72), (.ref x70), (.ref x70)])) (fun _ k => XS.iconst W72.here hx rfl (hb hby at_146) k) ?_
  refine go (g' := (mkF m 149 #[.val (.int p1), .val (.int p2), .val (.int p3), .val (.int p4), .val (.int c1), .val (.int c2), .val (.int c3), .val (.int c4), .val (.int c5), .val (.int c6), .val (.int c7), .val (.ref x8), .val (.ref x28), .val (.ref x48), .val (.ref x68), .unset, .unset, .unset, .unset, .unset, .unset, .unset, .unset] [(.int c1), (.int (0 : Int32)), (.ref x72), (.ref x72), (.ref x70), (.ref x70)])) (fun _ k => XS.iload W72.here hx rfl (hb hby at_147) rfl k) ?_
  obtain ⟨T74, h74, W74, R74, V74, st74⟩ := own_stC W72 hx V72 (by omega) (j := (0 : Int32)) (i := 0) ⟨by decide, by decide⟩ rfl (Nat.le_of_ble_eq_true rfl) (own_up yc1) (g := (mkF m 149 #[.val (.int p1), .val (.int p2), .val (.int p3), .val (.int p4), .val (.int c1), .val (.int c2), .val (.int c3), .val (.int c4), .val (.int c5), .val (.int c6), .val (.int c7), .val (.ref x8), .val (.ref x28), .val (.ref x48), .val (.ref x68), .unset, .unset, .unset, .unset, .unset, .unset, .unset, .unset] [(.int c1), (.int (0 : Int32)), (.ref x72), (.ref x72), (.ref x70), (.ref x70)])) rfl rfl (hb hby at_149)
  have z75 : h74.size = h72.size := R74.size
  have U74 : Arv Z h74 x72 k72 .char (2 : Int32) [(.int c1), (.int (0 : Int32))] (.int (0 : Int32)) := V74
  refine go (g' := (mkF m 150 #[.val (.int p1), .val (.int p2), .val (.int p3), .val (.int p4), .val (.int c1), .val (.int c2), .val (.int c3), .val (.int c4), .val (.int c5), .val (.int c6), .val (.int c7), .val (.ref x8), .val (.ref x28), .val (.ref x48), .val (.ref x68), .unset, .unset, .unset, .unset, .unset, .unset, .unset, .unset] [(.ref x72), (.ref x70), (.ref x70)])) (st74) ?_
  refine go (g' := (mkF m 151 #[.val (.int p1), .val (.int p2), .val (.int p3), .val (.int p4), .val (.int c1), .val (.int c2), .val (.int c3), .val (.int c4), .val (.int c5), .val (.int c6), .val (.int c7), .val (.ref x8), .val (.ref x28), .val (.ref x48), .val (.ref x68), .unset, .unset, .unset, .unset, .unset, .unset, .unset, .unset] [(.ref x72), (.ref x72), (.ref x70), (.ref x70)])) (fun _ k => XS.dup W74.here hx rfl (hb hby at_150) rfl rfl k) ?_
  refine go (g' := (mkF m 152 #[.val (.int p1), .val (.int p2), .val (.int p3), .val (.int p4), .val (.int c1), .val (.int c2), .val (.int c3), .val (.int c4), .val (.int c5), .val (.int c6), .val (.int c7), .val (.ref x8), .val (.ref x28), .val (.ref x48), .val (.ref x68), .unset, .unset, .unset, .unset, .unset, .unset, .unset, .unset] [(.int (1 : Int32)), (.ref x72), (.ref x72), (.ref x70), (.ref x70)])) (fun _ k => XS.iconst W74.here hx rfl (hb hby at_151) k) ?_
  refine go (g' := (mkF m 154 #[.val (.int p1), .val (.int p2), .val (.int p3), .val (.int p4), .val (.int c1), .val (.int c2), .val (.int c3), .val (.int c4), .val (.int c5), .val (.int c6), .val (.int c7), .val (.ref x8), .val (.ref x28), .val (.ref x48), .val (.ref x68), .unset, .unset, .unset, .unset, .unset, .unset, .unset, .unset] [(.int c2), (.int (1 : Int32)), (.ref x72), (.ref x72), (.ref x70), (.ref x70)])) (fun _ k => XS.iload W74.here hx rfl (hb hby at_152) rfl k) ?_
  obtain ⟨T76, h76, W76, R76, V76, st76⟩ := own_stC W74 hx U74 (by omega) (j := (1 : Int32)) (i := 1) ⟨by decide, by decide⟩ rfl (Nat.le_of_ble_eq_true rfl) (own_up yc2) (g := (mkF m 154 #[.val (.int p1), .val (.int p2), .val (.int p3), .val (.int p4), .val (.int c1), .val (.int c2), .val (.int c3), .val (.int c4), .val (.int c5), .val (.int c6), .val (.int c7), .val (.ref x8), .val (.ref x28), .val (.ref x48), .val (.ref x68), .unset, .unset, .unset, .unset, .unset, .unset, .unset, .unset] [(.int c2), (.int (1 : Int32)), (.ref x72), (.ref x72), (.ref x70), (.ref x70)])) rfl rfl (hb hby at_154)
  have z77 : h76.size = h74.size := R76.size
  have U76 : Arv Z h76 x72 k72 .char (2 : Int32) [(.int c1), (.int c2)] (.int (0 : Int32)) := V76
  refine go (g' := (mkF m 155 #[.val (.int p1), .val (.int p2), .val (.int p3), .val (.int p4), .val (.int c1), .val (.int c2), .val (.int c3), .val (.int c4), .val (.int c5), .val (.int c6), .val (.int c7), .val (.ref x8), .val (.ref x28), .val (.ref x48), .val (.ref x68), .unset, .unset, .unset, .unset, .unset, .unset, .unset, .unset] [(.ref x72), (.ref x70), (.ref x70)])) (st76) ?_
  have X79 : Ext h68 h70 := own_xt (own_xr h68) E70
  have X80 : Ext h68 h72 := own_xt X79 E72
  have X81 : Ext h68 h74 := own_xw X80 R74 (by omega)
  have X82 : Ext h68 h76 := own_xw X81 R76 (by omega)
  have X83 : Ext h70 h72 := own_xt (own_xr h70) E72
  have X84 : Ext h70 h74 := own_xw X83 R74 (by omega)
  have X85 : Ext h70 h76 := own_xw X84 R76 (by omega)
  have f86 : Exa Z h76 x70 "java/lang/String" := A70.ext X85
  have f87 : Fld Z h76 x70 "java/lang/String" "value" "[B" .null := F70_value.ext X85
  have f88 : Fld Z h76 x70 "java/lang/String" "coder" "B" (.int (0 : Int32)) := F70_coder.ext X85
  obtain ⟨T78, h78, W78, K78, S78, st78⟩ := own_strNew W76 hx (own_ws C) (w4 C) (w5 C) (w6 C) (w1 C) f86 f87 f88 (cs := [c1, c2]) U76 rfl C.cs (nle rfl) (nle rfl) (own_alS yc1 (own_alS yc2 own_al0)) (own_safeB W68 X82 (by omega)) (by omega) (Wd := 1) (nle rfl) (nle rfl) (nle rfl) (nle rfl) (g := (mkF m 155 #[.val (.int p1), .val (.int p2), .val (.int p3), .val (.int p4), .val (.int c1), .val (.int c2), .val (.int c3), .val (.int c4), .val (.int c5), .val (.int c6), .val (.int c7), .val (.ref x8), .val (.ref x28), .val (.ref x48), .val (.ref x68), .unset, .unset, .unset, .unset, .unset, .unset, .unset, .unset] [(.ref x72), (.ref x70), (.ref x70)])) rfl (by rw [hml]; rfl) rfl (by show 2 * 0 + _ ≤ _; exact Nat.le_of_eq rfl) (hb hby at_155)
  have z89 : h76.size ≤ h78.size := K78.1
  refine go (g' := (mkF m 158 #[.val (.int p1), .val (.int p2), .val (.int p3), .val (.int p4), .val (.int c1), .val (.int c2), .val (.int c3), .val (.int c4), .val (.int c5), .val (.int c6), .val (.int c7), .val (.ref x8), .val (.ref x28), .val (.ref x48), .val (.ref x68), .unset, .unset, .unset, .unset, .unset, .unset, .unset, .unset] [(.ref x70)])) (st78) ?_
  refine go (g' := (mkF m 160 #[.val (.int p1), .val (.int p2), .val (.int p3), .val (.int p4), .val (.int c1), .val (.int c2), .val (.int c3), .val (.int c4), .val (.int c5), .val (.int c6), .val (.int c7), .val (.ref x8), .val (.ref x28), .val (.ref x48), .val (.ref x68), .val (.ref x70), .unset, .unset, .unset, .unset, .unset, .unset, .unset] [])) (fun _ k => XS.astore W78.here hx rfl (hb hby at_158) rfl rfl (l' := #[.val (.int p1), .val (.int p2), .val (.int p3), .val (.int p4), .val (.int c1), .val (.int c2), .val (.int c3), .val (.int c4), .val (.int c5), .val (.int c6), .val (.int c7), .val (.ref x8), .val (.ref x28), .val (.ref x48), .val (.ref x68), .val (.ref x70), .unset, .unset, .unset, .unset, .unset, .unset, .unset]) rfl k) ?_
  obtain ⟨x90, T90, h90, g90, W90, E90, A90, D90, U90, st90⟩ := own_new W78 hx (w0 C) (w1 C) (w2 C) (g := (mkF m 160 #[.val (.int p1), .val (.int p2), .val (.int p3), .val (.int p4), .val (.int c1), .val (.int c2), .val (.int c3), .val (.int c4), .val (.int c5), .val (.int c6), .val (.int c7), .val (.ref x8), .val (.ref x28), .val (.ref x48), .val (.ref x68), .val (.ref x70), .unset, .unset, .unset, .unset, .unset, .unset, .unset] [])) rfl (hb hby at_160) (nle rfl) (nle rfl)
  have z91 : h78.size ≤ h90.size := E90.1
  have l90 : @LT.lt Nat _ x90 h90.size := A90.lt
  have F90_coder : Fld Z h90 x90 "java/lang/String" "coder" "B" (.int (0 : Int32)) := D90 (Or.inr (w27 C)) (ty := .byte) (by decide)
  have F90_value : Fld Z h90 x90 "java/lang/String" "value" "[B" .null := D90 (Or.inr (w29 C)) (ty := (.array .byte)) (by decide)
  refine go (g' := (mkF m 163 #[.val (.int p1), .val (.int p2), .val (.int p3), .val (.int p4), .val (.int c1), .val (.int c2), .val (.int c3), .val (.int c4), .val (.int c5), .val (.int c6), .val (.int c7), .val (.ref x8), .val (.ref x28), .val (.ref x48), .val (.ref x68), .val (.ref x70), .unset, .unset, .unset, .unset, .unset, .unset, .unset] [(.ref x90)])) (st90) ?_
  refine go (g' := (mkF m 164 #[.val (.int p1), .val (.int p2), .val (.int p3), .val (.int p4), .val (.int c1), .val (.int c2), .val (.int c3), .val (.int c4), .val (.int c5), .val (.int c6), .val (.int c7), .val (.ref x8), .val (.ref x28), .val (.ref x48), .val (.ref x68), .val (.ref x70), .unset, .unset, .unset, .unset, .unset, .unset, .unset] [(.ref x90), (.ref x90)])) (fun _ k => XS.dup W90.here hx rfl (hb hby at_163) rfl rfl k) ?_
  refine go (g' := (mkF m 165 #[.val (.int p1), .val (.int p2), .val (.int p3), .val (.int p4), .val (.int c1), .val (.int c2), .val (.int c3), .val (.int c4), .val (.int c5), .val (.int c6), .val (.int c7), .val (.ref x8), .val (.ref x28), .val (.ref x48), .val (.ref x68), .val (.ref x70), .unset, .unset, .unset, .unset, .unset, .unset, .unset] [(.int (4 : Int32)), (.ref x90), (.ref x90)])) (fun _ k => XS.iconst W90.here hx rfl (hb hby at_164) k) ?_
  obtain ⟨x92, T92, h92, k92, g92, W92, E92, A92, st92⟩ := own_newP W90 hx (aty := .char) (w3 C) (g := (mkF m 165 #[.val (.int p1), .val (.int p2), .val (.int p3), .val (.int p4), .val (.int c1), .val (.int c2), .val (.int c3), .val (.int c4), .val (.int c5), .val (.int c6), .val (.int c7), .val (.ref x8), .val (.ref x28), .val (.ref x48), .val (.ref x68), .val (.ref x70), .unset, .unset, .unset, .unset, .unset, .unset, .unset] [(.int (4 : Int32)), (.ref x90), (.ref x90)])) rfl (hb hby at_165) rfl (by decide) (cap := 4) (by decide) (nle rfl) (nle rfl) (nle rfl)
  have z93 : h90.size ≤ h92.size := E92.1
  have l92 : @LT.lt Nat _ x92 h92.size := A92.lt
  have V92 : Arv Z h92 x92 k92 .char (4 : Int32) [(.int (0 : Int32)), (.int (0 : Int32)), (.int (0 : Int32)), (.int (0 : Int32))] (.int (0 : Int32)) := A92.pad (pad_rep [] (.int (0 : Int32)) 4)
  refine go (g' := (mkF m 167 #[.val (.int p1), .val (.int p2), .val (.int p3), .val (.int p4), .val (.int c1), .val (.int c2), .val (.int c3), .val (.int c4), .val (.int c5), .val (.int c6), .val (.int c7), .val (.ref x8), .val (.ref x28), .val (.ref x48), .val (.ref x68), .val (.ref x70), .unset, .unset, .unset, .unset, .unset, .unset, .unset] [(.ref x92), (.ref x90), (.ref x90)])) (st92) ?_
  refine go (g' := (mkF m 168 #[.val (.int p1), .val (.int p2), .val (.int p3), .val (.int p4), .val (.int c1), .val (.int c2), .val (.int c3), .val (.int c4), .val (.int c5), .val (.int c6), .val (.int c7), .val (.ref x8), .val (.ref x28), .val (.ref x48), .val (.ref x68), .val (.ref x70), .unset, .unset, .unset, .unset, .unset, .unset, .unset] [(.ref x92), (.ref x92), (.ref x90), (.ref x90)])) (fun _ k => XS.dup W92.here hx rfl (hb hby at_167) rfl rfl k) ?_
  refine go (g' := (mkF m 169 #[.val (.int p1), .val (.int p2), .val (.int p3), .val (.int p4), .val (.int c1), .val (.int c2), .val (.int c3), .val (.int c4), .val (.int c5), .val (.int c6), .val (.int c7), .val (.ref x8), .val (.ref x28), .val (.ref x48), .val (.ref x68), .val (.ref x70), .unset, .unset, .unset, .unset, .unset, .unset, .unset] [(.int (0 : Int32)), (.ref x92), (.ref x92), (.ref x90), (.ref x90)])) (fun _ k => XS.iconst W92.here hx rfl (hb hby at_168) k) ?_
  refine go (g' := (mkF m 171 #[.val (.int p1), .val (.int p2), .val (.int p3), .val (.int p4), .val (.int c1), .val (.int c2), .val (.int c3), .val (.int c4), .val (.int c5), .val (.int c6), .val (.int c7), .val (.ref x8), .val (.ref x28), .val (.ref x48), .val (.ref x68), .val (.ref x70), .unset, .unset, .unset, .unset, .unset, .unset, .unset] [(.int (97 : Int32)), (.int (0 : Int32)), (.ref x92), (.ref x92), (.ref x90), (.ref x90)])) (fun _ k => XS.bipush W92.here hx rfl (hb hby at_169) k) ?_
  obtain ⟨T94, h94, W94, R94, V94, st94⟩ := own_stC W92 hx V92 (by omega) (j := (0 : Int32)) (i := 0) ⟨by decide, by decide⟩ rfl (Nat.le_of_ble_eq_true rfl) ⟨by decide, by decide⟩ (g := (mkF m 171 #[.val (.int p1), .val (.int p2), .val (.int p3), .val (.int p4), .val (.int c1), .val (.int c2), .val (.int c3), .val (.int c4), .val (.int c5), .val (.int c6), .val (.int c7), .val (.ref x8), .val (.ref x28), .val (.ref x48), .val (.ref x68), .val (.ref x70), .unset, .unset, .unset, .unset, .unset, .unset, .unset] [(.int (97 : Int32)), (.int (0 : Int32)), (.ref x92), (.ref x92), (.ref x90), (.ref x90)])) rfl rfl (hb hby at_171)
  have z95 : h94.size = h92.size := R94.size
  have U94 : Arv Z h94 x92 k92 .char (4 : Int32) [(.int (97 : Int32)), (.int (0 : Int32)), (.int (0 : Int32)), (.int (0 : Int32))] (.int (0 : Int32)) := V94
  refine go (g' := (mkF m 172 #[.val (.int p1), .val (.int p2), .val (.int p3), .val (.int p4), .val (.int c1), .val (.int c2), .val (.int c3), .val (.int c4), .val (.int c5), .val (.int c6), .val (.int c7), .val (.ref x8), .val (.ref x28), .val (.ref x48), .val (.ref x68), .val (.ref x70), .unset, .unset, .unset, .unset, .unset, .unset, .unset] [(.ref x92), (.ref x90), (.ref x90)])) (st94) ?_
  refine go (g' := (mkF m 173 #[.val (.int p1), .val (.int p2), .val (.int p3), .val (.int p4), .val (.int c1), .val (.int c2), .val (.int c3), .val (.int c4), .val (.int c5), .val (.int c6), .val (.int c7), .val (.ref x8), .val (.ref x28), .val (.ref x48), .val (.ref x68), .val (.ref x70), .unset, .unset, .unset, .unset, .unset, .unset, .unset] [(.ref x92), (.ref x92), (.ref x90), (.ref x90)])) (fun _ k => XS.dup W94.here hx rfl (hb hby at_172) rfl rfl k) ?_
  refine go (g' := (mkF m 174 #[.val (.int p1), .val (.int p2), .val (.int p3), .val (.int p4), .val (.int c1), .val (.int c2), .val (.int c3), .val (.int c4), .val (.int c5), .val (.int c6), .val (.int c7), .val (.ref x8), .val (.ref x28), .val (.ref x48), .val (.ref x68), .val (.ref x70), .unset, .unset, .unset, .unset, .unset, .unset, .unset] [(.int (1 : Int32)), (.ref x92), (.ref x92), (.ref x90), (.ref x90)])) (fun _ k => XS.iconst W94.here hx rfl (hb hby at_173) k) ?_
  refine go (g' := (mkF m 176 #[.val (.int p1), .val (.int p2), .val (.int p3), .val (.int p4), .val (.int c1), .val (.int c2), .val (.int c3), .val (.int c4), .val (.int c5), .val (.int c6), .val (.int c7), .val (.ref x8), .val (.ref x28), .val (.ref x48), .val (.ref x68), .val (.ref x70), .unset, .unset, .unset, .unset, .unset, .unset, .unset] [(.int (32 : Int32)), (.int (1 : Int32)), (.ref x92), (.ref x92), (.ref x90), (.ref x90)])) (fun _ k => XS.bipush W94.here hx rfl (hb hby at_174) k) ?_
  obtain ⟨T96, h96, W96, R96, V96, st96⟩ := own_stC W94 hx U94 (by omega) (j := (1 : Int32)) (i := 1) ⟨by decide, by decide⟩ rfl (Nat.le_of_ble_eq_true rfl) ⟨by decide, by decide⟩ (g := (mkF m 176 #[.val (.int p1), .val (.int p2), .val (.int p3), .val (.int p4), .val (.int c1), .val (.int c2), .val (.int c3), .val (.int c4), .val (.int c5), .val (.int c6), .val (.int c7), .val (.ref x8), .val (.ref x28), .val (.ref x48), .val (.ref x68), .val (.ref x70), .unset, .unset, .unset, .unset, .unset, .unset, .unset] [(.int (32 : Int32)), (.int (1 : Int32)), (.ref x92), (.ref x92), (.ref x90), (.ref x90)])) rfl rfl (hb hby at_176)
  have z97 : h96.size = h94.size := R96.size
  have U96 : Arv Z h96 x92 k92 .char (4 : Int32) [(.int (97 : Int32)), (.int (32 : Int32)), (.int (0 : Int32)), (.int (0 : Int32))] (.int (0 : Int32)) := V96
  refine go (g' := (mkF m 177 #[.val (.int p1), .val (.int p2), .val (.int p3), .val (.int p4), .val (.int c1), .val (.int c2), .val (.int c3), .val (.int c4), .val (.int c5), .val (.int c6), .val (.int c7), .val (.ref x8), .val (.ref x28), .val (.ref x48), .val (.ref x68), .val (.ref x70), .unset, .unset, .unset, .unset, .unset, .unset, .unset] [(.ref x92), (.ref x90), (.ref x90)])) (st96) ?_
  refine go (g' := (mkF m 178 #[.val (.int p1), .val (.int p2), .val (.int p3), .val (.int p4), .val (.int c1), .val (.int c2), .val (.int c3), .val (.int c4), .val (.int c5), .val (.int c6), .val (.int c7), .val (.ref x8), .val (.ref x28), .val (.ref x48), .val (.ref x68), .val (.ref x70), .unset, .unset, .unset, .unset, .unset, .unset, .unset] [(.ref x92), (.ref x92), (.ref x90), (.ref x90)])) (fun _ k => XS.dup W96.here hx rfl (hb hby at_177) rfl rfl k) ?_
  refine go (g' := (mkF m 179 #[.val (.int p1), .val (.int p2), .val (.int p3), .val (.int p4), .val (.int c1), .val (.int c2), .val (.int c3), .val (.int c4), .val (.int c5), .val (.int c6), .val (.int c7), .val (.ref x8), .val (.ref x28), .val (.ref x48), .val (.ref x68), .val (.ref x70), .unset, .unset, .unset, .unset, .unset, .unset, .unset] [(.int (2 : Int32)), (.ref x92), (.ref x92), (.ref x90), (.ref x90)])) (fun _ k => XS.iconst W96.here hx rfl (hb hby at_178) k) ?_
  refine go (g' := (mkF m 181 #[.val (.int p1), .val (.int p2), .val (.int p3), .val (.int p4), .val (.int c1), .val (.int c2), .val (.int c3), .val (.int c4), .val (.int c5), .val (.int c6), .val (.int c7), .val (.ref x8), .val (.ref x28), .val (.ref x48), .val (.ref x68), .val (.ref x70), .unset, .unset, .unset, .unset, .unset, .unset, .unset] [(.int c1), (.int (2 : Int32)), (.ref x92), (.ref x92), (.ref x90), (.ref x90)])) (fun _ k => XS.iload W96.here hx rfl (hb hby at_179) rfl k) ?_
  obtain ⟨T98, h98, W98, R98, V98, st98⟩ := own_stC W96 hx U96 (by omega) (j := (2 : Int32)) (i := 2) ⟨by decide, by decide⟩ rfl (Nat.le_of_ble_eq_true rfl) (own_up yc1) (g := (mkF m 181 #[.val (.int p1), .val (.int p2), .val (.int p3), .val (.int p4), .val (.int c1), .val (.int c2), .val (.int c3), .val (.int c4), .val (.int c5), .val (.int c6), .val (.int c7), .val (.ref x8), .val (.ref x28), .val (.ref x48), .val (.ref x68), .val (.ref x70), .unset, .unset, .unset, .unset, .unset, .unset, .unset] [(.int c1), (.int (2 : Int32)), (.ref x92), (.ref x92), (.ref x90), (.ref x90)])) rfl rfl (hb hby at_181)
  have z99 : h98.size = h96.size := R98.size
  have U98 : Arv Z h98 x92 k92 .char (4 : Int32) [(.int (97 : Int32)), (.int (32 : Int32)), (.int c1), (.int (0 : Int32))] (.int (0 : Int32)) := V98
  refine go (g' := (mkF m 182 #[.val (.int p1), .val (.int p2), .val (.int p3), .val (.int p4), .val (.int c1), .val (.int c2), .val (.int c3), .val (.int c4), .val (.int c5), .val (.int c6), .val (.int c7), .val (.ref x8), .val (.ref x28), .val (.ref x48), .val (.ref x68), .val (.ref x70), .unset, .unset, .unset, .unset, .unset, .unset, .unset] [(.ref x92), (.ref x90), (.ref x90)])) (st98) ?_
  refine go (g' := (mkF m 183 #[.val (.int p1), .val (.int p2), .val (.int p3), .val (.int p4), .val (.int c1), .val (.int c2), .val (.int c3), .val (.int c4), .val (.int c5), .val (.int c6), .val (.int c7), .val (.ref x8), .val (.ref x28), .val (.ref x48), .val (.ref x68), .val (.ref x70), .unset, .unset, .unset, .unset, .unset, .unset, .unset] [(.ref x92), (.ref x92), (.ref x90), (.ref x90)])) (fun _ k => XS.dup W98.here hx rfl (hb hby at_182) rfl rfl k) ?_
  refine go (g' := (mkF m 184 #[.val (.int p1), .val (.int p2), .val (.int p3), .val (.int p4), .val (.int c1), .val (.int c2), .val (.int c3), .val (.int c4), .val (.int c5), .val (.int c6), .val (.int c7), .val (.ref x8), .val (.ref x28), .val (.ref x48), .val (.ref x68), .val (.ref x70), .unset, .unset, .unset, .unset, .unset, .unset, .unset] [(.int (3 : Int32)), (.ref x92), (.ref x92), (.ref x90), (.ref x90)])) (fun _ k => XS.iconst W98.here hx rfl (hb hby at_183) k) ?_
  refine go (g' := (mkF m 186 #[.val (.int p1), .val (.int p2), .val (.int p3), .val (.int p4), .val (.int c1), .val (.int c2), .val (.int c3), .val (.int c4), .val (.int c5), .val (.int c6), .val (.int c7), .val (.ref x8), .val (.ref x28), .val (.ref x48), .val (.ref x68), .val (.ref x70), .unset, .unset, .unset, .unset, .unset, .unset, .unset] [(.int c2), (.int (3 : Int32)), (.ref x92), (.ref x92), (.ref x90), (.ref x90)])) (fun _ k => XS.iload W98.here hx rfl (hb hby at_184) rfl k) ?_
  obtain ⟨T100, h100, W100, R100, V100, st100⟩ := own_stC W98 hx U98 (by omega) (j := (3 : Int32)) (i := 3) ⟨by decide, by decide⟩ rfl (Nat.le_of_ble_eq_true rfl) (own_up yc2) (g := (mkF m 186 #[.val (.int p1), .val (.int p2), .val (.int p3), .val (.int p4), .val (.int c1), .val (.int c2), .val (.int c3), .val (.int c4), .val (.int c5), .val (.int c6), .val (.int c7), .val (.ref x8), .val (.ref x28), .val (.ref x48), .val (.ref x68), .val (.ref x70), .unset, .unset, .unset, .unset, .unset, .unset, .unset] [(.int c2), (.int (3 : Int32)), (.ref x92), (.ref x92), (.ref x90), (.ref x90)])) rfl rfl (hb hby at_186)
  have z101 : h100.size = h98.size := R100.size
  have U100 : Arv Z h100 x92 k92 .char (4 : Int32) [(.int (97 : Int32)), (.int (32 : Int32)), (.int c1), (.int c2)] (.int (0 : Int32)) := V100
  refine go (g' := (mkF m 187 #[.val (.int p1), .val (.int p2), .val (.int p3), .val (.int p4), .val (.int c1), .val (.int c2), .val (.int c3), .val (.int c4), .val (.int c5), .val (.int c6), .val (.int c7), .val (.ref x8), .val (.ref x28), .val (.ref x48), .val (.ref x68), .val (.ref x70), .unset, .unset, .unset, .unset, .unset, .unset, .unset] [(.ref x92), (.ref x90), (.ref x90)])) (st100) ?_
  have X103 : Ext h78 h90 := own_xt (own_xr h78) E90
  have X104 : Ext h78 h92 := own_xt X103 E92
  have X105 : Ext h78 h94 := own_xw X104 R94 (by omega)
  have X106 : Ext h78 h96 := own_xw X105 R96 (by omega)
  have X107 : Ext h78 h98 := own_xw X106 R98 (by omega)
  have X108 : Ext h78 h100 := own_xw X107 R100 (by omega)
  have X109 : Ext h90 h92 := own_xt (own_xr h90) E92
  have X110 : Ext h90 h94 := own_xw X109 R94 (by omega)
  have X111 : Ext h90 h96 := own_xw X110 R96 (by omega)
  have X112 : Ext h90 h98 := own_xw X111 R98 (by omega)
  have X113 : Ext h90 h100 := own_xw X112 R100 (by omega)
  have f114 : Exa Z h100 x90 "java/lang/String" := A90.ext X113
  have f115 : Fld Z h100 x90 "java/lang/String" "value" "[B" .null := F90_value.ext X113
  have f116 : Fld Z h100 x90 "java/lang/String" "coder" "B" (.int (0 : Int32)) := F90_coder.ext X113
  obtain ⟨T102, h102, W102, K102, S102, st102⟩ := own_strNew W100 hx (own_ws C) (w4 C) (w5 C) (w6 C) (w1 C) f114 f115 f116 (cs := [(97 : Int32), (32 : Int32), c1, c2]) U100 rfl C.cs (nle rfl) (nle rfl) (own_alS ⟨by decide, by decide⟩ (own_alS ⟨by decide, by decide⟩ (own_alS yc1 (own_alS yc2 own_al0)))) (own_safeB W78 X108 (by omega)) (by omega) (Wd := 1) (nle rfl) (nle rfl) (nle rfl) (nle rfl) (g := (mkF m 187 #[.val (.int p1), .val (.int p2), .val (.int p3), .val (.int p4), .val (.int c1), .val (.int c2), .val (.int c3), .val (.int c4), .val (.int c5), .val (.int c6), .val (.int c7), .val (.ref x8), .val (.ref x28), .val (.ref x48), .val (.ref x68), .val (.ref x70), .unset, .unset, .unset, .unset, .unset, .unset, .unset] [(.ref x92), (.ref x90), (.ref x90)])) rfl (by rw [hml]; rfl) rfl (by show 2 * 0 + _ ≤ _; exact Nat.le_of_eq rfl) (hb hby at_187)
  have z117 : h100.size ≤ h102.size := K102.1
  refine go (g' := (mkF m 190 #[.val (.int p1), .val (.int p2), .val (.int p3), .val (.int p4), .val (.int c1), .val (.int c2), .val (.int c3), .val (.int c4), .val (.int c5), .val (.int c6), .val (.int c7), .val (.ref x8), .val (.ref x28), .val (.ref x48), .val (.ref x68), .val (.ref x70), .unset, .unset, .unset, .unset, .unset, .unset, .unset] [(.ref x90)])) (st102) ?_
  refine go (g' := (mkF m 192 #[.val (.int p1), .val (.int p2), .val (.int p3), .val (.int p4), .val (.int c1), .val (.int c2), .val (.int c3), .val (.int c4), .val (.int c5), .val (.int c6), .val (.int c7), .val (.ref x8), .val (.ref x28), .val (.ref x48), .val (.ref x68), .val (.ref x70), .val (.ref x90), .unset, .unset, .unset, .unset, .unset, .unset] [])) (fun _ k => XS.astore W102.here hx rfl (hb hby at_190) rfl rfl (l' := #[.val (.int p1), .val (.int p2), .val (.int p3), .val (.int p4), .val (.int c1), .val (.int c2), .val (.int c3), .val (.int c4), .val (.int c5), .val (.int c6), .val (.int c7), .val (.ref x8), .val (.ref x28), .val (.ref x48), .val (.ref x68), .val (.ref x70), .val (.ref x90), .unset, .unset, .unset, .unset, .unset, .unset]) rfl k) ?_
  obtain ⟨x118, T118, h118, g118, W118, E118, A118, D118, U118, st118⟩ := own_new W102 hx (w0 C) (w1 C) (w2 C) (g := (mkF m 192 #[.val (.int p1), .val (.int p2), .val (.int p3), .val (.int p4), .val (.int c1), .val (.int c2), .val (.int c3), .val (.int c4), .val (.int c5), .val (.int c6), .val (.int c7), .val (.ref x8), .val (.ref x28), .val (.ref x48), .val (.ref x68), .val (.ref x70), .val (.ref x90), .unset, .unset, .unset, .unset, .unset, .unset] [])) rfl (hb hby at_192) (nle rfl) (nle rfl)
  have z119 : h102.size ≤ h118.size := E118.1
  have l118 : @LT.lt Nat _ x118 h118.size := A118.lt
  have F118_coder : Fld Z h118 x118 "java/lang/String" "coder" "B" (.int (0 : Int32)) := D118 (Or.inr (w27 C)) (ty := .byte) (by decide)
  have F118_value : Fld Z h118 x118 "java/lang/String" "value" "[B" .null := D118 (Or.inr (w29 C)) (ty := (.array .byte)) (by decide)
  refine go (g' := (mkF m 195 #[.val (.int p1), .val (.int p2), .val (.int p3), .val (.int p4), .val (.int c1), .val (.int c2), .val (.int c3), .val (.int c4), .val (.int c5), .val (.int c6), .val (.int c7), .val (.ref x8), .val (.ref x28), .val (.ref x48), .val (.ref x68), .val (.ref x70), .val (.ref x90), .unset, .unset, .unset, .unset, .unset, .unset] [(.ref x118)])) (st118) ?_
  refine go (g' := (mkF m 196 #[.val (.int p1), .val (.int p2), .val (.int p3), .val (.int p4), .val (.int c1), .val (.int c2), .val (.int c3), .val (.int c4), .val (.int c5), .val (.int c6), .val (.int c7), .val (.ref x8), .val (.ref x28), .val (.ref x48), .val (.ref x68), .val (.ref x70), .val (.ref x90), .unset, .unset, .unset, .unset, .unset, .unset] [(.ref x118), (.ref x118)])) (fun _ k => XS.dup W118.here hx rfl (hb hby at_195) rfl rfl k) ?_
  refine go (g' := (mkF m 197 #[.val (.int p1), .val (.int p2), .val (.int p3), .val (.int p4), .val (.int c1), .val (.int c2), .val (.int c3), .val (.int c4), .val (.int c5), .val (.int c6), .val (.int c7), .val (.ref x8), .val (.ref x28), .val (.ref x48), .val (.ref x68), .val (.ref x70), .val (.ref x90), .unset, .unset, .unset, .unset, .unset, .unset] [(.int (2 : Int32)), (.ref x118), (.ref x118)])) (fun _ k => XS.iconst W118.here hx rfl (hb hby at_196) k) ?_
  obtain ⟨x120, T120, h120, k120, g120, W120, E120, A120, st120⟩ := own_newP W118 hx (aty := .char) (w3 C) (g := (mkF m 197 #[.val (.int p1), .val (.int p2), .val (.int p3), .val (.int p4), .val (.int c1), .val (.int c2), .val (.int c3), .val (.int c4), .val (.int c5), .val (.int c6), .val (.int c7), .val (.ref x8), .val (.ref x28), .val (.ref x48), .val (.ref x68), .val (.ref x70), .val (.ref x90), .unset, .unset, .unset, .unset, .unset, .unset] [(.int (2 : Int32)), (.ref x118), (.ref x118)])) rfl (hb hby at_197) rfl (by decide) (cap := 2) (by decide) (nle rfl) (nle rfl) (nle rfl)
  have z121 : h118.size ≤ h120.size := E120.1
  have l120 : @LT.lt Nat _ x120 h120.size := A120.lt
  have V120 : Arv Z h120 x120 k120 .char (2 : Int32) [(.int (0 : Int32)), (.int (0 : Int32))] (.int (0 : Int32)) := A120.pad (pad_rep [] (.int (0 : Int32)) 2)
  refine go (g' := (mkF m 199 #[.val (.int p1), .val (.int p2), .val (.int p3), .val (.int p4), .val (.int c1), .val (.int c2), .val (.int c3), .val (.int c4), .val (.int c5), .val (.int c6), .val (.int c7), .val (.ref x8), .val (.ref x28), .val (.ref x48), .val (.ref x68), .val (.ref x70), .val (.ref x90), .unset, .unset, .unset, .unset, .unset, .unset] [(.ref x120), (.ref x118), (.ref x118)])) (st120) ?_
  refine go (g' := (mkF m 200 #[.val (.int p1), .val (.int p2), .val (.int p3), .val (.int p4), .val (.int c1), .val (.int c2), .val (.int c3), .val (.int c4), .val (.int c5), .val (.int c6), .val (.int c7), .val (.ref x8), .val (.ref x28), .val (.ref x48), .val (.ref x68), .val (.ref x70), .val (.ref x90), .unset, .unset, .unset, .unset, .unset, .unset] [(.ref x120), (.ref x120), (.ref x118), (.ref x118)])) (fun _ k => XS.dup W120.here hx rfl (hb hby at_199) rfl rfl k) ?_
  refine go (g' := (mkF m 201 #[.val (.int p1), .val (.int p2), .val (.int p3), .val (.int p4), .val (.int c1), .val (.int c2), .val (.int c3), .val (.int c4), .val (.int c5), .val (.int c6), .val (.int c7), .val (.ref x8), .val (.ref x28), .val (.ref x48), .val (.ref x68), .val (.ref x70), .val (.ref x90), .unset, .unset, .unset, .unset, .unset, .unset] [(.int (0 : Int32)), (.ref x120), (.ref x120), (.ref x118), (.ref x118)])) (fun _ k => XS.iconst W120.here hx rfl (hb hby at_200) k) ?_
  refine go (g' := (mkF m 203 #[.val (.int p1), .val (.int p2), .val (.int p3), .val (.int p4), .val (.int c1), .val (.int c2), .val (.int c3), .val (.int c4), .val (.int c5), .val (.int c6), .val (.int c7), .val (.ref x8), .val (.ref x28), .val (.ref x48), .val (.ref x68), .val (.ref x70), .val (.ref x90), .unset, .unset, .unset, .unset, .unset, .unset] [(.int c5), (.int (0 : Int32)), (.ref x120), (.ref x120), (.ref x118), (.ref x118)])) (fun _ k => XS.iload W120.here hx rfl (hb hby at_201) rfl k) ?_
  obtain ⟨T122, h122, W122, R122, V122, st122⟩ := own_stC W120 hx V120 (by omega) (j := (0 : Int32)) (i := 0) ⟨by decide, by decide⟩ rfl (Nat.le_of_ble_eq_true rfl) (own_up yc5) (g := (mkF m 203 #[.val (.int p1), .val (.int p2), .val (.int p3), .val (.int p4), .val (.int c1), .val (.int c2), .val (.int c3), .val (.int c4), .val (.int c5), .val (.int c6), .val (.int c7), .val (.ref x8), .val (.ref x28), .val (.ref x48), .val (.ref x68), .val (.ref x70), .val (.ref x90), .unset, .unset, .unset, .unset, .unset, .unset] [(.int c5), (.int (0 : Int32)), (.ref x120), (.ref x120), (.ref x118), (.ref x118)])) rfl rfl (hb hby at_203)
  have z123 : h122.size = h120.size := R122.size
  have U122 : Arv Z h122 x120 k120 .char (2 : Int32) [(.int c5), (.int (0 : Int32))] (.int (0 : Int32)) := V122
  refine go (g' := (mkF m 204 #[.val (.int p1), .val (.int p2), .val (.int p3), .val (.int p4), .val (.int c1), .val (.int c2), .val (.int c3), .val (.int c4), .val (.int c5), .val (.int c6), .val (.int c7), .val (.ref x8), .val (.ref x28), .val (.ref x48), .val (.ref x68), .val (.ref x70), .val (.ref x90), .unset, .unset, .unset, .unset, .unset, .unset] [(.ref x120), (.ref x118), (.ref x118)])) (st122) ?_
  refine go (g' := (mkF m 205 #[.val (.int p1), .val (.int p2), .val (.int p3), .val (.int p4), .val (.int c1), .val (.int c2), .val (.int c3), .val (.int c4), .val (.int c5), .val (.int c6), .val (.int c7), .val (.ref x8), .val (.ref x28), .val (.ref x48), .val (.ref x68), .val (.ref x70), .val (.ref x90), .unset, .unset, .unset, .unset, .unset, .unset] [(.ref x120), (.ref x120), (.ref x118), (.ref x118)])) (fun _ k => XS.dup W122.here hx rfl (hb hby at_204) rfl rfl k) ?_
  refine go (g' := (mkF m 206 #[.val (.int p1), .val (.int p2), .val (.int p3), .val (.int p4), .val (.int c1), .val (.int c2), .val (.int c3), .val (.int c4), .val (.int c5), .val (.int c6), .val (.int c7), .val (.ref x8), .val (.ref x28), .val (.ref x48), .val (.ref x68), .val (.ref x70), .val (.ref x90), .unset, .unset, .unset, .unset, .unset, .unset] [(.int (1 : Int32)), (.ref x120), (.ref x120), (.ref x118), (.ref x118)])) (fun _ k => XS.iconst W122.here hx rfl (hb hby at_205) k) ?_
  refine go (g' := (mkF m 208 #[.val (.int p1), .val (.int p2), .val (.int p3), .val (.int p4), .val (.int c1), .val (.int c2), .val (.int c3), .val (.int c4), .val (.int c5), .val (.int c6), .val (.int c7), .val (.ref x8), .val (.ref x28), .val (.ref x48), .val (.ref x68), .val (.ref x70), .val (.ref x90), .unset, .unset, .unset, .unset, .unset, .unset] [(.int c6), (.int (1 : Int32)), (.ref x120), (.ref x120), (.ref x118), (.ref x118)])) (fun _ k => XS.iload W122.here hx rfl (hb hby at_206) rfl k) ?_
  obtain ⟨T124, h124, W124, R124, V124, st124⟩ := own_stC W122 hx U122 (by omega) (j := (1 : Int32)) (i := 1) ⟨by decide, by decide⟩ rfl (Nat.le_of_ble_eq_true rfl) (own_up yc6) (g := (mkF m 208 #[.val (.int p1), .val (.int p2), .val (.int p3), .val (.int p4), .val (.int c1), .val (.int c2), .val (.int c3), .val (.int c4), .val (.int c5), .val (.int c6), .val (.int c7), .val (.ref x8), .val (.ref x28), .val (.ref x48), .val (.ref x68), .val (.ref x70), .val (.ref x90), .unset, .unset, .unset, .unset, .unset, .unset] [(.int c6), (.int (1 : Int32)), (.ref x120), (.ref x120), (.ref x118), (.ref x118)])) rfl rfl (hb hby at_208)
  have z125 : h124.size = h122.size := R124.size
  have U124 : Arv Z h124 x120 k120 .char (2 : Int32) [(.int c5), (.int c6)] (.int (0 : Int32)) := V124
  refine go (g' := (mkF m 209 #[.val (.int p1), .val (.int p2), .val (.int p3), .val (.int p4), .val (.int c1), .val (.int c2), .val (.int c3), .val (.int c4), .val (.int c5), .val (.int c6), .val (.int c7), .val (.ref x8), .val (.ref x28), .val (.ref x48), .val (.ref x68), .val (.ref x70), .val (.ref x90), .unset, .unset, .unset, .unset, .unset, .unset] [(.ref x120), (.ref x118), (.ref x118)])) (st124) ?_
  have X127 : Ext h102 h118 := own_xt (own_xr h102) E118
  have X128 : Ext h102 h120 := own_xt X127 E120
  have X129 : Ext h102 h122 := own_xw X128 R122 (by omega)
  have X130 : Ext h102 h124 := own_xw X129 R124 (by omega)
  have X131 : Ext h118 h120 := own_xt (own_xr h118) E120
  have X132 : Ext h118 h122 := own_xw X131 R122 (by omega)
  have X133 : Ext h118 h124 := own_xw X132 R124 (by omega)
  have f134 : Exa Z h124 x118 "java/lang/String" := A118.ext X133
  have f135 : Fld Z h124 x118 "java/lang/String" "value" "[B" .null := F118_value.ext X133
  have f136 : Fld Z h124 x118 "java/lang/String" "coder" "B" (.int (0 : Int32)) := F118_coder.ext X133
  obtain ⟨T126, h126, W126, K126, S126, st126⟩ := own_strNew W124 hx (own_ws C) (w4 C) (w5 C) (w6 C) (w1 C) f134 f135 f136 (cs := [c5, c6]) U124 rfl C.cs (nle rfl) (nle rfl) (own_alS yc5 (own_alS yc6 own_al0)) (own_safeB W102 X130 (by omega)) (by omega) (Wd := 1) (nle rfl) (nle rfl) (nle rfl) (nle rfl) (g := (mkF m 209 #[.val (.int p1), .val (.int p2), .val (.int p3), .val (.int p4), .val (.int c1), .val (.int c2), .val (.int c3), .val (.int c4), .val (.int c5), .val (.int c6), .val (.int c7), .val (.ref x8), .val (.ref x28), .val (.ref x48), .val (.ref x68), .val (.ref x70), .val (.ref x90), .unset, .unset, .unset, .unset, .unset, .unset] [(.ref x120), (.ref x118), (.ref x118)])) rfl (by rw [hml]; rfl) rfl (by show 2 * 0 + _ ≤ _; exact Nat.le_of_eq rfl) (hb hby at_209)
  have z137 : h124.size ≤ h126.size := K126.1
  refine go (g' := (mkF m 212 #[.val (.int p1), .val (.int p2), .val (.int p3), .val (.int p4), .val (.int c1), .val (.int c2), .val (.int c3), .val (.int c4), .val (.int c5), .val (.int c6), .val (.int c7), .val (.ref x8), .val (.ref x28), .val (.ref x48), .val (.ref x68), .val (.ref x70), .val (.ref x90), .unset, .unset, .unset, .unset, .unset, .unset] [(.ref x118)])) (st126) ?_
  refine go (g' := (mkF m 214 #[.val (.int p1), .val (.int p2), .val (.int p3), .val (.int p4), .val (.int c1), .val (.int c2), .val (.int c3), .val (.int c4), .val (.int c5), .val (.int c6), .val (.int c7), .val (.ref x8), .val (.ref x28), .val (.ref x48), .val (.ref x68), .val (.ref x70), .val (.ref x90), .val (.ref x118), .unset, .unset, .unset, .unset, .unset] [])) (fun _ k => XS.astore W126.here hx rfl (hb hby at_212) rfl rfl (l' := #[.val (.int p1), .val (.int p2), .val (.int p3), .val (.int p4), .val (.int c1), .val (.int c2), .val (.int c3), .val (.int c4), .val (.int c5), .val (.int c6), .val (.int c7), .val (.ref x8), .val (.ref x28), .val (.ref x48), .val (.ref x68), .val (.ref x70), .val (.ref x90), .val (.ref x118), .unset, .unset, .unset, .unset, .unset]) rfl k) ?_
  refine go (g' := (mkF m 216 #[.val (.int p1), .val (.int p2), .val (.int p3), .val (.int p4), .val (.int c1), .val (.int c2), .val (.int c3), .val (.int c4), .val (.int c5), .val (.int c6), .val (.int c7), .val (.ref x8), .val (.ref x28), .val (.ref x48), .val (.ref x68), .val (.ref x70), .val (.ref x90), .val (.ref x118), .unset, .unset, .unset, .unset, .unset] [(.ref x8)])) (fun _ k => XS.aload W126.here hx rfl (hb hby at_214) rfl rfl k) ?_
  refine go (g' := (mkF m 218 #[.val (.int p1), .val (.int p2), .val (.int p3), .val (.int p4), .val (.int c1), .val (.int c2), .val (.int c3), .val (.int c4), .val (.int c5), .val (.int c6), .val (.int c7), .val (.ref x8), .val (.ref x28), .val (.ref x48), .val (.ref x68), .val (.ref x70), .val (.ref x90), .val (.ref x118), .unset, .unset, .unset, .unset, .unset] [(.ref x28), (.ref x8)])) (fun _ k => XS.aload W126.here hx rfl (hb hby at_216) rfl rfl k) ?_
  refine go (g' := (mkF m 220 #[.val (.int p1), .val (.int p2), .val (.int p3), .val (.int p4), .val (.int c1), .val (.int c2), .val (.int c3), .val (.int c4), .val (.int c5), .val (.int c6), .val (.int c7), .val (.ref x8), .val (.ref x28), .val (.ref x48), .val (.ref x68), .val (.ref x70), .val (.ref x90), .val (.ref x118), .unset, .unset, .unset, .unset, .unset] [(.ref x48), (.ref x28), (.ref x8)])) (fun _ k => XS.aload W126.here hx rfl (hb hby at_218) rfl rfl k) ?_
  obtain ⟨v138, so138, vm138, T138, h138, W138, C138, q138, hso138, st138⟩ := own_static W126 hx (y := (⟨"com/example/forseti/forseti/model/ClassFigures", "alikeForEvery", "(Ljava/lang/String;Ljava/lang/String;Ljava/lang/String;)Lcom/example/forseti/forseti/model/ClassFigures;"⟩ : MethodName)) (w44 C) (w45 C) (w46 C) (w47 C) (by decide) (rm_alike C h126 (.ref x8) (.ref x28) (.ref x48) rfl rfl rfl) (fun _ q => nomatch q) (Wd := 0) (nle rfl) (nle rfl) (nle rfl) (nle rfl) (g := (mkF m 220 #[.val (.int p1), .val (.int p2), .val (.int p3), .val (.int p4), .val (.int c1), .val (.int c2), .val (.int c3), .val (.int c4), .val (.int c5), .val (.int c6), .val (.int c7), .val (.ref x8), .val (.ref x28), .val (.ref x48), .val (.ref x68), .val (.ref x70), .val (.ref x90), .val (.ref x118), .unset, .unset, .unset, .unset, .unset] [(.ref x48), (.ref x28), (.ref x8)])) rfl (by rw [hml]; rfl) (argsL := [(.ref x8), (.ref x28), (.ref x48)]) (rest := []) (lenOf pd_22 rfl) rfl rfl (by show 2 * 0 + _ ≤ _; exact Nat.le_of_eq rfl) (hb hby at_220)
  obtain ⟨x138, y138, rfl, E138, A138, F138_kind, F138_article, F138_ownerKind, F138_anyOwner, S138⟩ := q138
  have z139 : h126.size ≤ h138.size := E138.1
  refine go (g' := (mkF m 223 #[.val (.int p1), .val (.int p2), .val (.int p3), .val (.int p4), .val (.int c1), .val (.int c2), .val (.int c3), .val (.int c4), .val (.int c5), .val (.int c6), .val (.int c7), .val (.ref x8), .val (.ref x28), .val (.ref x48), .val (.ref x68), .val (.ref x70), .val (.ref x90), .val (.ref x118), .unset, .unset, .unset, .unset, .unset] [(.ref x138)])) (st138) ?_
  refine go (g' := (mkF m 225 #[.val (.int p1), .val (.int p2), .val (.int p3), .val (.int p4), .val (.int c1), .val (.int c2), .val (.int c3), .val (.int c4), .val (.int c5), .val (.int c6), .val (.int c7), .val (.ref x8), .val (.ref x28), .val (.ref x48), .val (.ref x68), .val (.ref x70), .val (.ref x90), .val (.ref x118), .val (.ref x138), .unset, .unset, .unset, .unset] [])) (fun _ k => XS.astore W138.here hx rfl (hb hby at_223) rfl rfl (l' := #[.val (.int p1), .val (.int p2), .val (.int p3), .val (.int p4), .val (.int c1), .val (.int c2), .val (.int c3), .val (.int c4), .val (.int c5), .val (.int c6), .val (.int c7), .val (.ref x8), .val (.ref x28), .val (.ref x48), .val (.ref x68), .val (.ref x70), .val (.ref x90), .val (.ref x118), .val (.ref x138), .unset, .unset, .unset, .unset]) rfl k) ?_
  refine go (g' := (mkF m 227 #[.val (.int p1), .val (.int p2), .val (.int p3), .val (.int p4), .val (.int c1), .val (.int c2), .val (.int c3), .val (.int c4), .val (.int c5), .val (.int c6), .val (.int c7), .val (.ref x8), .val (.ref x28), .val (.ref x48), .val (.ref x68), .val (.ref x70), .val (.ref x90), .val (.ref x118), .val (.ref x138), .unset, .unset, .unset, .unset] [(.ref x70)])) (fun _ k => XS.aload W138.here hx rfl (hb hby at_225) rfl rfl k) ?_
  refine go (g' := (mkF m 229 #[.val (.int p1), .val (.int p2), .val (.int p3), .val (.int p4), .val (.int c1), .val (.int c2), .val (.int c3), .val (.int c4), .val (.int c5), .val (.int c6), .val (.int c7), .val (.ref x8), .val (.ref x28), .val (.ref x48), .val (.ref x68), .val (.ref x70), .val (.ref x90), .val (.ref x118), .val (.ref x138), .unset, .unset, .unset, .unset] [(.ref x138), (.ref x70)])) (fun _ k => XS.aload W138.here hx rfl (hb hby at_227) rfl rfl k) ?_
  obtain ⟨v140, so140, vm140, T140, h140, W140, C140, q140, hso140, st140⟩ := own_virtual W138 hx (y := (⟨"com/example/forseti/forseti/model/ClassFigures", "kind", "()Ljava/lang/String;"⟩ : MethodName)) (z := (⟨"com/example/forseti/forseti/model/ClassFigures", "kind", "()Ljava/lang/String;"⟩ : MethodName)) (w100 C) (w101 C) (w103 C) (w102 C) (w46 C) (w104 C) (by decide) (own_nf W138 (w103 C)) A138 (rm_get10 C h138 x138 (.ref x8) rfl F138_kind) (fun _ q => nomatch q) (Wd := 1) (nle rfl) (nle rfl) (nle rfl) (nle rfl) (g := (mkF m 229 #[.val (.int p1), .val (.int p2), .val (.int p3), .val (.int p4), .val (.int c1), .val (.int c2), .val (.int c3), .val (.int c4), .val (.int c5), .val (.int c6), .val (.int c7), .val (.ref x8), .val (.ref x28), .val (.ref x48), .val (.ref x68), .val (.ref x70), .val (.ref x90), .val (.ref x118), .val (.ref x138), .unset, .unset, .unset, .unset] [(.ref x138), (.ref x70)])) rfl (by rw [hml]; rfl) (argsL := []) (rest := [(.ref x70)]) (lenOf pd_20 rfl) rfl rfl (by show 2 * 0 + _ ≤ _; exact Nat.le_of_eq rfl) (hb hby at_229)
  obtain ⟨rfl, rfl⟩ := q140
  refine go (g' := (mkF m 232 #[.val (.int p1), .val (.int p2), .val (.int p3), .val (.int p4), .val (.int c1), .val (.int c2), .val (.int c3), .val (.int c4), .val (.int c5), .val (.int c6), .val (.int c7), .val (.ref x8), .val (.ref x28), .val (.ref x48), .val (.ref x68), .val (.ref x70), .val (.ref x90), .val (.ref x118), .val (.ref x138), .unset, .unset, .unset, .unset] [(.ref x8), (.ref x70)])) (st140) ?_
  have X142 : Ext h78 h102 := own_xk X108 K102 (allS (by omega) all0)
  have X143 : Ext h78 h118 := own_xt X142 E118
  have X144 : Ext h78 h120 := own_xt X143 E120
  have X145 : Ext h78 h122 := own_xw X144 R122 (by omega)
  have X146 : Ext h78 h124 := own_xw X145 R124 (by omega)
  have X147 : Ext h78 h126 := own_xk X146 K126 (allS (by omega) all0)
  have X148 : Ext h78 h138 := own_xt X147 E138
  have f149 : Str Z h138 x70 [c1, c2] := S78.ext X148
  have X150 : Ext h16 h36 := own_xk X40 K36 (allS (by omega) all0)
  have X151 : Ext h16 h48 := own_xt X150 E48
  have X152 : Ext h16 h50 := own_xt X151 E50
  have X153 : Ext h16 h52 := own_xw X152 R52 (by omega)
  have X154 : Ext h16 h54 := own_xw X153 R54 (by omega)
  have X155 : Ext h16 h56 := own_xk X154 K56 (allS (by omega) all0)
  have X156 : Ext h16 h68 := own_xt X155 E68
  have X157 : Ext h16 h70 := own_xt X156 E70
  have X158 : Ext h16 h72 := own_xt X157 E72
  have X159 : Ext h16 h74 := own_xw X158 R74 (by omega)
  have X160 : Ext h16 h76 := own_xw X159 R76 (by omega)
  have X161 : Ext h16 h78 := own_xk X160 K78 (allS (by omega) all0)
  have X162 : Ext h16 h90 := own_xt X161 E90
  have X163 : Ext h16 h92 := own_xt X162 E92
  have X164 : Ext h16 h94 := own_xw X163 R94 (by omega)
  have X165 : Ext h16 h96 := own_xw X164 R96 (by omega)
  have X166 : Ext h16 h98 := own_xw X165 R98 (by omega)
  have X167 : Ext h16 h100 := own_xw X166 R100 (by omega)
  have X168 : Ext h16 h102 := own_xk X167 K102 (allS (by omega) all0)
  have X169 : Ext h16 h118 := own_xt X168 E118
  have X170 : Ext h16 h120 := own_xt X169 E120
  have X171 : Ext h16 h122 := own_xw X170 R122 (by omega)
  have X172 : Ext h16 h124 := own_xw X171 R124 (by omega)
  have X173 : Ext h16 h126 := own_xk X172 K126 (allS (by omega) all0)
  have X174 : Ext h16 h138 := own_xt X173 E138
  have f175 : Str Z h138 x8 [c1, c2] := S16.ext X174
  obtain ⟨b141, T141, hb141, W141, st141⟩ := own_seq W140 hx (own_weq C) (w105 C) (w106 C) (w108 C) (w107 C) (w1 C) f149 f175 C.cs (nle rfl) (nle rfl) (Wd := 0) (nle rfl) (nle rfl) (nle rfl) (nle rfl) (g := (mkF m 232 #[.val (.int p1), .val (.int p2), .val (.int p3), .val (.int p4), .val (.int c1), .val (.int c2), .val (.int c3), .val (.int c4), .val (.int c5), .val (.int c6), .val (.int c7), .val (.ref x8), .val (.ref x28), .val (.ref x48), .val (.ref x68), .val (.ref x70), .val (.ref x90), .val (.ref x118), .val (.ref x138), .unset, .unset, .unset, .unset] [(.ref x8), (.ref x70)])) rfl (by rw [hml]; rfl) rfl (by show 2 * 0 + _ ≤ _; exact Nat.le_of_eq rfl) (hb hby at_232)
  refine go (g' := (mkF m 235 #[.val (.int p1), .val (.int p2), .val (.int p3), .val (.int p4), .val (.int c1), .val (.int c2), .val (.int c3), .val (.int c4), .val (.int c5), .val (.int c6), .val (.int c7), .val (.ref x8), .val (.ref x28), .val (.ref x48), .val (.ref x68), .val (.ref x70), .val (.ref x90), .val (.ref x118), .val (.ref x138), .unset, .unset, .unset, .unset] [(.int b141)])) (st141) ?_
  refine go (g' := (mkF m 237 #[.val (.int p1), .val (.int p2), .val (.int p3), .val (.int p4), .val (.int c1), .val (.int c2), .val (.int c3), .val (.int c4), .val (.int c5), .val (.int c6), .val (.int c7), .val (.ref x8), .val (.ref x28), .val (.ref x48), .val (.ref x68), .val (.ref x70), .val (.ref x90), .val (.ref x118), .val (.ref x138), .val (.int b141), .unset, .unset, .unset] [])) (fun _ k => XS.istore W141.here hx rfl (hb hby at_235) rfl (l' := #[.val (.int p1), .val (.int p2), .val (.int p3), .val (.int p4), .val (.int c1), .val (.int c2), .val (.int c3), .val (.int c4), .val (.int c5), .val (.int c6), .val (.int c7), .val (.ref x8), .val (.ref x28), .val (.ref x48), .val (.ref x68), .val (.ref x70), .val (.ref x90), .val (.ref x118), .val (.ref x138), .val (.int b141), .unset, .unset, .unset]) rfl k) ?_
  refine go (g' := (mkF m 239 #[.val (.int p1), .val (.int p2), .val (.int p3), .val (.int p4), .val (.int c1), .val (.int c2), .val (.int c3), .val (.int c4), .val (.int c5), .val (.int c6), .val (.int c7), .val (.ref x8), .val (.ref x28), .val (.ref x48), .val (.ref x68), .val (.ref x70), .val (.ref x90), .val (.ref x118), .val (.ref x138), .val (.int b141), .unset, .unset, .unset] [(.ref x90)])) (fun _ k => XS.aload W141.here hx rfl (hb hby at_237) rfl rfl k) ?_
  refine go (g' := (mkF m 241 #[.val (.int p1), .val (.int p2), .val (.int p3), .val (.int p4), .val (.int c1), .val (.int c2), .val (.int c3), .val (.int c4), .val (.int c5), .val (.int c6), .val (.int c7), .val (.ref x8), .val (.ref x28), .val (.ref x48), .val (.ref x68), .val (.ref x70), .val (.ref x90), .val (.ref x118), .val (.ref x138), .val (.int b141), .unset, .unset, .unset] [(.ref x138), (.ref x90)])) (fun _ k => XS.aload W141.here hx rfl (hb hby at_239) rfl rfl k) ?_
  obtain ⟨v176, so176, vm176, T176, h176, W176, C176, q176, hso176, st176⟩ := own_virtual W141 hx (y := (⟨"com/example/forseti/forseti/model/ClassFigures", "aKind", "()Ljava/lang/String;"⟩ : MethodName)) (z := (⟨"com/example/forseti/forseti/model/ClassFigures", "aKind", "()Ljava/lang/String;"⟩ : MethodName)) (w113 C) (w114 C) (w116 C) (w115 C) (w46 C) (w117 C) (by decide) (own_nf W141 (w116 C)) A138 (rm_akind C h138 x138 y138 x8 c1 c2 F138_article F138_kind S138 f175) (fun _ q => nomatch q) (Wd := 1) (nle rfl) (nle rfl) (nle rfl) (nle rfl) (g := (mkF m 241 #[.val (.int p1), .val (.int p2), .val (.int p3), .val (.int p4), .val (.int c1), .val (.int c2), .val (.int c3), .val (.int c4), .val (.int c5), .val (.int c6), .val (.int c7), .val (.ref x8), .val (.ref x28), .val (.ref x48), .val (.ref x68), .val (.ref x70), .val (.ref x90), .val (.ref x118), .val (.ref x138), .val (.int b141), .unset, .unset, .unset] [(.ref x138), (.ref x90)])) rfl (by rw [hml]; rfl) (argsL := []) (rest := [(.ref x90)]) (lenOf pd_20 rfl) rfl rfl (by show 2 * 0 + _ ≤ _; exact Nat.le_of_eq rfl) (hb hby at_241)
  obtain ⟨x176, rfl, E176, S176⟩ := q176
  have z177 : h138.size ≤ h176.size := E176.1
  refine go (g' := (mkF m 244 #[.val (.int p1), .val (.int p2), .val (.int p3), .val (.int p4), .val (.int c1), .val (.int c2), .val (.int c3), .val (.int c4), .val (.int c5), .val (.int c6), .val (.int c7), .val (.ref x8), .val (.ref x28), .val (.ref x48), .val (.ref x68), .val (.ref x70), .val (.ref x90), .val (.ref x118), .val (.ref x138), .val (.int b141), .unset, .unset, .unset] [(.ref x176), (.ref x90)])) (st176) ?_
  have X179 : Ext h102 h126 := own_xk X130 K126 (allS (by omega) all0)
  have X180 : Ext h102 h138 := own_xt X179 E138
  have X181 : Ext h102 h176 := own_xt X180 E176
  have f182 : Str Z h176 x90 [(97 : Int32), (32 : Int32), c1, c2] := S102.ext X181
  obtain ⟨b178, T178, hb178, W178, st178⟩ := own_seq W176 hx (own_weq C) (w105 C) (w106 C) (w108 C) (w107 C) (w1 C) f182 S176 C.cs (nle rfl) (nle rfl) (Wd := 0) (nle rfl) (nle rfl) (nle rfl) (nle rfl) (g := (mkF m 244 #[.val (.int p1), .val (.int p2), .val (.int p3), .val (.int p4), .val (.int c1), .val (.int c2), .val (.int c3), .val (.int c4), .val (.int c5), .val (.int c6), .val (.int c7), .val (.ref x8), .val (.ref x28), .val (.ref x48), .val (.ref x68), .val (.ref x70), .val (.ref x90), .val (.ref x118), .val (.ref x138), .val (.int b141), .unset, .unset, .unset] [(.ref x176), (.ref x90)])) rfl (by rw [hml]; rfl) rfl (by show 2 * 0 + _ ≤ _; exact Nat.le_of_eq rfl) (hb hby at_244)
  refine go (g' := (mkF m 247 #[.val (.int p1), .val (.int p2), .val (.int p3), .val (.int p4), .val (.int c1), .val (.int c2), .val (.int c3), .val (.int c4), .val (.int c5), .val (.int c6), .val (.int c7), .val (.ref x8), .val (.ref x28), .val (.ref x48), .val (.ref x68), .val (.ref x70), .val (.ref x90), .val (.ref x118), .val (.ref x138), .val (.int b141), .unset, .unset, .unset] [(.int b178)])) (st178) ?_
  refine go (g' := (mkF m 249 #[.val (.int p1), .val (.int p2), .val (.int p3), .val (.int p4), .val (.int c1), .val (.int c2), .val (.int c3), .val (.int c4), .val (.int c5), .val (.int c6), .val (.int c7), .val (.ref x8), .val (.ref x28), .val (.ref x48), .val (.ref x68), .val (.ref x70), .val (.ref x90), .val (.ref x118), .val (.ref x138), .val (.int b141), .val (.int b178), .unset, .unset] [])) (fun _ k => XS.istore W178.here hx rfl (hb hby at_247) rfl (l' := #[.val (.int p1), .val (.int p2), .val (.int p3), .val (.int p4), .val (.int c1), .val (.int c2), .val (.int c3), .val (.int c4), .val (.int c5), .val (.int c6), .val (.int c7), .val (.ref x8), .val (.ref x28), .val (.ref x48), .val (.ref x68), .val (.ref x70), .val (.ref x90), .val (.ref x118), .val (.ref x138), .val (.int b141), .val (.int b178), .unset, .unset]) rfl k) ?_
  refine go (g' := (mkF m 251 #[.val (.int p1), .val (.int p2), .val (.int p3), .val (.int p4), .val (.int c1), .val (.int c2), .val (.int c3), .val (.int c4), .val (.int c5), .val (.int c6), .val (.int c7), .val (.ref x8), .val (.ref x28), .val (.ref x48), .val (.ref x68), .val (.ref x70), .val (.ref x90), .val (.ref x118), .val (.ref x138), .val (.int b141), .val (.int b178), .unset, .unset] [(.ref x118)])) (fun _ k => XS.aload W178.here hx rfl (hb hby at_249) rfl rfl k) ?_
  refine go (g' := (mkF m 253 #[.val (.int p1), .val (.int p2), .val (.int p3), .val (.int p4), .val (.int c1), .val (.int c2), .val (.int c3), .val (.int c4), .val (.int c5), .val (.int c6), .val (.int c7), .val (.ref x8), .val (.ref x28), .val (.ref x48), .val (.ref x68), .val (.ref x70), .val (.ref x90), .val (.ref x118), .val (.ref x138), .val (.int b141), .val (.int b178), .unset, .unset] [(.ref x138), (.ref x118)])) (fun _ k => XS.aload W178.here hx rfl (hb hby at_251) rfl rfl k) ?_
  refine go (g' := (mkF m 255 #[.val (.int p1), .val (.int p2), .val (.int p3), .val (.int p4), .val (.int c1), .val (.int c2), .val (.int c3), .val (.int c4), .val (.int c5), .val (.int c6), .val (.int c7), .val (.ref x8), .val (.ref x28), .val (.ref x48), .val (.ref x68), .val (.ref x70), .val (.ref x90), .val (.ref x118), .val (.ref x138), .val (.int b141), .val (.int b178), .unset, .unset] [(.ref x68), (.ref x138), (.ref x118)])) (fun _ k => XS.aload W178.here hx rfl (hb hby at_253) rfl rfl k) ?_
  have X184 : Ext h138 h176 := own_xt (own_xr h138) E176
  have f185 : Fld Z h176 x138 "com/example/forseti/forseti/model/ClassFigures" "anyOwner" "Ljava/lang/String;" (.ref x48) := F138_anyOwner.ext X184
  have f186 : Exa Z h176 x138 "com/example/forseti/forseti/model/ClassFigures" := A138.ext X184
  obtain ⟨v183, so183, vm183, T183, h183, W183, C183, q183, hso183, st183⟩ := own_virtual W178 hx (y := (⟨"com/example/forseti/forseti/model/ClassFigures", "ownerName", "(Ljava/lang/String;)Ljava/lang/String;"⟩ : MethodName)) (z := (⟨"com/example/forseti/forseti/model/ClassFigures", "ownerName", "(Ljava/lang/String;)Ljava/lang/String;"⟩ : MethodName)) (w229 C) (w230 C) (w232 C) (w231 C) (w46 C) (w233 C) (by decide) (own_nf W178 (w232 C)) f186 (rm_owner C h176 x138 x48 (.ref x68) rfl f185) (fun _ q => nomatch q) (Wd := 1) (nle rfl) (nle rfl) (nle rfl) (nle rfl) (g := (mkF m 255 #[.val (.int p1), .val (.int p2), .val (.int p3), .val (.int p4), .val (.int c1), .val (.int c2), .val (.int c3), .val (.int c4), .val (.int c5), .val (.int c6), .val (.int c7), .val (.ref x8), .val (.ref x28), .val (.ref x48), .val (.ref x68), .val (.ref x70), .val (.ref x90), .val (.ref x118), .val (.ref x138), .val (.int b141), .val (.int b178), .unset, .unset] [(.ref x68), (.ref x138), (.ref x118)])) rfl (by rw [hml]; rfl) (argsL := [(.ref x68)]) (rest := [(.ref x118)]) (lenOf pd_23 rfl) rfl rfl (by show 2 * 0 + _ ≤ _; exact Nat.le_of_eq rfl) (hb hby at_255)
  obtain ⟨rfl, rfl⟩ := q183
  refine go (g' := (mkF m 258 #[.val (.int p1), .val (.int p2), .val (.int p3), .val (.int p4), .val (.int c1), .val (.int c2), .val (.int c3), .val (.int c4), .val (.int c5), .val (.int c6), .val (.int c7), .val (.ref x8), .val (.ref x28), .val (.ref x48), .val (.ref x68), .val (.ref x70), .val (.ref x90), .val (.ref x118), .val (.ref x138), .val (.int b141), .val (.int b178), .unset, .unset] [(.ref x48), (.ref x118)])) (st183) ?_
  have X188 : Ext h126 h138 := own_xt (own_xr h126) E138
  have X189 : Ext h126 h176 := own_xt X188 E176
  have f190 : Str Z h176 x118 [c5, c6] := S126.ext X189
  have X191 : Ext h56 h68 := own_xt (own_xr h56) E68
  have X192 : Ext h56 h70 := own_xt X191 E70
  have X193 : Ext h56 h72 := own_xt X192 E72
  have X194 : Ext h56 h74 := own_xw X193 R74 (by omega)
  have X195 : Ext h56 h76 := own_xw X194 R76 (by omega)
  have X196 : Ext h56 h78 := own_xk X195 K78 (allS (by omega) all0)
  have X197 : Ext h56 h90 := own_xt X196 E90
  have X198 : Ext h56 h92 := own_xt X197 E92
  have X199 : Ext h56 h94 := own_xw X198 R94 (by omega)
  have X200 : Ext h56 h96 := own_xw X199 R96 (by omega)
  have X201 : Ext h56 h98 := own_xw X200 R98 (by omega)
  have X202 : Ext h56 h100 := own_xw X201 R100 (by omega)
  have X203 : Ext h56 h102 := own_xk X202 K102 (allS (by omega) all0)
  have X204 : Ext h56 h118 := own_xt X203 E118
  have X205 : Ext h56 h120 := own_xt X204 E120
  have X206 : Ext h56 h122 := own_xw X205 R122 (by omega)
  have X207 : Ext h56 h124 := own_xw X206 R124 (by omega)
  have X208 : Ext h56 h126 := own_xk X207 K126 (allS (by omega) all0)
  have X209 : Ext h56 h138 := own_xt X208 E138
  have X210 : Ext h56 h176 := own_xt X209 E176
  have f211 : Str Z h176 x48 [c5, c6] := S56.ext X210
  obtain ⟨b187, T187, hb187, W187, st187⟩ := own_seq W183 hx (own_weq C) (w105 C) (w106 C) (w108 C) (w107 C) (w1 C) f190 f211 C.cs (nle rfl) (nle rfl) (Wd := 0) (nle rfl) (nle rfl) (nle rfl) (nle rfl) (g := (mkF m 258 #[.val (.int p1), .val (.int p2), .val (.int p3), .val (.int p4), .val (.int c1), .val (.int c2), .val (.int c3), .val (.int c4), .val (.int c5), .val (.int c6), .val (.int c7), .val (.ref x8), .val (.ref x28), .val (.ref x48), .val (.ref x68), .val (.ref x70), .val (.ref x90), .val (.ref x118), .val (.ref x138), .val (.int b141), .val (.int b178), .unset, .unset] [(.ref x48), (.ref x118)])) rfl (by rw [hml]; rfl) rfl (by show 2 * 0 + _ ≤ _; exact Nat.le_of_eq rfl) (hb hby at_258)
  refine go (g' := (mkF m 261 #[.val (.int p1), .val (.int p2), .val (.int p3), .val (.int p4), .val (.int c1), .val (.int c2), .val (.int c3), .val (.int c4), .val (.int c5), .val (.int c6), .val (.int c7), .val (.ref x8), .val (.ref x28), .val (.ref x48), .val (.ref x68), .val (.ref x70), .val (.ref x90), .val (.ref x118), .val (.ref x138), .val (.int b141), .val (.int b178), .unset, .unset] [(.int b187)])) (st187) ?_
  refine go (g' := (mkF m 263 #[.val (.int p1), .val (.int p2), .val (.int p3), .val (.int p4), .val (.int c1), .val (.int c2), .val (.int c3), .val (.int c4), .val (.int c5), .val (.int c6), .val (.int c7), .val (.ref x8), .val (.ref x28), .val (.ref x48), .val (.ref x68), .val (.ref x70), .val (.ref x90), .val (.ref x118), .val (.ref x138), .val (.int b141), .val (.int b178), .val (.int b187), .unset] [])) (fun _ k => XS.istore W187.here hx rfl (hb hby at_261) rfl (l' := #[.val (.int p1), .val (.int p2), .val (.int p3), .val (.int p4), .val (.int c1), .val (.int c2), .val (.int c3), .val (.int c4), .val (.int c5), .val (.int c6), .val (.int c7), .val (.ref x8), .val (.ref x28), .val (.ref x48), .val (.ref x68), .val (.ref x70), .val (.ref x90), .val (.ref x118), .val (.ref x138), .val (.int b141), .val (.int b178), .val (.int b187), .unset]) rfl k) ?_
  refine go (g' := (mkF m 265 #[.val (.int p1), .val (.int p2), .val (.int p3), .val (.int p4), .val (.int c1), .val (.int c2), .val (.int c3), .val (.int c4), .val (.int c5), .val (.int c6), .val (.int c7), .val (.ref x8), .val (.ref x28), .val (.ref x48), .val (.ref x68), .val (.ref x70), .val (.ref x90), .val (.ref x118), .val (.ref x138), .val (.int b141), .val (.int b178), .val (.int b187), .unset] [(.ref x118)])) (fun _ k => XS.aload W187.here hx rfl (hb hby at_263) rfl rfl k) ?_
  refine go (g' := (mkF m 267 #[.val (.int p1), .val (.int p2), .val (.int p3), .val (.int p4), .val (.int c1), .val (.int c2), .val (.int c3), .val (.int c4), .val (.int c5), .val (.int c6), .val (.int c7), .val (.ref x8), .val (.ref x28), .val (.ref x48), .val (.ref x68), .val (.ref x70), .val (.ref x90), .val (.ref x118), .val (.ref x138), .val (.int b141), .val (.int b178), .val (.int b187), .unset] [(.ref x138), (.ref x118)])) (fun _ k => XS.aload W187.here hx rfl (hb hby at_265) rfl rfl k) ?_
  obtain ⟨x212, vm212, T212, h212, W212, E212, C212, st212⟩ := own_ldcO W187 hx (w234 C) (own_wS C) (g := (mkF m 267 #[.val (.int p1), .val (.int p2), .val (.int p3), .val (.int p4), .val (.int c1), .val (.int c2), .val (.int c3), .val (.int c4), .val (.int c5), .val (.int c6), .val (.int c7), .val (.ref x8), .val (.ref x28), .val (.ref x48), .val (.ref x68), .val (.ref x70), .val (.ref x90), .val (.ref x118), .val (.ref x138), .val (.int b141), .val (.int b178), .val (.int b187), .unset] [(.ref x138), (.ref x118)])) rfl (hb hby at_267) (n := 0) (by decide) (nle rfl) (nle rfl) (nle rfl)
  have z213 : h176.size ≤ h212.size := E212.1
  refine go (g' := (mkF m 269 #[.val (.int p1), .val (.int p2), .val (.int p3), .val (.int p4), .val (.int c1), .val (.int c2), .val (.int c3), .val (.int c4), .val (.int c5), .val (.int c6), .val (.int c7), .val (.ref x8), .val (.ref x28), .val (.ref x48), .val (.ref x68), .val (.ref x70), .val (.ref x90), .val (.ref x118), .val (.ref x138), .val (.int b141), .val (.int b178), .val (.int b187), .unset] [(.ref x212), (.ref x138), (.ref x118)])) (st212) ?_
  have X215 : Ext h176 h212 := own_xt (own_xr h176) E212
  have f216 : Fld Z h212 x138 "com/example/forseti/forseti/model/ClassFigures" "anyOwner" "Ljava/lang/String;" (.ref x48) := f185.ext X215
  have f217 : Exa Z h212 x138 "com/example/forseti/forseti/model/ClassFigures" := f186.ext X215
  obtain ⟨v214, so214, vm214, T214, h214, W214, C214, q214, hso214, st214⟩ := own_virtual W212 hx (y := (⟨"com/example/forseti/forseti/model/ClassFigures", "ownerName", "(Ljava/lang/String;)Ljava/lang/String;"⟩ : MethodName)) (z := (⟨"com/example/forseti/forseti/model/ClassFigures", "ownerName", "(Ljava/lang/String;)Ljava/lang/String;"⟩ : MethodName)) (w229 C) (w230 C) (w232 C) (w231 C) (w46 C) (w233 C) (by decide) (own_nf W212 (w232 C)) f217 (rm_owner C h212 x138 x48 (.ref x212) rfl f216) (fun _ q => nomatch q) (Wd := 1) (nle rfl) (nle rfl) (nle rfl) (nle rfl) (g := (mkF m 269 #[.val (.int p1), .val (.int p2), .val (.int p3), .val (.int p4), .val (.int c1), .val (.int c2), .val (.int c3), .val (.int c4), .val (.int c5), .val (.int c6), .val (.int c7), .val (.ref x8), .val (.ref x28), .val (.ref x48), .val (.ref x68), .val (.ref x70), .val (.ref x90), .val (.ref x118), .val (.ref x138), .val (.int b141), .val (.int b178), .val (.int b187), .unset] [(.ref x212), (.ref x138), (.ref x118)])) rfl (by rw [hml]; rfl) (argsL := [(.ref x212)]) (rest := [(.ref x118)]) (lenOf pd_23 rfl) rfl rfl (by show 2 * 0 + _ ≤ _; exact Nat.le_of_eq rfl) (hb hby at_269)
  obtain ⟨rfl, rfl⟩ := q214
  refine go (g' := (mkF m 272 #[.val (.int p1), .val (.int p2), .val (.int p3), .val (.int p4), .val (.int c1), .val (.int c2), .val (.int c3), .val (.int c4), .val (.int c5), .val (.int c6), .val (.int c7), .val (.ref x8), .val (.ref x28), .val (.ref x48), .val (.ref x68), .val (.ref x70), .val (.ref x90), .val (.ref x118), .val (.ref x138), .val (.int b141), .val (.int b178), .val (.int b187), .unset] [(.ref x48), (.ref x118)])) (st214) ?_
  have f219 : Str Z h212 x118 [c5, c6] := f190.ext X215
  have f220 : Str Z h212 x48 [c5, c6] := f211.ext X215
  obtain ⟨b218, T218, hb218, W218, st218⟩ := own_seq W214 hx (own_weq C) (w105 C) (w106 C) (w108 C) (w107 C) (w1 C) f219 f220 C.cs (nle rfl) (nle rfl) (Wd := 0) (nle rfl) (nle rfl) (nle rfl) (nle rfl) (g := (mkF m 272 #[.val (.int p1), .val (.int p2), .val (.int p3), .val (.int p4), .val (.int c1), .val (.int c2), .val (.int c3), .val (.int c4), .val (.int c5), .val (.int c6), .val (.int c7), .val (.ref x8), .val (.ref x28), .val (.ref x48), .val (.ref x68), .val (.ref x70), .val (.ref x90), .val (.ref x118), .val (.ref x138), .val (.int b141), .val (.int b178), .val (.int b187), .unset] [(.ref x48), (.ref x118)])) rfl (by rw [hml]; rfl) rfl (by show 2 * 0 + _ ≤ _; exact Nat.le_of_eq rfl) (hb hby at_272)
  refine go (g' := (mkF m 275 #[.val (.int p1), .val (.int p2), .val (.int p3), .val (.int p4), .val (.int c1), .val (.int c2), .val (.int c3), .val (.int c4), .val (.int c5), .val (.int c6), .val (.int c7), .val (.ref x8), .val (.ref x28), .val (.ref x48), .val (.ref x68), .val (.ref x70), .val (.ref x90), .val (.ref x118), .val (.ref x138), .val (.int b141), .val (.int b178), .val (.int b187), .unset] [(.int b218)])) (st218) ?_
  refine go (g' := (mkF m 277 #[.val (.int p1), .val (.int p2), .val (.int p3), .val (.int p4), .val (.int c1), .val (.int c2), .val (.int c3), .val (.int c4), .val (.int c5), .val (.int c6), .val (.int c7), .val (.ref x8), .val (.ref x28), .val (.ref x48), .val (.ref x68), .val (.ref x70), .val (.ref x90), .val (.ref x118), .val (.ref x138), .val (.int b141), .val (.int b178), .val (.int b187), .val (.int b218)] [])) (fun _ k => XS.istore W218.here hx rfl (hb hby at_275) rfl (l' := #[.val (.int p1), .val (.int p2), .val (.int p3), .val (.int p4), .val (.int c1), .val (.int c2), .val (.int c3), .val (.int c4), .val (.int c5), .val (.int c6), .val (.int c7), .val (.ref x8), .val (.ref x28), .val (.ref x48), .val (.ref x68), .val (.ref x70), .val (.ref x90), .val (.ref x118), .val (.ref x138), .val (.int b141), .val (.int b178), .val (.int b187), .val (.int b218)]) rfl k) ?_
  refine go (g' := (mkF m 279 #[.val (.int p1), .val (.int p2), .val (.int p3), .val (.int p4), .val (.int c1), .val (.int c2), .val (.int c3), .val (.int c4), .val (.int c5), .val (.int c6), .val (.int c7), .val (.ref x8), .val (.ref x28), .val (.ref x48), .val (.ref x68), .val (.ref x70), .val (.ref x90), .val (.ref x118), .val (.ref x138), .val (.int b141), .val (.int b178), .val (.int b187), .val (.int b218)] [(.int b141)])) (fun _ k => XS.iload W218.here hx rfl (hb hby at_277) rfl k) ?_
  refine go (g' := (mkF m 282 #[.val (.int p1), .val (.int p2), .val (.int p3), .val (.int p4), .val (.int c1), .val (.int c2), .val (.int c3), .val (.int c4), .val (.int c5), .val (.int c6), .val (.int c7), .val (.ref x8), .val (.ref x28), .val (.ref x48), .val (.ref x68), .val (.ref x70), .val (.ref x90), .val (.ref x118), .val (.ref x138), .val (.int b141), .val (.int b178), .val (.int b187), .val (.int b218)] [])) (fun _ k => XS.ifNo W218.here hx rfl (hb hby at_279) rfl ((if0 _ _).trans (feq (own_b1 hb141)).1) k) ?_
  refine go (g' := (mkF m 284 #[.val (.int p1), .val (.int p2), .val (.int p3), .val (.int p4), .val (.int c1), .val (.int c2), .val (.int c3), .val (.int c4), .val (.int c5), .val (.int c6), .val (.int c7), .val (.ref x8), .val (.ref x28), .val (.ref x48), .val (.ref x68), .val (.ref x70), .val (.ref x90), .val (.ref x118), .val (.ref x138), .val (.int b141), .val (.int b178), .val (.int b187), .val (.int b218)] [(.int b178)])) (fun _ k => XS.iload W218.here hx rfl (hb hby at_282) rfl k) ?_
  refine go (g' := (mkF m 287 #[.val (.int p1), .val (.int p2), .val (.int p3), .val (.int p4), .val (.int c1), .val (.int c2), .val (.int c3), .val (.int c4), .val (.int c5), .val (.int c6), .val (.int c7), .val (.ref x8), .val (.ref x28), .val (.ref x48), .val (.ref x68), .val (.ref x70), .val (.ref x90), .val (.ref x118), .val (.ref x138), .val (.int b141), .val (.int b178), .val (.int b187), .val (.int b218)] [])) (fun _ k => XS.ifNo W218.here hx rfl (hb hby at_284) rfl ((if0 _ _).trans (feq (own_b1 hb178)).1) k) ?_
  refine go (g' := (mkF m 289 #[.val (.int p1), .val (.int p2), .val (.int p3), .val (.int p4), .val (.int c1), .val (.int c2), .val (.int c3), .val (.int c4), .val (.int c5), .val (.int c6), .val (.int c7), .val (.ref x8), .val (.ref x28), .val (.ref x48), .val (.ref x68), .val (.ref x70), .val (.ref x90), .val (.ref x118), .val (.ref x138), .val (.int b141), .val (.int b178), .val (.int b187), .val (.int b218)] [(.int b187)])) (fun _ k => XS.iload W218.here hx rfl (hb hby at_287) rfl k) ?_
  refine go (g' := (mkF m 292 #[.val (.int p1), .val (.int p2), .val (.int p3), .val (.int p4), .val (.int c1), .val (.int c2), .val (.int c3), .val (.int c4), .val (.int c5), .val (.int c6), .val (.int c7), .val (.ref x8), .val (.ref x28), .val (.ref x48), .val (.ref x68), .val (.ref x70), .val (.ref x90), .val (.ref x118), .val (.ref x138), .val (.int b141), .val (.int b178), .val (.int b187), .val (.int b218)] [])) (fun _ k => XS.ifNo W218.here hx rfl (hb hby at_289) rfl ((if0 _ _).trans (feq (own_b1 hb187)).1) k) ?_
  refine go (g' := (mkF m 294 #[.val (.int p1), .val (.int p2), .val (.int p3), .val (.int p4), .val (.int c1), .val (.int c2), .val (.int c3), .val (.int c4), .val (.int c5), .val (.int c6), .val (.int c7), .val (.ref x8), .val (.ref x28), .val (.ref x48), .val (.ref x68), .val (.ref x70), .val (.ref x90), .val (.ref x118), .val (.ref x138), .val (.int b141), .val (.int b178), .val (.int b187), .val (.int b218)] [(.int b218)])) (fun _ k => XS.iload W218.here hx rfl (hb hby at_292) rfl k) ?_
  refine go (g' := (mkF m 297 #[.val (.int p1), .val (.int p2), .val (.int p3), .val (.int p4), .val (.int c1), .val (.int c2), .val (.int c3), .val (.int c4), .val (.int c5), .val (.int c6), .val (.int c7), .val (.ref x8), .val (.ref x28), .val (.ref x48), .val (.ref x68), .val (.ref x70), .val (.ref x90), .val (.ref x118), .val (.ref x138), .val (.int b141), .val (.int b178), .val (.int b187), .val (.int b218)] [])) (fun _ k => XS.ifNo W218.here hx rfl (hb hby at_294) rfl ((if0 _ _).trans (feq (own_b1 hb218)).1) k) ?_
  refine go (g' := (mkF m 298 #[.val (.int p1), .val (.int p2), .val (.int p3), .val (.int p4), .val (.int c1), .val (.int c2), .val (.int c3), .val (.int c4), .val (.int c5), .val (.int c6), .val (.int c7), .val (.ref x8), .val (.ref x28), .val (.ref x48), .val (.ref x68), .val (.ref x70), .val (.ref x90), .val (.ref x118), .val (.ref x138), .val (.int b141), .val (.int b178), .val (.int b187), .val (.int b218)] [(.int (1 : Int32))])) (fun _ k => XS.iconst W218.here hx rfl (hb hby at_297) k) ?_
  refine go (g' := (mkF m 302 #[.val (.int p1), .val (.int p2), .val (.int p3), .val (.int p4), .val (.int c1), .val (.int c2), .val (.int c3), .val (.int c4), .val (.int c5), .val (.int c6), .val (.int c7), .val (.ref x8), .val (.ref x28), .val (.ref x48), .val (.ref x68), .val (.ref x70), .val (.ref x90), .val (.ref x118), .val (.ref x138), .val (.int b141), .val (.int b178), .val (.int b187), .val (.int b218)] [(.int (1 : Int32))])) (fun _ k => XS.goto W218.here hx rfl (pc0 := 298) (pc' := 302) rfl (hb hby at_298) (by decide) (by decide) k) ?_
  exact fin (v := some (.int (1 : Int32))) (so := []) W218 (nle rfl) (nle rfl) (rfl) (fun _ q => nomatch q) (fun q => nomatch q) (own_retI W218 hx hret (by decide) rfl (hb hby at_302))
set_option maxRecDepth 65536 in
set_option maxHeartbeats 40000000 in
theorem comes_1 {Post : Tables → Env → Array Value → State → Outcome → State → Prop} (hpost : ∀ tb e args s v u, (limb_1_1.after args s (.returned v) u = true ∧ limb_1_2.after args s (.returned v) u = true ∧ True) → ReturnedEndW s (.returned v) u (Jvm.fieldLocs frame_1_writes args s ++ Jvm.arrayLocs frame_1_arrays args s ++ Jvm.staticLocs frame_1_statics s) 72 3392 → Post tb e args s (.returned v) u) :
    ArmFor flags0 classFile x code maxLocals ret World_1 tables_1 room_1 Calls_1 rest_1 Pre_1 Post := by
  intro l hfl _ _ p e ha hc hk s m args below hf hA hF happ hP
  obtain ⟨hcalls, hrest, hpre⟩ := hP
  obtain ⟨-, -, -, hnamed, -, -, -, hat⟩ := (Spec.applies_iff hf).mp happ
  obtain ⟨hg, hn⟩ := and_e (Cond.before_iff.mp (show (Jvm.Cond.and given_1 narrow_1).before args s = true from hpre))
  obtain ⟨gg1, gg2⟩ := and_e hg
  obtain ⟨gg3, gg4⟩ := and_e gg2
  obtain ⟨gg5, gg6⟩ := and_e gg4
  obtain ⟨gg7, gg8⟩ := and_e gg6
  obtain ⟨w0, w1, w2, w3, rfl⟩ : ∃ w0 w1 w2 w3 : Value, args = #[w0, w1, w2, w3] := by
    have hs : args.size = 4 := by simpa [Cond.value, given_1] using gg1
    obtain ⟨L⟩ := args
    match L, hs with
    | [w0, w1, w2, w3], _ => exact ⟨w0, w1, w2, w3, rfl⟩
  have hw := fun d (hd : d ∈ tables_1) => atoms_spec (ws := Jvm.Cond.code x code maxLocals ret :: tables_1) hat d (List.mem_cons_of_mem _ hd)
  obtain ⟨hsets, hown0⟩ := atoms_of _ (rest_1_c_eq ▸ (show rest_1_c.before _ s = true from hrest))
  have n3 := not_v (Cond.before_iff.mp (hsets _ (List.mem_of_getElem? (i := 2) rfl)))
  obtain ⟨i0, ei0⟩ := is_v gg3
  obtain rfl : w0 = (.int i0) := Option.some.inj ei0
  obtain ⟨i1, ei1⟩ := is_v gg5
  obtain rfl : w1 = (.int i1) := Option.some.inj ei1
  obtain ⟨i2, ei2⟩ := is_v gg7
  obtain rfl : w2 = (.int i2) := Option.some.inj ei2
  obtain ⟨i3, ei3⟩ := is_v gg8
  obtain rfl : w3 = (.int i3) := Option.some.inj ei3
  obtain ⟨gz, egz⟩ := is_v (Cond.before_iff.mp (hsets _ (List.mem_of_getElem? (i := 1) rfl)))
  have S8 : Sta s s.heap "java/lang/String" "COMPACT_STRINGS" "Z" (.int gz) := Sta.start egz (Or.inl (hsets _ (List.mem_of_getElem? (i := 0) rfl)))
  obtain ⟨gf, egf, rgf⟩ := isR_v (Cond.before_iff.mp (hsets _ (List.mem_of_getElem? (i := 8) rfl)))
  have S12 : Sta s s.heap "jdk/internal/util/Preconditions" "SIOOBE_FORMATTER" "Ljava/util/function/BiFunction;" gf := Sta.start egf (Or.inl (hsets _ (List.mem_of_getElem? (i := 7) rfl)))
  have c13 : ¬ (gz = (0 : Int32)) := gotF (Cond.eq_ints egz (Term.int_eval (0))) n3
  have hEW : EW s #[(.int i0), (.int i1), (.int i2), (.int i3)] own_EL := (EW.cons (hw _ (List.mem_of_getElem? (i := 50) rfl)) (by decide +kernel) (EW.cons (hw _ (List.mem_of_getElem? (i := 183) rfl)) (by decide +kernel) (EW.cons (hw _ (List.mem_of_getElem? (i := 234) rfl)) (by decide +kernel) EW.nil)))
  have CX : Cx s _ := ⟨hw, hEW, ⟨gz, S8, c13⟩, ⟨gf, S12, rgf⟩⟩
  have hCH : CHv s own_EL s.vm s.heap := CHv.start hEW (fun p hp => hcalls.1 p hp) (hsets _ (List.mem_of_getElem? (i := 2) rfl)) (hw _ (List.mem_of_getElem? (i := 19) rfl)) (hw _ (List.mem_of_getElem? (i := 1) rfl))
  obtain ⟨n, o, h1, h2, h3, v, L, so, rfl, hQ, N, -, -, -, hq⟩ := rm0 (l := l) CX s.heap i0 i1 i2 i3 (own_xr _) p e ha hc hk s m _ below hf ((Spec.applies_iff_loose hf).mp happ).1 ⟨rfl, State.Warmed39.refl s, rfl, hCH, fun _ q => nomatch q⟩ trivial
  subst hQ
  refine ⟨n, _, h1, h2, h3, hpost _ _ _ _ _ _ ⟨Cond.after_iff.mpr rfl, Cond.after_iff.mpr (eq_i res_at (Term.int_eval (1)) rfl), trivial⟩ ⟨hq.1, hq.2.1, hq.2.2.1, (hq.2.2.2.sift fun y hy => Or.inr (N y hy)).mono (by decide) (by decide)⟩⟩
theorem main_1_1 : Claimed_1_1 := comes_1 fun _ _ _ _ _ _ h hF => ⟨h.1, hF⟩
theorem main_1_2 : Claimed_1_2 := comes_1 fun _ _ _ _ _ _ h hF => ⟨h.2.1, hF⟩
end Jvm.Pilot.@@N@@
namespace Jvm.Pilot.@@N@@
open Jvm Jvm.ClassFile Sem Op Lib Jvm.Free Jvm.Stand Jvm.Pilot.@@N@@.Jvm.D
/-! MADE BY PROGRAM (witnessworld.py) out of the Statement's table words and the real class files: 31 classes; the members and pool entries that the words name. The judged class is class 1, her method 1. -/
namespace start1
open Jvm.ClassFile
def u (s : String) : CpInfo := .utf8 (stringToUtf16 s)
/-- a pool by its gaps: so many unusable entries, then the entry; so many at the end -/
def gap : Nat → List CpInfo → List CpInfo
  | 0, r => r
  | n + 1, r => .unusable :: gap n r
def poolList (es : List (Nat × CpInfo)) (last : Nat) : List CpInfo := es.foldr (fun e r => gap e.1 (e.2 :: r)) (gap last [])
def pool (es : List (Nat × CpInfo)) (last : Nat) : Array CpInfo := ⟨poolList es last⟩
def fileOf (pool : Array CpInfo) (this : Nat) (attrs : Array Attribute := #[]) (ms : Array MethodInfo := #[]) (fl : Nat := 33) (sup : Nat := 0) (ifs : Array Nat := #[]) (fds : Array FieldInfo := #[]) : ClassFile where
  minorVersion := 0
  majorVersion := 65
  constantPool := pool
  accessFlags := fl
  thisClass := this
  superClass := sup
  interfaces := ifs
  fields := fds
  methods := ms
  attributes := attrs
def plain (name : String) (sup : Option ClassId) : Class where
  name := name
  kind := .ordinary
  loader := none
  accessFlags := 33
  super := sup
  interfaces := #[]
  cf := none
  fields := #[]
  methods := #[]
  instanceTypes := #[]
  staticTypes := #[]
  resolved := #[]
  callSites := []
  init := .initialized
  statics := none
  mirror := none

def pool0 : Array CpInfo := pool [(5, u "<init>"), (0, u "()V"), (1, .class_ 10), (1, u "java/lang/Object")] 113

def k0c0 : Code := { maxStack := 0, maxLocals := 1, code := object_method_1_code, exceptionTable := #[], attributes := #[] }
def k0m0 : Method := { name := "<init>", desc := "()V", sig := { parameters := [], returnType := none }, accessFlags := 1, code := some k0c0 }
/-- java/lang/Object -/
def k0 : Class := { plain "java/lang/Object" none with
  accessFlags := 33
  interfaces := #[]
  cf := some (fileOf pool0 8 #[] #[{ accessFlags := 1, nameIndex := 5, descriptorIndex := 6, attributes := #[] }] 33 0 #[] #[])
  fields := #[]
  methods := #[k0m0]
  instanceTypes := #[]
  staticTypes := #[]
  resolved := Array.replicate 124 none
  statics := none }

def pool1 : Array CpInfo := pool [(2, .class_ 4), (1, u "java/lang/Object"), (0, u "<init>"), (0, u "()V"), (0, .class_ 8), (0, u "java/lang/String"), (0, .methodref 7 10), (0, .nameAndType 5 11), (0, u "([C)V"), (0, .methodref 7 13), (0, .nameAndType 14 15), (0, u "valueOf"), (0, u "(C)Ljava/lang/String;"), (0, .methodref 17 18), (0, .class_ 19), (0, .nameAndType 20 21), (0, u "com/example/forseti/forseti/model/ClassFigures"), (0, u "alikeForEvery"), (0, u "(Ljava/lang/String;Ljava/lang/String;Ljava/lang/String;)Lcom/example/forseti/forseti/model/ClassFigures;"), (0, .methodref 17 23), (0, .nameAndType 24 25), (0, u "kind"), (0, u "()Ljava/lang/String;"), (0, .methodref 7 27), (0, .nameAndType 28 29), (0, u "equals"), (0, u "(Ljava/lang/Object;)Z"), (0, .methodref 17 31), (0, .nameAndType 32 25), (0, u "aKind"), (0, .methodref 17 34), (0, .nameAndType 35 36), (0, u "ownerName"), (0, u "(Ljava/lang/String;)Ljava/lang/String;"), (0, .string 38), (0, u ""), (0, .class_ 40), (0, u "com/example/forseti/forseti/model/ClassFiguresAlikeForEveryPinLaw"), (2, u "law"), (0, u "(IIII)Z")] 3

def k1m0 : Method := { name := "<init>", desc := "()V", sig := { parameters := [], returnType := none }, accessFlags := 1, code := none }
def k1c1 : Code := { maxStack := 6, maxLocals := 23, code := code, exceptionTable := #[], attributes := #[] }
def k1m1 : Method := { name := "law", desc := "(IIII)Z", sig := { parameters := [.int, .int, .int, .int], returnType := some .boolean }, accessFlags := 9, code := some k1c1 }
/-- com/example/forseti/forseti/model/ClassFiguresAlikeForEveryPinLaw -/
def k1 : Class := { plain "com/example/forseti/forseti/model/ClassFiguresAlikeForEveryPinLaw" (some 0) with
  accessFlags := 49
  interfaces := #[]
  cf := some (fileOf pool1 39 #[] #[{ accessFlags := 1, nameIndex := 5, descriptorIndex := 6, attributes := #[] }, { accessFlags := 9, nameIndex := 43, descriptorIndex := 44, attributes := #[] }] 49 2 #[] #[])
  fields := #[]
  methods := #[k1m0, k1m1]
  instanceTypes := #[]
  staticTypes := #[]
  resolved := Array.replicate 48 none
  statics := none }

def pool2 : Array CpInfo := pool [(1, .class_ 2), (0, u "java/io/Serializable"), (0, .class_ 4), (0, u "java/lang/Object")] 2

/-- java/io/Serializable -/
def k2 : Class := { plain "java/io/Serializable" (some 0) with
  accessFlags := 1537
  interfaces := #[]
  cf := some (fileOf pool2 1 #[] #[] 1537 3 #[] #[])
  fields := #[]
  methods := #[]
  instanceTypes := #[]
  staticTypes := #[]
  resolved := Array.replicate 7 none
  statics := none }

def pool3 : Array CpInfo := pool [(1, .class_ 2), (0, u "java/lang/Comparable"), (0, .class_ 4), (0, u "java/lang/Object")] 7

/-- java/lang/Comparable -/
def k3 : Class := { plain "java/lang/Comparable" (some 0) with
  accessFlags := 1537
  interfaces := #[]
  cf := some (fileOf pool3 1 #[] #[] 1537 3 #[] #[])
  fields := #[]
  methods := #[]
  instanceTypes := #[]
  staticTypes := #[]
  resolved := Array.replicate 12 none
  statics := none }

def pool4 : Array CpInfo := pool [(2, .class_ 4), (1, u "java/lang/CharSequence"), (42, .class_ 48), (0, u "java/lang/CharSequence$1CodePointIterator"), (10, .class_ 60), (0, u "java/lang/CharSequence$1CharIterator"), (5, .class_ 67), (0, u "java/lang/Object")] 63

/-- java/lang/CharSequence -/
def k4 : Class := { plain "java/lang/CharSequence" (some 0) with
  accessFlags := 1537
  interfaces := #[]
  cf := some (fileOf pool4 2 #[.nestMembers #[47, 59]] #[] 1537 66 #[] #[])
  fields := #[]
  methods := #[]
  instanceTypes := #[]
  staticTypes := #[]
  resolved := Array.replicate 131 none
  statics := none }

def pool5 : Array CpInfo := pool [(1, .class_ 2), (0, u "java/lang/constant/Constable"), (0, .class_ 4), (0, u "java/lang/Object")] 6

/-- java/lang/constant/Constable -/
def k5 : Class := { plain "java/lang/constant/Constable" (some 0) with
  accessFlags := 1537
  interfaces := #[]
  cf := some (fileOf pool5 1 #[] #[] 1537 3 #[] #[])
  fields := #[]
  methods := #[]
  instanceTypes := #[]
  staticTypes := #[]
  resolved := Array.replicate 11 none
  statics := none }

def pool6 : Array CpInfo := pool [(1, .class_ 2), (0, u "java/lang/constant/ConstantDesc"), (0, .class_ 4), (0, u "java/lang/Object")] 32

/-- java/lang/constant/ConstantDesc -/
def k6 : Class := { plain "java/lang/constant/ConstantDesc" (some 0) with
  accessFlags := 1537
  interfaces := #[]
  cf := some (fileOf pool6 1 #[] #[] 1537 3 #[] #[])
  fields := #[]
  methods := #[]
  instanceTypes := #[]
  staticTypes := #[]
  resolved := Array.replicate 37 none
  statics := none }

def pool7 : Array CpInfo := pool [(1, .methodref 2 3), (0, .class_ 4), (0, .nameAndType 5 6), (0, u "java/lang/Object"), (0, u "<init>"), (0, u "()V"), (2, .fieldref 10 11), (0, .class_ 12), (0, .nameAndType 13 14), (0, u "java/lang/String"), (0, u "value"), (0, u "[B"), (0, .fieldref 10 16), (0, .nameAndType 17 18), (0, u "coder"), (0, u "B"), (2, u "hash"), (0, u "I"), (2, u "hashIsZero"), (0, u "Z"), (0, .methodref 10 28), (0, .nameAndType 5 29), (0, u "([CIILjava/lang/Void;)V"), (8, .fieldref 10 39), (0, .nameAndType 40 26), (0, u "COMPACT_STRINGS"), (1, .class_ 44), (1, u "java/lang/StringUTF16"), (0, u "compress"), (1, .methodref 42 48), (0, .nameAndType 49 50), (0, u "coderFromArrayLen"), (0, u "([BI)B"), (2, u "toBytes"), (0, .methodref 55 56), (0, .class_ 57), (0, .nameAndType 58 59), (0, u "java/util/Arrays"), (0, u "copyOfRange"), (0, u "([BII)[B"), (47, .class_ 109), (1, u "java/lang/StringLatin1"), (32, u "()Z"), (34, .methodref 42 178), (0, .nameAndType 45 179), (0, u "([CII)[B"), (13, .class_ 195), (1, u "java/lang/System"), (13, .methodref 10 210), (0, .nameAndType 5 211), (0, u "([BB)V"), (0, .methodref 193 213), (0, .nameAndType 214 215), (0, u "arraycopy"), (0, u "(Ljava/lang/Object;ILjava/lang/Object;II)V"), (118, u "()I"), (0, .methodref 10 336), (0, .nameAndType 17 337), (0, u "()B"), (2, u "()[B"), (28, u "(C)Z"), (119, .methodref 10 490), (0, .nameAndType 5 491), (0, u "(Ljava/lang/AbstractStringBuilder;Ljava/lang/Void;)V"), (1, .nameAndType 494 142), (0, u "isLatin1"), (11, .nameAndType 507 334), (0, u "length"), (24, u "getBytes"), (8, .methodref 107 542), (0, .nameAndType 543 544), (0, u "equals"), (0, u "([B[B)Z"), (4, .methodref 550 506), (0, .class_ 551), (0, u "java/lang/AbstractStringBuilder"), (0, .methodref 550 553), (0, .nameAndType 554 340), (0, u "getValue"), (18, u "(Ljava/lang/Object;)Z"), (1, .class_ 576), (0, u "java/lang/CharSequence"), (22, u "CASE_INSENSITIVE_ORDER"), (0, u "Ljava/util/Comparator;"), (181, u "valueOf"), (0, u "(C)Ljava/lang/String;"), (37, u "([BIB)V"), (188, u "([C)V"), (4, .methodref 107 1016), (0, .nameAndType 1017 369), (0, u "canEncode"), (0, .methodref 107 1019), (0, .nameAndType 53 1020), (0, u "(C)[B"), (26, .methodref 550 493), (53, u "serialPersistentFields"), (0, u "[Ljava/io/ObjectStreamField;"), (0, .class_ 1104), (0, u "java/lang/String$CaseInsensitiveComparator"), (1, .class_ 1107), (0, u "java/io/Serializable"), (0, .class_ 1109), (0, u "java/lang/Comparable"), (0, .class_ 1111), (0, u "java/lang/constant/Constable"), (0, .class_ 1113), (0, u "java/lang/constant/ConstantDesc"), (2, u "serialVersionUID"), (0, u "J"), (3, u "REPL"), (0, u "C"), (2, u "LATIN1"), (1, u "UTF16"), (105, u "(Ljava/lang/StringBuilder;)V")] 217

def k7m0 : Method := { name := "<init>", desc := "()V", sig := { parameters := [], returnType := none }, accessFlags := 1, code := none }
def k7c1 : Code := { maxStack := 5, maxLocals := 2, code := jdk_42_method_3_code, exceptionTable := #[], attributes := #[] }
def k7m1 : Method := { name := "<init>", desc := "([C)V", sig := { parameters := [(.array .char)], returnType := none }, accessFlags := 1, code := some k7c1 }
def k7c2 : Code := { maxStack := 3, maxLocals := 2, code := jdk_42_method_53_code, exceptionTable := #[], attributes := #[] }
def k7m2 : Method := { name := "<init>", desc := "(Ljava/lang/StringBuilder;)V", sig := { parameters := [(.object "java/lang/StringBuilder")], returnType := none }, accessFlags := 1, code := some k7c2 }
def k7c3 : Code := { maxStack := 2, maxLocals := 1, code := jdk_42_method_54_code, exceptionTable := #[], attributes := #[] }
def k7m3 : Method := { name := "length", desc := "()I", sig := { parameters := [], returnType := some .int }, accessFlags := 1, code := some k7c3 }
def k7c4 : Code := { maxStack := 2, maxLocals := 3, code := jdk_42_method_66_code, exceptionTable := #[], attributes := #[] }
def k7m4 : Method := { name := "equals", desc := "(Ljava/lang/Object;)Z", sig := { parameters := [(.object "java/lang/Object")], returnType := some .boolean }, accessFlags := 1, code := some k7c4 }
def k7c5 : Code := { maxStack := 4, maxLocals := 1, code := jdk_42_method_139_code, exceptionTable := #[], attributes := #[] }
def k7m5 : Method := { name := "valueOf", desc := "(C)Ljava/lang/String;", sig := { parameters := [.char], returnType := some (.object "java/lang/String") }, accessFlags := 9, code := some k7c5 }
def k7c6 : Code := { maxStack := 5, maxLocals := 4, code := jdk_42_method_147_code, exceptionTable := #[], attributes := #[] }
def k7m6 : Method := { name := "getBytes", desc := "([BIB)V", sig := { parameters := [(.array .byte), .int, .byte], returnType := none }, accessFlags := 0, code := some k7c6 }
def k7c7 : Code := { maxStack := 4, maxLocals := 6, code := jdk_42_method_149_code, exceptionTable := #[], attributes := #[] }
def k7m7 : Method := { name := "<init>", desc := "([CIILjava/lang/Void;)V", sig := { parameters := [(.array .char), .int, .int, (.object "java/lang/Void")], returnType := none }, accessFlags := 2, code := some k7c7 }
def k7c8 : Code := { maxStack := 5, maxLocals := 5, code := jdk_42_method_150_code, exceptionTable := #[], attributes := #[] }
def k7m8 : Method := { name := "<init>", desc := "(Ljava/lang/AbstractStringBuilder;Ljava/lang/Void;)V", sig := { parameters := [(.object "java/lang/AbstractStringBuilder"), (.object "java/lang/Void")], returnType := none }, accessFlags := 0, code := some k7c8 }
def k7c9 : Code := { maxStack := 2, maxLocals := 3, code := jdk_42_method_151_code, exceptionTable := #[], attributes := #[] }
def k7m9 : Method := { name := "<init>", desc := "([BB)V", sig := { parameters := [(.array .byte), .byte], returnType := none }, accessFlags := 0, code := some k7c9 }
def k7c10 : Code := { maxStack := 1, maxLocals := 1, code := jdk_42_method_152_code, exceptionTable := #[], attributes := #[] }
def k7m10 : Method := { name := "coder", desc := "()B", sig := { parameters := [], returnType := some .byte }, accessFlags := 0, code := some k7c10 }
/-- java/lang/String -/
def k7 : Class := { plain "java/lang/String" (some 0) with
  accessFlags := 49
  interfaces := #[2, 3, 4, 5, 6]
  cf := some (fileOf pool7 10 #[.nestMembers #[1103]] #[{ accessFlags := 1, nameIndex := 5, descriptorIndex := 6, attributes := #[] }, { accessFlags := 1, nameIndex := 5, descriptorIndex := 1010, attributes := #[] }, { accessFlags := 1, nameIndex := 5, descriptorIndex := 1233, attributes := #[] }, { accessFlags := 1, nameIndex := 507, descriptorIndex := 334, attributes := #[] }, { accessFlags := 1, nameIndex := 543, descriptorIndex := 573, attributes := #[] }, { accessFlags := 9, nameIndex := 782, descriptorIndex := 783, attributes := #[] }, { accessFlags := 0, nameIndex := 532, descriptorIndex := 821, attributes := #[] }, { accessFlags := 2, nameIndex := 5, descriptorIndex := 29, attributes := #[] }, { accessFlags := 0, nameIndex := 5, descriptorIndex := 491, attributes := #[] }, { accessFlags := 0, nameIndex := 5, descriptorIndex := 211, attributes := #[] }, { accessFlags := 0, nameIndex := 17, descriptorIndex := 337, attributes := #[] }] 49 2 #[1106, 1108, 575, 1110, 1112] #[{ accessFlags := 18, nameIndex := 13, descriptorIndex := 14, attributes := #[] }, { accessFlags := 18, nameIndex := 17, descriptorIndex := 18, attributes := #[] }, { accessFlags := 2, nameIndex := 21, descriptorIndex := 22, attributes := #[] }, { accessFlags := 2, nameIndex := 25, descriptorIndex := 26, attributes := #[] }, { accessFlags := 26, nameIndex := 1116, descriptorIndex := 1117, attributes := #[] }, { accessFlags := 24, nameIndex := 40, descriptorIndex := 26, attributes := #[] }, { accessFlags := 26, nameIndex := 1101, descriptorIndex := 1102, attributes := #[] }, { accessFlags := 26, nameIndex := 1121, descriptorIndex := 1122, attributes := #[] }, { accessFlags := 25, nameIndex := 599, descriptorIndex := 600, attributes := #[] }, { accessFlags := 24, nameIndex := 1125, descriptorIndex := 18, attributes := #[] }, { accessFlags := 24, nameIndex := 1127, descriptorIndex := 18, attributes := #[] }])
  fields := #[{ name := "value", type := (.array .byte), accessFlags := 18, slot := 0, constantValue := 0 }, { name := "coder", type := .byte, accessFlags := 18, slot := 1, constantValue := 0 }, { name := "hash", type := .int, accessFlags := 2, slot := 2, constantValue := 0 }, { name := "hashIsZero", type := .boolean, accessFlags := 2, slot := 3, constantValue := 0 }, { name := "serialVersionUID", type := .long, accessFlags := 26, slot := 0, constantValue := 0 }, { name := "COMPACT_STRINGS", type := .boolean, accessFlags := 24, slot := 1, constantValue := 0 }, { name := "serialPersistentFields", type := (.array (.object "java/io/ObjectStreamField")), accessFlags := 26, slot := 2, constantValue := 0 }, { name := "REPL", type := .char, accessFlags := 26, slot := 3, constantValue := 0 }, { name := "CASE_INSENSITIVE_ORDER", type := (.object "java/util/Comparator"), accessFlags := 25, slot := 4, constantValue := 0 }, { name := "LATIN1", type := .byte, accessFlags := 24, slot := 5, constantValue := 0 }, { name := "UTF16", type := .byte, accessFlags := 24, slot := 6, constantValue := 0 }]
  methods := #[k7m0, k7m1, k7m2, k7m3, k7m4, k7m5, k7m6, k7m7, k7m8, k7m9, k7m10]
  instanceTypes := #[(.array .byte), .byte, .int, .boolean]
  staticTypes := #[.long, .boolean, (.array (.object "java/io/ObjectStreamField")), .char, (.object "java/util/Comparator"), .byte, .byte]
  resolved := Array.replicate 1451 none
  statics := some 0 }

def pool8 : Array CpInfo := pool [(6, .class_ 8), (1, u "java/lang/Object"), (0, u "<init>"), (0, u "()V"), (1, .class_ 14), (1, u "java/lang/StringUTF16"), (31, u "$assertionsDisabled"), (0, u "Z"), (13, u "HI_BYTE_SHIFT"), (0, u "I"), (2, u "LO_BYTE_SHIFT"), (49, .methodref 12 116), (0, .nameAndType 117 118), (0, u "compress"), (0, u "([CI[BII)I"), (3, u "([CII)[B"), (138, u "coderFromArrayLen"), (0, u "([BI)B"), (106, .class_ 371), (1, u "java/lang/StringUTF16$LinesSpliterator"), (58, u "MAX_LENGTH"), (196, .class_ 628), (0, u "java/lang/StringUTF16$CodePointsSpliterator"), (0, .class_ 630), (0, u "java/lang/StringUTF16$CharsSpliterator")] 4

def k8m0 : Method := { name := "<init>", desc := "()V", sig := { parameters := [], returnType := none }, accessFlags := 0, code := none }
def k8c1 : Code := { maxStack := 2, maxLocals := 2, code := jdk_52_method_15_code, exceptionTable := #[], attributes := #[] }
def k8m1 : Method := { name := "coderFromArrayLen", desc := "([BI)B", sig := { parameters := [(.array .byte), .int], returnType := some .byte }, accessFlags := 8, code := some k8c1 }
def k8c2 : Code := { maxStack := 5, maxLocals := 6, code := jdk_52_method_16_code, exceptionTable := #[], attributes := #[] }
def k8m2 : Method := { name := "compress", desc := "([CII)[B", sig := { parameters := [(.array .char), .int, .int], returnType := some (.array .byte) }, accessFlags := 9, code := some k8c2 }
def k8c3 : Code := { maxStack := 3, maxLocals := 7, code := jdk_52_method_21_code, exceptionTable := #[], attributes := #[] }
def k8m3 : Method := { name := "compress", desc := "([CI[BII)I", sig := { parameters := [(.array .char), .int, (.array .byte), .int, .int], returnType := some .int }, accessFlags := 9, code := some k8c3 }
/-- java/lang/StringUTF16 -/
def k8 : Class := { plain "java/lang/StringUTF16" (some 0) with
  accessFlags := 48
  interfaces := #[]
  cf := some (fileOf pool8 12 #[.nestMembers #[627, 629, 369]] #[{ accessFlags := 0, nameIndex := 9, descriptorIndex := 10, attributes := #[] }, { accessFlags := 8, nameIndex := 261, descriptorIndex := 262, attributes := #[] }, { accessFlags := 9, nameIndex := 117, descriptorIndex := 122, attributes := #[] }, { accessFlags := 9, nameIndex := 117, descriptorIndex := 118, attributes := #[] }] 48 6 #[] #[{ accessFlags := 26, nameIndex := 61, descriptorIndex := 62, attributes := #[] }, { accessFlags := 26, nameIndex := 65, descriptorIndex := 62, attributes := #[] }, { accessFlags := 24, nameIndex := 430, descriptorIndex := 62, attributes := #[] }, { accessFlags := 4120, nameIndex := 46, descriptorIndex := 47, attributes := #[] }])
  fields := #[{ name := "HI_BYTE_SHIFT", type := .int, accessFlags := 26, slot := 0, constantValue := 0 }, { name := "LO_BYTE_SHIFT", type := .int, accessFlags := 26, slot := 1, constantValue := 0 }, { name := "MAX_LENGTH", type := .int, accessFlags := 24, slot := 2, constantValue := 0 }, { name := "$assertionsDisabled", type := .boolean, accessFlags := 4120, slot := 3, constantValue := 0 }]
  methods := #[k8m0, k8m1, k8m2, k8m3]
  instanceTypes := #[]
  staticTypes := #[.int, .int, .int, .boolean]
  resolved := Array.replicate 635 none
  statics := none }

def pool9 : Array CpInfo := pool [(4, .class_ 6), (1, u "java/lang/Object"), (0, u "<init>"), (0, u "()V"), (5, .class_ 16), (1, u "java/lang/StringLatin1"), (73, u "canEncode"), (14, u "(C)Z"), (15, u "$assertionsDisabled"), (0, u "Z"), (98, .class_ 223), (1, u "java/lang/StringLatin1$LinesSpliterator"), (57, u "equals"), (0, u "([B[B)Z"), (97, u "toBytes"), (1, u "(C)[B"), (7, .class_ 391), (0, u "java/lang/StringLatin1$CharsSpliterator")] 3

def k9m0 : Method := { name := "<init>", desc := "()V", sig := { parameters := [], returnType := none }, accessFlags := 0, code := none }
def k9c1 : Code := { maxStack := 2, maxLocals := 1, code := jdk_43_method_3_code, exceptionTable := #[], attributes := #[] }
def k9m1 : Method := { name := "canEncode", desc := "(C)Z", sig := { parameters := [.char], returnType := some .boolean }, accessFlags := 9, code := some k9c1 }
def k9c2 : Code := { maxStack := 3, maxLocals := 3, code := jdk_43_method_13_code, exceptionTable := #[], attributes := #[] }
def k9m2 : Method := { name := "equals", desc := "([B[B)Z", sig := { parameters := [(.array .byte), (.array .byte)], returnType := some .boolean }, accessFlags := 9, code := some k9c2 }
def k9c3 : Code := { maxStack := 4, maxLocals := 1, code := jdk_43_method_46_code, exceptionTable := #[], attributes := #[] }
def k9m3 : Method := { name := "toBytes", desc := "(C)[B", sig := { parameters := [.char], returnType := some (.array .byte) }, accessFlags := 9, code := some k9c3 }
/-- java/lang/StringLatin1 -/
def k9 : Class := { plain "java/lang/StringLatin1" (some 0) with
  accessFlags := 48
  interfaces := #[]
  cf := some (fileOf pool9 14 #[.nestMembers #[390, 221]] #[{ accessFlags := 0, nameIndex := 7, descriptorIndex := 8, attributes := #[] }, { accessFlags := 9, nameIndex := 90, descriptorIndex := 105, attributes := #[] }, { accessFlags := 9, nameIndex := 281, descriptorIndex := 282, attributes := #[] }, { accessFlags := 9, nameIndex := 380, descriptorIndex := 382, attributes := #[] }] 48 4 #[] #[{ accessFlags := 4120, nameIndex := 121, descriptorIndex := 122, attributes := #[] }])
  fields := #[{ name := "$assertionsDisabled", type := .boolean, accessFlags := 4120, slot := 0, constantValue := 0 }]
  methods := #[k9m0, k9m1, k9m2, k9m3]
  instanceTypes := #[]
  staticTypes := #[.boolean]
  resolved := Array.replicate 395 none
  statics := none }

def pool10 : Array CpInfo := pool [(1, .string 2), (0, u "a"), (1, .class_ 6), (1, u "com/example/forseti/forseti/model/ClassFigures"), (0, u "<init>"), (6, .methodref 4 15), (0, .nameAndType 7 16), (0, u "(Ljava/lang/String;Ljava/lang/String;Ljava/lang/String;Ljava/lang/String;)V"), (0, .methodref 18 19), (0, .class_ 20), (0, .nameAndType 7 21), (0, u "java/lang/Object"), (0, u "()V"), (0, .class_ 23), (0, u "java/util/LinkedHashMap"), (0, .methodref 22 19), (0, .fieldref 4 26), (0, .nameAndType 27 28), (0, u "leafOfOwner"), (0, u "Ljava/util/Map;"), (0, .class_ 30), (0, u "java/util/HashMap"), (0, .methodref 29 19), (0, .fieldref 4 33), (0, .nameAndType 34 28), (0, u "figuresOfOwner"), (0, .fieldref 4 36), (0, .nameAndType 37 38), (0, u "kind"), (0, u "Ljava/lang/String;"), (0, .fieldref 4 40), (0, .nameAndType 41 38), (0, u "article"), (0, .fieldref 4 43), (0, .nameAndType 44 38), (0, u "ownerKind"), (0, .fieldref 4 46), (0, .nameAndType 47 38), (0, u "anyOwner"), (0, .class_ 49), (0, u "java/lang/StringBuilder"), (0, .methodref 48 19), (0, .methodref 48 52), (0, .nameAndType 53 54), (0, u "append"), (0, u "(Ljava/lang/String;)Ljava/lang/StringBuilder;"), (0, .string 56), (0, u " "), (0, .methodref 48 58), (0, .nameAndType 59 60), (0, u "toString"), (0, u "()Ljava/lang/String;"), (53, u "ownerName"), (0, u "(Ljava/lang/String;)Ljava/lang/String;"), (51, u "EVERY"), (8, u "alikeForEvery"), (0, u "(Ljava/lang/String;Ljava/lang/String;Ljava/lang/String;)Lcom/example/forseti/forseti/model/ClassFigures;"), (1, u "aKind")] 52

def k10c0 : Code := { maxStack := 3, maxLocals := 5, code := prog_50_method_4_code, exceptionTable := #[], attributes := #[] }
def k10m0 : Method := { name := "<init>", desc := "(Ljava/lang/String;Ljava/lang/String;Ljava/lang/String;Ljava/lang/String;)V", sig := { parameters := [(.object "java/lang/String"), (.object "java/lang/String"), (.object "java/lang/String"), (.object "java/lang/String")], returnType := none }, accessFlags := 2, code := some k10c0 }
def k10c1 : Code := { maxStack := 6, maxLocals := 3, code := prog_50_method_5_code, exceptionTable := #[], attributes := #[] }
def k10m1 : Method := { name := "alikeForEvery", desc := "(Ljava/lang/String;Ljava/lang/String;Ljava/lang/String;)Lcom/example/forseti/forseti/model/ClassFigures;", sig := { parameters := [(.object "java/lang/String"), (.object "java/lang/String"), (.object "java/lang/String")], returnType := some (.object "com/example/forseti/forseti/model/ClassFigures") }, accessFlags := 8, code := some k10c1 }
def k10c2 : Code := { maxStack := 1, maxLocals := 1, code := prog_50_method_6_code, exceptionTable := #[], attributes := #[] }
def k10m2 : Method := { name := "kind", desc := "()Ljava/lang/String;", sig := { parameters := [], returnType := some (.object "java/lang/String") }, accessFlags := 0, code := some k10c2 }
def k10c3 : Code := { maxStack := 2, maxLocals := 1, code := prog_50_method_7_code, exceptionTable := #[], attributes := #[] }
def k10m3 : Method := { name := "aKind", desc := "()Ljava/lang/String;", sig := { parameters := [], returnType := some (.object "java/lang/String") }, accessFlags := 0, code := some k10c3 }
def k10c4 : Code := { maxStack := 2, maxLocals := 2, code := prog_50_method_8_code, exceptionTable := #[], attributes := #[] }
def k10m4 : Method := { name := "ownerName", desc := "(Ljava/lang/String;)Ljava/lang/String;", sig := { parameters := [(.object "java/lang/String")], returnType := some (.object "java/lang/String") }, accessFlags := 0, code := some k10c4 }
/-- com/example/forseti/forseti/model/ClassFigures -/
def k10 : Class := { plain "com/example/forseti/forseti/model/ClassFigures" (some 0) with
  accessFlags := 48
  interfaces := #[]
  cf := some (fileOf pool10 4 #[] #[{ accessFlags := 2, nameIndex := 7, descriptorIndex := 16, attributes := #[] }, { accessFlags := 8, nameIndex := 176, descriptorIndex := 177, attributes := #[] }, { accessFlags := 0, nameIndex := 37, descriptorIndex := 60, attributes := #[] }, { accessFlags := 0, nameIndex := 179, descriptorIndex := 60, attributes := #[] }, { accessFlags := 0, nameIndex := 114, descriptorIndex := 115, attributes := #[] }] 48 18 #[] #[{ accessFlags := 24, nameIndex := 167, descriptorIndex := 38, attributes := #[] }, { accessFlags := 18, nameIndex := 37, descriptorIndex := 38, attributes := #[] }, { accessFlags := 18, nameIndex := 41, descriptorIndex := 38, attributes := #[] }, { accessFlags := 18, nameIndex := 44, descriptorIndex := 38, attributes := #[] }, { accessFlags := 18, nameIndex := 47, descriptorIndex := 38, attributes := #[] }, { accessFlags := 18, nameIndex := 27, descriptorIndex := 28, attributes := #[] }, { accessFlags := 18, nameIndex := 34, descriptorIndex := 28, attributes := #[] }])
  fields := #[{ name := "EVERY", type := (.object "java/lang/String"), accessFlags := 24, slot := 0, constantValue := 0 }, { name := "kind", type := (.object "java/lang/String"), accessFlags := 18, slot := 0, constantValue := 0 }, { name := "article", type := (.object "java/lang/String"), accessFlags := 18, slot := 1, constantValue := 0 }, { name := "ownerKind", type := (.object "java/lang/String"), accessFlags := 18, slot := 2, constantValue := 0 }, { name := "anyOwner", type := (.object "java/lang/String"), accessFlags := 18, slot := 3, constantValue := 0 }, { name := "leafOfOwner", type := (.object "java/util/Map"), accessFlags := 18, slot := 4, constantValue := 0 }, { name := "figuresOfOwner", type := (.object "java/util/Map"), accessFlags := 18, slot := 5, constantValue := 0 }]
  methods := #[k10m0, k10m1, k10m2, k10m3, k10m4]
  instanceTypes := #[(.object "java/lang/String"), (.object "java/lang/String"), (.object "java/lang/String"), (.object "java/lang/String"), (.object "java/util/Map"), (.object "java/util/Map")]
  staticTypes := #[(.object "java/lang/String")]
  resolved := Array.replicate 232 none
  statics := none }

def pool11 : Array CpInfo := pool [(2, .class_ 4), (1, u "java/util/Map"), (31, .class_ 37), (0, u "java/util/Map$Entry"), (55, .class_ 94), (0, u "java/lang/Object")] 168

/-- java/util/Map -/
def k11 : Class := { plain "java/util/Map" (some 0) with
  accessFlags := 1537
  interfaces := #[]
  cf := some (fileOf pool11 2 #[.nestMembers #[36]] #[] 1537 93 #[] #[])
  fields := #[]
  methods := #[]
  instanceTypes := #[]
  staticTypes := #[]
  resolved := Array.replicate 263 none
  statics := none }

def pool12 : Array CpInfo := pool [(1, .methodref 2 3), (0, .class_ 4), (0, .nameAndType 5 6), (0, u "java/lang/Object"), (0, u "<init>"), (0, u "()V"), (1, .class_ 10), (1, u "java/util/AbstractMap"), (42, .class_ 54), (0, u "java/util/Map"), (9, u "keySet"), (0, u "Ljava/util/Set;"), (0, .class_ 67), (0, u "java/util/AbstractMap$1"), (5, u "values"), (0, u "Ljava/util/Collection;"), (0, .class_ 76), (0, u "java/util/AbstractMap$2"), (104, .class_ 182), (0, u "java/util/AbstractMap$ViewCollection"), (0, .class_ 184), (0, u "java/util/AbstractMap$SimpleImmutableEntry"), (0, .class_ 186), (0, u "java/util/AbstractMap$SimpleEntry"), (0, .class_ 188), (0, u "java/util/AbstractMap$2$1"), (0, .class_ 190), (0, u "java/util/AbstractMap$1$1")] 5

def k12c0 : Code := { maxStack := 1, maxLocals := 1, code := jdk_71_method_1_code, exceptionTable := #[], attributes := #[] }
def k12m0 : Method := { name := "<init>", desc := "()V", sig := { parameters := [], returnType := none }, accessFlags := 4, code := some k12c0 }
/-- java/util/AbstractMap -/
def k12 : Class := { plain "java/util/AbstractMap" (some 0) with
  accessFlags := 1057
  interfaces := #[11]
  cf := some (fileOf pool12 8 #[.nestMembers #[181, 183, 185, 75, 187, 66, 189]] #[{ accessFlags := 4, nameIndex := 5, descriptorIndex := 6, attributes := #[] }] 1057 2 #[53] #[{ accessFlags := 128, nameIndex := 64, descriptorIndex := 65, attributes := #[] }, { accessFlags := 128, nameIndex := 73, descriptorIndex := 74, attributes := #[] }])
  fields := #[{ name := "keySet", type := (.object "java/util/Set"), accessFlags := 128, slot := 0, constantValue := 0 }, { name := "values", type := (.object "java/util/Collection"), accessFlags := 128, slot := 1, constantValue := 0 }]
  methods := #[k12m0]
  instanceTypes := #[(.object "java/util/Set"), (.object "java/util/Collection")]
  staticTypes := #[]
  resolved := Array.replicate 196 none
  statics := none }

def pool13 : Array CpInfo := pool [(1, .class_ 2), (0, u "java/lang/Cloneable"), (0, .class_ 4), (0, u "java/lang/Object")] 2

/-- java/lang/Cloneable -/
def k13 : Class := { plain "java/lang/Cloneable" (some 0) with
  accessFlags := 1537
  interfaces := #[]
  cf := some (fileOf pool13 1 #[] #[] 1537 3 #[] #[])
  fields := #[]
  methods := #[]
  instanceTypes := #[]
  staticTypes := #[]
  resolved := Array.replicate 7 none
  statics := none }

def pool14 : Array CpInfo := pool [(40, .class_ 41), (0, u "java/util/HashMap"), (1, .methodref 44 45), (0, .class_ 46), (0, .nameAndType 47 48), (0, u "java/util/AbstractMap"), (0, u "<init>"), (0, u "()V"), (32, .fieldref 40 82), (0, .nameAndType 83 84), (0, u "loadFactor"), (0, u "F"), (5, u "threshold"), (0, u "I"), (0, .float 1061158912), (8, .class_ 103), (1, u "java/util/Map"), (0, u "size"), (2, u "table"), (0, u "[Ljava/util/HashMap$Node;"), (14, u "entrySet"), (39, .class_ 165), (1, u "java/util/HashMap$Node"), (14, .class_ 181), (0, u "java/util/HashMap$TreeNode"), (22, u "modCount"), (37, u "Ljava/util/Set;"), (0, .class_ 244), (0, u "java/util/HashMap$KeySet"), (18, .class_ 264), (0, u "java/util/HashMap$Values"), (3, .class_ 269), (0, u "java/util/HashMap$EntrySet"), (76, .class_ 348), (1, u "java/util/HashMap$UnsafeHolder"), (43, .class_ 393), (0, u "java/lang/Cloneable"), (0, .class_ 395), (0, u "java/io/Serializable"), (0, u "serialVersionUID"), (0, u "J"), (3, u "DEFAULT_INITIAL_CAPACITY"), (1, u "MAXIMUM_CAPACITY"), (0, u "DEFAULT_LOAD_FACTOR"), (0, u "TREEIFY_THRESHOLD"), (1, u "UNTREEIFY_THRESHOLD"), (1, u "MIN_TREEIFY_CAPACITY"), (186, .class_ 597), (0, u "java/util/HashMap$EntrySpliterator"), (0, .class_ 599), (0, u "java/util/HashMap$ValueSpliterator"), (0, .class_ 601), (0, u "java/util/HashMap$KeySpliterator"), (0, .class_ 603), (0, u "java/util/HashMap$HashMapSpliterator"), (0, .class_ 605), (0, u "java/util/HashMap$EntryIterator"), (0, .class_ 607), (0, u "java/util/HashMap$ValueIterator"), (0, .class_ 609), (0, u "java/util/HashMap$KeyIterator"), (0, .class_ 611), (0, u "java/util/HashMap$HashIterator")] 17

def k14c0 : Code := { maxStack := 2, maxLocals := 1, code := jdk_69_method_7_code, exceptionTable := #[], attributes := #[] }
def k14m0 : Method := { name := "<init>", desc := "()V", sig := { parameters := [], returnType := none }, accessFlags := 1, code := some k14c0 }
/-- java/util/HashMap -/
def k14 : Class := { plain "java/util/HashMap" (some 12) with
  accessFlags := 33
  interfaces := #[11, 13, 2]
  cf := some (fileOf pool14 40 #[.nestMembers #[180, 596, 598, 600, 602, 604, 606, 608, 610, 346, 268, 263, 243, 163]] #[{ accessFlags := 1, nameIndex := 47, descriptorIndex := 48, attributes := #[] }] 33 44 #[101, 392, 394] #[{ accessFlags := 26, nameIndex := 396, descriptorIndex := 397, attributes := #[] }, { accessFlags := 24, nameIndex := 401, descriptorIndex := 91, attributes := #[] }, { accessFlags := 24, nameIndex := 403, descriptorIndex := 91, attributes := #[] }, { accessFlags := 24, nameIndex := 404, descriptorIndex := 84, attributes := #[] }, { accessFlags := 24, nameIndex := 405, descriptorIndex := 91, attributes := #[] }, { accessFlags := 24, nameIndex := 407, descriptorIndex := 91, attributes := #[] }, { accessFlags := 24, nameIndex := 409, descriptorIndex := 91, attributes := #[] }, { accessFlags := 128, nameIndex := 107, descriptorIndex := 108, attributes := #[] }, { accessFlags := 128, nameIndex := 123, descriptorIndex := 242, attributes := #[] }, { accessFlags := 128, nameIndex := 104, descriptorIndex := 91, attributes := #[] }, { accessFlags := 128, nameIndex := 204, descriptorIndex := 91, attributes := #[] }, { accessFlags := 0, nameIndex := 90, descriptorIndex := 91, attributes := #[] }, { accessFlags := 16, nameIndex := 83, descriptorIndex := 84, attributes := #[] }])
  fields := #[{ name := "serialVersionUID", type := .long, accessFlags := 26, slot := 0, constantValue := 0 }, { name := "DEFAULT_INITIAL_CAPACITY", type := .int, accessFlags := 24, slot := 1, constantValue := 0 }, { name := "MAXIMUM_CAPACITY", type := .int, accessFlags := 24, slot := 2, constantValue := 0 }, { name := "DEFAULT_LOAD_FACTOR", type := .float, accessFlags := 24, slot := 3, constantValue := 0 }, { name := "TREEIFY_THRESHOLD", type := .int, accessFlags := 24, slot := 4, constantValue := 0 }, { name := "UNTREEIFY_THRESHOLD", type := .int, accessFlags := 24, slot := 5, constantValue := 0 }, { name := "MIN_TREEIFY_CAPACITY", type := .int, accessFlags := 24, slot := 6, constantValue := 0 }, { name := "table", type := (.array (.object "java/util/HashMap$Node")), accessFlags := 128, slot := 2, constantValue := 0 }, { name := "entrySet", type := (.object "java/util/Set"), accessFlags := 128, slot := 3, constantValue := 0 }, { name := "size", type := .int, accessFlags := 128, slot := 4, constantValue := 0 }, { name := "modCount", type := .int, accessFlags := 128, slot := 5, constantValue := 0 }, { name := "threshold", type := .int, accessFlags := 0, slot := 6, constantValue := 0 }, { name := "loadFactor", type := .float, accessFlags := 16, slot := 7, constantValue := 0 }]
  methods := #[k14m0]
  instanceTypes := #[(.object "java/util/Set"), (.object "java/util/Collection"), (.array (.object "java/util/HashMap$Node")), (.object "java/util/Set"), .int, .int, .int, .float]
  staticTypes := #[.long, .int, .int, .float, .int, .int, .int]
  resolved := Array.replicate 629 none
  statics := none }

def pool15 : Array CpInfo := pool [(2, .class_ 4), (1, u "java/util/SequencedMap"), (38, .class_ 44), (0, u "java/util/SequencedMap$1SeqKeySet"), (3, .class_ 49), (0, u "java/util/SequencedMap$1SeqValues"), (1, .class_ 52), (0, u "java/util/SequencedMap$1SeqEntrySet"), (1, .class_ 55), (0, u "java/lang/Object"), (0, .class_ 57), (0, u "java/util/Map")] 48

/-- java/util/SequencedMap -/
def k15 : Class := { plain "java/util/SequencedMap" (some 0) with
  accessFlags := 1537
  interfaces := #[11]
  cf := some (fileOf pool15 2 #[.nestMembers #[51, 48, 43]] #[] 1537 54 #[56] #[])
  fields := #[]
  methods := #[]
  instanceTypes := #[]
  staticTypes := #[]
  resolved := Array.replicate 106 none
  statics := none }

def pool16 : Array CpInfo := pool [(1, .fieldref 2 3), (0, .class_ 4), (0, .nameAndType 5 6), (0, u "java/util/LinkedHashMap"), (0, u "putMode"), (0, u "I"), (2, u "head"), (0, u "Ljava/util/LinkedHashMap$Entry;"), (2, u "tail"), (1, .class_ 17), (1, u "java/util/LinkedHashMap$Entry"), (5, .class_ 25), (1, u "java/util/HashMap"), (1, u "()V"), (2, u "<init>"), (33, .fieldref 2 65), (0, .nameAndType 66 67), (0, u "accessOrder"), (0, u "Z"), (19, .methodref 23 88), (0, .nameAndType 30 27), (32, .class_ 122), (0, u "java/util/LinkedHashMap$LinkedKeySet"), (20, .class_ 144), (0, u "java/util/LinkedHashMap$LinkedValues"), (9, .class_ 155), (0, u "java/util/LinkedHashMap$LinkedEntrySet"), (44, .class_ 201), (0, u "java/util/LinkedHashMap$ReversedLinkedHashMapView"), (3, .class_ 206), (0, u "java/util/SequencedMap"), (0, u "serialVersionUID"), (0, u "J"), (5, u "PUT_NORM"), (1, u "PUT_FIRST"), (1, u "PUT_LAST"), (143, .class_ 363), (0, u "java/util/LinkedHashMap$LinkedEntryIterator"), (0, .class_ 365), (0, u "java/util/LinkedHashMap$LinkedValueIterator"), (0, .class_ 367), (0, u "java/util/LinkedHashMap$LinkedKeyIterator"), (0, .class_ 369), (0, u "java/util/LinkedHashMap$LinkedHashIterator")] 16

def k16c0 : Code := { maxStack := 2, maxLocals := 1, code := jdk_94_method_16_code, exceptionTable := #[], attributes := #[] }
def k16m0 : Method := { name := "<init>", desc := "()V", sig := { parameters := [], returnType := none }, accessFlags := 1, code := some k16c0 }
/-- java/util/LinkedHashMap -/
def k16 : Class := { plain "java/util/LinkedHashMap" (some 14) with
  accessFlags := 33
  interfaces := #[15]
  cf := some (fileOf pool16 2 #[.nestMembers #[200, 362, 364, 366, 368, 154, 143, 121, 15]] #[{ accessFlags := 1, nameIndex := 30, descriptorIndex := 27, attributes := #[] }] 33 23 #[205] #[{ accessFlags := 26, nameIndex := 207, descriptorIndex := 208, attributes := #[] }, { accessFlags := 128, nameIndex := 9, descriptorIndex := 10, attributes := #[] }, { accessFlags := 128, nameIndex := 13, descriptorIndex := 10, attributes := #[] }, { accessFlags := 16, nameIndex := 66, descriptorIndex := 67, attributes := #[] }, { accessFlags := 24, nameIndex := 214, descriptorIndex := 6, attributes := #[] }, { accessFlags := 24, nameIndex := 216, descriptorIndex := 6, attributes := #[] }, { accessFlags := 24, nameIndex := 218, descriptorIndex := 6, attributes := #[] }, { accessFlags := 128, nameIndex := 5, descriptorIndex := 6, attributes := #[] }])
  fields := #[{ name := "serialVersionUID", type := .long, accessFlags := 26, slot := 0, constantValue := 0 }, { name := "head", type := (.object "java/util/LinkedHashMap$Entry"), accessFlags := 128, slot := 8, constantValue := 0 }, { name := "tail", type := (.object "java/util/LinkedHashMap$Entry"), accessFlags := 128, slot := 9, constantValue := 0 }, { name := "accessOrder", type := .boolean, accessFlags := 16, slot := 10, constantValue := 0 }, { name := "PUT_NORM", type := .int, accessFlags := 24, slot := 1, constantValue := 0 }, { name := "PUT_FIRST", type := .int, accessFlags := 24, slot := 2, constantValue := 0 }, { name := "PUT_LAST", type := .int, accessFlags := 24, slot := 3, constantValue := 0 }, { name := "putMode", type := .int, accessFlags := 128, slot := 11, constantValue := 0 }]
  methods := #[k16m0]
  instanceTypes := #[(.object "java/util/Set"), (.object "java/util/Collection"), (.array (.object "java/util/HashMap$Node")), (.object "java/util/Set"), .int, .int, .int, .float, (.object "java/util/LinkedHashMap$Entry"), (.object "java/util/LinkedHashMap$Entry"), .boolean, .int]
  staticTypes := #[.long, .int, .int, .int]
  resolved := Array.replicate 386 none
  statics := none }

def pool17 : Array CpInfo := pool [(1, .class_ 2), (0, u "java/lang/Appendable"), (0, .class_ 4), (0, u "java/lang/Object")] 9

/-- java/lang/Appendable -/
def k17 : Class := { plain "java/lang/Appendable" (some 0) with
  accessFlags := 1537
  interfaces := #[]
  cf := some (fileOf pool17 1 #[] #[] 1537 3 #[] #[])
  fields := #[]
  methods := #[]
  instanceTypes := #[]
  staticTypes := #[]
  resolved := Array.replicate 14 none
  statics := none }

def pool18 : Array CpInfo := pool [(1, .class_ 2), (0, u "java/lang/String"), (0, .methodref 4 5), (0, .class_ 6), (0, .nameAndType 7 8), (0, u "java/lang/Object"), (0, u "<init>"), (0, u "()V"), (1, .class_ 12), (1, u "java/lang/AbstractStringBuilder"), (0, u "EMPTYVALUE"), (0, u "[B"), (0, .fieldref 10 16), (0, .nameAndType 17 14), (0, u "value"), (0, .fieldref 1 19), (0, .nameAndType 20 21), (0, u "COMPACT_STRINGS"), (0, u "Z"), (0, .fieldref 10 23), (0, .nameAndType 24 25), (0, u "coder"), (0, u "B"), (6, .methodref 1 33), (0, .nameAndType 34 35), (0, u "length"), (0, u "()I"), (4, .methodref 1 41), (0, .nameAndType 24 42), (0, u "()B"), (2, u "append"), (0, u "(Ljava/lang/String;)Ljava/lang/AbstractStringBuilder;"), (1, .class_ 49), (0, u "java/lang/CharSequence"), (19, u "(Ljava/lang/String;)V"), (5, u "maybeLatin1"), (3, .fieldref 10 80), (0, .nameAndType 81 82), (0, u "count"), (0, u "I"), (2, u "isLatin1"), (0, u "()Z"), (13, .methodref 10 101), (0, .nameAndType 102 103), (0, u "ensureCapacityInternal"), (0, u "(I)V"), (104, .methodref 10 209), (0, .nameAndType 210 211), (0, u "putStringAt"), (0, u "(ILjava/lang/String;)V"), (5, u "inflateIfNeededFor"), (2, .nameAndType 221 222), (0, u "getBytes"), (0, u "([BIB)V"), (174, .methodref 10 398), (0, .nameAndType 217 69), (0, .methodref 1 220), (3, u "()[B"), (40, .class_ 445), (0, u "java/lang/Appendable"), (106, u "getValue")] 56

def k18m0 : Method := { name := "<init>", desc := "()V", sig := { parameters := [], returnType := none }, accessFlags := 0, code := none }
def k18c1 : Code := { maxStack := 2, maxLocals := 2, code := jdk_68_method_2_code, exceptionTable := #[], attributes := #[] }
def k18m1 : Method := { name := "<init>", desc := "(I)V", sig := { parameters := [.int], returnType := none }, accessFlags := 0, code := some k18c1 }
def k18c2 : Code := { maxStack := 1, maxLocals := 1, code := jdk_68_method_6_code, exceptionTable := #[], attributes := #[] }
def k18m2 : Method := { name := "length", desc := "()I", sig := { parameters := [], returnType := some .int }, accessFlags := 1, code := some k18c2 }
def k18c3 : Code := { maxStack := 4, maxLocals := 3, code := jdk_68_method_9_code, exceptionTable := #[], attributes := #[] }
def k18m3 : Method := { name := "ensureCapacityInternal", desc := "(I)V", sig := { parameters := [.int], returnType := none }, accessFlags := 2, code := some k18c3 }
def k18c4 : Code := { maxStack := 3, maxLocals := 3, code := jdk_68_method_22_code, exceptionTable := #[], attributes := #[] }
def k18m4 : Method := { name := "append", desc := "(Ljava/lang/String;)Ljava/lang/AbstractStringBuilder;", sig := { parameters := [(.object "java/lang/String")], returnType := some (.object "java/lang/AbstractStringBuilder") }, accessFlags := 1, code := some k18c4 }
def k18c5 : Code := { maxStack := 1, maxLocals := 1, code := jdk_68_method_64_code, exceptionTable := #[], attributes := #[] }
def k18m5 : Method := { name := "getValue", desc := "()[B", sig := { parameters := [], returnType := some (.array .byte) }, accessFlags := 16, code := some k18c5 }
def k18c6 : Code := { maxStack := 1, maxLocals := 1, code := jdk_68_method_68_code, exceptionTable := #[], attributes := #[] }
def k18m6 : Method := { name := "isLatin1", desc := "()Z", sig := { parameters := [], returnType := some .boolean }, accessFlags := 16, code := some k18c6 }
def k18c7 : Code := { maxStack := 2, maxLocals := 2, code := jdk_68_method_71_code, exceptionTable := #[], attributes := #[] }
def k18m7 : Method := { name := "inflateIfNeededFor", desc := "(Ljava/lang/String;)V", sig := { parameters := [(.object "java/lang/String")], returnType := none }, accessFlags := 2, code := some k18c7 }
def k18c8 : Code := { maxStack := 4, maxLocals := 3, code := jdk_68_method_73_code, exceptionTable := #[], attributes := #[] }
def k18m8 : Method := { name := "putStringAt", desc := "(ILjava/lang/String;)V", sig := { parameters := [.int, (.object "java/lang/String")], returnType := none }, accessFlags := 2, code := some k18c8 }
/-- java/lang/AbstractStringBuilder -/
def k18 : Class := { plain "java/lang/AbstractStringBuilder" (some 0) with
  accessFlags := 1056
  interfaces := #[17, 4]
  cf := some (fileOf pool18 10 #[] #[{ accessFlags := 0, nameIndex := 7, descriptorIndex := 8, attributes := #[] }, { accessFlags := 0, nameIndex := 7, descriptorIndex := 103, attributes := #[] }, { accessFlags := 1, nameIndex := 34, descriptorIndex := 35, attributes := #[] }, { accessFlags := 2, nameIndex := 102, descriptorIndex := 103, attributes := #[] }, { accessFlags := 1, nameIndex := 45, descriptorIndex := 46, attributes := #[] }, { accessFlags := 16, nameIndex := 552, descriptorIndex := 403, attributes := #[] }, { accessFlags := 16, nameIndex := 85, descriptorIndex := 86, attributes := #[] }, { accessFlags := 2, nameIndex := 217, descriptorIndex := 69, attributes := #[] }, { accessFlags := 2, nameIndex := 210, descriptorIndex := 211, attributes := #[] }] 1056 4 #[444, 48] #[{ accessFlags := 0, nameIndex := 17, descriptorIndex := 14, attributes := #[] }, { accessFlags := 0, nameIndex := 24, descriptorIndex := 25, attributes := #[] }, { accessFlags := 0, nameIndex := 75, descriptorIndex := 21, attributes := #[] }, { accessFlags := 0, nameIndex := 81, descriptorIndex := 82, attributes := #[] }, { accessFlags := 26, nameIndex := 13, descriptorIndex := 14, attributes := #[] }])
  fields := #[{ name := "value", type := (.array .byte), accessFlags := 0, slot := 0, constantValue := 0 }, { name := "coder", type := .byte, accessFlags := 0, slot := 1, constantValue := 0 }, { name := "maybeLatin1", type := .boolean, accessFlags := 0, slot := 2, constantValue := 0 }, { name := "count", type := .int, accessFlags := 0, slot := 3, constantValue := 0 }, { name := "EMPTYVALUE", type := (.array .byte), accessFlags := 26, slot := 0, constantValue := 0 }]
  methods := #[k18m0, k18m1, k18m2, k18m3, k18m4, k18m5, k18m6, k18m7, k18m8]
  instanceTypes := #[(.array .byte), .byte, .boolean, .int]
  staticTypes := #[(.array .byte)]
  resolved := Array.replicate 609 none
  statics := none }

def pool19 : Array CpInfo := pool [(1, .methodref 2 3), (0, .class_ 4), (0, .nameAndType 5 6), (0, u "java/lang/AbstractStringBuilder"), (0, u "<init>"), (0, u "(I)V"), (11, .class_ 20), (1, u "java/lang/String"), (3, .class_ 26), (1, u "java/lang/StringBuilder"), (0, u "append"), (0, u "(Ljava/lang/String;)Ljava/lang/StringBuilder;"), (0, .methodref 2 30), (0, .nameAndType 27 31), (0, u "(Ljava/lang/String;)Ljava/lang/AbstractStringBuilder;"), (105, .methodref 18 138), (0, .nameAndType 5 139), (0, u "(Ljava/lang/StringBuilder;)V"), (5, u "()V"), (10, u "()I"), (186, .methodref 2 344), (0, .nameAndType 345 156), (0, u "length"), (3, .class_ 350), (0, u "java/lang/Appendable"), (0, .class_ 352), (0, u "java/io/Serializable"), (0, .class_ 354), (0, u "java/lang/Comparable"), (0, .class_ 356), (0, u "java/lang/CharSequence"), (0, u "serialVersionUID"), (0, u "J"), (40, u "toString"), (0, u "()Ljava/lang/String;")] 21

def k19c0 : Code := { maxStack := 2, maxLocals := 1, code := jdk_67_method_1_code, exceptionTable := #[], attributes := #[] }
def k19m0 : Method := { name := "<init>", desc := "()V", sig := { parameters := [], returnType := none }, accessFlags := 1, code := some k19c0 }
def k19c1 : Code := { maxStack := 2, maxLocals := 2, code := jdk_67_method_7_code, exceptionTable := #[], attributes := #[] }
def k19m1 : Method := { name := "append", desc := "(Ljava/lang/String;)Ljava/lang/StringBuilder;", sig := { parameters := [(.object "java/lang/String")], returnType := some (.object "java/lang/StringBuilder") }, accessFlags := 1, code := some k19c1 }
def k19c2 : Code := { maxStack := 3, maxLocals := 1, code := jdk_67_method_42_code, exceptionTable := #[], attributes := #[] }
def k19m2 : Method := { name := "toString", desc := "()Ljava/lang/String;", sig := { parameters := [], returnType := some (.object "java/lang/String") }, accessFlags := 1, code := some k19c2 }
def k19c3 : Code := { maxStack := 1, maxLocals := 1, code := jdk_67_method_93_code, exceptionTable := #[], attributes := #[] }
def k19m3 : Method := { name := "length", desc := "()I", sig := { parameters := [], returnType := some .int }, accessFlags := 4161, code := some k19c3 }
/-- java/lang/StringBuilder -/
def k19 : Class := { plain "java/lang/StringBuilder" (some 18) with
  accessFlags := 49
  interfaces := #[17, 2, 3, 4]
  cf := some (fileOf pool19 24 #[] #[{ accessFlags := 1, nameIndex := 5, descriptorIndex := 145, attributes := #[] }, { accessFlags := 1, nameIndex := 27, descriptorIndex := 28, attributes := #[] }, { accessFlags := 1, nameIndex := 399, descriptorIndex := 400, attributes := #[] }, { accessFlags := 4161, nameIndex := 345, descriptorIndex := 156, attributes := #[] }] 49 2 #[349, 351, 353, 355] #[{ accessFlags := 24, nameIndex := 357, descriptorIndex := 358, attributes := #[] }])
  fields := #[{ name := "serialVersionUID", type := .long, accessFlags := 24, slot := 0, constantValue := 0 }]
  methods := #[k19m0, k19m1, k19m2, k19m3]
  instanceTypes := #[(.array .byte), .byte, .boolean, .int]
  staticTypes := #[.long]
  resolved := Array.replicate 422 none
  statics := none }

def pool20 : Array CpInfo := pool [(2, .class_ 4), (1, u "java/lang/Object"), (0, u "<init>"), (0, u "()V"), (1, .class_ 10), (1, u "java/lang/System"), (0, u "allowSecurityManager"), (0, u "I"), (16, u "cons"), (0, u "Ljava/io/Console;"), (77, .class_ 110), (1, u "java/lang/System$CallersHolder"), (43, u "initialErrStream"), (0, u "Ljava/io/PrintStream;"), (19, u "security"), (0, u "Ljava/lang/SecurityManager;"), (31, .class_ 209), (0, u "java/lang/System$1"), (7, u "props"), (0, u "Ljava/util/Properties;"), (2, u "lineSeparator"), (0, u "Ljava/lang/String;"), (96, .class_ 321), (1, u "java/lang/System$LoggerFinder"), (5, .class_ 328), (0, u "java/lang/System$Logger"), (67, u "err"), (2, u "out"), (91, u "notSupportedJnuEncoding"), (15, u "in"), (17, u "initialIn"), (0, u "Ljava/io/InputStream;"), (35, u "bootLayer"), (0, u "Ljava/lang/ModuleLayer;"), (99, .class_ 664), (0, u "java/lang/System$2"), (9, u "NEVER"), (2, u "MAYBE"), (49, u "arraycopy"), (0, u "(Ljava/lang/Object;ILjava/lang/Object;II)V"), (72, .class_ 802), (0, u "java/lang/System$Logger$Level")] 31

def k20m0 : Method := { name := "<init>", desc := "()V", sig := { parameters := [], returnType := none }, accessFlags := 2, code := none }
def k20m1 : Method := { name := "arraycopy", desc := "(Ljava/lang/Object;ILjava/lang/Object;II)V", sig := { parameters := [(.object "java/lang/Object"), .int, (.object "java/lang/Object"), .int, .int], returnType := none }, accessFlags := 265, code := none }
/-- java/lang/System -/
def k20 : Class := { plain "java/lang/System" (some 0) with
  accessFlags := 49
  interfaces := #[]
  cf := some (fileOf pool20 8 #[.nestMembers #[319, 327, 801, 108, 663, 208]] #[{ accessFlags := 2, nameIndex := 5, descriptorIndex := 6, attributes := #[] }, { accessFlags := 265, nameIndex := 727, descriptorIndex := 728, attributes := #[] }] 49 2 #[] #[{ accessFlags := 25, nameIndex := 507, descriptorIndex := 526, attributes := #[] }, { accessFlags := 25, nameIndex := 399, descriptorIndex := 155, attributes := #[] }, { accessFlags := 25, nameIndex := 396, descriptorIndex := 155, attributes := #[] }, { accessFlags := 10, nameIndex := 525, descriptorIndex := 526, attributes := #[] }, { accessFlags := 26, nameIndex := 674, descriptorIndex := 12, attributes := #[] }, { accessFlags := 26, nameIndex := 677, descriptorIndex := 12, attributes := #[] }, { accessFlags := 10, nameIndex := 11, descriptorIndex := 12, attributes := #[] }, { accessFlags := 74, nameIndex := 175, descriptorIndex := 176, attributes := #[] }, { accessFlags := 10, nameIndex := 491, descriptorIndex := 222, attributes := #[] }, { accessFlags := 74, nameIndex := 29, descriptorIndex := 30, attributes := #[] }, { accessFlags := 74, nameIndex := 154, descriptorIndex := 155, attributes := #[] }, { accessFlags := 10, nameIndex := 217, descriptorIndex := 218, attributes := #[] }, { accessFlags := 10, nameIndex := 221, descriptorIndex := 222, attributes := #[] }, { accessFlags := 8, nameIndex := 562, descriptorIndex := 563, attributes := #[] }])
  fields := #[{ name := "in", type := (.object "java/io/InputStream"), accessFlags := 25, slot := 0, constantValue := 0 }, { name := "out", type := (.object "java/io/PrintStream"), accessFlags := 25, slot := 1, constantValue := 0 }, { name := "err", type := (.object "java/io/PrintStream"), accessFlags := 25, slot := 2, constantValue := 0 }, { name := "initialIn", type := (.object "java/io/InputStream"), accessFlags := 10, slot := 3, constantValue := 0 }, { name := "NEVER", type := .int, accessFlags := 26, slot := 4, constantValue := 0 }, { name := "MAYBE", type := .int, accessFlags := 26, slot := 5, constantValue := 0 }, { name := "allowSecurityManager", type := .int, accessFlags := 10, slot := 6, constantValue := 0 }, { name := "security", type := (.object "java/lang/SecurityManager"), accessFlags := 74, slot := 7, constantValue := 0 }, { name := "notSupportedJnuEncoding", type := (.object "java/lang/String"), accessFlags := 10, slot := 8, constantValue := 0 }, { name := "cons", type := (.object "java/io/Console"), accessFlags := 74, slot := 9, constantValue := 0 }, { name := "initialErrStream", type := (.object "java/io/PrintStream"), accessFlags := 74, slot := 10, constantValue := 0 }, { name := "props", type := (.object "java/util/Properties"), accessFlags := 10, slot := 11, constantValue := 0 }, { name := "lineSeparator", type := (.object "java/lang/String"), accessFlags := 10, slot := 12, constantValue := 0 }, { name := "bootLayer", type := (.object "java/lang/ModuleLayer"), accessFlags := 8, slot := 13, constantValue := 0 }]
  methods := #[k20m0, k20m1]
  instanceTypes := #[]
  staticTypes := #[(.object "java/io/InputStream"), (.object "java/io/PrintStream"), (.object "java/io/PrintStream"), (.object "java/io/InputStream"), .int, .int, .int, (.object "java/lang/SecurityManager"), (.object "java/lang/String"), (.object "java/io/Console"), (.object "java/io/PrintStream"), (.object "java/util/Properties"), (.object "java/lang/String"), (.object "java/lang/ModuleLayer")]
  resolved := Array.replicate 834 none
  statics := none }

def pool21 : Array CpInfo := pool [(2, .class_ 4), (1, u "java/lang/Object"), (0, u "<init>"), (0, u "()V"), (7, .class_ 16), (1, u "java/util/Arrays"), (57, .class_ 76), (1, u "java/util/Arrays$NaturalOrder"), (36, .class_ 115), (1, u "java/util/Arrays$LegacyMergeSort"), (1, u "Z"), (21, u "copyOfRange"), (10, .methodref 151 152), (0, .class_ 153), (0, .nameAndType 154 155), (0, u "java/lang/System"), (0, u "arraycopy"), (0, u "(Ljava/lang/Object;ILjava/lang/Object;II)V"), (148, .methodref 305 306), (0, .class_ 307), (0, .nameAndType 308 309), (0, u "java/lang/Math"), (0, u "min"), (0, u "(II)I"), (29, .methodref 14 340), (0, .nameAndType 341 342), (0, u "copyOfRangeByte"), (0, u "([BII)[B"), (0, .methodref 14 344), (0, .nameAndType 345 346), (0, u "checkLength"), (0, u "(II)V"), (28, .class_ 376), (0, u "java/util/Arrays$ArrayList"), (68, u "$assertionsDisabled"), (269, u "MIN_ARRAY_SORT_GRAN"), (0, u "I"), (2, u "INSERTIONSORT_THRESHOLD"), (255, .class_ 976), (0, u "java/util/Arrays$ArrayItr")] 52

def k21m0 : Method := { name := "<init>", desc := "()V", sig := { parameters := [], returnType := none }, accessFlags := 2, code := none }
def k21c1 : Code := { maxStack := 4, maxLocals := 2, code := jdk_65_method_131_code, exceptionTable := #[], attributes := #[] }
def k21m1 : Method := { name := "checkLength", desc := "(II)V", sig := { parameters := [.int, .int], returnType := none }, accessFlags := 10, code := some k21c1 }
def k21c2 : Code := { maxStack := 3, maxLocals := 3, code := jdk_65_method_132_code, exceptionTable := #[], attributes := #[] }
def k21m2 : Method := { name := "copyOfRange", desc := "([BII)[B", sig := { parameters := [(.array .byte), .int, .int], returnType := some (.array .byte) }, accessFlags := 9, code := some k21c2 }
def k21c3 : Code := { maxStack := 6, maxLocals := 5, code := jdk_65_method_133_code, exceptionTable := #[], attributes := #[] }
def k21m3 : Method := { name := "copyOfRangeByte", desc := "([BII)[B", sig := { parameters := [(.array .byte), .int, .int], returnType := some (.array .byte) }, accessFlags := 10, code := some k21c3 }
/-- java/util/Arrays -/
def k21 : Class := { plain "java/util/Arrays" (some 0) with
  accessFlags := 49
  interfaces := #[]
  cf := some (fileOf pool21 14 #[.nestMembers #[975, 375, 113, 74]] #[{ accessFlags := 2, nameIndex := 5, descriptorIndex := 6, attributes := #[] }, { accessFlags := 10, nameIndex := 345, descriptorIndex := 346, attributes := #[] }, { accessFlags := 9, nameIndex := 139, descriptorIndex := 342, attributes := #[] }, { accessFlags := 10, nameIndex := 341, descriptorIndex := 342, attributes := #[] }] 49 2 #[] #[{ accessFlags := 26, nameIndex := 715, descriptorIndex := 716, attributes := #[] }, { accessFlags := 26, nameIndex := 719, descriptorIndex := 716, attributes := #[] }, { accessFlags := 4120, nameIndex := 445, descriptorIndex := 117, attributes := #[] }])
  fields := #[{ name := "MIN_ARRAY_SORT_GRAN", type := .int, accessFlags := 26, slot := 0, constantValue := 0 }, { name := "INSERTIONSORT_THRESHOLD", type := .int, accessFlags := 26, slot := 1, constantValue := 0 }, { name := "$assertionsDisabled", type := .boolean, accessFlags := 4120, slot := 2, constantValue := 0 }]
  methods := #[k21m0, k21m1, k21m2, k21m3]
  instanceTypes := #[]
  staticTypes := #[.int, .int, .boolean]
  resolved := Array.replicate 1029 none
  statics := none }

def pool22 : Array CpInfo := pool [(1, .class_ 2), (0, u "java/lang/Math"), (1, .class_ 6), (1, u "java/lang/Object"), (0, u "<init>"), (0, u "()V"), (89, .class_ 100), (1, u "java/lang/Math$RandomNumberGeneratorHolder"), (71, u "negativeZeroFloatBits"), (0, u "J"), (2, u "negativeZeroDoubleBits"), (24, u "min"), (43, u "$assertionsDisabled"), (0, u "Z"), (88, u "(II)I"), (2, u "twoToTheDoubleScaleDown"), (0, u "D"), (4, u "twoToTheDoubleScaleUp"), (9, u "E"), (3, u "PI"), (2, u "TAU"), (2, u "DEGREES_TO_RADIANS"), (0, u "RADIANS_TO_DEGREES")] 94

def k22m0 : Method := { name := "<init>", desc := "()V", sig := { parameters := [], returnType := none }, accessFlags := 2, code := none }
def k22c1 : Code := { maxStack := 2, maxLocals := 2, code := jdk_29_method_69_code, exceptionTable := #[], attributes := #[] }
def k22m1 : Method := { name := "min", desc := "(II)I", sig := { parameters := [.int, .int], returnType := some .int }, accessFlags := 9, code := some k22c1 }
/-- java/lang/Math -/
def k22 : Class := { plain "java/lang/Math" (some 0) with
  accessFlags := 49
  interfaces := #[]
  cf := some (fileOf pool22 1 #[.nestMembers #[98]] #[{ accessFlags := 2, nameIndex := 7, descriptorIndex := 8, attributes := #[] }, { accessFlags := 9, nameIndex := 201, descriptorIndex := 335, attributes := #[] }] 49 4 #[] #[{ accessFlags := 25, nameIndex := 354, descriptorIndex := 339, attributes := #[] }, { accessFlags := 25, nameIndex := 358, descriptorIndex := 339, attributes := #[] }, { accessFlags := 25, nameIndex := 361, descriptorIndex := 339, attributes := #[] }, { accessFlags := 26, nameIndex := 364, descriptorIndex := 339, attributes := #[] }, { accessFlags := 26, nameIndex := 365, descriptorIndex := 339, attributes := #[] }, { accessFlags := 26, nameIndex := 172, descriptorIndex := 173, attributes := #[] }, { accessFlags := 26, nameIndex := 176, descriptorIndex := 173, attributes := #[] }, { accessFlags := 8, nameIndex := 344, descriptorIndex := 339, attributes := #[] }, { accessFlags := 8, nameIndex := 338, descriptorIndex := 339, attributes := #[] }, { accessFlags := 4120, nameIndex := 245, descriptorIndex := 246, attributes := #[] }])
  fields := #[{ name := "E", type := .double, accessFlags := 25, slot := 0, constantValue := 0 }, { name := "PI", type := .double, accessFlags := 25, slot := 1, constantValue := 0 }, { name := "TAU", type := .double, accessFlags := 25, slot := 2, constantValue := 0 }, { name := "DEGREES_TO_RADIANS", type := .double, accessFlags := 26, slot := 3, constantValue := 0 }, { name := "RADIANS_TO_DEGREES", type := .double, accessFlags := 26, slot := 4, constantValue := 0 }, { name := "negativeZeroFloatBits", type := .long, accessFlags := 26, slot := 5, constantValue := 0 }, { name := "negativeZeroDoubleBits", type := .long, accessFlags := 26, slot := 6, constantValue := 0 }, { name := "twoToTheDoubleScaleUp", type := .double, accessFlags := 8, slot := 7, constantValue := 0 }, { name := "twoToTheDoubleScaleDown", type := .double, accessFlags := 8, slot := 8, constantValue := 0 }, { name := "$assertionsDisabled", type := .boolean, accessFlags := 4120, slot := 9, constantValue := 0 }]
  methods := #[k22m0, k22m1]
  instanceTypes := #[]
  staticTypes := #[.double, .double, .double, .double, .double, .long, .long, .double, .double, .boolean]
  resolved := Array.replicate 460 none
  statics := none }

def pool23 : Array CpInfo := pool [(2, .class_ 4), (1, u "java/lang/Object"), (0, u "<init>"), (0, u "()V"), (17, .class_ 26), (1, u "jdk/internal/util/Preconditions"), (28, .class_ 56), (0, u "jdk/internal/util/Preconditions$4"), (57, .class_ 115), (0, u "jdk/internal/util/Preconditions$1"), (7, u "SIOOBE_FORMATTER"), (0, u "Ljava/util/function/BiFunction;"), (0, .class_ 126), (0, u "jdk/internal/util/Preconditions$2"), (3, u "AIOOBE_FORMATTER"), (0, .class_ 132), (0, u "jdk/internal/util/Preconditions$3"), (3, u "IOOBE_FORMATTER")] 57

def k23m0 : Method := { name := "<init>", desc := "()V", sig := { parameters := [], returnType := none }, accessFlags := 1, code := none }
/-- jdk/internal/util/Preconditions -/
def k23 : Class := { plain "jdk/internal/util/Preconditions" (some 0) with
  accessFlags := 33
  interfaces := #[]
  cf := some (fileOf pool23 24 #[.nestMembers #[55, 131, 125, 114]] #[{ accessFlags := 1, nameIndex := 5, descriptorIndex := 6, attributes := #[] }] 33 2 #[] #[{ accessFlags := 25, nameIndex := 123, descriptorIndex := 124, attributes := #[] }, { accessFlags := 25, nameIndex := 130, descriptorIndex := 124, attributes := #[] }, { accessFlags := 25, nameIndex := 136, descriptorIndex := 124, attributes := #[] }])
  fields := #[{ name := "SIOOBE_FORMATTER", type := (.object "java/util/function/BiFunction"), accessFlags := 25, slot := 0, constantValue := 0 }, { name := "AIOOBE_FORMATTER", type := (.object "java/util/function/BiFunction"), accessFlags := 25, slot := 1, constantValue := 0 }, { name := "IOOBE_FORMATTER", type := (.object "java/util/function/BiFunction"), accessFlags := 25, slot := 2, constantValue := 0 }]
  methods := #[k23m0]
  instanceTypes := #[]
  staticTypes := #[(.object "java/util/function/BiFunction"), (.object "java/util/function/BiFunction"), (.object "java/util/function/BiFunction")]
  resolved := Array.replicate 194 none
  statics := some 1 }

def pool24 : Array CpInfo := pool [(9, u "<init>"), (6, .class_ 18), (1, u "java/lang/Object"), (0, u "()V"), (1, .class_ 23), (1, u "jdk/internal/util/ArraysSupport"), (0, u "LOG2_ARRAY_LONG_INDEX_SCALE"), (0, u "I"), (2, u "U"), (0, u "Ljdk/internal/misc/Unsafe;"), (8, u "BIG_ENDIAN"), (0, u "Z"), (8, u "LOG2_BYTE_BIT_SIZE"), (4, u "LOG2_ARRAY_INT_INDEX_SCALE"), (54, u "JLA"), (0, u "Ljdk/internal/access/JavaLangAccess;"), (11, u "LOG2_ARRAY_BOOLEAN_INDEX_SCALE"), (9, u "LOG2_ARRAY_BYTE_INDEX_SCALE"), (5, u "LOG2_ARRAY_CHAR_INDEX_SCALE"), (5, u "LOG2_ARRAY_SHORT_INDEX_SCALE"), (18, u "LOG2_ARRAY_FLOAT_INDEX_SCALE"), (24, u "LOG2_ARRAY_DOUBLE_INDEX_SCALE"), (89, u "T_BOOLEAN"), (2, u "T_CHAR"), (1, u "T_FLOAT"), (1, u "T_DOUBLE"), (1, u "T_BYTE"), (1, u "T_SHORT"), (1, u "T_INT"), (1, u "T_LONG"), (1, u "SOFT_MAX_ARRAY_LENGTH")] 83

def k24m0 : Method := { name := "<init>", desc := "()V", sig := { parameters := [], returnType := none }, accessFlags := 2, code := none }
/-- jdk/internal/util/ArraysSupport -/
def k24 : Class := { plain "jdk/internal/util/ArraysSupport" (some 0) with
  accessFlags := 33
  interfaces := #[]
  cf := some (fileOf pool24 21 #[] #[{ accessFlags := 2, nameIndex := 9, descriptorIndex := 19, attributes := #[] }] 33 16 #[] #[{ accessFlags := 24, nameIndex := 28, descriptorIndex := 29, attributes := #[] }, { accessFlags := 26, nameIndex := 38, descriptorIndex := 39, attributes := #[] }, { accessFlags := 25, nameIndex := 121, descriptorIndex := 25, attributes := #[] }, { accessFlags := 25, nameIndex := 131, descriptorIndex := 25, attributes := #[] }, { accessFlags := 25, nameIndex := 137, descriptorIndex := 25, attributes := #[] }, { accessFlags := 25, nameIndex := 143, descriptorIndex := 25, attributes := #[] }, { accessFlags := 25, nameIndex := 53, descriptorIndex := 25, attributes := #[] }, { accessFlags := 25, nameIndex := 24, descriptorIndex := 25, attributes := #[] }, { accessFlags := 25, nameIndex := 162, descriptorIndex := 25, attributes := #[] }, { accessFlags := 25, nameIndex := 187, descriptorIndex := 25, attributes := #[] }, { accessFlags := 26, nameIndex := 48, descriptorIndex := 25, attributes := #[] }, { accessFlags := 25, nameIndex := 277, descriptorIndex := 25, attributes := #[] }, { accessFlags := 25, nameIndex := 280, descriptorIndex := 25, attributes := #[] }, { accessFlags := 25, nameIndex := 282, descriptorIndex := 25, attributes := #[] }, { accessFlags := 25, nameIndex := 284, descriptorIndex := 25, attributes := #[] }, { accessFlags := 25, nameIndex := 286, descriptorIndex := 25, attributes := #[] }, { accessFlags := 25, nameIndex := 288, descriptorIndex := 25, attributes := #[] }, { accessFlags := 25, nameIndex := 290, descriptorIndex := 25, attributes := #[] }, { accessFlags := 25, nameIndex := 292, descriptorIndex := 25, attributes := #[] }, { accessFlags := 26, nameIndex := 108, descriptorIndex := 109, attributes := #[] }, { accessFlags := 25, nameIndex := 294, descriptorIndex := 25, attributes := #[] }])
  fields := #[{ name := "U", type := (.object "jdk/internal/misc/Unsafe"), accessFlags := 24, slot := 0, constantValue := 0 }, { name := "BIG_ENDIAN", type := .boolean, accessFlags := 26, slot := 1, constantValue := 0 }, { name := "LOG2_ARRAY_BOOLEAN_INDEX_SCALE", type := .int, accessFlags := 25, slot := 2, constantValue := 0 }, { name := "LOG2_ARRAY_BYTE_INDEX_SCALE", type := .int, accessFlags := 25, slot := 3, constantValue := 0 }, { name := "LOG2_ARRAY_CHAR_INDEX_SCALE", type := .int, accessFlags := 25, slot := 4, constantValue := 0 }, { name := "LOG2_ARRAY_SHORT_INDEX_SCALE", type := .int, accessFlags := 25, slot := 5, constantValue := 0 }, { name := "LOG2_ARRAY_INT_INDEX_SCALE", type := .int, accessFlags := 25, slot := 6, constantValue := 0 }, { name := "LOG2_ARRAY_LONG_INDEX_SCALE", type := .int, accessFlags := 25, slot := 7, constantValue := 0 }, { name := "LOG2_ARRAY_FLOAT_INDEX_SCALE", type := .int, accessFlags := 25, slot := 8, constantValue := 0 }, { name := "LOG2_ARRAY_DOUBLE_INDEX_SCALE", type := .int, accessFlags := 25, slot := 9, constantValue := 0 }, { name := "LOG2_BYTE_BIT_SIZE", type := .int, accessFlags := 26, slot := 10, constantValue := 0 }, { name := "T_BOOLEAN", type := .int, accessFlags := 25, slot := 11, constantValue := 0 }, { name := "T_CHAR", type := .int, accessFlags := 25, slot := 12, constantValue := 0 }, { name := "T_FLOAT", type := .int, accessFlags := 25, slot := 13, constantValue := 0 }, { name := "T_DOUBLE", type := .int, accessFlags := 25, slot := 14, constantValue := 0 }, { name := "T_BYTE", type := .int, accessFlags := 25, slot := 15, constantValue := 0 }, { name := "T_SHORT", type := .int, accessFlags := 25, slot := 16, constantValue := 0 }, { name := "T_INT", type := .int, accessFlags := 25, slot := 17, constantValue := 0 }, { name := "T_LONG", type := .int, accessFlags := 25, slot := 18, constantValue := 0 }, { name := "JLA", type := (.object "jdk/internal/access/JavaLangAccess"), accessFlags := 26, slot := 19, constantValue := 0 }, { name := "SOFT_MAX_ARRAY_LENGTH", type := .int, accessFlags := 25, slot := 20, constantValue := 0 }]
  methods := #[k24m0]
  instanceTypes := #[]
  staticTypes := #[(.object "jdk/internal/misc/Unsafe"), .boolean, .int, .int, .int, .int, .int, .int, .int, .int, .int, .int, .int, .int, .int, .int, .int, .int, .int, (.object "jdk/internal/access/JavaLangAccess"), .int]
  resolved := Array.replicate 378 none
  statics := none }

/-- the primitive byte -/
def k25 : Class := { plain "byte" none with kind := .primitive 'B', accessFlags := 0x411 }
/-- [B -/
def k26 : Class := { plain "[B" (some 0) with kind := .array 25 .byte, interfaces := #[13, 2], accessFlags := 1041 }

/-- the primitive char -/
def k27 : Class := { plain "char" none with kind := .primitive 'C', accessFlags := 0x411 }
/-- [C -/
def k28 : Class := { plain "[C" (some 0) with kind := .array 27 .char, interfaces := #[13, 2], accessFlags := 1041 }

/-- the primitive int -/
def k29 : Class := { plain "int" none with kind := .primitive 'I', accessFlags := 0x411 }
/-- [I -/
def k30 : Class := { plain "[I" (some 0) with kind := .array 29 .int, interfaces := #[13, 2], accessFlags := 1041 }

def heap : Heap := #[{ cls := 7, slots := #[.long 0, .int 1, .null, .int 0, .null, .int 0, .int 0], vm := .statics 7 },
  { cls := 23, slots := #[.null, .null, .null], vm := .statics 23 }]
def classes : Array Class := #[k0, k1, k2, k3, k4, k5, k6, k7, k8, k9, k10, k11, k12, k13, k14, k15, k16, k17, k18, k19, k20, k21, k22, k23, k24, k25, k26, k27, k28, k29, k30]
def interned : List (Array UInt16 × Addr) := []
def slotsUsed : Nat := 10
def theMethod : MethodId := ⟨1, 1⟩
def args0 : Array Value := #[.int 5, .int 5, .int 5, .int 5]
def aboutOver (below : List Frame) : State where
  vm := { classes := classes, interned := interned.toArray }
  heap := heap
  slotsUsed := slotsUsed
  threads := #[{ frames := .invoking theMethod args0 :: below }]
def below0 : List Frame := [.native { method := ⟨0, 0⟩, args := #[] }]
def about1 : State := aboutOver below0
def p0 : Program := .bare "" "" ""
def e0 : Env := launch0.env 0 0 0
theorem w_frames : about1.frames = Frame.invoking theMethod args0 :: below0 := rfl
set_option maxRecDepth 65536 in
theorem w_args : argsFit about1.vm theMethod args0 = true := by decide +kernel
set_option maxRecDepth 65536 in
theorem w_heap : heapFits about1 = true := by decide +kernel
set_option maxRecDepth 65536 in
theorem w_runnable : about1.curStatus? = some .runnable := by decide +kernel
set_option maxRecDepth 65536 in
theorem w_alone : about1.alone = true := by decide +kernel
set_option maxRecDepth 65536 in
theorem w_named : about1.methodNamed? x = some theMethod := by decide +kernel
set_option maxRecDepth 65536 in
theorem w_hears : about1.hears theMethod below0 = true := by decide +kernel
set_option maxRecDepth 65536 in
theorem w_ripe : about1.ripe theMethod args0 below0 = true := by decide +kernel
theorem w_running : about1.status = .running := rfl
set_option maxRecDepth 65536 in
theorem w_room : about1.hasRoom e0.platform room_1 = true :=
  launch0.hasRoom_least _ room_1 (by decide +kernel) (by decide +kernel) (by decide +kernel) (by decide +kernel) (by decide +kernel) (by decide +kernel)
theorem allAtoms_all (ts : List Jvm.Cond) (a : Array Jvm.Value) (st : Jvm.State) : (allAtoms ts).before a st = ts.all (fun c => c.before a st) := by
  induction ts with
  | nil => rfl
  | cons c t ih =>
    show (Jvm.Cond.and c (allAtoms t)).before a st = _
    rw [Jvm.Cond.before_and, ih, List.all_cons]
def words1 : List Jvm.Cond := Jvm.Cond.code x code maxLocals ret :: tables_1
/-- a 'code' word, met by the world's own term for the bytes: nothing is compared byte by byte -/
theorem code_word {y : MethodName} {bytes : ByteArray} {mx : Nat} {rt : Option FieldType} {a : Array Value} {s : State} {m : MethodId} {meth : Method} {c : Code} (h1 : s.methodNamed? y = some m) (h2 : s.vm.method? m = some meth) (h3 : meth.code = some c) (h4 : c.code = bytes)
    (h5 : (c.maxLocals == mx && c.exceptionTable.isEmpty && decide (c.maxStack ≤ mostOperands) && decide (meth.sig.returnType = rt) && !meth.locks && decide (parseMethodDescriptor y.desc = some meth.sig)) = true) : (Jvm.Cond.code y bytes mx rt).before a s = true := by
  simp only [Bool.and_eq_true, beq_iff_eq, Bool.not_eq_true', decide_eq_true_eq] at h5
  obtain ⟨⟨⟨⟨⟨g1, g2⟩, g3⟩, g4⟩, g5⟩, g6⟩ := h5
  simp [Cond.before, Cond.holds, Cond.value, h1, h2, h3, h4, g1, g2, g3, g4, g5, g6]
def isCode : Jvm.Cond → Bool
  | .code _ _ _ _ => true
  | _ => false
theorem all_split {L : List Jvm.Cond} {P : Jvm.Cond → Bool} (h1 : L.all (fun c => isCode c || P c) = true) (h2 : ∀ c ∈ L.filter isCode, P c = true) : L.all P = true := by
  refine List.all_eq_true.mpr fun c hc => ?_
  have h := List.all_eq_true.mp h1 c hc
  rcases Bool.eq_false_or_eq_true (isCode c) with hi | hi
  · exact h2 c (List.mem_filter.mpr ⟨hc, hi⟩)
  · simpa [hi] using h
set_option maxRecDepth 65536 in
theorem w_c0 : (Jvm.Cond.code x code maxLocals ret).before args0 about1 = true := code_word (m := ⟨1, 1⟩) (meth := k1m1) (c := k1c1) (by decide +kernel) rfl rfl rfl (by decide +kernel)
set_option maxRecDepth 65536 in
theorem w_c1 : (Jvm.Cond.code ({ cls := "java/lang/String", name := "<init>", desc := "([C)V" } : Jvm.MethodName) jdk_42_method_3_code (2 : Nat) (Option.none : Option Jvm.ClassFile.FieldType)).before args0 about1 = true := code_word (m := ⟨7, 1⟩) (meth := k7m1) (c := k7c1) (by decide +kernel) rfl rfl rfl (by decide +kernel)
set_option maxRecDepth 65536 in
theorem w_c2 : (Jvm.Cond.code ({ cls := "java/lang/String", name := "<init>", desc := "([CIILjava/lang/Void;)V" } : Jvm.MethodName) jdk_42_method_149_code (6 : Nat) (Option.none : Option Jvm.ClassFile.FieldType)).before args0 about1 = true := code_word (m := ⟨7, 7⟩) (meth := k7m7) (c := k7c7) (by decide +kernel) rfl rfl rfl (by decide +kernel)
set_option maxRecDepth 65536 in
theorem w_c3 : (Jvm.Cond.code ({ cls := "java/lang/Object", name := "<init>", desc := "()V" } : Jvm.MethodName) object_method_1_code (1 : Nat) (Option.none : Option Jvm.ClassFile.FieldType)).before args0 about1 = true := code_word (m := ⟨0, 0⟩) (meth := k0m0) (c := k0c0) (by decide +kernel) rfl rfl rfl (by decide +kernel)
set_option maxRecDepth 65536 in
theorem w_c4 : (Jvm.Cond.code ({ cls := "java/lang/StringUTF16", name := "compress", desc := "([CII)[B" } : Jvm.MethodName) jdk_52_method_16_code (6 : Nat) (Option.some (Jvm.ClassFile.FieldType.array Jvm.ClassFile.FieldType.byte))).before args0 about1 = true := code_word (m := ⟨8, 2⟩) (meth := k8m2) (c := k8c2) (by decide +kernel) rfl rfl rfl (by decide +kernel)
set_option maxRecDepth 65536 in
theorem w_c5 : (Jvm.Cond.code ({ cls := "java/lang/StringUTF16", name := "compress", desc := "([CI[BII)I" } : Jvm.MethodName) jdk_52_method_21_code (7 : Nat) (Option.some Jvm.ClassFile.FieldType.int)).before args0 about1 = true := code_word (m := ⟨8, 3⟩) (meth := k8m3) (c := k8c3) (by decide +kernel) rfl rfl rfl (by decide +kernel)
set_option maxRecDepth 65536 in
theorem w_c6 : (Jvm.Cond.code ({ cls := "java/lang/StringUTF16", name := "coderFromArrayLen", desc := "([BI)B" } : Jvm.MethodName) jdk_52_method_15_code (2 : Nat) (Option.some Jvm.ClassFile.FieldType.byte)).before args0 about1 = true := code_word (m := ⟨8, 1⟩) (meth := k8m1) (c := k8c1) (by decide +kernel) rfl rfl rfl (by decide +kernel)
set_option maxRecDepth 65536 in
theorem w_c7 : (Jvm.Cond.code ({ cls := "java/lang/String", name := "valueOf", desc := "(C)Ljava/lang/String;" } : Jvm.MethodName) jdk_42_method_139_code (1 : Nat) (Option.some (Jvm.ClassFile.FieldType.object "java/lang/String"))).before args0 about1 = true := code_word (m := ⟨7, 5⟩) (meth := k7m5) (c := k7c5) (by decide +kernel) rfl rfl rfl (by decide +kernel)
set_option maxRecDepth 65536 in
theorem w_c8 : (Jvm.Cond.code ({ cls := "java/lang/StringLatin1", name := "canEncode", desc := "(C)Z" } : Jvm.MethodName) jdk_43_method_3_code (1 : Nat) (Option.some Jvm.ClassFile.FieldType.boolean)).before args0 about1 = true := code_word (m := ⟨9, 1⟩) (meth := k9m1) (c := k9c1) (by decide +kernel) rfl rfl rfl (by decide +kernel)
set_option maxRecDepth 65536 in
theorem w_c9 : (Jvm.Cond.code ({ cls := "java/lang/StringLatin1", name := "toBytes", desc := "(C)[B" } : Jvm.MethodName) jdk_43_method_46_code (1 : Nat) (Option.some (Jvm.ClassFile.FieldType.array Jvm.ClassFile.FieldType.byte))).before args0 about1 = true := code_word (m := ⟨9, 3⟩) (meth := k9m3) (c := k9c3) (by decide +kernel) rfl rfl rfl (by decide +kernel)
set_option maxRecDepth 65536 in
theorem w_c10 : (Jvm.Cond.code ({ cls := "java/lang/String", name := "<init>", desc := "([BB)V" } : Jvm.MethodName) jdk_42_method_151_code (3 : Nat) (Option.none : Option Jvm.ClassFile.FieldType)).before args0 about1 = true := code_word (m := ⟨7, 9⟩) (meth := k7m9) (c := k7c9) (by decide +kernel) rfl rfl rfl (by decide +kernel)
set_option maxRecDepth 65536 in
theorem w_c11 : (Jvm.Cond.code ({ cls := "com/example/forseti/forseti/model/ClassFigures", name := "alikeForEvery", desc := "(Ljava/lang/String;Ljava/lang/String;Ljava/lang/String;)Lcom/example/forseti/forseti/model/ClassFigures;" } : Jvm.MethodName) prog_50_method_5_code (3 : Nat) (Option.some (Jvm.ClassFile.FieldType.object "com/example/forseti/forseti/model/ClassFigures"))).before args0 about1 = true := code_word (m := ⟨10, 1⟩) (meth := k10m1) (c := k10c1) (by decide +kernel) rfl rfl rfl (by decide +kernel)
set_option maxRecDepth 65536 in
theorem w_c12 : (Jvm.Cond.code ({ cls := "com/example/forseti/forseti/model/ClassFigures", name := "<init>", desc := "(Ljava/lang/String;Ljava/lang/String;Ljava/lang/String;Ljava/lang/String;)V" } : Jvm.MethodName) prog_50_method_4_code (5 : Nat) (Option.none : Option Jvm.ClassFile.FieldType)).before args0 about1 = true := code_word (m := ⟨10, 0⟩) (meth := k10m0) (c := k10c0) (by decide +kernel) rfl rfl rfl (by decide +kernel)
set_option maxRecDepth 65536 in
theorem w_c13 : (Jvm.Cond.code ({ cls := "java/util/LinkedHashMap", name := "<init>", desc := "()V" } : Jvm.MethodName) jdk_94_method_16_code (1 : Nat) (Option.none : Option Jvm.ClassFile.FieldType)).before args0 about1 = true := code_word (m := ⟨16, 0⟩) (meth := k16m0) (c := k16c0) (by decide +kernel) rfl rfl rfl (by decide +kernel)
set_option maxRecDepth 65536 in
theorem w_c14 : (Jvm.Cond.code ({ cls := "java/util/HashMap", name := "<init>", desc := "()V" } : Jvm.MethodName) jdk_69_method_7_code (1 : Nat) (Option.none : Option Jvm.ClassFile.FieldType)).before args0 about1 = true := code_word (m := ⟨14, 0⟩) (meth := k14m0) (c := k14c0) (by decide +kernel) rfl rfl rfl (by decide +kernel)
set_option maxRecDepth 65536 in
theorem w_c15 : (Jvm.Cond.code ({ cls := "java/util/AbstractMap", name := "<init>", desc := "()V" } : Jvm.MethodName) jdk_71_method_1_code (1 : Nat) (Option.none : Option Jvm.ClassFile.FieldType)).before args0 about1 = true := code_word (m := ⟨12, 0⟩) (meth := k12m0) (c := k12c0) (by decide +kernel) rfl rfl rfl (by decide +kernel)
set_option maxRecDepth 65536 in
theorem w_c16 : (Jvm.Cond.code ({ cls := "com/example/forseti/forseti/model/ClassFigures", name := "kind", desc := "()Ljava/lang/String;" } : Jvm.MethodName) prog_50_method_6_code (1 : Nat) (Option.some (Jvm.ClassFile.FieldType.object "java/lang/String"))).before args0 about1 = true := code_word (m := ⟨10, 2⟩) (meth := k10m2) (c := k10c2) (by decide +kernel) rfl rfl rfl (by decide +kernel)
set_option maxRecDepth 65536 in
theorem w_c17 : (Jvm.Cond.code ({ cls := "java/lang/String", name := "equals", desc := "(Ljava/lang/Object;)Z" } : Jvm.MethodName) jdk_42_method_66_code (3 : Nat) (Option.some Jvm.ClassFile.FieldType.boolean)).before args0 about1 = true := code_word (m := ⟨7, 4⟩) (meth := k7m4) (c := k7c4) (by decide +kernel) rfl rfl rfl (by decide +kernel)
set_option maxRecDepth 65536 in
theorem w_c18 : (Jvm.Cond.code ({ cls := "java/lang/StringLatin1", name := "equals", desc := "([B[B)Z" } : Jvm.MethodName) jdk_43_method_13_code (3 : Nat) (Option.some Jvm.ClassFile.FieldType.boolean)).before args0 about1 = true := code_word (m := ⟨9, 2⟩) (meth := k9m2) (c := k9c2) (by decide +kernel) rfl rfl rfl (by decide +kernel)
set_option maxRecDepth 65536 in
theorem w_c19 : (Jvm.Cond.code ({ cls := "com/example/forseti/forseti/model/ClassFigures", name := "aKind", desc := "()Ljava/lang/String;" } : Jvm.MethodName) prog_50_method_7_code (1 : Nat) (Option.some (Jvm.ClassFile.FieldType.object "java/lang/String"))).before args0 about1 = true := code_word (m := ⟨10, 3⟩) (meth := k10m3) (c := k10c3) (by decide +kernel) rfl rfl rfl (by decide +kernel)
set_option maxRecDepth 65536 in
theorem w_c20 : (Jvm.Cond.code ({ cls := "java/lang/StringBuilder", name := "<init>", desc := "()V" } : Jvm.MethodName) jdk_67_method_1_code (1 : Nat) (Option.none : Option Jvm.ClassFile.FieldType)).before args0 about1 = true := code_word (m := ⟨19, 0⟩) (meth := k19m0) (c := k19c0) (by decide +kernel) rfl rfl rfl (by decide +kernel)
set_option maxRecDepth 65536 in
theorem w_c21 : (Jvm.Cond.code ({ cls := "java/lang/AbstractStringBuilder", name := "<init>", desc := "(I)V" } : Jvm.MethodName) jdk_68_method_2_code (2 : Nat) (Option.none : Option Jvm.ClassFile.FieldType)).before args0 about1 = true := code_word (m := ⟨18, 1⟩) (meth := k18m1) (c := k18c1) (by decide +kernel) rfl rfl rfl (by decide +kernel)
set_option maxRecDepth 65536 in
theorem w_c22 : (Jvm.Cond.code ({ cls := "java/lang/StringBuilder", name := "append", desc := "(Ljava/lang/String;)Ljava/lang/StringBuilder;" } : Jvm.MethodName) jdk_67_method_7_code (2 : Nat) (Option.some (Jvm.ClassFile.FieldType.object "java/lang/StringBuilder"))).before args0 about1 = true := code_word (m := ⟨19, 1⟩) (meth := k19m1) (c := k19c1) (by decide +kernel) rfl rfl rfl (by decide +kernel)
set_option maxRecDepth 65536 in
theorem w_c23 : (Jvm.Cond.code ({ cls := "java/lang/AbstractStringBuilder", name := "append", desc := "(Ljava/lang/String;)Ljava/lang/AbstractStringBuilder;" } : Jvm.MethodName) jdk_68_method_22_code (3 : Nat) (Option.some (Jvm.ClassFile.FieldType.object "java/lang/AbstractStringBuilder"))).before args0 about1 = true := code_word (m := ⟨18, 4⟩) (meth := k18m4) (c := k18c4) (by decide +kernel) rfl rfl rfl (by decide +kernel)
set_option maxRecDepth 65536 in
theorem w_c24 : (Jvm.Cond.code ({ cls := "java/lang/String", name := "length", desc := "()I" } : Jvm.MethodName) jdk_42_method_54_code (1 : Nat) (Option.some Jvm.ClassFile.FieldType.int)).before args0 about1 = true := code_word (m := ⟨7, 3⟩) (meth := k7m3) (c := k7c3) (by decide +kernel) rfl rfl rfl (by decide +kernel)
set_option maxRecDepth 65536 in
theorem w_c25 : (Jvm.Cond.code ({ cls := "java/lang/String", name := "coder", desc := "()B" } : Jvm.MethodName) jdk_42_method_152_code (1 : Nat) (Option.some Jvm.ClassFile.FieldType.byte)).before args0 about1 = true := code_word (m := ⟨7, 10⟩) (meth := k7m10) (c := k7c10) (by decide +kernel) rfl rfl rfl (by decide +kernel)
set_option maxRecDepth 65536 in
theorem w_c26 : (Jvm.Cond.code ({ cls := "java/lang/AbstractStringBuilder", name := "ensureCapacityInternal", desc := "(I)V" } : Jvm.MethodName) jdk_68_method_9_code (3 : Nat) (Option.none : Option Jvm.ClassFile.FieldType)).before args0 about1 = true := code_word (m := ⟨18, 3⟩) (meth := k18m3) (c := k18c3) (by decide +kernel) rfl rfl rfl (by decide +kernel)
set_option maxRecDepth 65536 in
theorem w_c27 : (Jvm.Cond.code ({ cls := "java/lang/AbstractStringBuilder", name := "putStringAt", desc := "(ILjava/lang/String;)V" } : Jvm.MethodName) jdk_68_method_73_code (3 : Nat) (Option.none : Option Jvm.ClassFile.FieldType)).before args0 about1 = true := code_word (m := ⟨18, 8⟩) (meth := k18m8) (c := k18c8) (by decide +kernel) rfl rfl rfl (by decide +kernel)
set_option maxRecDepth 65536 in
theorem w_c28 : (Jvm.Cond.code ({ cls := "java/lang/AbstractStringBuilder", name := "inflateIfNeededFor", desc := "(Ljava/lang/String;)V" } : Jvm.MethodName) jdk_68_method_71_code (2 : Nat) (Option.none : Option Jvm.ClassFile.FieldType)).before args0 about1 = true := code_word (m := ⟨18, 7⟩) (meth := k18m7) (c := k18c7) (by decide +kernel) rfl rfl rfl (by decide +kernel)
set_option maxRecDepth 65536 in
theorem w_c29 : (Jvm.Cond.code ({ cls := "java/lang/String", name := "getBytes", desc := "([BIB)V" } : Jvm.MethodName) jdk_42_method_147_code (4 : Nat) (Option.none : Option Jvm.ClassFile.FieldType)).before args0 about1 = true := code_word (m := ⟨7, 6⟩) (meth := k7m6) (c := k7c6) (by decide +kernel) rfl rfl rfl (by decide +kernel)
set_option maxRecDepth 65536 in
theorem w_c30 : (Jvm.Cond.code ({ cls := "java/lang/StringBuilder", name := "toString", desc := "()Ljava/lang/String;" } : Jvm.MethodName) jdk_67_method_42_code (1 : Nat) (Option.some (Jvm.ClassFile.FieldType.object "java/lang/String"))).before args0 about1 = true := code_word (m := ⟨19, 2⟩) (meth := k19m2) (c := k19c2) (by decide +kernel) rfl rfl rfl (by decide +kernel)
set_option maxRecDepth 65536 in
theorem w_c31 : (Jvm.Cond.code ({ cls := "java/lang/String", name := "<init>", desc := "(Ljava/lang/StringBuilder;)V" } : Jvm.MethodName) jdk_42_method_53_code (2 : Nat) (Option.none : Option Jvm.ClassFile.FieldType)).before args0 about1 = true := code_word (m := ⟨7, 2⟩) (meth := k7m2) (c := k7c2) (by decide +kernel) rfl rfl rfl (by decide +kernel)
set_option maxRecDepth 65536 in
theorem w_c32 : (Jvm.Cond.code ({ cls := "java/lang/String", name := "<init>", desc := "(Ljava/lang/AbstractStringBuilder;Ljava/lang/Void;)V" } : Jvm.MethodName) jdk_42_method_150_code (5 : Nat) (Option.none : Option Jvm.ClassFile.FieldType)).before args0 about1 = true := code_word (m := ⟨7, 8⟩) (meth := k7m8) (c := k7c8) (by decide +kernel) rfl rfl rfl (by decide +kernel)
set_option maxRecDepth 65536 in
theorem w_c33 : (Jvm.Cond.code ({ cls := "java/lang/AbstractStringBuilder", name := "getValue", desc := "()[B" } : Jvm.MethodName) jdk_68_method_64_code (1 : Nat) (Option.some (Jvm.ClassFile.FieldType.array Jvm.ClassFile.FieldType.byte))).before args0 about1 = true := code_word (m := ⟨18, 5⟩) (meth := k18m5) (c := k18c5) (by decide +kernel) rfl rfl rfl (by decide +kernel)
set_option maxRecDepth 65536 in
theorem w_c34 : (Jvm.Cond.code ({ cls := "java/lang/StringBuilder", name := "length", desc := "()I" } : Jvm.MethodName) jdk_67_method_93_code (1 : Nat) (Option.some Jvm.ClassFile.FieldType.int)).before args0 about1 = true := code_word (m := ⟨19, 3⟩) (meth := k19m3) (c := k19c3) (by decide +kernel) rfl rfl rfl (by decide +kernel)
set_option maxRecDepth 65536 in
theorem w_c35 : (Jvm.Cond.code ({ cls := "java/lang/AbstractStringBuilder", name := "length", desc := "()I" } : Jvm.MethodName) jdk_68_method_6_code (1 : Nat) (Option.some Jvm.ClassFile.FieldType.int)).before args0 about1 = true := code_word (m := ⟨18, 2⟩) (meth := k18m2) (c := k18c2) (by decide +kernel) rfl rfl rfl (by decide +kernel)
set_option maxRecDepth 65536 in
theorem w_c36 : (Jvm.Cond.code ({ cls := "java/lang/AbstractStringBuilder", name := "isLatin1", desc := "()Z" } : Jvm.MethodName) jdk_68_method_68_code (1 : Nat) (Option.some Jvm.ClassFile.FieldType.boolean)).before args0 about1 = true := code_word (m := ⟨18, 6⟩) (meth := k18m6) (c := k18c6) (by decide +kernel) rfl rfl rfl (by decide +kernel)
set_option maxRecDepth 65536 in
theorem w_c37 : (Jvm.Cond.code ({ cls := "java/util/Arrays", name := "copyOfRange", desc := "([BII)[B" } : Jvm.MethodName) jdk_65_method_132_code (3 : Nat) (Option.some (Jvm.ClassFile.FieldType.array Jvm.ClassFile.FieldType.byte))).before args0 about1 = true := code_word (m := ⟨21, 2⟩) (meth := k21m2) (c := k21c2) (by decide +kernel) rfl rfl rfl (by decide +kernel)
set_option maxRecDepth 65536 in
theorem w_c38 : (Jvm.Cond.code ({ cls := "java/util/Arrays", name := "copyOfRangeByte", desc := "([BII)[B" } : Jvm.MethodName) jdk_65_method_133_code (5 : Nat) (Option.some (Jvm.ClassFile.FieldType.array Jvm.ClassFile.FieldType.byte))).before args0 about1 = true := code_word (m := ⟨21, 3⟩) (meth := k21m3) (c := k21c3) (by decide +kernel) rfl rfl rfl (by decide +kernel)
set_option maxRecDepth 65536 in
theorem w_c39 : (Jvm.Cond.code ({ cls := "java/util/Arrays", name := "checkLength", desc := "(II)V" } : Jvm.MethodName) jdk_65_method_131_code (2 : Nat) (Option.none : Option Jvm.ClassFile.FieldType)).before args0 about1 = true := code_word (m := ⟨21, 1⟩) (meth := k21m1) (c := k21c1) (by decide +kernel) rfl rfl rfl (by decide +kernel)
set_option maxRecDepth 65536 in
theorem w_c40 : (Jvm.Cond.code ({ cls := "java/lang/Math", name := "min", desc := "(II)I" } : Jvm.MethodName) jdk_29_method_69_code (2 : Nat) (Option.some Jvm.ClassFile.FieldType.int)).before args0 about1 = true := code_word (m := ⟨22, 1⟩) (meth := k22m1) (c := k22c1) (by decide +kernel) rfl rfl rfl (by decide +kernel)
set_option maxRecDepth 65536 in
theorem w_c41 : (Jvm.Cond.code ({ cls := "com/example/forseti/forseti/model/ClassFigures", name := "ownerName", desc := "(Ljava/lang/String;)Ljava/lang/String;" } : Jvm.MethodName) prog_50_method_8_code (2 : Nat) (Option.some (Jvm.ClassFile.FieldType.object "java/lang/String"))).before args0 about1 = true := code_word (m := ⟨10, 4⟩) (meth := k10m4) (c := k10c4) (by decide +kernel) rfl rfl rfl (by decide +kernel)
def codes1 : List Jvm.Cond := [Jvm.Cond.code x code maxLocals ret, Jvm.Cond.code ({ cls := "java/lang/String", name := "<init>", desc := "([C)V" } : Jvm.MethodName) jdk_42_method_3_code (2 : Nat) (Option.none : Option Jvm.ClassFile.FieldType), Jvm.Cond.code ({ cls := "java/lang/String", name := "<init>", desc := "([CIILjava/lang/Void;)V" } : Jvm.MethodName) jdk_42_method_149_code (6 : Nat) (Option.none : Option Jvm.ClassFile.FieldType), Jvm.Cond.code ({ cls := "java/lang/Object", name := "<init>", desc := "()V" } : Jvm.MethodName) object_method_1_code (1 : Nat) (Option.none : Option Jvm.ClassFile.FieldType), Jvm.Cond.code ({ cls := "java/lang/StringUTF16", name := "compress", desc := "([CII)[B" } : Jvm.MethodName) jdk_52_method_16_code (6 : Nat) (Option.some (Jvm.ClassFile.FieldType.array Jvm.ClassFile.FieldType.byte)), Jvm.Cond.code ({ cls := "java/lang/StringUTF16", name := "compress", desc := "([CI[BII)I" } : Jvm.MethodName) jdk_52_method_21_code (7 : Nat) (Option.some Jvm.ClassFile.FieldType.int), Jvm.Cond.code ({ cls := "java/lang/StringUTF16", name := "coderFromArrayLen", desc := "([BI)B" } : Jvm.MethodName) jdk_52_method_15_code (2 : Nat) (Option.some Jvm.ClassFile.FieldType.byte), Jvm.Cond.code ({ cls := "java/lang/String", name := "valueOf", desc := "(C)Ljava/lang/String;" } : Jvm.MethodName) jdk_42_method_139_code (1 : Nat) (Option.some (Jvm.ClassFile.FieldType.object "java/lang/String")), Jvm.Cond.code ({ cls := "java/lang/StringLatin1", name := "canEncode", desc := "(C)Z" } : Jvm.MethodName) jdk_43_method_3_code (1 : Nat) (Option.some Jvm.ClassFile.FieldType.boolean), Jvm.Cond.code ({ cls := "java/lang/StringLatin1", name := "toBytes", desc := "(C)[B" } : Jvm.MethodName) jdk_43_method_46_code (1 : Nat) (Option.some (Jvm.ClassFile.FieldType.array Jvm.ClassFile.FieldType.byte)), Jvm.Cond.code ({ cls := "java/lang/String", name := "<init>", desc := "([BB)V" } : Jvm.MethodName) jdk_42_method_151_code (3 : Nat) (Option.none : Option Jvm.ClassFile.FieldType), Jvm.Cond.code ({ cls := "com/example/forseti/forseti/model/ClassFigures", name := "alikeForEvery", desc := "(Ljava/lang/String;Ljava/lang/String;Ljava/lang/String;)Lcom/example/forseti/forseti/model/ClassFigures;" } : Jvm.MethodName) prog_50_method_5_code (3 : Nat) (Option.some (Jvm.ClassFile.FieldType.object "com/example/forseti/forseti/model/ClassFigures")), Jvm.Cond.code ({ cls := "com/example/forseti/forseti/model/ClassFigures", name := "<init>", desc := "(Ljava/lang/String;Ljava/lang/String;Ljava/lang/String;Ljava/lang/String;)V" } : Jvm.MethodName) prog_50_method_4_code (5 : Nat) (Option.none : Option Jvm.ClassFile.FieldType), Jvm.Cond.code ({ cls := "java/util/LinkedHashMap", name := "<init>", desc := "()V" } : Jvm.MethodName) jdk_94_method_16_code (1 : Nat) (Option.none : Option Jvm.ClassFile.FieldType), Jvm.Cond.code ({ cls := "java/util/HashMap", name := "<init>", desc := "()V" } : Jvm.MethodName) jdk_69_method_7_code (1 : Nat) (Option.none : Option Jvm.ClassFile.FieldType), Jvm.Cond.code ({ cls := "java/util/AbstractMap", name := "<init>", desc := "()V" } : Jvm.MethodName) jdk_71_method_1_code (1 : Nat) (Option.none : Option Jvm.ClassFile.FieldType), Jvm.Cond.code ({ cls := "com/example/forseti/forseti/model/ClassFigures", name := "kind", desc := "()Ljava/lang/String;" } : Jvm.MethodName) prog_50_method_6_code (1 : Nat) (Option.some (Jvm.ClassFile.FieldType.object "java/lang/String")), Jvm.Cond.code ({ cls := "java/lang/String", name := "equals", desc := "(Ljava/lang/Object;)Z" } : Jvm.MethodName) jdk_42_method_66_code (3 : Nat) (Option.some Jvm.ClassFile.FieldType.boolean), Jvm.Cond.code ({ cls := "java/lang/StringLatin1", name := "equals", desc := "([B[B)Z" } : Jvm.MethodName) jdk_43_method_13_code (3 : Nat) (Option.some Jvm.ClassFile.FieldType.boolean), Jvm.Cond.code ({ cls := "com/example/forseti/forseti/model/ClassFigures", name := "aKind", desc := "()Ljava/lang/String;" } : Jvm.MethodName) prog_50_method_7_code (1 : Nat) (Option.some (Jvm.ClassFile.FieldType.object "java/lang/String")), Jvm.Cond.code ({ cls := "java/lang/StringBuilder", name := "<init>", desc := "()V" } : Jvm.MethodName) jdk_67_method_1_code (1 : Nat) (Option.none : Option Jvm.ClassFile.FieldType), Jvm.Cond.code ({ cls := "java/lang/AbstractStringBuilder", name := "<init>", desc := "(I)V" } : Jvm.MethodName) jdk_68_method_2_code (2 : Nat) (Option.none : Option Jvm.ClassFile.FieldType), Jvm.Cond.code ({ cls := "java/lang/StringBuilder", name := "append", desc := "(Ljava/lang/String;)Ljava/lang/StringBuilder;" } : Jvm.MethodName) jdk_67_method_7_code (2 : Nat) (Option.some (Jvm.ClassFile.FieldType.object "java/lang/StringBuilder")), Jvm.Cond.code ({ cls := "java/lang/AbstractStringBuilder", name := "append", desc := "(Ljava/lang/String;)Ljava/lang/AbstractStringBuilder;" } : Jvm.MethodName) jdk_68_method_22_code (3 : Nat) (Option.some (Jvm.ClassFile.FieldType.object "java/lang/AbstractStringBuilder")), Jvm.Cond.code ({ cls := "java/lang/String", name := "length", desc := "()I" } : Jvm.MethodName) jdk_42_method_54_code (1 : Nat) (Option.some Jvm.ClassFile.FieldType.int), Jvm.Cond.code ({ cls := "java/lang/String", name := "coder", desc := "()B" } : Jvm.MethodName) jdk_42_method_152_code (1 : Nat) (Option.some Jvm.ClassFile.FieldType.byte), Jvm.Cond.code ({ cls := "java/lang/AbstractStringBuilder", name := "ensureCapacityInternal", desc := "(I)V" } : Jvm.MethodName) jdk_68_method_9_code (3 : Nat) (Option.none : Option Jvm.ClassFile.FieldType), Jvm.Cond.code ({ cls := "java/lang/AbstractStringBuilder", name := "putStringAt", desc := "(ILjava/lang/String;)V" } : Jvm.MethodName) jdk_68_method_73_code (3 : Nat) (Option.none : Option Jvm.ClassFile.FieldType), Jvm.Cond.code ({ cls := "java/lang/AbstractStringBuilder", name := "inflateIfNeededFor", desc := "(Ljava/lang/String;)V" } : Jvm.MethodName) jdk_68_method_71_code (2 : Nat) (Option.none : Option Jvm.ClassFile.FieldType), Jvm.Cond.code ({ cls := "java/lang/String", name := "getBytes", desc := "([BIB)V" } : Jvm.MethodName) jdk_42_method_147_code (4 : Nat) (Option.none : Option Jvm.ClassFile.FieldType), Jvm.Cond.code ({ cls := "java/lang/StringBuilder", name := "toString", desc := "()Ljava/lang/String;" } : Jvm.MethodName) jdk_67_method_42_code (1 : Nat) (Option.some (Jvm.ClassFile.FieldType.object "java/lang/String")), Jvm.Cond.code ({ cls := "java/lang/String", name := "<init>", desc := "(Ljava/lang/StringBuilder;)V" } : Jvm.MethodName) jdk_42_method_53_code (2 : Nat) (Option.none : Option Jvm.ClassFile.FieldType), Jvm.Cond.code ({ cls := "java/lang/String", name := "<init>", desc := "(Ljava/lang/AbstractStringBuilder;Ljava/lang/Void;)V" } : Jvm.MethodName) jdk_42_method_150_code (5 : Nat) (Option.none : Option Jvm.ClassFile.FieldType), Jvm.Cond.code ({ cls := "java/lang/AbstractStringBuilder", name := "getValue", desc := "()[B" } : Jvm.MethodName) jdk_68_method_64_code (1 : Nat) (Option.some (Jvm.ClassFile.FieldType.array Jvm.ClassFile.FieldType.byte)), Jvm.Cond.code ({ cls := "java/lang/StringBuilder", name := "length", desc := "()I" } : Jvm.MethodName) jdk_67_method_93_code (1 : Nat) (Option.some Jvm.ClassFile.FieldType.int), Jvm.Cond.code ({ cls := "java/lang/AbstractStringBuilder", name := "length", desc := "()I" } : Jvm.MethodName) jdk_68_method_6_code (1 : Nat) (Option.some Jvm.ClassFile.FieldType.int), Jvm.Cond.code ({ cls := "java/lang/AbstractStringBuilder", name := "isLatin1", desc := "()Z" } : Jvm.MethodName) jdk_68_method_68_code (1 : Nat) (Option.some Jvm.ClassFile.FieldType.boolean), Jvm.Cond.code ({ cls := "java/util/Arrays", name := "copyOfRange", desc := "([BII)[B" } : Jvm.MethodName) jdk_65_method_132_code (3 : Nat) (Option.some (Jvm.ClassFile.FieldType.array Jvm.ClassFile.FieldType.byte)), Jvm.Cond.code ({ cls := "java/util/Arrays", name := "copyOfRangeByte", desc := "([BII)[B" } : Jvm.MethodName) jdk_65_method_133_code (5 : Nat) (Option.some (Jvm.ClassFile.FieldType.array Jvm.ClassFile.FieldType.byte)), Jvm.Cond.code ({ cls := "java/util/Arrays", name := "checkLength", desc := "(II)V" } : Jvm.MethodName) jdk_65_method_131_code (2 : Nat) (Option.none : Option Jvm.ClassFile.FieldType), Jvm.Cond.code ({ cls := "java/lang/Math", name := "min", desc := "(II)I" } : Jvm.MethodName) jdk_29_method_69_code (2 : Nat) (Option.some Jvm.ClassFile.FieldType.int), Jvm.Cond.code ({ cls := "com/example/forseti/forseti/model/ClassFigures", name := "ownerName", desc := "(Ljava/lang/String;)Ljava/lang/String;" } : Jvm.MethodName) prog_50_method_8_code (2 : Nat) (Option.some (Jvm.ClassFile.FieldType.object "java/lang/String"))]
set_option maxRecDepth 65536 in
theorem codes_eq : words1.filter isCode = codes1 := rfl
theorem w_codes : ∀ c ∈ words1.filter isCode, c.before args0 about1 = true := by
  rw [codes_eq]
  intro c hc
  simp only [codes1, List.mem_cons, List.not_mem_nil, or_false] at hc
  rcases hc with rfl | rfl | rfl | rfl | rfl | rfl | rfl | rfl | rfl | rfl | rfl | rfl | rfl | rfl | rfl | rfl | rfl | rfl | rfl | rfl | rfl | rfl | rfl | rfl | rfl | rfl | rfl | rfl | rfl | rfl | rfl | rfl | rfl | rfl | rfl | rfl | rfl | rfl | rfl | rfl | rfl | rfl
  · exact w_c0
  · exact w_c1
  · exact w_c2
  · exact w_c3
  · exact w_c4
  · exact w_c5
  · exact w_c6
  · exact w_c7
  · exact w_c8
  · exact w_c9
  · exact w_c10
  · exact w_c11
  · exact w_c12
  · exact w_c13
  · exact w_c14
  · exact w_c15
  · exact w_c16
  · exact w_c17
  · exact w_c18
  · exact w_c19
  · exact w_c20
  · exact w_c21
  · exact w_c22
  · exact w_c23
  · exact w_c24
  · exact w_c25
  · exact w_c26
  · exact w_c27
  · exact w_c28
  · exact w_c29
  · exact w_c30
  · exact w_c31
  · exact w_c32
  · exact w_c33
  · exact w_c34
  · exact w_c35
  · exact w_c36
  · exact w_c37
  · exact w_c38
  · exact w_c39
  · exact w_c40
  · exact w_c41
set_option maxRecDepth 65536 in
theorem w_t1 : (words1.take 24).all (fun c => isCode c || c.before args0 about1) = true := by decide +kernel
set_option maxRecDepth 65536 in
theorem w_t2 : ((words1.drop 24).take 24).all (fun c => isCode c || c.before args0 about1) = true := by decide +kernel
set_option maxRecDepth 65536 in
theorem w_t3 : (((words1.drop 24).drop 24).take 24).all (fun c => isCode c || c.before args0 about1) = true := by decide +kernel
set_option maxRecDepth 65536 in
theorem w_t4 : ((((words1.drop 24).drop 24).drop 24).take 24).all (fun c => isCode c || c.before args0 about1) = true := by decide +kernel
set_option maxRecDepth 65536 in
theorem w_t5 : (((((words1.drop 24).drop 24).drop 24).drop 24).take 24).all (fun c => isCode c || c.before args0 about1) = true := by decide +kernel
set_option maxRecDepth 65536 in
theorem w_t6 : ((((((words1.drop 24).drop 24).drop 24).drop 24).drop 24).take 24).all (fun c => isCode c || c.before args0 about1) = true := by decide +kernel
set_option maxRecDepth 65536 in
theorem w_t7 : (((((((words1.drop 24).drop 24).drop 24).drop 24).drop 24).drop 24).take 24).all (fun c => isCode c || c.before args0 about1) = true := by decide +kernel
set_option maxRecDepth 65536 in
theorem w_t8 : ((((((((words1.drop 24).drop 24).drop 24).drop 24).drop 24).drop 24).drop 24).take 24).all (fun c => isCode c || c.before args0 about1) = true := by decide +kernel
set_option maxRecDepth 65536 in
theorem w_t9 : (((((((((words1.drop 24).drop 24).drop 24).drop 24).drop 24).drop 24).drop 24).drop 24).take 24).all (fun c => isCode c || c.before args0 about1) = true := by decide +kernel
set_option maxRecDepth 65536 in
theorem w_t10 : (((((((((words1.drop 24).drop 24).drop 24).drop 24).drop 24).drop 24).drop 24).drop 24).drop 24).all (fun c => isCode c || c.before args0 about1) = true := by decide +kernel
theorem w_tables : (allAtoms (Jvm.Cond.code x code maxLocals ret :: tables_1)).before args0 about1 = true := by
  rw [allAtoms_all]
  show words1.all (fun c => c.before args0 about1) = true
  refine all_split ?_ w_codes
  rw [← List.take_append_drop 24 words1, List.all_append, w_t1, ← List.take_append_drop 24 (words1.drop 24), List.all_append, w_t2, ← List.take_append_drop 24 ((words1.drop 24).drop 24), List.all_append, w_t3, ← List.take_append_drop 24 (((words1.drop 24).drop 24).drop 24), List.all_append, w_t4, ← List.take_append_drop 24 ((((words1.drop 24).drop 24).drop 24).drop 24), List.all_append, w_t5, ← List.take_append_drop 24 (((((words1.drop 24).drop 24).drop 24).drop 24).drop 24), List.all_append, w_t6, ← List.take_append_drop 24 ((((((words1.drop 24).drop 24).drop 24).drop 24).drop 24).drop 24), List.all_append, w_t7, ← List.take_append_drop 24 (((((((words1.drop 24).drop 24).drop 24).drop 24).drop 24).drop 24).drop 24), List.all_append, w_t8, ← List.take_append_drop 24 ((((((((words1.drop 24).drop 24).drop 24).drop 24).drop 24).drop 24).drop 24).drop 24), List.all_append, w_t9, w_t10]
  rfl
set_option maxRecDepth 65536 in
theorem w_rest : rest_1_c.before args0 about1 = true := by decide +kernel
set_option maxRecDepth 65536 in
theorem w_case : (Jvm.Cond.and given_1 narrow_1).before args0 about1 = true := by decide +kernel
set_option maxRecDepth 65536 in
theorem w_consts : constsHeld consts_1 about1 := Jvm.Lit.constsHeldB_iff.mp (by decide +kernel)
theorem w_applies : (headSpec (Jvm.Cond.code x code maxLocals ret :: tables_1) room_1).applies x e0.platform about1 = true :=
  (Spec.applies_iff w_frames).mpr ⟨w_running, w_runnable, w_alone, w_named, w_hears, w_ripe, w_room, w_tables⟩
theorem atStart : AtStart classFile x code maxLocals ret World_1 tables_1 room_1 Calls_1 rest_1 Pre_1 launch0 p0 e0 about1 theMethod args0 below0 :=
  ⟨lists_1, trivial, launch0.admits_env _ _ _, launch0.least_env, fairChoices_fair.cas, fairChoices_fair.clock, w_frames, w_args, w_heap, w_applies, ⟨w_consts, trivial⟩, w_rest, w_case⟩
end start1
theorem witness_1 : WitnessClaimed_1 := ⟨start1.p0, start1.e0, start1.about1, start1.theMethod, start1.args0, start1.below0, start1.atStart⟩
end Jvm.Pilot.@@N@@
