import JvmDerived
import JvmDerived.Pilot.@@N@@Statement
import JvmDerived.Pilot.@@N@@Code
set_option linter.unusedVariables false
set_option linter.unusedSimpArgs false
@@BLOCK:NumsL.lean.txt@@
@@BLOCK:TracedD.lean.txt@@
/- laws to paste: Road.backV (cut by pick.py; bodies as the Statement names them) -/
namespace Jvm.Pilot.@@N@@
namespace StrChars
open Jvm Sem ClassFile Op Lib Jvm.Stand Jvm.Free.XT Jvm.Free.ALB Jvm.Free.JM Jvm.Free
open Jvm.Lib.Cold (StaticIs)
/-- a char array whose places are chars -/
def Ch (a : Addr) (A : Cell) (U : State) : Prop := Arr .char a A U ∧ Typed .char A
theorem Ch.mv {a : Addr} {A : Cell} {U U' : State} (h : Ch a A U) (hal : U.vm.Alike U'.vm) (hh : U'.heap = U.heap) : Ch a A U' := ⟨h.1.mv hal hh, h.2⟩
theorem Ch.keep {a : Addr} {A : Cell} {U U' : State} (h : Ch a A U) (hal : U.vm.Alike U'.vm) (hk : U'.heap[a]? = some A) : Ch a A U' := ⟨h.1.keep hal hk, h.2⟩
/-- what place i of a char[]'s cell holds -/
def cv (A : Cell) (i : Nat) : Int32 := match A.slots[i]? with | some (.int x) => x | _ => 0
theorem Ch.get {a : Addr} {A : Cell} {U : State} (h : Ch a A U) {i : Nat} (hi : i < A.slots.size) : A.slots[i]? = some (.int (cv A i)) := by
  have e := Array.getElem?_eq_getElem hi
  have f := h.2 i _ e
  unfold cv; rw [e]
  generalize A.slots[i] = v at f
  cases v <;> simp [fits] at f ⊢
/-- the byte that i2b leaves of a char -/
def lo8 (x : Int32) : Int32 := x.toInt8.toInt32
theorem fits_lo8 (y : Int32) : fits .byte (.int (lo8 y)) = true := by
  have h1 := y.toInt8.le_toInt
  have h2 := y.toInt8.toInt_lt
  simp only [lo8, fits, Bool.and_eq_true, decide_eq_true_eq, Int32.le_iff_toInt_le, Int8.toInt_toInt32, show (-128 : Int32).toInt = -128 from by decide, show (127 : Int32).toInt = 127 from by decide]
  omega
/-- A' is A but that each place j of lo .. hi - 1 holds f j -/
def Laid (A A' : Cell) (lo hi : Nat) (f : Nat → Value) : Prop := A'.cls = A.cls ∧ A'.vm = A.vm ∧ A'.slots.size = A.slots.size ∧ ∀ i, A'.slots[i]? = if lo ≤ i ∧ i < hi then some (f i) else A.slots[i]?
theorem Laid.zero (A : Cell) (lo : Nat) (f : Nat → Value) : Laid A A lo (lo + 0) f := ⟨rfl, rfl, rfl, fun i => by rw [if_neg (by omega)]⟩
theorem Laid.step {A Ak : Cell} {lo k : Nat} {f : Nat → Value} {v : Value} (h : Laid A Ak lo k f) (hlo : lo ≤ k) (hk : k < Ak.slots.size) (hv : v = f k) : Laid A (Ak.setSlot k v) lo (k + 1) f := by
  refine ⟨h.1, h.2.1, by simpa [Cell.setSlot] using h.2.2.1, fun i => ?_⟩
  by_cases e : k = i
  · subst e; rw [Cell.slots_setSlot_self v hk, if_pos (by omega), hv]
  · rw [Cell.slots_setSlot_ne v e, h.2.2.2 i]
    by_cases q : lo ≤ i ∧ i < k
    · rw [if_pos q, if_pos (by omega)]
    · rw [if_neg q, if_neg (by omega)]
def U16 : String := "java/lang/StringUTF16"
namespace Cmp5
def yN : MethodName := ⟨"java/lang/StringUTF16", "compress", "([CI[BII)I"⟩
abbrev yB : ByteArray := jdk_52_method_21_code
theorem d0 : decode yB 0 = .ok (.iconst 0, 1) := by decide +kernel
theorem d1 : decode yB 1 = .ok (.istore 5, 2) := by decide +kernel
theorem d3 : decode yB 3 = .ok (.iload 5, 2) := by decide +kernel
theorem d5 : decode yB 5 = .ok (.iload 4, 2) := by decide +kernel
theorem d7 : decode yB 7 = .ok (.if_icmp (.ge) 37, 3) := by decide +kernel
theorem d10 : decode yB 10 = .ok (.aload_n 0, 1) := by decide +kernel
theorem d11 : decode yB 11 = .ok (.iload_n 1, 1) := by decide +kernel
theorem d12 : decode yB 12 = .ok (.caload, 1) := by decide +kernel
theorem d13 : decode yB 13 = .ok (.istore 6, 2) := by decide +kernel
theorem d15 : decode yB 15 = .ok (.iload 6, 2) := by decide +kernel
theorem d17 : decode yB 17 = .ok (.sipush 255, 3) := by decide +kernel
theorem d20 : decode yB 20 = .ok (.if_icmp (.le) 6, 3) := by decide +kernel
theorem d26 : decode yB 26 = .ok (.aload_n 2, 1) := by decide +kernel
theorem d27 : decode yB 27 = .ok (.iload_n 3, 1) := by decide +kernel
theorem d28 : decode yB 28 = .ok (.iload 6, 2) := by decide +kernel
theorem d30 : decode yB 30 = .ok (.i2b, 1) := by decide +kernel
theorem d31 : decode yB 31 = .ok (.bastore, 1) := by decide +kernel
theorem d32 : decode yB 32 = .ok (.iinc 1 1, 3) := by decide +kernel
theorem d35 : decode yB 35 = .ok (.iinc 3 1, 3) := by decide +kernel
theorem d38 : decode yB 38 = .ok (.iinc 5 1, 3) := by decide +kernel
theorem d41 : decode yB 41 = .ok (.goto (-38), 3) := by decide +kernel
theorem d44 : decode yB 44 = .ok (.iload 4, 2) := by decide +kernel
theorem d46 : decode yB 46 = .ok (.ireturn, 1) := by decide +kernel
def site : List Cond := []
def tab : Cond := tabOf yN yB 7 (some .int) site
def P (b : Addr) (A : Cell) (d : Addr) (B : Cell) (o q len : Nat) (args : Array Value) (s : State) : Prop := args = #[.ref b, .int (Int32.ofNat o), .ref d, .int (Int32.ofNat q), .int (Int32.ofNat len)] ∧ Ch b A s ∧ Arr .byte d B s ∧ b ≠ d ∧ o + len ≤ A.slots.size ∧ q + len ≤ B.slots.size ∧ ∀ i, i < len → ¬ 255 < cv A (o + i)
def E (b : Addr) (A : Cell) (d : Addr) (B : Cell) (o q len : Nat) (r : Option Value) (s u : State) : Prop := r = some (.int (Int32.ofNat len)) ∧ ∃ B', Put d B' s u ∧ Laid B B' q (q + len) (fun j => Value.int (lo8 (cv A (o + (j - q)))))
/-- no char of the range above 255: len; the places written hold each char's low byte -/
theorem law (l : Launch) (b : Addr) (A : Cell) (d : Addr) (B : Cell) (o q len : Nat) : Law l yN 5 5 0 0 yB 7 (some .int) site (P b A d B o q len) (E b A d B o q len) (copyLocs d q len) 0 0 := by
  refine Law.of_walk (plainFor_of_name (by decide +kernel)) (by decide +kernel) (by decide +kernel) (by decide) (fun _ _ h => by rw [h.1]; rfl) (fun _ U U' hal hh h => ⟨h.1, h.2.1.mv hal hh, h.2.2.1.mv hal hh, h.2.2.2⟩) (fun r U U' V V' h1 hal h2 h => ⟨h.1, h.2.elim fun B' q => ⟨B', q.1.mv h1 h2, q.2⟩⟩) ?_
  intro p e s m args below meth c s₁ X0 hexec hbytes hml hret hlk hnm hown hh0 W hP
  obtain ⟨rfl, hA, hB, hne, l1, l2, hp⟩ := hP
  have c1 : Steps p.tables e below (s₁.setTop (entryFrame m #[.ref b, .int (Int32.ofNat o), .ref d, .int (Int32.ofNat q), .int (Int32.ofNat len)] 7)) (s₁.setTop (mkF m 0 #[.val (.ref b), .val (.int (Int32.ofNat o)), .val (.ref d), .val (.int (Int32.ofNat q)), .val (.int (Int32.ofNat len)), .unset, .unset] [])) := entry rfl
  have hA0 := hA.1.mv X0.warmed.alike hh0
  have hB0 := hB.mv X0.warmed.alike hh0
  have a31 := hA.1.2.2.2
  have c2 : Steps p.tables e below (s₁.setTop (entryFrame m #[.ref b, .int (Int32.ofNat o), .ref d, .int (Int32.ofNat q), .int (Int32.ofNat len)] 7)) (s₁.setTop (mkF m 3 #[.val (.ref b), .val (.int (Int32.ofNat o)), .val (.ref d), .val (.int (Int32.ofNat q)), .val (.int (Int32.ofNat len)), .val (.int 0), .unset] [])) := c1.trans (by
    refine iconstV X0.here hexec rfl 0 (hb hbytes d0) (by decide) ?_
    refine XS.istore X0.here hexec rfl (hb hbytes d1) rfl rfl ?_
    exact Steps.refl _)
  have loop : ∀ (r i : Nat), i + r = len → ∀ (z : Slot), (z = .unset ∨ ∃ w, z = .val w ∧ w.category = 1) → ∀ (Tl : State) (Bk : Cell), Stand p l e { frames := 0, locals := 0, cells := 0, slots := 0 } s m #[.ref b, .int (Int32.ofNat o), .ref d, .int (Int32.ofNat q), .int (Int32.ofNat len)] below meth c Tl ([] ++ copyLocs d q i) 0 0 → Put d Bk s₁ Tl → Laid B Bk q (q + i) (fun j => Value.int (lo8 (cv A (o + (j - q))))) →
      Steps p.tables e below (s₁.setTop (entryFrame m #[.ref b, .int (Int32.ofNat o), .ref d, .int (Int32.ofNat q), .int (Int32.ofNat len)] 7)) (Tl.setTop (mkF m 3 #[.val (.ref b), .val (.int (Int32.ofNat (o + i))), .val (.ref d), .val (.int (Int32.ofNat (q + i))), .val (.int (Int32.ofNat len)), .val (.int (Int32.ofNat i)), z] [])) → ∃ (T' : State) (B' : Cell) (z' : Slot), Stand p l e { frames := 0, locals := 0, cells := 0, slots := 0 } s m #[.ref b, .int (Int32.ofNat o), .ref d, .int (Int32.ofNat q), .int (Int32.ofNat len)] below meth c T' ([] ++ copyLocs d q len) 0 0 ∧ Put d B' s₁ T' ∧ Laid B B' q (q + len) (fun j => Value.int (lo8 (cv A (o + (j - q))))) ∧
      Steps p.tables e below (s₁.setTop (entryFrame m #[.ref b, .int (Int32.ofNat o), .ref d, .int (Int32.ofNat q), .int (Int32.ofNat len)] 7)) (T'.setTop (mkF m 3 #[.val (.ref b), .val (.int (Int32.ofNat (o + len))), .val (.ref d), .val (.int (Int32.ofNat (q + len))), .val (.int (Int32.ofNat len)), .val (.int (Int32.ofNat len)), z'] [])) := by
    intro r
    induction r with
    | zero =>
      intro i hi z hz Tl Bk Xl pl fl cl
      have hil : i = len := by omega
      rw [hil] at Xl fl cl
      exact ⟨Tl, Bk, z, Xl, pl, fl, cl⟩
    | succ r ih =>
      intro i hi z hz Tl Bk Xl pl fl cl
      have all := X0.warmed.alike.symm.trans Xl.warmed.alike
      have hAl := hA0.keep all (pl.other hne hA0.1)
      have hBk := hB0.like all pl.1 fl.1 fl.2.1 fl.2.2.1
      have hlt : q + i < Bk.slots.size := by rw [fl.2.2.1]; omega
      have c3 : Steps p.tables e below (s₁.setTop (entryFrame m #[.ref b, .int (Int32.ofNat o), .ref d, .int (Int32.ofNat q), .int (Int32.ofNat len)] 7)) (Tl.setTop (mkF m 12 #[.val (.ref b), .val (.int (Int32.ofNat (o + i))), .val (.ref d), .val (.int (Int32.ofNat (q + i))), .val (.int (Int32.ofNat len)), .val (.int (Int32.ofNat i)), z] [.int (Int32.ofNat (o + i)), .ref b])) := cl.trans (by
        refine XS.iload Xl.here hexec rfl (hb hbytes d3) rfl ?_
        refine XS.iload Xl.here hexec rfl (hb hbytes d5) rfl ?_
        refine XS.icmpNo Xl.here hexec rfl (hb hbytes d7) rfl (ii_ge_f (lt32 (by omega) (by omega))) ?_
        refine XS.aloadN Xl.here hexec rfl (hb hbytes d10) rfl rfl ?_
        refine XS.iloadN Xl.here hexec rfl (hb hbytes d11) rfl ?_
        exact Steps.refl _)
      have c4 : Steps p.tables e below (s₁.setTop (entryFrame m #[.ref b, .int (Int32.ofNat o), .ref d, .int (Int32.ofNat q), .int (Int32.ofNat len)] 7)) (Tl.setTop (mkF m 13 #[.val (.ref b), .val (.int (Int32.ofNat (o + i))), .val (.ref d), .val (.int (Int32.ofNat (q + i))), .val (.int (Int32.ofNat len)), .val (.int (Int32.ofNat i)), z] [.int (cv A (o + i))])) := c3.trans (by
        refine Xl.aget hexec hAl rfl (hA.get (i := o + i) (by omega)) rfl rfl (hb hbytes d12) ?_
        exact Steps.refl _)
      have c5 : Steps p.tables e below (s₁.setTop (entryFrame m #[.ref b, .int (Int32.ofNat o), .ref d, .int (Int32.ofNat q), .int (Int32.ofNat len)] 7)) (Tl.setTop (mkF m 15 #[.val (.ref b), .val (.int (Int32.ofNat (o + i))), .val (.ref d), .val (.int (Int32.ofNat (q + i))), .val (.int (Int32.ofNat len)), .val (.int (Int32.ofNat i)), .val (.int (cv A (o + i)))] [])) := c4.trans (by
        refine XS.istoreS Xl.here hexec rfl (hb hbytes d13) rfl rfl hz ?_
        exact Steps.refl _)
      have c6 : Steps p.tables e below (s₁.setTop (entryFrame m #[.ref b, .int (Int32.ofNat o), .ref d, .int (Int32.ofNat q), .int (Int32.ofNat len)] 7)) (Tl.setTop (mkF m 31 #[.val (.ref b), .val (.int (Int32.ofNat (o + i))), .val (.ref d), .val (.int (Int32.ofNat (q + i))), .val (.int (Int32.ofNat len)), .val (.int (Int32.ofNat i)), .val (.int (cv A (o + i)))] [.int (lo8 (cv A (o + i))), .int (Int32.ofNat (q + i)), .ref d])) := c5.trans (by
        refine XS.iload Xl.here hexec rfl (hb hbytes d15) rfl ?_
        refine sipushV Xl.here hexec rfl 255 (hb hbytes d17) (by decide) ?_
        refine XS.icmpYes Xl.here hexec rfl (pc0 := 20) rfl (hb hbytes d20) rfl (ii_le_t (hp i (by omega))) (by decide) rfl ?_
        refine XS.aloadN Xl.here hexec rfl (hb hbytes d26) rfl rfl ?_
        refine XS.iloadN Xl.here hexec rfl (hb hbytes d27) rfl ?_
        refine XS.iload Xl.here hexec rfl (hb hbytes d28) rfl ?_
        refine i2b Xl.here hexec rfl (hb hbytes d30) rfl ?_
        exact Steps.refl _)
      obtain ⟨T7, X7, p7, st7⟩ := Xl.aput hexec hBk rfl hlt rfl (fits_lo8 (cv A (o + i))) (g := (mkF m 31 #[.val (.ref b), .val (.int (Int32.ofNat (o + i))), .val (.ref d), .val (.int (Int32.ofNat (q + i))), .val (.int (Int32.ofNat len)), .val (.int (Int32.ofNat i)), .val (.int (cv A (o + i)))] [.int (lo8 (cv A (o + i))), .int (Int32.ofNat (q + i)), .ref d])) rfl (rest := []) rfl (hb hbytes d31)
      have c8 : Steps p.tables e below (s₁.setTop (entryFrame m #[.ref b, .int (Int32.ofNat o), .ref d, .int (Int32.ofNat q), .int (Int32.ofNat len)] 7)) (T7.setTop (mkF m 32 #[.val (.ref b), .val (.int (Int32.ofNat (o + i))), .val (.ref d), .val (.int (Int32.ofNat (q + i))), .val (.int (Int32.ofNat len)), .val (.int (Int32.ofNat i)), .val (.int (cv A (o + i)))] [])) := c6.trans (st7 _ (Steps.refl _))
      have c9 : Steps p.tables e below (s₁.setTop (entryFrame m #[.ref b, .int (Int32.ofNat o), .ref d, .int (Int32.ofNat q), .int (Int32.ofNat len)] 7)) (T7.setTop (mkF m 3 #[.val (.ref b), .val (.int (Int32.ofNat (o + i) + 1)), .val (.ref d), .val (.int (Int32.ofNat (q + i) + 1)), .val (.int (Int32.ofNat len)), .val (.int (Int32.ofNat i + 1)), .val (.int (cv A (o + i)))] [])) := c8.trans (by
        refine iincV X7.here hexec rfl 1 (hb hbytes d32) (by decide) rfl rfl ?_
        refine iincV X7.here hexec rfl 1 (hb hbytes d35) (by decide) rfl rfl ?_
        refine iincV X7.here hexec rfl 1 (hb hbytes d38) (by decide) rfl rfl ?_
        refine XS.goto X7.here hexec rfl (pc0 := 41) rfl (hb hbytes d41) (by decide) rfl ?_
        exact Steps.refl _)
      have c10 : Steps p.tables e below (s₁.setTop (entryFrame m #[.ref b, .int (Int32.ofNat o), .ref d, .int (Int32.ofNat q), .int (Int32.ofNat len)] 7)) (T7.setTop (mkF m 3 #[.val (.ref b), .val (.int (Int32.ofNat (o + (i + 1)))), .val (.ref d), .val (.int (Int32.ofNat (q + (i + 1)))), .val (.int (Int32.ofNat len)), .val (.int (Int32.ofNat (i + 1))), .val (.int (cv A (o + i)))] [])) := by
        have := c9
        rw [succ32, succ32, succ32] at this
        exact this
      exact ih (i + 1) (by omega) _ (Or.inr ⟨_, rfl, rfl⟩) T7 _ (by rw [copyLocs_step, ← List.append_assoc]; exact X7) (pl.trans p7) (fl.step (by omega) hlt (by simp)) c10
  obtain ⟨T9, B9, z9, X9, p9, f9, g9⟩ := loop len 0 (by omega) .unset (Or.inl rfl) s₁ B (by simpa [copyLocs] using X0) ⟨hB0.1, fun _ _ => rfl, rfl⟩ (Laid.zero _ _ _) c2
  have c11 : Steps p.tables e below (s₁.setTop (entryFrame m #[.ref b, .int (Int32.ofNat o), .ref d, .int (Int32.ofNat q), .int (Int32.ofNat len)] 7)) (T9.setTop (mkF m 46 #[.val (.ref b), .val (.int (Int32.ofNat (o + len))), .val (.ref d), .val (.int (Int32.ofNat (q + len))), .val (.int (Int32.ofNat len)), .val (.int (Int32.ofNat len)), z9] [.int (Int32.ofNat len)])) := g9.trans (by
    refine XS.iload X9.here hexec rfl (hb hbytes d3) rfl ?_
    refine XS.iload X9.here hexec rfl (hb hbytes d5) rfl ?_
    refine XS.icmpYes X9.here hexec rfl (pc0 := 7) rfl (hb hbytes d7) rfl (ii_ge_t (nlt32 (by omega) (Nat.le_refl _))) (by decide) rfl ?_
    refine XS.iload X9.here hexec rfl (hb hbytes d44) rfl ?_
    exact Steps.refl _)
  exact ⟨T9, some (.int (Int32.ofNat len)), _, _, _, X9, by simp, rfl, rfl, (fun h => by cases h), ⟨rfl, B9, p9.from hh0, f9⟩, fun fs hl => c11.trans (X9.ireturnOut hexec hret rfl (Or.inl rfl) (hb hbytes d46) hl)⟩
end Cmp5
namespace Cmp3
def yN : MethodName := ⟨"java/lang/StringUTF16", "compress", "([CII)[B"⟩
abbrev yB : ByteArray := jdk_52_method_16_code
theorem d0 : decode yB 0 = .ok (.iload_n 2, 1) := by decide +kernel
theorem d1 : decode yB 1 = .ok (.newarray .byte, 2) := by decide +kernel
theorem d3 : decode yB 3 = .ok (.astore_n 3, 1) := by decide +kernel
theorem d4 : decode yB 4 = .ok (.aload_n 0, 1) := by decide +kernel
theorem d5 : decode yB 5 = .ok (.iload_n 1, 1) := by decide +kernel
theorem d6 : decode yB 6 = .ok (.aload_n 3, 1) := by decide +kernel
theorem d7 : decode yB 7 = .ok (.iconst 0, 1) := by decide +kernel
theorem d8 : decode yB 8 = .ok (.iload_n 2, 1) := by decide +kernel
theorem d9 : decode yB 9 = .ok (.invokestatic 115, 3) := by decide +kernel
theorem d12 : decode yB 12 = .ok (.istore 4, 2) := by decide +kernel
theorem d14 : decode yB 14 = .ok (.iload 4, 2) := by decide +kernel
theorem d16 : decode yB 16 = .ok (.iload_n 2, 1) := by decide +kernel
theorem d17 : decode yB 17 = .ok (.if_icmp (.eq) 40, 3) := by decide +kernel
theorem d57 : decode yB 57 = .ok (.aload_n 3, 1) := by decide +kernel
theorem d58 : decode yB 58 = .ok (.areturn, 1) := by decide +kernel
def site : List Cond := [.arrayClass .byte, Cmp5.tab] ++ staticW U16 115 Cmp5.yN
def tab : Cond := tabOf yN yB 6 (some (.array .byte)) site
def P (b : Addr) (A : Cell) (o len : Nat) (args : Array Value) (s : State) : Prop := args = #[.ref b, .int (Int32.ofNat o), .int (Int32.ofNat len)] ∧ Ch b A s ∧ o + len ≤ A.slots.size ∧ len ≤ 536870912 ∧ ∀ i, i < len → ¬ 255 < cv A (o + i)
def E (b : Addr) (A : Cell) (o len : Nat) (r : Option Value) (s u : State) : Prop := NewArr .byte "[B" len (fun j => .int (lo8 (cv A (o + j)))) r s u ∧ u.heap.size = s.heap.size + 1
/-- no char of the range above 255: a new byte[] of their low bytes -/
theorem law (l : Launch) (b : Addr) (A : Cell) (o len : Nat) : Law l yN 3 3 1 18 yB 6 (some (.array .byte)) site (P b A o len) (E b A o len) [] 1 len := by
  refine Law.of_walk (plainFor_of_name (by decide +kernel)) (by decide +kernel) (by decide +kernel) (by decide) (fun _ _ h => by rw [h.1]; rfl) (fun _ U U' hal hh h => ⟨h.1, h.2.1.mv hal hh, h.2.2⟩) (fun r U U' V V' h1 hal h2 h => ⟨NewArr.mv r U U' V V' h1 hal h2 h.1, by rw [h1, h2]; exact h.2⟩) ?_
  intro p e s m args below meth c s₁ X0 hexec hbytes hml hret hlk hnm hown hh0 W hP
  obtain ⟨rfl, hA, l1, l2, hp⟩ := hP
  have a31 := hA.1.2.2.2
  have c1 : Steps p.tables e below (s₁.setTop (entryFrame m #[.ref b, .int (Int32.ofNat o), .int (Int32.ofNat len)] 6)) (s₁.setTop (mkF m 0 #[.val (.ref b), .val (.int (Int32.ofNat o)), .val (.int (Int32.ofNat len)), .unset, .unset, .unset] [])) := entry rfl
  have c2 : Steps p.tables e below (s₁.setTop (entryFrame m #[.ref b, .int (Int32.ofNat o), .int (Int32.ofNat len)] 6)) (s₁.setTop (mkF m 1 #[.val (.ref b), .val (.int (Int32.ofNat o)), .val (.int (Int32.ofNat len)), .unset, .unset, .unset] [.int (Int32.ofNat len)])) := c1.trans (by
    refine XS.iloadN X0.here hexec rfl (hb hbytes d0) rfl ?_
    exact Steps.refl _)
  obtain ⟨T3, B3, X3, ba3, bs3, bv3, bh3, bf3, st3⟩ := X0.anew hexec (atype := .byte) (wk W (.arrayClass .byte)) rfl (by show len * 1 ≤ _; omega) (by omega) (g := (mkF m 1 #[.val (.ref b), .val (.int (Int32.ofNat o)), .val (.int (Int32.ofNat len)), .unset, .unset, .unset] [.int (Int32.ofNat len)])) rfl (hb hbytes d1) (rest := []) rfl (Nat.le_refl _) (by show 0 + len ≤ len; omega)
  rw [hh0] at ba3 st3
  have kp3 : XT.Kept s T3 := (XT.Kept.of_eq hh0).push bh3
  have hA3 := hA.keep X3.warmed.alike (kp3 _ _ hA.1.1)
  have hne : b ≠ s.heap.size := hA.1.ne
  have c4 : Steps p.tables e below (s₁.setTop (entryFrame m #[.ref b, .int (Int32.ofNat o), .int (Int32.ofNat len)] 6)) (T3.setTop (mkF m 3 #[.val (.ref b), .val (.int (Int32.ofNat o)), .val (.int (Int32.ofNat len)), .unset, .unset, .unset] [.ref s.heap.size])) := c2.trans (st3 _ (Steps.refl _))
  have c5 : Steps p.tables e below (s₁.setTop (entryFrame m #[.ref b, .int (Int32.ofNat o), .int (Int32.ofNat len)] 6)) (T3.setTop (mkF m 9 #[.val (.ref b), .val (.int (Int32.ofNat o)), .val (.int (Int32.ofNat len)), .val (.ref s.heap.size), .unset, .unset] [.int (Int32.ofNat len), .int 0, .ref s.heap.size, .int (Int32.ofNat o), .ref b])) := c4.trans (by
    refine XS.astoreN X3.here hexec rfl (hb hbytes d3) rfl rfl rfl ?_
    refine XS.aloadN X3.here hexec rfl (hb hbytes d4) rfl rfl ?_
    refine XS.iloadN X3.here hexec rfl (hb hbytes d5) rfl ?_
    refine XS.aloadN X3.here hexec rfl (hb hbytes d6) rfl rfl ?_
    refine iconstV X3.here hexec rfl 0 (hb hbytes d7) (by decide) ?_
    refine XS.iloadN X3.here hexec rfl (hb hbytes d8) rfl ?_
    exact Steps.refl _)
  obtain ⟨v6, T6, X6, E6, g6⟩ := X3.callS hexec (Cmp5.law l b A s.heap.size B3 o 0 len) hown (wks W (staticW U16 115 Cmp5.yN)) (wk W Cmp5.tab) (W := 0) (Nat.le_of_ble_eq_true rfl) (Nat.le_of_ble_eq_true rfl) (Nat.le_refl _) (by show 0 + len + 0 ≤ len; omega) (g := (mkF m 9 #[.val (.ref b), .val (.int (Int32.ofNat o)), .val (.int (Int32.ofNat len)), .val (.ref s.heap.size), .unset, .unset] [.int (Int32.ofNat len), .int (Int32.ofNat 0), .ref s.heap.size, .int (Int32.ofNat o), .ref b])) rfl (by rw [hml]; rfl) c5 (argsL := [.ref b, .int (Int32.ofNat o), .ref s.heap.size, .int (Int32.ofNat 0), .int (Int32.ofNat len)]) (rest := []) rfl rfl (by show 2 * 0 + 0 ≤ _; decide) (hb hbytes d9) (⟨rfl, hA3, ba3, hne, l1, by rw [bs3]; simp, hp⟩)
  obtain ⟨rfl, B6, p6, f6⟩ := E6
  have c7 : Steps p.tables e below (s₁.setTop (entryFrame m #[.ref b, .int (Int32.ofNat o), .int (Int32.ofNat len)] 6)) (T6.setTop (mkF m 12 #[.val (.ref b), .val (.int (Int32.ofNat o)), .val (.int (Int32.ofNat len)), .val (.ref s.heap.size), .unset, .unset] [.int (Int32.ofNat len)])) := g6
  have c8 : Steps p.tables e below (s₁.setTop (entryFrame m #[.ref b, .int (Int32.ofNat o), .int (Int32.ofNat len)] 6)) (T6.setTop (mkF m 58 #[.val (.ref b), .val (.int (Int32.ofNat o)), .val (.int (Int32.ofNat len)), .val (.ref s.heap.size), .val (.int (Int32.ofNat len)), .unset] [.ref s.heap.size])) := c7.trans (by
    refine XS.istore X6.here hexec rfl (hb hbytes d12) rfl rfl ?_
    refine XS.iload X6.here hexec rfl (hb hbytes d14) rfl ?_
    refine XS.iloadN X6.here hexec rfl (hb hbytes d16) rfl ?_
    refine XS.icmpYes X6.here hexec rfl (pc0 := 17) rfl (hb hbytes d17) rfl (ii_eq_t rfl) (by decide) rfl ?_
    refine XS.aloadN X6.here hexec rfl (hb hbytes d57) rfl rfl ?_
    exact Steps.refl _)
  have X8 := X6.wide (L' := []) (cells' := 1) (slots' := len) (fun x hx hlt => by
    simp only [List.nil_append, copyLocs, List.mem_map, List.mem_range] at hx
    obtain ⟨i, -, rfl⟩ := hx
    exact absurd hlt (Nat.lt_irrefl _)) (Nat.le_refl _) (by omega)
  exact ⟨T6, some (.ref s.heap.size), _, _, _, X8, rfl, rfl, rfl, (fun h => by cases h), ⟨⟨rfl, B6, ba3.like (X3.warmed.alike.symm.trans X6.warmed.alike) p6.1 f6.1 f6.2.1 f6.2.2.1, f6.2.1.trans bv3, by rw [X6.warmed.alike.findClass, f6.1]; exact bf3, by rw [f6.2.2.1, bs3]; simp, fun j hj => by rw [f6.2.2.2 j, if_pos (by omega)]; rfl, kp3.put p6 (Nat.le_refl _)⟩, by rw [p6.2.2, bh3, hh0]; simp⟩, fun fs hl => c8.trans (X8.areturnOut hexec rfl hret rfl (hb hbytes d58) hl)⟩
end Cmp3
namespace CodL
def yN : MethodName := ⟨"java/lang/StringUTF16", "coderFromArrayLen", "([BI)B"⟩
abbrev yB : ByteArray := jdk_52_method_15_code
theorem d0 : decode yB 0 = .ok (.iload_n 1, 1) := by decide +kernel
theorem d1 : decode yB 1 = .ok (.aload_n 0, 1) := by decide +kernel
theorem d2 : decode yB 2 = .ok (.arraylength, 1) := by decide +kernel
theorem d3 : decode yB 3 = .ok (.isub, 1) := by decide +kernel
theorem d4 : decode yB 4 = .ok (.bipush 31, 2) := by decide +kernel
theorem d6 : decode yB 6 = .ok (.iushr, 1) := by decide +kernel
theorem d7 : decode yB 7 = .ok (.i2b, 1) := by decide +kernel
theorem d8 : decode yB 8 = .ok (.ireturn, 1) := by decide +kernel
def site : List Cond := []
def tab : Cond := tabOf yN yB 2 (some .byte) site
def P (d : Addr) (B : Cell) (args : Array Value) (s : State) : Prop := args = #[.ref d, .int (Int32.ofNat B.slots.size)] ∧ Arr .byte d B s
def E (r : Option Value) (s u : State) : Prop := XT.PureE (some (.int 0)) r s u
/-- an array as long as the number of chars: LATIN1 -/
theorem law (l : Launch) (d : Addr) (B : Cell) : Law l yN 2 2 0 0 yB 2 (some .byte) site (P d B) E [] 0 0 := by
  refine Law.of_walk (plainFor_of_name (by decide +kernel)) (by decide +kernel) (by decide +kernel) (by decide) (fun _ _ h => by rw [h.1]; rfl) (fun _ U U' hal hh h => ⟨h.1, h.2.mv hal hh⟩) (fun r U U' V V' h1 hal h2 h => XT.PureE.mv r U U' V V' h1 hal h2 h) ?_
  intro p e s m args below meth c s₁ X0 hexec hbytes hml hret hlk hnm hown hh0 W hP
  obtain ⟨rfl, hB⟩ := hP
  have hB0 := hB.mv X0.warmed.alike hh0
  have c1 : Steps p.tables e below (s₁.setTop (entryFrame m #[.ref d, .int (Int32.ofNat B.slots.size)] 2)) (s₁.setTop (mkF m 0 #[.val (.ref d), .val (.int (Int32.ofNat B.slots.size))] [])) := entry rfl
  have c2 : Steps p.tables e below (s₁.setTop (entryFrame m #[.ref d, .int (Int32.ofNat B.slots.size)] 2)) (s₁.setTop (mkF m 2 #[.val (.ref d), .val (.int (Int32.ofNat B.slots.size))] [.ref d, .int (Int32.ofNat B.slots.size)])) := c1.trans (by
    refine XS.iloadN X0.here hexec rfl (hb hbytes d0) rfl ?_
    refine XS.aloadN X0.here hexec rfl (hb hbytes d1) rfl rfl ?_
    exact Steps.refl _)
  have c3 : Steps p.tables e below (s₁.setTop (entryFrame m #[.ref d, .int (Int32.ofNat B.slots.size)] 2)) (s₁.setTop (mkF m 8 #[.val (.ref d), .val (.int (Int32.ofNat B.slots.size))] [.int (lo8 (ushr (Int32.ofNat B.slots.size - Int32.ofNat B.slots.size) 31))])) := c2.trans (by
    refine X0.alen hexec hB0 rfl rfl (hb hbytes d2) ?_
    refine XS.isub X0.here hexec rfl (hb hbytes d3) rfl ?_
    refine bipushV X0.here hexec rfl 31 (hb hbytes d4) (by decide) ?_
    refine iushr X0.here hexec rfl (hb hbytes d6) rfl ?_
    refine i2b X0.here hexec rfl (hb hbytes d7) rfl ?_
    exact Steps.refl _)
  have e0 : lo8 (ushr (Int32.ofNat B.slots.size - Int32.ofNat B.slots.size) 31) = 0 := by rw [Int32.sub_self]; decide
  rw [e0] at c3
  exact ⟨s₁, some (.int 0), _, _, _, X0, rfl, rfl, rfl, (fun h => by cases h), ⟨rfl, hh0⟩, fun fs hl => c3.trans (X0.ireturnOut hexec hret rfl (Or.inr (Or.inr (Or.inl rfl))) (hb hbytes d8) hl)⟩
end CodL
/-- the String at a is Latin-1 over a new byte[] (the heap's one new cell): the low bytes of the len chars of A from o on; every cell but a is kept -/
def Got (a : Addr) (D : Cell) (fV fC : Field) (A : Cell) (o len : Nat) (r : Option Value) (s u : State) : Prop := r = none ∧ ∃ D' V : Cell, Blank "java/lang/String" a D' u ∧ Same D D' [fV.slot, fC.slot] ∧ D'.slots[fV.slot]? = some (.ref s.heap.size) ∧ D'.slots[fC.slot]? = some (.int 0) ∧ Arr .byte s.heap.size V u ∧ V.vm = .none ∧ u.vm.findClass "[B" = some V.cls ∧ V.slots.size = len ∧ (∀ j, j < len → V.slots[j]? = some (.int (lo8 (cv A (o + j))))) ∧ (∀ (y : Addr) (c : Cell), y ≠ a → s.heap[y]? = some c → u.heap[y]? = some c) ∧ u.heap.size = s.heap.size + 1
theorem Got.mv {a : Addr} {D A : Cell} {fV fC : Field} {o len : Nat} : ∀ r (U U' V V' : State), U'.heap = U.heap → V.vm.Alike V'.vm → V'.heap = V.heap → Got a D fV fC A o len r U V → Got a D fV fC A o len r U' V' :=
  fun r U U' V V' h1 hal h2 ⟨e0, D', X, a1, a2, a3, a4, a5, a6, a7, a8, a9, a10, a11⟩ => ⟨e0, D', X, a1.mv hal h2, a2, by rw [h1]; exact a3, a4, by rw [h1]; exact a5.mv hal h2, a6, by rw [hal.findClass]; exact a7, a8, a9, by rw [h1, h2]; exact a10, by rw [h1, h2]; exact a11⟩
namespace New4
def yN : MethodName := ⟨"java/lang/String", "<init>", "([CIILjava/lang/Void;)V"⟩
abbrev yB : ByteArray := jdk_42_method_149_code
theorem d0 : decode yB 0 = .ok (.aload_n 0, 1) := by decide +kernel
theorem d1 : decode yB 1 = .ok (.invokespecial 1, 3) := by decide +kernel
theorem d4 : decode yB 4 = .ok (.iload_n 3, 1) := by decide +kernel
theorem d5 : decode yB 5 = .ok (.ifCond (.ne) 22, 3) := by decide +kernel
theorem d27 : decode yB 27 = .ok (.getstatic 38, 3) := by decide +kernel
theorem d30 : decode yB 30 = .ok (.ifCond (.eq) 28, 3) := by decide +kernel
theorem d33 : decode yB 33 = .ok (.aload_n 1, 1) := by decide +kernel
theorem d34 : decode yB 34 = .ok (.iload_n 2, 1) := by decide +kernel
theorem d35 : decode yB 35 = .ok (.iload_n 3, 1) := by decide +kernel
theorem d36 : decode yB 36 = .ok (.invokestatic 177, 3) := by decide +kernel
theorem d39 : decode yB 39 = .ok (.astore 5, 2) := by decide +kernel
theorem d41 : decode yB 41 = .ok (.aload_n 0, 1) := by decide +kernel
theorem d42 : decode yB 42 = .ok (.aload 5, 2) := by decide +kernel
theorem d44 : decode yB 44 = .ok (.iload_n 3, 1) := by decide +kernel
theorem d45 : decode yB 45 = .ok (.invokestatic 47, 3) := by decide +kernel
theorem d48 : decode yB 48 = .ok (.putfield 15, 3) := by decide +kernel
theorem d51 : decode yB 51 = .ok (.aload_n 0, 1) := by decide +kernel
theorem d52 : decode yB 52 = .ok (.aload 5, 2) := by decide +kernel
theorem d54 : decode yB 54 = .ok (.putfield 9, 3) := by decide +kernel
theorem d57 : decode yB 57 = .ok (.return_, 1) := by decide +kernel
def site : List Cond := [.fieldLink "java/lang/String" 38 "java/lang/String" "COMPACT_STRINGS" "Z", Cmp3.tab, CodL.tab, .laysFinal "java/lang/String" "java/lang/String" "value" "[B", .fieldLink "java/lang/String" 9 "java/lang/String" "value" "[B", .laysFinal "java/lang/String" "java/lang/String" "coder" "B", .fieldLink "java/lang/String" 15 "java/lang/String" "coder" "B"] ++ objW "java/lang/String" 1 ++ staticW "java/lang/String" 177 Cmp3.yN ++ staticW "java/lang/String" 47 CodL.yN
def tab : Cond := tabOf yN yB 6 none site
def P (a : Addr) (D : Cell) (fV fC : Field) (b : Addr) (A : Cell) (z : Int32) (o len : Nat) (args : Array Value) (s : State) : Prop := args = #[.ref a, .ref b, .int (Int32.ofNat o), .int (Int32.ofNat len), .null] ∧ Blank "java/lang/String" a D s ∧ Found "java/lang/String" "value" "[B" fV s ∧ Found "java/lang/String" "coder" "B" fC s ∧ Ch b A s ∧ StaticIs s "java/lang/String" "COMPACT_STRINGS" "Z" (.int z) ∧ ¬ z = 0 ∧ 0 < len ∧ o + len ≤ A.slots.size ∧ len ≤ 536870912 ∧ ∀ i, i < len → ¬ 255 < cv A (o + i)
def E (a : Addr) (D : Cell) (fV fC : Field) (A : Cell) (o len : Nat) (r : Option Value) (s u : State) : Prop := Got a D fV fC A o len r s u
/-- len > 0, no char of the range above 255: a Latin-1 String of their low bytes -/
theorem law (l : Launch) (a : Addr) (D : Cell) (fV fC : Field) (b : Addr) (A : Cell) (z : Int32) (o len : Nat) : Law l yN 5 4 2 35 yB 6 none site (P a D fV fC b A z o len) (E a D fV fC A o len) [⟨a, fC.slot⟩, ⟨a, fV.slot⟩] 1 len := by
  refine Law.of_walk (plainFor_of_name (by decide +kernel)) (by decide +kernel) (by decide +kernel) (by decide) (fun _ _ h => by rw [h.1]; rfl) (fun _ U U' hal hh h => ⟨h.1, h.2.1.mv hal hh, h.2.2.1.al hal, h.2.2.2.1.al hal, h.2.2.2.2.1.mv hal hh, h.2.2.2.2.2.1.there hal hh, h.2.2.2.2.2.2⟩) (fun r U U' V V' h1 hal h2 h => Got.mv r U U' V V' h1 hal h2 h) ?_
  intro p e s m args below meth c s₁ X0 hexec hbytes hml hret hlk hnm hown hh0 W hP
  obtain ⟨rfl, hB, f1, f2, hA, s1, hz, l0, l1, l2, hp⟩ := hP
  have a31 := hA.1.2.2.2
  have c1 : Steps p.tables e below (s₁.setTop (entryFrame m #[.ref a, .ref b, .int (Int32.ofNat o), .int (Int32.ofNat len), .null] 6)) (s₁.setTop (mkF m 0 #[.val (.ref a), .val (.ref b), .val (.int (Int32.ofNat o)), .val (.int (Int32.ofNat len)), .val .null, .unset] [])) := entry rfl
  have c2 : Steps p.tables e below (s₁.setTop (entryFrame m #[.ref a, .ref b, .int (Int32.ofNat o), .int (Int32.ofNat len), .null] 6)) (s₁.setTop (mkF m 1 #[.val (.ref a), .val (.ref b), .val (.int (Int32.ofNat o)), .val (.int (Int32.ofNat len)), .val .null, .unset] [.ref a])) := c1.trans (by
    refine XS.aloadN X0.here hexec rfl (hb hbytes d0) rfl rfl ?_
    exact Steps.refl _)
  obtain ⟨T3, X3, q3, st3⟩ := X0.oinit hexec hown (wks W (objW "java/lang/String" 1)) (g := (mkF m 1 #[.val (.ref a), .val (.ref b), .val (.int (Int32.ofNat o)), .val (.int (Int32.ofNat len)), .val .null, .unset] [.ref a])) rfl (by rw [hml]; rfl) (rest := []) rfl (hb hbytes d1) (W := 0) (by show 2 * 0 + 0 ≤ _; decide) (Nat.le_of_ble_eq_true rfl) (Nat.le_of_ble_eq_true rfl)
  have hh3 := q3.trans hh0
  have c4 : Steps p.tables e below (s₁.setTop (entryFrame m #[.ref a, .ref b, .int (Int32.ofNat o), .int (Int32.ofNat len), .null] 6)) (T3.setTop (mkF m 27 #[.val (.ref a), .val (.ref b), .val (.int (Int32.ofNat o)), .val (.int (Int32.ofNat len)), .val .null, .unset] [])) := (c2.trans (st3 _ (Steps.refl _))).trans (by
    refine XS.iloadN X3.here hexec rfl (hb hbytes d4) rfl ?_
    refine XS.ifYes X3.here hexec rfl (pc0 := 5) rfl (hb hbytes d5) rfl (i0_ne_t (nz32 (by omega) l0)) (by decide) rfl ?_
    exact Steps.refl _)
  obtain ⟨T5, X5, q5, st5⟩ := X3.sget hexec hown (wk W (.fieldLink "java/lang/String" 38 "java/lang/String" "COMPACT_STRINGS" "Z")) s1 (fun _ _ h => by rw [hh3]; exact h) (g := (mkF m 27 #[.val (.ref a), .val (.ref b), .val (.int (Int32.ofNat o)), .val (.int (Int32.ofNat len)), .val .null, .unset] [])) rfl (hb hbytes d27)
  have hh5 := q5.trans hh3
  have c6 : Steps p.tables e below (s₁.setTop (entryFrame m #[.ref a, .ref b, .int (Int32.ofNat o), .int (Int32.ofNat len), .null] 6)) (T5.setTop (mkF m 30 #[.val (.ref a), .val (.ref b), .val (.int (Int32.ofNat o)), .val (.int (Int32.ofNat len)), .val .null, .unset] [.int z])) := c4.trans (st5 _ (Steps.refl _))
  have c7 : Steps p.tables e below (s₁.setTop (entryFrame m #[.ref a, .ref b, .int (Int32.ofNat o), .int (Int32.ofNat len), .null] 6)) (T5.setTop (mkF m 36 #[.val (.ref a), .val (.ref b), .val (.int (Int32.ofNat o)), .val (.int (Int32.ofNat len)), .val .null, .unset] [.int (Int32.ofNat len), .int (Int32.ofNat o), .ref b])) := c6.trans (by
    refine XS.ifNo X5.here hexec rfl (hb hbytes d30) rfl (i0_eq_f hz) ?_
    refine XS.aloadN X5.here hexec rfl (hb hbytes d33) rfl rfl ?_
    refine XS.iloadN X5.here hexec rfl (hb hbytes d34) rfl ?_
    refine XS.iloadN X5.here hexec rfl (hb hbytes d35) rfl ?_
    exact Steps.refl _)
  obtain ⟨v8, T8, X8, E8, g8⟩ := X5.callS hexec (Cmp3.law l b A o len) hown (wks W (staticW "java/lang/String" 177 Cmp3.yN)) (wk W Cmp3.tab) (W := 0) (Nat.le_of_ble_eq_true rfl) (Nat.le_of_ble_eq_true rfl) (Nat.le_refl _) (by show 0 + len ≤ len; omega) (g := (mkF m 36 #[.val (.ref a), .val (.ref b), .val (.int (Int32.ofNat o)), .val (.int (Int32.ofNat len)), .val .null, .unset] [.int (Int32.ofNat len), .int (Int32.ofNat o), .ref b])) rfl (by rw [hml]; rfl) c7 (argsL := [.ref b, .int (Int32.ofNat o), .int (Int32.ofNat len)]) (rest := []) rfl rfl (by show 2 * 0 + 0 ≤ _; decide) (hb hbytes d36) (⟨rfl, hA.mv X5.warmed.alike hh5, l1, l2, hp⟩)
  obtain ⟨e8, z8⟩ := E8
  obtain ⟨rfl, N, n1, n2, n3, n4, n5, n6⟩ := NewArr.mv _ T5 s _ _ hh5.symm (Vm.Alike.refl _) rfl e8
  rw [hh5] at z8
  have hB1 := hB.keep X8.warmed.alike (n6 _ _ hB.1)
  have hne : s.heap.size ≠ a := (Nat.ne_of_lt (Array.getElem?_eq_some_iff.mp hB.1).1).symm
  have c9 : Steps p.tables e below (s₁.setTop (entryFrame m #[.ref a, .ref b, .int (Int32.ofNat o), .int (Int32.ofNat len), .null] 6)) (T8.setTop (mkF m 39 #[.val (.ref a), .val (.ref b), .val (.int (Int32.ofNat o)), .val (.int (Int32.ofNat len)), .val .null, .unset] [.ref s.heap.size])) := g8
  have c10 : Steps p.tables e below (s₁.setTop (entryFrame m #[.ref a, .ref b, .int (Int32.ofNat o), .int (Int32.ofNat len), .null] 6)) (T8.setTop (mkF m 45 #[.val (.ref a), .val (.ref b), .val (.int (Int32.ofNat o)), .val (.int (Int32.ofNat len)), .val .null, .val (.ref s.heap.size)] [.int (Int32.ofNat N.slots.size), .ref s.heap.size, .ref a])) := by
    have hc : Steps p.tables e below (s₁.setTop (entryFrame m #[.ref a, .ref b, .int (Int32.ofNat o), .int (Int32.ofNat len), .null] 6)) (T8.setTop (mkF m 45 #[.val (.ref a), .val (.ref b), .val (.int (Int32.ofNat o)), .val (.int (Int32.ofNat len)), .val .null, .val (.ref s.heap.size)] [.int (Int32.ofNat len), .ref s.heap.size, .ref a])) := c9.trans (by
      refine XS.astore X8.here hexec rfl (hb hbytes d39) rfl rfl rfl ?_
      refine XS.aloadN X8.here hexec rfl (hb hbytes d41) rfl rfl ?_
      refine XS.aload X8.here hexec rfl (hb hbytes d42) rfl rfl ?_
      refine XS.iloadN X8.here hexec rfl (hb hbytes d44) rfl ?_
      exact Steps.refl _)
    rw [n4]; exact hc
  obtain ⟨v11, T11, X11, E11, g11⟩ := X8.callS hexec (CodL.law l s.heap.size N) hown (wks W (staticW "java/lang/String" 47 CodL.yN)) (wk W CodL.tab) (W := 1) (Nat.le_of_ble_eq_true rfl) (Nat.le_of_ble_eq_true rfl) (Nat.le_refl _) (by show 0 + len + 0 ≤ len; omega) (g := (mkF m 45 #[.val (.ref a), .val (.ref b), .val (.int (Int32.ofNat o)), .val (.int (Int32.ofNat len)), .val .null, .val (.ref s.heap.size)] [.int (Int32.ofNat N.slots.size), .ref s.heap.size, .ref a])) rfl (by rw [hml]; rfl) c10 (argsL := [.ref s.heap.size, .int (Int32.ofNat N.slots.size)]) (rest := [.ref a]) rfl rfl (by show 2 * 0 + (1 + 0) ≤ _; decide) (hb hbytes d45) (⟨rfl, n1⟩)
  obtain ⟨rfl, q11⟩ := E11
  have hB11 := hB1.mv (X8.warmed.alike.symm.trans X11.warmed.alike) q11
  have c12 : Steps p.tables e below (s₁.setTop (entryFrame m #[.ref a, .ref b, .int (Int32.ofNat o), .int (Int32.ofNat len), .null] 6)) (T11.setTop (mkF m 48 #[.val (.ref a), .val (.ref b), .val (.int (Int32.ofNat o)), .val (.int (Int32.ofNat len)), .val .null, .val (.ref s.heap.size)] [.int 0, .ref a])) := g11
  obtain ⟨T13, X13, p13, bl13, sl13, st13⟩ := X11.finit hexec hown (wk W (.fieldLink "java/lang/String" 15 "java/lang/String" "coder" "B")) (Or.inr ⟨_, (wk W (.laysFinal "java/lang/String" "java/lang/String" "coder" "B"))⟩) (Or.inl ⟨rfl, hnm⟩) f2 (Or.inl rfl) hB11 (t := .byte) (by decide +kernel) rfl (g := (mkF m 48 #[.val (.ref a), .val (.ref b), .val (.int (Int32.ofNat o)), .val (.int (Int32.ofNat len)), .val .null, .val (.ref s.heap.size)] [.int 0, .ref a])) rfl (rest := []) rfl (hb hbytes d48)
  have c14 : Steps p.tables e below (s₁.setTop (entryFrame m #[.ref a, .ref b, .int (Int32.ofNat o), .int (Int32.ofNat len), .null] 6)) (T13.setTop (mkF m 54 #[.val (.ref a), .val (.ref b), .val (.int (Int32.ofNat o)), .val (.int (Int32.ofNat len)), .val .null, .val (.ref s.heap.size)] [.ref s.heap.size, .ref a])) := (c12.trans (st13 _ (Steps.refl _))).trans (by
    refine XS.aloadN X13.here hexec rfl (hb hbytes d51) rfl rfl ?_
    refine XS.aload X13.here hexec rfl (hb hbytes d52) rfl rfl ?_
    exact Steps.refl _)
  obtain ⟨T15, X15, p15, bl15, sl15, st15⟩ := X13.finit hexec hown (wk W (.fieldLink "java/lang/String" 9 "java/lang/String" "value" "[B")) (Or.inr ⟨_, (wk W (.laysFinal "java/lang/String" "java/lang/String" "value" "[B"))⟩) (Or.inl ⟨rfl, hnm⟩) f1 (Or.inl rfl) bl13 (t := (.array .byte)) (by decide +kernel) rfl (g := (mkF m 54 #[.val (.ref a), .val (.ref b), .val (.int (Int32.ofNat o)), .val (.int (Int32.ofNat len)), .val .null, .val (.ref s.heap.size)] [.ref s.heap.size, .ref a])) rfl (rest := []) rfl (hb hbytes d54)
  have c16 : Steps p.tables e below (s₁.setTop (entryFrame m #[.ref a, .ref b, .int (Int32.ofNat o), .int (Int32.ofNat len), .null] 6)) (T15.setTop (mkF m 57 #[.val (.ref a), .val (.ref b), .val (.int (Int32.ofNat o)), .val (.int (Int32.ofNat len)), .val .null, .val (.ref s.heap.size)] [])) := c14.trans (st15 _ (Steps.refl _))
  have ap := apart (Or.inr ⟨_, (wk W (.laysFinal "java/lang/String" "java/lang/String" "value" "[B"))⟩) (Or.inr ⟨_, (wk W (.laysFinal "java/lang/String" "java/lang/String" "coder" "B"))⟩) f1 f2 (t₁ := .array .byte) (t₂ := .byte) (by decide +kernel) (by decide +kernel) (by decide)
  have al := X8.warmed.alike.symm.trans X15.warmed.alike
  have n7 : T11.heap[s.heap.size]? = some N := by rw [q11]; exact n1.1
  exact ⟨T15, none, _, _, _, X15, by simp, rfl, by omega, (fun _ => rfl), ⟨rfl, _, N, bl15, ((Same.refl D _).set _ (by simp)).set _ (by simp), sl15, (Cell.slots_setSlot_ne _ ap).trans sl13, n1.keep al (p15.other hne (p13.other hne n7)), n2, by rw [al.findClass]; exact n3, n4, n5, fun y c h1 h2 => p15.other h1 (p13.other h1 (by rw [q11]; exact n6 y c h2)), by rw [p15.2.2, p13.2.2, q11]; exact z8⟩, fun fs hl => c16.trans (X15.returnOut hexec hret (hb hbytes d57) hl)⟩
end New4
namespace New1
def yN : MethodName := ⟨"java/lang/String", "<init>", "([C)V"⟩
abbrev yB : ByteArray := jdk_42_method_3_code
theorem d0 : decode yB 0 = .ok (.aload_n 0, 1) := by decide +kernel
theorem d1 : decode yB 1 = .ok (.aload_n 1, 1) := by decide +kernel
theorem d2 : decode yB 2 = .ok (.iconst 0, 1) := by decide +kernel
theorem d3 : decode yB 3 = .ok (.aload_n 1, 1) := by decide +kernel
theorem d4 : decode yB 4 = .ok (.arraylength, 1) := by decide +kernel
theorem d5 : decode yB 5 = .ok (.aconst_null, 1) := by decide +kernel
theorem d6 : decode yB 6 = .ok (.invokespecial 27, 3) := by decide +kernel
theorem d9 : decode yB 9 = .ok (.return_, 1) := by decide +kernel
def site : List Cond := [New4.tab] ++ initW "java/lang/String" 27 New4.yN
def tab : Cond := tabOf yN yB 2 none site
def P (a : Addr) (D : Cell) (fV fC : Field) (b : Addr) (A : Cell) (z : Int32) (args : Array Value) (s : State) : Prop := args = #[.ref a, .ref b] ∧ Blank "java/lang/String" a D s ∧ Found "java/lang/String" "value" "[B" fV s ∧ Found "java/lang/String" "coder" "B" fC s ∧ Ch b A s ∧ StaticIs s "java/lang/String" "COMPACT_STRINGS" "Z" (.int z) ∧ ¬ z = 0 ∧ 0 < A.slots.size ∧ A.slots.size ≤ 536870912 ∧ ∀ i, i < A.slots.size → ¬ 255 < cv A i
def E (a : Addr) (D : Cell) (fV fC : Field) (A : Cell) (r : Option Value) (s u : State) : Prop := Got a D fV fC A 0 A.slots.size r s u
/-- new String(chars), not empty, no char above 255: a Latin-1 String of their low bytes -/
theorem law (l : Launch) (a : Addr) (D : Cell) (fV fC : Field) (b : Addr) (A : Cell) (z : Int32) : Law l yN 2 1 3 52 yB 2 none site (P a D fV fC b A z) (E a D fV fC A) [⟨a, fC.slot⟩, ⟨a, fV.slot⟩] 1 A.slots.size := by
  refine Law.of_walk (plainFor_of_name (by decide +kernel)) (by decide +kernel) (by decide +kernel) (by decide) (fun _ _ h => by rw [h.1]; rfl) (fun _ U U' hal hh h => ⟨h.1, h.2.1.mv hal hh, h.2.2.1.al hal, h.2.2.2.1.al hal, h.2.2.2.2.1.mv hal hh, h.2.2.2.2.2.1.there hal hh, h.2.2.2.2.2.2⟩) (fun r U U' V V' h1 hal h2 h => Got.mv r U U' V V' h1 hal h2 h) ?_
  intro p e s m args below meth c s₁ X0 hexec hbytes hml hret hlk hnm hown hh0 W hP
  obtain ⟨rfl, hB, f1, f2, hA, s1, hz, l0, l2, hp⟩ := hP
  have c1 : Steps p.tables e below (s₁.setTop (entryFrame m #[.ref a, .ref b] 2)) (s₁.setTop (mkF m 0 #[.val (.ref a), .val (.ref b)] [])) := entry rfl
  have c2 : Steps p.tables e below (s₁.setTop (entryFrame m #[.ref a, .ref b] 2)) (s₁.setTop (mkF m 6 #[.val (.ref a), .val (.ref b)] [.null, .int (Int32.ofNat A.slots.size), .int 0, .ref b, .ref a])) := c1.trans (by
    refine XS.aloadN X0.here hexec rfl (hb hbytes d0) rfl rfl ?_
    refine XS.aloadN X0.here hexec rfl (hb hbytes d1) rfl rfl ?_
    refine iconstV X0.here hexec rfl 0 (hb hbytes d2) (by decide) ?_
    refine XS.aloadN X0.here hexec rfl (hb hbytes d3) rfl rfl ?_
    refine X0.alen hexec (hA.1.mv X0.warmed.alike hh0) rfl rfl (hb hbytes d4) ?_
    refine XS.aconstNull X0.here hexec rfl (hb hbytes d5) ?_
    exact Steps.refl _)
  obtain ⟨v3, T3, X3, E3, g3⟩ := X0.callN hexec (New4.law l a D fV fC b A z 0 A.slots.size) rfl hown (wks W (initW "java/lang/String" 27 New4.yN)) (W New4.tab (by simp only [site, List.mem_cons, List.mem_append, true_or, or_true])) (W := 0) (Nat.le_of_ble_eq_true rfl) (Nat.le_of_ble_eq_true rfl) (Nat.le_refl _) (by show 0 + A.slots.size ≤ A.slots.size; omega) (g := (mkF m 6 #[.val (.ref a), .val (.ref b)] [.null, .int (Int32.ofNat A.slots.size), .int (Int32.ofNat 0), .ref b, .ref a])) rfl (by rw [hml]; rfl) c2 (argsL := [.ref b, .int (Int32.ofNat 0), .int (Int32.ofNat A.slots.size), .null]) (rest := []) rfl rfl (by show 2 * 0 + 0 ≤ _; decide) (hb hbytes d6) (⟨rfl, hB.mv X0.warmed.alike hh0, f1.al X0.warmed.alike, f2.al X0.warmed.alike, hA.mv X0.warmed.alike hh0, s1.there X0.warmed.alike hh0, hz, l0, by omega, l2, fun i hi => by rw [Nat.zero_add]; exact hp i hi⟩)
  have e0 := Got.mv _ s₁ s _ _ hh0.symm (Vm.Alike.refl _) rfl E3
  obtain rfl := e0.1
  have c4 : Steps p.tables e below (s₁.setTop (entryFrame m #[.ref a, .ref b] 2)) (T3.setTop (mkF m 9 #[.val (.ref a), .val (.ref b)] [])) := g3
  exact ⟨T3, none, _, _, _, X3, by simp, rfl, by omega, (fun _ => rfl), e0, fun fs hl => c4.trans (X3.returnOut hexec hret (hb hbytes d9) hl)⟩
theorem pays {l : Launch} {R : Room} {p : Program} {e : Env} {below : List Frame} {s : State} {sargs : Array Value} {len W : Nat} (a : Addr) (D : Cell) (fV fC : Field) (b : Addr) (A : Cell) (z : Int32) (htab : tab.before sargs s = true) (hfr : 4 ≤ R.frames) (hlo : W + 65 ≤ R.locals) :
    Back l R p e below s sargs yN len W (fun A₁ a₁ => A₁.cells + 1 ≤ R.cells ∧ A₁.slots + A.slots.size ≤ R.slots ∧ P a D fV fC b A z a₁ A₁.U) (fun A₁ _ v₁ B₁ => E a D fV fC A v₁ A₁.U B₁.U ∧ B₁.locs = A₁.locs ++ [⟨a, fC.slot⟩, ⟨a, fV.slot⟩] ∧ B₁.cells = A₁.cells + 1 ∧ B₁.slots = A₁.slots + A.slots.size) :=
  (law l a D fV fC b A z).pays htab hfr (by omega)
end New1
end StrChars
namespace StrChars.Road
open Jvm Sem ClassFile Op Lib Jvm.Stand Jvm.Free Jvm.Free.XT
open Jvm.Lib.Cold (StaticIs)
abbrev ST : String := "java/lang/String"
/-- every table word that New1's law asks, flat -/
abbrev words : List Jvm.Cond := [.code New1.yN New1.yB 2 none, .initialized ST, .methodLink ST 27 New4.yN, .instanceMethod New4.yN,
  .code New4.yN New4.yB 6 none, .fieldLink ST 38 ST "COMPACT_STRINGS" "Z", .laysFinal ST ST "value" "[B", .fieldLink ST 9 ST "value" "[B", .laysFinal ST ST "coder" "B", .fieldLink ST 15 ST "coder" "B",
  .methodLink ST 1 Lib.objectInit, .instanceMethod Lib.objectInit, .code Lib.objectInit ⟨#[0xb1]⟩ 1 none, .methodLink ST 177 Cmp3.yN, .static Cmp3.yN, .methodLink ST 47 CodL.yN, .static CodL.yN,
  .code Cmp3.yN Cmp3.yB 6 (some (.array .byte)), .initialized U16, .arrayClass .byte, .methodLink U16 115 Cmp5.yN, .static Cmp5.yN, .code Cmp5.yN Cmp5.yB 7 (some .int), .code CodL.yN CodL.yB 2 (some .byte)]
theorem tab_of {a : Array Value} {s : State} (h : ∀ w ∈ words, w.before a s = true) : New1.tab.before a s = true := by
  have h5 : Cmp5.tab.before a s = true := unparts (wk h (.code Cmp5.yN Cmp5.yB 7 (some .int))) (wks h (.initialized Cmp5.yN.cls :: Cmp5.site))
  have hc : CodL.tab.before a s = true := unparts (wk h (.code CodL.yN CodL.yB 2 (some .byte))) (wks h (.initialized CodL.yN.cls :: CodL.site))
  have q5 : ∀ w ∈ Cmp5.tab :: words, w.before a s = true := fun w hw => (List.mem_cons.mp hw).elim (fun e => e ▸ h5) (h w)
  have h3 : Cmp3.tab.before a s = true := unparts (wk q5 (.code Cmp3.yN Cmp3.yB 6 (some (.array .byte)))) (wks q5 (.initialized Cmp3.yN.cls :: Cmp3.site))
  have q3 : ∀ w ∈ Cmp3.tab :: CodL.tab :: words, w.before a s = true := fun w hw => (List.mem_cons.mp hw).elim (fun e => e ▸ h3) fun hw => (List.mem_cons.mp hw).elim (fun e => e ▸ hc) (h w)
  have h4 : New4.tab.before a s = true := unparts (wk q3 (.code New4.yN New4.yB 6 none)) (wks q3 (.initialized New4.yN.cls :: New4.site))
  have q4 : ∀ w ∈ New4.tab :: words, w.before a s = true := fun w hw => (List.mem_cons.mp hw).elim (fun e => e ▸ h4) (h w)
  exact unparts (wk q4 (.code New1.yN New1.yB 2 none)) (wks q4 (.initialized New1.yN.cls :: New1.site))
/-- the words ride from the start Z to the walk's own state -/
theorem moved {Z s : State} {a0 args : Array Value} (hZ : Z.Warmed39 s.vm) (hw : ∀ d ∈ words, d.before a0 Z = true) : ∀ d ∈ words, d.before args s = true := fun d hd => by
  have q := hw d hd
  have t : ∀ d ∈ words, d = .arrayClass .byte ∨ (d.onTables && d.keepsFace) = true := by decide +kernel
  rcases t d hd with rfl | t
  · exact RoadKit.mvA hZ q
  · exact RoadKit.mv hZ q t
/-- WHAT COMES BACK, over the tables of the start Z: h the heap at the call, h' behind it -/
def Q (Z : State) (x : Addr) (A : Cell) (h : Heap) (v : Option Value) (h' : Heap) (L : List Loc) : Prop := v = none ∧ (∀ y ∈ L, y.base = x) ∧ RoadKit.Keep h h' [x] ∧ h'.size = h.size + 1 ∧ RoadKit.Exa Z h' x ST ∧ RoadKit.Fld Z h' x ST "value" "[B" (.ref h.size) ∧ RoadKit.Fld Z h' x ST "coder" "B" (.int 0) ∧
  (∃ V : Cell, RoadKit.Arr Z h' h.size V .byte ∧ V.vm = .none ∧ Z.vm.findClass "[B" = some V.cls ∧ V.slots.size = A.slots.size ∧ ∀ j, j < A.slots.size → V.slots[j]? = some (.int (lo8 (cv A j)))) ∧
  ∀ (O n d : String) (w : Value), RoadKit.Fld Z h x O n d w → RoadKit.slotOf Z O n d ≠ RoadKit.slotOf Z ST "value" "[B" → RoadKit.slotOf Z O n d ≠ RoadKit.slotOf Z ST "coder" "B" → RoadKit.Fld Z h' x O n d w
/-- **new String(chars) AT A CALL, IN THE ROAD'S FORM**: for specialBack behind newO: x the fresh String, b the char[] with the cell A -/
theorem back {p : Program} {l : Launch} {e : Env} {R : Room} {s : State} {args : Array Value} {below : List Frame} {len W : Nat} {Z : State} {a0 : Array Value} {h : Heap} (hZ : Z.Warmed39 s.vm) (hw : ∀ d ∈ words, d.before a0 Z = true) {kI : Nat} (wi : (Jvm.Cond.instantiable ST kI).before a0 Z = true)
    {x b : Addr} {A : Cell} {z : Int32} {v0 c0 : Value} (E : RoadKit.Exa Z h x ST) (V : RoadKit.Fld Z h x ST "value" "[B" v0) (C : RoadKit.Fld Z h x ST "coder" "B" c0) (K : RoadKit.Arr Z h b A .char) (hty : Typed .char A) (S : RoadKit.Sta Z h ST "COMPACT_STRINGS" "Z" (.int z)) (hz : ¬ z = 0)
    (l0 : 0 < A.slots.size) (l2 : A.slots.size ≤ 536870912) (hp : ∀ i, i < A.slots.size → ¬ 255 < cv A i) (hfr : 4 ≤ R.frames) (hlo : W + 65 ≤ R.locals) :
    Back l R p e below s args New1.yN len W (fun P a => a = #[.ref x, .ref b] ∧ P.U.heap = h ∧ P.cells + 1 ≤ R.cells ∧ P.slots + A.slots.size ≤ R.slots)
      (fun P _ v B => ∃ L, Q Z x A h v B.U.heap L ∧ B.locs = P.locs ++ L ∧ B.cells = P.cells + 1 ∧ B.slots = P.slots + A.slots.size) := by
  intro m meth c P g ig mk a X hg hsize hdg hW hn hp'
  obtain ⟨rfl, rfl, r1, r2⟩ := hp'
  have al : Z.vm.Alike P.U.vm := hZ.alike.trans X.warmed.alike
  obtain ⟨D, cfV, kV, iV, fV, hD, gV, stV, knV, obV, asV, slV⟩ := id V
  obtain ⟨D', cfC, kC, iC, fC, hD', gC, stC, -, -, asC, slC⟩ := id C
  cases hD.symm.trans hD'
  obtain ⟨D2, kD, e1, e2, e3, e4, e5⟩ := id E
  cases hD.symm.trans e1
  obtain ⟨c2, k2, i1, i2, i3, -⟩ := Cond.instantiable_spec wi
  cases e2.symm.trans i1
  cases e3.symm.trans i2
  obtain ⟨kU, u1, u2⟩ := al.2.2 _ _ e3
  have hB : Blank ST x D P.U := ⟨hD, ⟨knV, fun q hq => by rw [hq] at obV; cases obV⟩, by rw [al.findClass]; exact e2, kU, u1, by rw [u2]; exact i3, by rw [u2]; exact e5 i3⟩
  have F1 : Found ST "value" "[B" fV P.U := ⟨SBG.found_only al ⟨cfV, kV, iV, gV⟩, stV⟩
  have F2 : Found ST "coder" "B" fC P.U := ⟨SBG.found_only al ⟨cfC, kC, iC, gC⟩, stC⟩
  have hA : Ch b A P.U := ⟨⟨K.1, State.isArrayOf_alike al K.2.1, K.2.2, by omega⟩, hty⟩
  have hS : StaticIs P.U ST "COMPACT_STRINGS" "Z" (.int z) := by
    obtain ⟨cfS, iS, kS, fS, st, cS, t1, t2, t3, t4, t5, t6, t7⟩ := S
    exact StaticIs.there (s := { Z with heap := P.U.heap }) ⟨cfS, iS, kS, fS, st, cS, t1, t2, t3, t4, t5, (fun q => by rw [q] at t6; cases t6), t7⟩ al rfl
  obtain ⟨v, B, X', ⟨⟨hv, E', V', q1, q2, q3, q4, q5, q6, q7, q8, q9, q10, q11⟩, hl, hc, hs⟩, st⟩ := New1.pays x D fV fC b A z (tab_of (moved hZ hw)) hfr hlo m meth c P g ig mk _ X hg hsize hdg hW hn ⟨r1, r2, rfl, hB, F1, F2, hA, hS, hz, l0, l2, hp⟩
  have al' : Z.vm.Alike B.U.vm := hZ.alike.trans X'.warmed.alike
  have hsz : E'.slots.size = D.slots.size := by
    obtain ⟨-, -, -, kB, w1, w2, w3⟩ := q1
    obtain ⟨kB', y1, y2⟩ := al'.2.2 _ _ e3
    rw [q2.2.1] at w1
    cases w1.symm.trans y1
    rw [w3, e5 i3, y2]
  refine ⟨v, B, X', ⟨_, ⟨hv, ?_, ⟨by omega, fun y cy hy hn' => q10 y cy (by simpa using hn') hy, fun y cy hy => ?_⟩, q11, ⟨E', _, q1.1, by rw [q2.2.1]; exact e2, by rw [q2.2.1]; exact e3, by rw [q2.1]; exact obV, fun _ => by rw [hsz]; exact e5 i3⟩,
    ⟨E', cfV, kV, iV, fV, q1.1, gV, stV, by rw [q2.1]; exact knV, by rw [q2.1]; exact obV, by rw [q2.2.1]; exact asV, q3⟩, ⟨E', cfC, kC, iC, fC, q1.1, gC, stC, by rw [q2.1]; exact knV, by rw [q2.1]; exact obV, by rw [q2.2.1]; exact asC, q4⟩,
    ⟨V', ⟨q5.1, State.isArrayOf_alike al'.symm q5.2.1, q5.2.2.1⟩, q6, by rw [← al'.findClass]; exact q7, q8, fun j hj => by have := q9 j hj; rwa [Nat.zero_add] at this⟩, fun O n d w F n1 n2 => ?_⟩, hl, hc, hs⟩, st⟩
  · intro y hy
    simp only [List.mem_cons, List.not_mem_nil, or_false] at hy
    rcases hy with rfl | rfl <;> rfl
  · by_cases q : y = x
    · subst q
      cases hD.symm.trans hy
      exact ⟨E', q1.1, q2.2.1, q2.1, hsz⟩
    · exact ⟨cy, q10 y cy q hy, rfl, rfl, rfl⟩
  · obtain ⟨D3, cf, k, i, f, g1, g2, g3, g4, g5, g6, g7⟩ := F
    cases hD.symm.trans g1
    simp only [RoadKit.slotOf, g2, gV, gC, Option.map_some, Option.getD_some] at n1 n2
    exact ⟨E', cf, k, i, f, q1.1, g2, g3, by rw [q2.1]; exact g4, by rw [q2.1]; exact g5, by rw [q2.2.1]; exact g6, by rw [q2.2.2 f.slot (by simp [n1, n2])]; exact g7⟩
end StrChars.Road
namespace StrChars.Road
open Jvm Sem ClassFile Op Lib Jvm.Stand Jvm.Free Jvm.Free.XT
/-- WHAT COMES BACK, the byte[] as a list of values -/
def QA (Z : State) (x : Addr) (zn : Int32) (cs : List Int32) (h : Heap) (v : Option Value) (h' : Heap) (L : List Loc) : Prop := v = none ∧ (∀ y ∈ L, y.base = x) ∧ RoadKit.Keep h h' [x] ∧ h'.size = h.size + 1 ∧ RoadKit.Exa Z h' x ST ∧ RoadKit.Fld Z h' x ST "value" "[B" (.ref h.size) ∧ RoadKit.Fld Z h' x ST "coder" "B" (.int 0) ∧
  (∃ kb, Z.vm.findClass "[B" = some kb ∧ RoadKit.Arv Z h' h.size kb .byte zn (cs.map fun c => .int (lo8 c)) (.int 0)) ∧
  ∀ (O n d : String) (w : Value), RoadKit.Fld Z h x O n d w → RoadKit.slotOf Z O n d ≠ RoadKit.slotOf Z ST "value" "[B" → RoadKit.slotOf Z O n d ≠ RoadKit.slotOf Z ST "coder" "B" → RoadKit.Fld Z h' x O n d w
/-- **new String(chars) AT A CALL, THE ARRAYS AS LISTS**: the char[] at b holds cs, not empty, no char above 255 -/
theorem backArv {p : Program} {l : Launch} {e : Env} {R : Room} {s : State} {args : Array Value} {below : List Frame} {len W : Nat} {Z : State} {a0 : Array Value} {h : Heap} (hZ : Z.Warmed39 s.vm) (hw : ∀ d ∈ words, d.before a0 Z = true) {kI : Nat} (wi : (Jvm.Cond.instantiable ST kI).before a0 Z = true)
    {x b : Addr} {k : ClassId} {zn z : Int32} {cs : List Int32} {dv v0 c0 : Value} (E : RoadKit.Exa Z h x ST) (V : RoadKit.Fld Z h x ST "value" "[B" v0) (C : RoadKit.Fld Z h x ST "coder" "B" c0) (K : RoadKit.Arv Z h b k .char zn (cs.map Value.int) dv) (S : RoadKit.Sta Z h ST "COMPACT_STRINGS" "Z" (.int z)) (hz : ¬ z = 0)
    (hlen : zn.toNatClampNeg = cs.length) (h0 : 0 < cs.length) (hbig : cs.length ≤ 536870912) (hall : ∀ c ∈ cs, ¬ 255 < c) (hfr : 4 ≤ R.frames) (hlo : W + 65 ≤ R.locals) :
    Back l R p e below s args New1.yN len W (fun P a => a = #[.ref x, .ref b] ∧ P.U.heap = h ∧ P.cells + 1 ≤ R.cells ∧ P.slots + cs.length ≤ R.slots)
      (fun P _ v B => ∃ L, QA Z x zn cs h v B.U.heap L ∧ B.locs = P.locs ++ L ∧ B.cells = P.cells + 1 ∧ B.slots = P.slots + cs.length) := by
  obtain ⟨A, K1, K2, K3, K4, K5, K6⟩ := K
  have e : A.slots.size = cs.length := K3.trans hlen
  have hat : ∀ (i : Nat) (hi : i < cs.length), A.slots[i]? = some (.int cs[i]) := fun i hi => by rw [K5 i (by omega)]; simp [List.getD_eq_getElem?_getD, hi]
  have hcv : ∀ (i : Nat) (hi : i < cs.length), cv A i = cs[i] := fun i hi => by unfold cv; rw [hat i hi]
  have hty : Typed .char A := fun i v hv => by
    have hi : i < A.slots.size := (Array.getElem?_eq_some_iff.mp hv).1
    have q := K5 i hi
    rw [hv] at q
    rw [Option.some.inj q]
    exact K6 i hi
  refine Back.mono (back hZ hw wi E V C K1 hty S hz (by omega) (by omega) (fun i hi => by rw [hcv i (by omega)]; exact hall _ (List.getElem_mem _)) hfr hlo) (fun P a hp => ⟨hp.1, hp.2.1, hp.2.2.1, by rw [e]; exact hp.2.2.2⟩) (fun P a v B hp hq => ?_)
  obtain ⟨L, ⟨q1, q2, q3, q4, q5, q6, q7, ⟨V', v1, v2, v3, v4, v5⟩, q9⟩, hl, hc, hs⟩ := hq
  refine ⟨L, ⟨q1, q2, q3, q4, q5, q6, q7, ⟨V'.cls, v3, V', v1, rfl, by rw [v4, e, hlen], K4, fun i hi => ?_, fun i hi => ?_⟩, q9⟩, hl, hc, by rw [hs, e]⟩
  · have hi' : i < cs.length := by omega
    rw [v5 i (by omega), hcv i hi']; simp [List.getD_eq_getElem?_getD, hi']
  · have hi' : i < cs.length := by omega
    simp only [List.getD_eq_getElem?_getD, List.getElem?_map, List.getElem?_eq_getElem hi', Option.map_some, Option.getD_some]
    exact fits_lo8 _
end StrChars.Road
namespace StrChars.Road
open Jvm Sem ClassFile Op Lib Jvm.Stand Jvm.Free Jvm.Free.XT
/-- WHAT COMES BACK, in the writer's own shape -/
def QV (Z : State) (x : Addr) (N : Int32) (bs : List Int32) (h : Heap) (n0 : Nat) (v : Option Value) (h' : Heap) (L : List Loc) : Prop := v = none ∧ RoadKit.Fr n0 L ∧ RoadKit.Keep h h' [x] ∧ RoadKit.Exa Z h' x ST ∧ RoadKit.Fld Z h' x ST "coder" "B" (.int 0) ∧
  ∃ (t : Addr) (kb : ClassId), n0 ≤ t ∧ h.size ≤ t ∧ ¬ t = x ∧ RoadKit.Fld Z h' x ST "value" "[B" (.ref t) ∧ RoadKit.Arv Z h' t kb .byte N (bs.map Value.int) (.int 0)
/-- **new String(chars) AT A CALL, FOR THE WRITER**: a char[] of n known ints, each 0 to 255 -/
theorem backV {p : Program} {l : Launch} {e : Env} {R : Room} {s : State} {args : Array Value} {below : List Frame} {len W : Nat} {Z : State} {a0 : Array Value} {h : Heap} (hZ : Z.Warmed39 s.vm) (hw : ∀ d ∈ words, d.before a0 Z = true) {kI : Nat} (wi : (Jvm.Cond.instantiable ST kI).before a0 Z = true)
    {x b : Addr} {kC : ClassId} {cs bs : List Int32} {d v0 c0 : Value} {z N : Int32} {n n0 : Nat} (hx0 : n0 ≤ x) (hh0 : n0 ≤ h.size) (E : RoadKit.Exa Z h x ST) (V : RoadKit.Fld Z h x ST "value" "[B" v0) (C : RoadKit.Fld Z h x ST "coder" "B" c0) (K : RoadKit.Arv Z h b kC .char N (cs.map Value.int) d) (S : RoadKit.Sta Z h ST "COMPACT_STRINGS" "Z" (.int z)) (hz : ¬ z = 0)
    (hn : cs.length = n) (hN : N = Int32.ofNat n) (l0 : 0 < n) (l2 : n ≤ 4000) (hp : ∀ c ∈ cs, ¬ c < 0 ∧ ¬ (255 : Int32) < c) (hb : bs = cs.map (fun c => c.toInt8.toInt32)) (hfr : 4 ≤ R.frames) (hlo : W + 65 ≤ R.locals) :
    Back l R p e below s args (⟨"java/lang/String", "<init>", "([C)V"⟩ : MethodName) len W (fun P a => a = #[.ref x, .ref b] ∧ P.U.heap = h ∧ P.cells + 1 ≤ R.cells ∧ P.slots + n ≤ R.slots)
      (fun P _ v B => ∃ L, QV Z x N bs h n0 v B.U.heap L ∧ B.locs = P.locs ++ L ∧ B.cells = P.cells + 1 ∧ B.slots = P.slots + n) := by
  subst hn hN hb
  refine Back.mono (backArv hZ hw wi E V C K S hz (n32 (by omega)) l0 (by omega) (fun c hc => (hp c hc).2) hfr hlo) (fun P a hp => hp) (fun P a v B hp hq => ?_)
  obtain ⟨L, ⟨q1, q2, q3, q4, q5, q6, q7, ⟨kb, v1, v2⟩, q9⟩, hl, hc, hs⟩ := hq
  exact ⟨L, ⟨q1, fun y hy => by rw [q2 y hy]; exact hx0, q3, q5, q7, h.size, kb, hh0, Nat.le_refl _, Nat.ne_of_gt E.lt, q6, by rw [List.map_map]; exact v2⟩, hl, hc, hs⟩
end StrChars.Road
end Jvm.Pilot.@@N@@

namespace Jvm.Pilot.@@N@@
open Jvm Jvm.ClassFile Sem Op Lib Jvm.Free Jvm.Stand Jvm.LawKit Jvm.RoadKit Bundle Jvm.Pilot.@@N@@.Jvm.D
/-- from this state and frame the body comes to its end, with what G says -/
def Go (p : Program) (e : Env) (below : List Frame) (G : Outcome → State → Prop) (T : State) (f : JFrame) : Prop :=
  ∃ s₂ o, Steps p.tables e below (T.setTop f) s₂ ∧ s₂.status = .running ∧ Ended s₂ below o ∧ G o s₂
theorem Go.by {p : Program} {e : Env} {below : List Frame} {G : Outcome → State → Prop} {T T' : State} {f f' : JFrame} (k : ∀ t, Steps p.tables e below (T'.setTop f') t → Steps p.tables e below (T.setTop f) t) (g : Go p e below G T' f') : Go p e below G T f := by
  obtain ⟨s₂, o, h1, h2⟩ := g; exact ⟨s₂, o, k _ h1, h2⟩
theorem Old.le {Z : State} {n0 : Nat} {h : Heap} (O : Old Z n0 h) : n0 ≤ h.size := O.1 ▸ O.2.1

theorem ord_fld {args : Array Value} {s : State} {t : Term} {C n d : String} {k : Int32} {a : Addr} (h : (Cond.eq (Term.field t C n d) (Term.int k)).value args s none s [] = some true) (ht : t.eval args s none [] s = some (.ref a)) : Fld s s.heap a C n d (.int k) := by
  obtain ⟨x, y, hx, hy, -, kin⟩ := cmp_v (Or.inl h)
  obtain rfl : y = .int k := (Option.some.inj ((Term.int_eval k).symm.trans hy)).symm
  obtain ⟨z, rfl⟩ := kin
  have e : z = k := by simpa [Cond.value, hx, hy] using h
  subst e
  exact Fld.start (by rw [← fld_at ht]; exact hx)

def Qpure (r : Option Value) (h0 : Heap) (n0 : Nat) (v : Option Value) (h : Heap) (L : List Loc) : Prop := v = r ∧ Fr n0 L ∧ h = h0

theorem own_up (cs : List Int32) (h : ∀ c ∈ cs, ¬ c < 0 ∧ ¬ (255 : Int32) < c) : ∀ c ∈ cs, ¬ c < 0 ∧ ¬ (65535 : Int32) < c := fun c hc => ⟨(h c hc).1, fun q => (h c hc).2 (by rw [Int32.lt_iff_toInt_lt] at q ⊢; have e1 : (65535 : Int32).toInt = 65535 := rfl; have e2 : (255 : Int32).toInt = 255 := rfl; omega)⟩
theorem own_small (x : Int32) (h : ¬ x < 0 ∧ ¬ (255 : Int32) < x) : ∃ k : Fin 256, x = Int32.ofNat k.val := by
  obtain ⟨h1, h2⟩ := h
  rw [Int32.lt_iff_toInt_lt] at h1 h2
  have e0 : (0 : Int32).toInt = 0 := rfl
  have e2 : (255 : Int32).toInt = 255 := rfl
  refine ⟨⟨x.toInt.toNat, by omega⟩, Int32.toInt_inj.mp ?_⟩
  rw [Int32.toInt_ofNat_of_lt (by show x.toInt.toNat < 2 ^ 31; omega)]
  show x.toInt = (x.toInt.toNat : Int)
  omega
theorem own_nar (x : Int32) (h : ¬ x < 0 ∧ ¬ (255 : Int32) < x) : nar .char x = x := by
  obtain ⟨k, rfl⟩ := own_small x h
  exact (by decide +kernel : ∀ k : Fin 256, nar .char (Int32.ofNat k.val) = Int32.ofNat k.val) k
theorem own_and255 (x : Int32) : ¬ (x &&& (255 : Int32)) < 0 ∧ ¬ (255 : Int32) < (x &&& (255 : Int32)) := by
  have e := Jvm.Kit.i32_mask x 255 (k := 8) (by decide) (by decide)
  have e0 : (0 : Int32).toInt = 0 := rfl
  have e2 : (255 : Int32).toInt = 255 := rfl
  rw [Int32.lt_iff_toInt_lt, Int32.lt_iff_toInt_lt, e]; omega
theorem own_i2c (x : Int32) (h : ¬ x < 0 ∧ ¬ (255 : Int32) < x) : nar .char (x.toUInt32.toUInt16.toUInt32.toInt32) = x := by
  obtain ⟨k, rfl⟩ := own_small x h
  exact (by decide +kernel : ∀ k : Fin 256, nar .char ((Int32.ofNat k.val).toUInt32.toUInt16.toUInt32.toInt32) = Int32.ofNat k.val) k
theorem own_i2c0 (x : Int32) (h : ¬ x < 0 ∧ ¬ (255 : Int32) < x) : x.toUInt32.toUInt16.toUInt32.toInt32 = x := by
  obtain ⟨k, rfl⟩ := own_small x h
  exact (by decide +kernel : ∀ k : Fin 256, ((Int32.ofNat k.val).toUInt32.toUInt16.toUInt32.toInt32) = Int32.ofNat k.val) k

def Sf (Z : State) (zc : Int32) (ls us ss : Addr) : Prop := Sta Z Z.heap "java/lang/String" "COMPACT_STRINGS" "Z" (.int zc) ∧ ¬ zc = 0 ∧ Sta Z Z.heap "com/example/swapdeck/swapdeck/swap/CloseOutException$Input" "LOSS" "Lcom/example/swapdeck/swapdeck/swap/CloseOutException$Input;" (.ref ls) ∧ Exa Z Z.heap ls "com/example/swapdeck/swapdeck/swap/CloseOutException$Input" ∧ Sta Z Z.heap "java/lang/Throwable" "UNASSIGNED_STACK" "[Ljava/lang/StackTraceElement;" (.ref us) ∧ Sta Z Z.heap "java/lang/Throwable" "SUPPRESSED_SENTINEL" "Ljava/util/List;" (.ref ss) ∧ ∃ (sti d1 d2 : Addr) (D1 D2 : Cell), Jvm.Free.SBG.Tbl Z "DigitOnes" sti d1 D1 ∧ Jvm.Free.SBG.Tbl Z "DigitTens" sti d2 D2
theorem own_nat {a : Nat} (ha : a < 2147483648) : (Int32.ofNat a).toNatClampNeg = a := by
  rw [Int32.toNatClampNeg, Int32.toInt_ofNat_of_lt (by show a < 2 ^ 31; omega)]; rfl
theorem own_nlt {a b : Nat} (ha : a < 2147483648) (hb : b < 2147483648) : Int32.ofNat a < Int32.ofNat b ↔ a < b := by
  rw [Int32.lt_iff_toInt_lt, Int32.toInt_ofNat_of_lt (by show a < 2 ^ 31; omega), Int32.toInt_ofNat_of_lt (by show b < 2 ^ 31; omega)]; omega
theorem own_neq {a b : Nat} (ha : a < 2147483648) (hb : b < 2147483648) : Int32.ofNat a = Int32.ofNat b ↔ a = b :=
  ⟨fun h => by have := congrArg Int32.toNatClampNeg h; rwa [own_nat ha, own_nat hb] at this, fun h => by rw [h]⟩
theorem own_neg {a : Nat} (ha : a < 2147483648) : ¬ Int32.ofNat a < 0 := fun h => absurd ((own_nlt (b := 0) ha (by decide)).mp h) (Nat.not_lt_zero _)
theorem own_shr0 (x : Int32) : (x >>> ((0 : Int32) &&& 31)) = x := by
  rw [show ((0 : Int32) &&& 31) = 0 by decide]; exact Int32.shiftRight_zero
theorem own_shl0 (x : Int32) : (x <<< ((0 : Int32) &&& 31)) = x := by
  rw [show ((0 : Int32) &&& 31) = 0 by decide]; exact Int32.shiftLeft_zero
theorem own_add (a b : Nat) : Int32.ofNat a + Int32.ofNat b = Int32.ofNat (a + b) := (Int32.ofNat_add a b).symm
theorem own_sub {a b : Nat} (h : b ≤ a) : Int32.ofNat a - Int32.ofNat b = Int32.ofNat (a - b) := (Int32.ofNat_sub a b h).symm
theorem own_pos {a b : Nat} (ha : a < 1073741824) (hb : b < 1073741824) : (0 : Int32) < Int32.ofNat a - Int32.ofNat b ↔ b < a := by
  have e1 : (Int32.ofNat a).toInt = a := Int32.toInt_ofNat_of_lt (by show a < 2 ^ 31; omega)
  have e2 : (Int32.ofNat b).toInt = b := Int32.toInt_ofNat_of_lt (by show b < 2 ^ 31; omega)
  have e3 : (Int32.ofNat a - Int32.ofNat b).toInt = (a : Int) - b := by
    rw [Int32.toInt_sub, e1, e2]; exact Int.bmod_eq_of_le (by omega) (by omega)
  have e0 : (0 : Int32).toInt = 0 := rfl
  rw [Int32.lt_iff_toInt_lt, e3, e0]; omega
theorem own_selp {s : State} {args : Array Value} {y : MethodName} {C : String} (hsel : (Cond.selects C y y).before args s = true) (hpriv : s.PrivateAt y) (hinst : (Cond.instanceMethod y).before args s = true) (hy : y.cls ≠ "java/lang/invoke/MethodHandle" ∧ y.cls ≠ "java/lang/invoke/VarHandle") : (Cond.selects y.cls y y).before args s = true := by
  obtain ⟨mk, methM, hnamed, hmethM, -, -⟩ := Cond.instanceMethod_spec hinst
  obtain ⟨c2, r2, m2, -, q2, q3, -, kP, hkP, hkPi⟩ := Cond.selects_spec hsel
  cases (State.methodFound?_of_named hnamed hy).symm.trans q2
  cases hnamed.symm.trans q3
  exact selects_self_of_private (findClass_of_methodNamed hnamed) hkP hkPi hpriv hinst hy
theorem own_same {s : State} {args : Array Value} {y z z' : MethodName} {C : String} (hsel : (Cond.selects C z z').before args s = true) (hz : z'.cls = y.cls) (hinst : (Cond.instanceMethod y).before args s = true) (hy : y.cls ≠ "java/lang/invoke/MethodHandle" ∧ y.cls ≠ "java/lang/invoke/VarHandle") : (Cond.sameMethod y.cls y.cls y.name y.desc).before args s = true := by
  obtain ⟨mk, methM, hnamed, -⟩ := Cond.instanceMethod_spec hinst
  obtain ⟨c2, r2, m2, -, q2, q3, -, kP, hkP, hkPi⟩ := Cond.selects_spec hsel
  have e1 := findClass_of_methodNamed hnamed
  have e2 := findClass_of_methodNamed q3
  rw [hz] at e2
  have e3 : mk.cls = m2.cls := Option.some.inj (e1.symm.trans e2)
  rw [← e3] at hkP
  have hf := State.methodFound?_of_named hnamed hy
  have hn : s.methodNamed? ⟨y.cls, y.name, y.desc⟩ = some mk := hnamed
  simp [Cond.before, Cond.holds, Cond.value, e1, hf, hn, hkP, hkPi]
theorem own_nf {s : State} {args : Array Value} {y z z' : MethodName} {C : String} (hsel : (Cond.selects C z z').before args s = true) (hz : z'.cls = y.cls) : NotFace s y := fun r0 h0 => by
  obtain ⟨c2, r2, m2, -, q2, q3, -, kP, hkP, hkPi⟩ := Cond.selects_spec hsel
  have e1 := findClass_of_methodNamed h0
  have e2 := findClass_of_methodNamed q3
  rw [hz] at e2
  have e3 : r0.cls = m2.cls := Option.some.inj (e1.symm.trans e2)
  rw [← e3] at hkP
  exact ⟨kP, hkP, hkPi⟩
theorem own_nev {Z : State} {h : Heap} {a b : Addr} {C : String} {a0 : Array Value} {n : Nat} {k : ClassId} {ty : FieldType} {z : Int32} {vs : List Value} {d : Value} (E : Exa Z h a C) (wi : (Cond.instantiable C n).before a0 Z = true) (V : Arv Z h b k ty z vs d) : a ≠ b := fun e => by
  subst e
  obtain ⟨c1, kc, h1, h2, h3, -, -⟩ := E
  obtain ⟨c2, A, -⟩ := V
  cases h1.symm.trans A.1
  obtain ⟨hs, k2, hk2, comp, hkind⟩ := A.2.1
  obtain ⟨t, kt, g1, g2, g3, -, -⟩ := Cond.instantiable_spec wi
  cases h2.symm.trans g1
  cases hk2.symm.trans g2
  rw [hkind] at g3; cases g3
theorem own_full {Z : State} {h : Heap} {a : Addr} {k : ClassId} {ty : FieldType} {z : Int32} {vs : List Value} {d : Value} (V : Arv Z h a k ty z vs d) : ∃ vs' : List Value, vs'.length = z.toNatClampNeg ∧ Arv Z h a k ty z vs' d := by
  refine ⟨(List.range z.toNatClampNeg).map fun i => vs.getD i d, by simp, ?_⟩
  obtain ⟨c, A, q, S, n, H, G⟩ := V
  have e : ∀ i, i < c.slots.size → ((List.range z.toNatClampNeg).map fun i => vs.getD i d).getD i d = vs.getD i d := fun i hi => by
    rw [S] at hi
    simp [List.getD_eq_getElem?_getD, hi]
  exact ⟨c, A, q, S, n, fun i hi => by rw [e i hi]; exact H i hi, fun i hi => by rw [e i hi]; exact G i hi⟩
theorem own_or {n0 : Nat} {t t' : Addr} {H : Heap} (q : t' = t ∨ H.size ≤ t') (g : n0 ≤ t) (g2 : n0 ≤ H.size) : n0 ≤ t' := by exact q.elim (fun z => z ▸ g) (fun z => Nat.le_trans g2 z)
theorem own_orin {ws : List Addr} {t t' : Addr} {H h0 : Heap} (q : t' = t ∨ H.size ≤ t') (g : t ∈ ws ∨ h0.size ≤ t) (g2 : h0.size ≤ H.size) : t' ∈ ws ∨ h0.size ≤ t' := by exact q.elim (fun z => z ▸ g) (fun z => Or.inr (Nat.le_trans g2 z))
theorem own_orne {x t t' : Addr} {H : Heap} (q : t' = t ∨ H.size ≤ t') (g : x ≠ t) (l : x < H.size) : x ≠ t' := by exact q.elim (fun z => z ▸ g) (fun z => Nat.ne_of_lt (Nat.lt_of_lt_of_le l z))

def Qs (Z : State) (x tx : Addr) (h0 : Heap) (n0 : Nat) (v : Option Value) (h : Heap) (L : List Loc) : Prop := v = none ∧ Fr n0 L ∧ Keep h0 h [x]
def Qb (Z : State) (b t : Addr) (rv : Option Value) (cn mn : Nat) (h0 : Heap) (n0 : Nat) (v : Option Value) (h : Heap) (L : List Loc) : Prop :=
  v = rv ∧ Fr n0 L ∧ Keep h0 h [b, t] ∧ ∃ (t' : Addr) (k' : ClassId) (L' : Nat) (vs' : List Value), (t' = t ∨ h0.size ≤ t') ∧ mn ≤ L' ∧ L' ≤ 300 ∧ 16 ≤ L' ∧ Fld Z h b "java/lang/AbstractStringBuilder" "value" "[B" (.ref t') ∧ Fld Z h b "java/lang/AbstractStringBuilder" "coder" "B" (.int 0) ∧ Fld Z h b "java/lang/AbstractStringBuilder" "count" "I" (.int (Int32.ofNat cn)) ∧ Arv Z h t' k' .byte (Int32.ofNat L') vs' (.int 0) ∧ Exa Z h t' "[B"
def Qa (Z : State) (t : Addr) (LL : Int32) (h0 : Heap) (n0 : Nat) (v : Option Value) (h : Heap) (L : List Loc) : Prop := v = none ∧ Fr n0 L ∧ Keep h0 h [t] ∧ ∃ (k' : ClassId) (vs' : List Value), Arv Z h t k' .byte LL vs' (.int 0)
def Qr (Z : State) (n : Nat) (h0 : Heap) (n0 : Nat) (v : Option Value) (h : Heap) (L : List Loc) : Prop := ∃ (r : Addr) (k' : ClassId) (vs' : List Value), v = some (.ref r) ∧ Fr n0 L ∧ Keep h0 h [] ∧ h0.size ≤ r ∧ Arv Z h r k' .byte (Int32.ofNat n) vs' (.int 0) ∧ Exa Z h r "[B"
def Qi (Z : State) (x : Addr) (n : Nat) (h0 : Heap) (n0 : Nat) (v : Option Value) (h : Heap) (L : List Loc) : Prop := v = none ∧ Fr n0 L ∧ Keep h0 h [x] ∧ ∃ (r : Addr) (k' : ClassId) (vs' : List Value), h0.size ≤ r ∧ Fld Z h x "java/lang/String" "value" "[B" (.ref r) ∧ Fld Z h x "java/lang/String" "coder" "B" (.int 0) ∧ Arv Z h r k' .byte (Int32.ofNat n) vs' (.int 0)
def Qt (Z : State) (n : Nat) (h0 : Heap) (n0 : Nat) (v : Option Value) (h : Heap) (L : List Loc) : Prop := ∃ (x r : Addr) (k' : ClassId) (vs' : List Value), v = some (.ref x) ∧ Fr n0 L ∧ Keep h0 h [] ∧ h0.size ≤ x ∧ h0.size ≤ r ∧ Exa Z h x "java/lang/String" ∧ Fld Z h x "java/lang/String" "value" "[B" (.ref r) ∧ Fld Z h x "java/lang/String" "coder" "B" (.int 0) ∧ Arv Z h r k' .byte (Int32.ofNat n) vs' (.int 0)
theorem d_rm_max_0 : decode jdk_29_method_65_code 0 = .ok (.iload_n 0, 1) := by decide +kernel
theorem d_rm_max_1 : decode jdk_29_method_65_code 1 = .ok (.iload_n 1, 1) := by decide +kernel
theorem d_rm_max_2 : decode jdk_29_method_65_code 2 = .ok (.if_icmp .lt 7, 3) := by decide +kernel
theorem d_rm_max_5 : decode jdk_29_method_65_code 5 = .ok (.iload_n 0, 1) := by decide +kernel
theorem d_rm_max_6 : decode jdk_29_method_65_code 6 = .ok (.goto 4, 3) := by decide +kernel
theorem d_rm_max_9 : decode jdk_29_method_65_code 9 = .ok (.iload_n 1, 1) := by decide +kernel
theorem d_rm_max_10 : decode jdk_29_method_65_code 10 = .ok (.ireturn, 1) := by decide +kernel
theorem pn_rm_max : plainFor (⟨"java/lang/Math", "max", "(II)I"⟩ : MethodName) = true := by decide +kernel
theorem ef_rm_max (m : MethodId) (x0 : Int32) (x1 : Int32) : entryFrame m #[(.int x0), (.int x1)] 2 = mkF m 0 #[.val (.int x0), .val (.int x1)] [] := by first | (simp [entryFrame, mkF, argsToLocals, Value.category]; done) | rfl
set_option maxRecDepth 65536 in
set_option maxHeartbeats 40000000 in
theorem rm_max (l : Launch) (Z : State) (a0 : Array Value) (hw : ∀ d ∈ tables_1, d.before a0 Z = true) (ws : List Jvm.Cond) (xa xb : Nat) (h0 : Heap) (n0 : Nat) (O : Old Z n0 h0) (hxa : xa < 1073741824) (hxb : xb < 1073741824) :
    MetFree l (⟨"java/lang/Math", "max", "(II)I"⟩ : MethodName) (head1 (Jvm.Cond.code (⟨"java/lang/Math", "max", "(II)I"⟩ : MethodName) jdk_29_method_65_code 2 (some .int) :: ws) ({ frames := 0, cells := 0, slots := 0, locals := 0 } : Room)) (fun as_ U => as_ = #[(.int (Int32.ofNat xa)), (.int (Int32.ofNat xb))] ∧ Z.Warmed39 U.vm ∧ U.heap = h0) (fun _ _ _ _ _ => True) (fun _ U o U' => ∃ v L, o = .returned v ∧ Qpure (some (.int (Int32.ofNat (max xa xb)))) h0 n0 v U'.heap L ∧ FrameEnd U o U' L ({ frames := 0, cells := 0, slots := 0, locals := 0 } : Room).cells ({ frames := 0, cells := 0, slots := 0, locals := 0 } : Room).slots) := by
  refine MetFree.of_bodySF pn_rm_max hisR ?_
  intro p e s m args below meth c s₁ Bd hml0 hP hK
  obtain ⟨rfl, hZ, hh⟩ := hP
  have hx := Bd.exec
  have hby := Bd.bytes
  have hml : c.maxLocals = 2 := hml0
  have hown : s.vm.findClass "java/lang/Math" = some m.cls := findClass_of_methodNamed Bd.named
  have hnm := (name_of_methodNamed Bd.named Bd.method).1
  have X0 : Stand p l e ({ frames := 0, cells := 0, slots := 0, locals := 0 } : Room) s m #[(.int (Int32.ofNat xa)), (.int (Int32.ofNat xb))] below meth c s₁ [] 0 0 := Stand.of_body Bd
  have e0 : s₁.heap = h0 := by rw [← hh, Bd.state]; rfl
  have N := Fr.nil n0
  have K : Keep h0 h0 [] := Keep.refl _ _
  refine Go.by (T' := s₁) (f' := (mkF m 0 #[.val (.int (Int32.ofNat xa)), .val (.int (Int32.ofNat xb))] [])) (fun _ k => castTop (ef_rm_max m (Int32.ofNat xa) (Int32.ofNat xb)) k) ?_
  refine Go.by (T' := s₁) (f' := (mkF m 1 #[.val (.int (Int32.ofNat xa)), .val (.int (Int32.ofNat xb))] [(.int (Int32.ofNat xa))])) (fun _ k => XS.iloadN X0.here hx rfl (hb hby d_rm_max_0) rfl k) ?_
  refine Go.by (T' := s₁) (f' := (mkF m 2 #[.val (.int (Int32.ofNat xa)), .val (.int (Int32.ofNat xb))] [(.int (Int32.ofNat xb)), (.int (Int32.ofNat xa))])) (fun _ k => XS.iloadN X0.here hx rfl (hb hby d_rm_max_1) rfl k) ?_
  by_cases hc2_1 : xa < xb
  · skip
    refine Go.by (T' := s₁) (f' := (mkF m 9 #[.val (.int (Int32.ofNat xa)), .val (.int (Int32.ofNat xb))] [])) (fun _ k => XS.icmpYes X0.here hx rfl (pc0 := 2) (pc' := 9) rfl (hb hby d_rm_max_2) rfl (tlt ((own_nlt (a := xa) (b := xb) (by omega) (by omega)).mpr hc2_1)).1 (by decide) (by decide) k) ?_
    refine Go.by (T' := s₁) (f' := (mkF m 10 #[.val (.int (Int32.ofNat xa)), .val (.int (Int32.ofNat xb))] [(.int (Int32.ofNat xb))])) (fun _ k => XS.iloadN X0.here hx rfl (hb hby d_rm_max_9) rfl k) ?_
    obtain ⟨fs, hr, hrun, hended, hW, hsame⟩ := X0.leave (v := some (.int (Int32.ofNat xb))) (fun h => by rw [Bd.returns] at h; cases h)
    refine ⟨_, _, retOut X0 hx Bd.returns rfl (Or.inl ⟨rfl, Or.inl rfl, _, rfl⟩) (hb hby d_rm_max_10) hr, hrun, hended, _, _, rfl, ?_, ⟨_, rfl⟩, hW, hsame.mono (by decide) (by decide)⟩
    show Qpure (some (.int (Int32.ofNat (max xa xb)))) h0 n0 (some (.int (Int32.ofNat xb))) s₁.heap _
    rw [e0]
    exact ⟨by rw [show max xa xb = xb by omega], N, rfl⟩
  · skip
    refine Go.by (T' := s₁) (f' := (mkF m 5 #[.val (.int (Int32.ofNat xa)), .val (.int (Int32.ofNat xb))] [])) (fun _ k => XS.icmpNo X0.here hx rfl (hb hby d_rm_max_2) rfl (flt (mt (own_nlt (a := xa) (b := xb) (by omega) (by omega)).mp hc2_1)).1 k) ?_
    refine Go.by (T' := s₁) (f' := (mkF m 6 #[.val (.int (Int32.ofNat xa)), .val (.int (Int32.ofNat xb))] [(.int (Int32.ofNat xa))])) (fun _ k => XS.iloadN X0.here hx rfl (hb hby d_rm_max_5) rfl k) ?_
    refine Go.by (T' := s₁) (f' := (mkF m 10 #[.val (.int (Int32.ofNat xa)), .val (.int (Int32.ofNat xb))] [(.int (Int32.ofNat xa))])) (fun _ k => XS.goto X0.here hx rfl (pc0 := 6) (pc' := 10) rfl (hb hby d_rm_max_6) (by decide) (by decide) k) ?_
    obtain ⟨fs, hr, hrun, hended, hW, hsame⟩ := X0.leave (v := some (.int (Int32.ofNat xa))) (fun h => by rw [Bd.returns] at h; cases h)
    refine ⟨_, _, retOut X0 hx Bd.returns rfl (Or.inl ⟨rfl, Or.inl rfl, _, rfl⟩) (hb hby d_rm_max_10) hr, hrun, hended, _, _, rfl, ?_, ⟨_, rfl⟩, hW, hsame.mono (by decide) (by decide)⟩
    show Qpure (some (.int (Int32.ofNat (max xa xb)))) h0 n0 (some (.int (Int32.ofNat xa))) s₁.heap _
    rw [e0]
    exact ⟨by rw [show max xa xb = xa by omega], N, rfl⟩

theorem d_rm_min_0 : decode jdk_29_method_69_code 0 = .ok (.iload_n 0, 1) := by decide +kernel
theorem d_rm_min_1 : decode jdk_29_method_69_code 1 = .ok (.iload_n 1, 1) := by decide +kernel
theorem d_rm_min_2 : decode jdk_29_method_69_code 2 = .ok (.if_icmp .gt 7, 3) := by decide +kernel
theorem d_rm_min_5 : decode jdk_29_method_69_code 5 = .ok (.iload_n 0, 1) := by decide +kernel
theorem d_rm_min_6 : decode jdk_29_method_69_code 6 = .ok (.goto 4, 3) := by decide +kernel
theorem d_rm_min_9 : decode jdk_29_method_69_code 9 = .ok (.iload_n 1, 1) := by decide +kernel
theorem d_rm_min_10 : decode jdk_29_method_69_code 10 = .ok (.ireturn, 1) := by decide +kernel
theorem pn_rm_min : plainFor (⟨"java/lang/Math", "min", "(II)I"⟩ : MethodName) = true := by decide +kernel
theorem ef_rm_min (m : MethodId) (x0 : Int32) (x1 : Int32) : entryFrame m #[(.int x0), (.int x1)] 2 = mkF m 0 #[.val (.int x0), .val (.int x1)] [] := by first | (simp [entryFrame, mkF, argsToLocals, Value.category]; done) | rfl
set_option maxRecDepth 65536 in
set_option maxHeartbeats 40000000 in
theorem rm_min (l : Launch) (Z : State) (a0 : Array Value) (hw : ∀ d ∈ tables_1, d.before a0 Z = true) (ws : List Jvm.Cond) (xa xb : Nat) (h0 : Heap) (n0 : Nat) (O : Old Z n0 h0) (hxa : xa < 1073741824) (hxb : xb < 1073741824) :
    MetFree l (⟨"java/lang/Math", "min", "(II)I"⟩ : MethodName) (head1 (Jvm.Cond.code (⟨"java/lang/Math", "min", "(II)I"⟩ : MethodName) jdk_29_method_69_code 2 (some .int) :: ws) ({ frames := 0, cells := 0, slots := 0, locals := 0 } : Room)) (fun as_ U => as_ = #[(.int (Int32.ofNat xa)), (.int (Int32.ofNat xb))] ∧ Z.Warmed39 U.vm ∧ U.heap = h0) (fun _ _ _ _ _ => True) (fun _ U o U' => ∃ v L, o = .returned v ∧ Qpure (some (.int (Int32.ofNat (min xa xb)))) h0 n0 v U'.heap L ∧ FrameEnd U o U' L ({ frames := 0, cells := 0, slots := 0, locals := 0 } : Room).cells ({ frames := 0, cells := 0, slots := 0, locals := 0 } : Room).slots) := by
  refine MetFree.of_bodySF pn_rm_min hisR ?_
  intro p e s m args below meth c s₁ Bd hml0 hP hK
  obtain ⟨rfl, hZ, hh⟩ := hP
  have hx := Bd.exec
  have hby := Bd.bytes
  have hml : c.maxLocals = 2 := hml0
  have hown : s.vm.findClass "java/lang/Math" = some m.cls := findClass_of_methodNamed Bd.named
  have hnm := (name_of_methodNamed Bd.named Bd.method).1
  have X0 : Stand p l e ({ frames := 0, cells := 0, slots := 0, locals := 0 } : Room) s m #[(.int (Int32.ofNat xa)), (.int (Int32.ofNat xb))] below meth c s₁ [] 0 0 := Stand.of_body Bd
  have e0 : s₁.heap = h0 := by rw [← hh, Bd.state]; rfl
  have N := Fr.nil n0
  have K : Keep h0 h0 [] := Keep.refl _ _
  refine Go.by (T' := s₁) (f' := (mkF m 0 #[.val (.int (Int32.ofNat xa)), .val (.int (Int32.ofNat xb))] [])) (fun _ k => castTop (ef_rm_min m (Int32.ofNat xa) (Int32.ofNat xb)) k) ?_
  refine Go.by (T' := s₁) (f' := (mkF m 1 #[.val (.int (Int32.ofNat xa)), .val (.int (Int32.ofNat xb))] [(.int (Int32.ofNat xa))])) (fun _ k => XS.iloadN X0.here hx rfl (hb hby d_rm_min_0) rfl k) ?_
  refine Go.by (T' := s₁) (f' := (mkF m 2 #[.val (.int (Int32.ofNat xa)), .val (.int (Int32.ofNat xb))] [(.int (Int32.ofNat xb)), (.int (Int32.ofNat xa))])) (fun _ k => XS.iloadN X0.here hx rfl (hb hby d_rm_min_1) rfl k) ?_
  by_cases hc2_1 : xb < xa
  · skip
    refine Go.by (T' := s₁) (f' := (mkF m 9 #[.val (.int (Int32.ofNat xa)), .val (.int (Int32.ofNat xb))] [])) (fun _ k => XS.icmpYes X0.here hx rfl (pc0 := 2) (pc' := 9) rfl (hb hby d_rm_min_2) rfl (tlt ((own_nlt (a := xb) (b := xa) (by omega) (by omega)).mpr hc2_1)).2.2.1 (by decide) (by decide) k) ?_
    refine Go.by (T' := s₁) (f' := (mkF m 10 #[.val (.int (Int32.ofNat xa)), .val (.int (Int32.ofNat xb))] [(.int (Int32.ofNat xb))])) (fun _ k => XS.iloadN X0.here hx rfl (hb hby d_rm_min_9) rfl k) ?_
    obtain ⟨fs, hr, hrun, hended, hW, hsame⟩ := X0.leave (v := some (.int (Int32.ofNat xb))) (fun h => by rw [Bd.returns] at h; cases h)
    refine ⟨_, _, retOut X0 hx Bd.returns rfl (Or.inl ⟨rfl, Or.inl rfl, _, rfl⟩) (hb hby d_rm_min_10) hr, hrun, hended, _, _, rfl, ?_, ⟨_, rfl⟩, hW, hsame.mono (by decide) (by decide)⟩
    show Qpure (some (.int (Int32.ofNat (min xa xb)))) h0 n0 (some (.int (Int32.ofNat xb))) s₁.heap _
    rw [e0]
    exact ⟨by rw [show min xa xb = xb by omega], N, rfl⟩
  · skip
    refine Go.by (T' := s₁) (f' := (mkF m 5 #[.val (.int (Int32.ofNat xa)), .val (.int (Int32.ofNat xb))] [])) (fun _ k => XS.icmpNo X0.here hx rfl (hb hby d_rm_min_2) rfl (flt (mt (own_nlt (a := xb) (b := xa) (by omega) (by omega)).mp hc2_1)).2.2.1 k) ?_
    refine Go.by (T' := s₁) (f' := (mkF m 6 #[.val (.int (Int32.ofNat xa)), .val (.int (Int32.ofNat xb))] [(.int (Int32.ofNat xa))])) (fun _ k => XS.iloadN X0.here hx rfl (hb hby d_rm_min_5) rfl k) ?_
    refine Go.by (T' := s₁) (f' := (mkF m 10 #[.val (.int (Int32.ofNat xa)), .val (.int (Int32.ofNat xb))] [(.int (Int32.ofNat xa))])) (fun _ k => XS.goto X0.here hx rfl (pc0 := 6) (pc' := 10) rfl (hb hby d_rm_min_6) (by decide) (by decide) k) ?_
    obtain ⟨fs, hr, hrun, hended, hW, hsame⟩ := X0.leave (v := some (.int (Int32.ofNat xa))) (fun h => by rw [Bd.returns] at h; cases h)
    refine ⟨_, _, retOut X0 hx Bd.returns rfl (Or.inl ⟨rfl, Or.inl rfl, _, rfl⟩) (hb hby d_rm_min_10) hr, hrun, hended, _, _, rfl, ?_, ⟨_, rfl⟩, hW, hsame.mono (by decide) (by decide)⟩
    show Qpure (some (.int (Int32.ofNat (min xa xb)))) h0 n0 (some (.int (Int32.ofNat xa))) s₁.heap _
    rw [e0]
    exact ⟨by rw [show min xa xb = xa by omega], N, rfl⟩

theorem d_nl_0 : decode jdk_48_method_27_code 0 = .ok (.iload_n 0, 1) := by decide +kernel
theorem d_nl_1 : decode jdk_48_method_27_code 1 = .ok (.iload_n 1, 1) := by decide +kernel
theorem d_nl_2 : decode jdk_48_method_27_code 2 = .ok (.iload_n 2, 1) := by decide +kernel
theorem d_nl_3 : decode jdk_48_method_27_code 3 = .ok (.invokestatic 194, 3) := by decide +kernel
theorem d_nl_6 : decode jdk_48_method_27_code 6 = .ok (.iadd, 1) := by decide +kernel
theorem d_nl_7 : decode jdk_48_method_27_code 7 = .ok (.istore_n 3, 1) := by decide +kernel
theorem d_nl_8 : decode jdk_48_method_27_code 8 = .ok (.iconst 0, 1) := by decide +kernel
theorem d_nl_9 : decode jdk_48_method_27_code 9 = .ok (.iload_n 3, 1) := by decide +kernel
theorem d_nl_10 : decode jdk_48_method_27_code 10 = .ok (.if_icmp .ge 11, 3) := by decide +kernel
theorem d_nl_13 : decode jdk_48_method_27_code 13 = .ok (.iload_n 3, 1) := by decide +kernel
theorem d_nl_14 : decode jdk_48_method_27_code 14 = .ok (.ldc 200, 2) := by decide +kernel
theorem d_nl_16 : decode jdk_48_method_27_code 16 = .ok (.if_icmp .gt 5, 3) := by decide +kernel
theorem d_nl_19 : decode jdk_48_method_27_code 19 = .ok (.iload_n 3, 1) := by decide +kernel
theorem d_nl_20 : decode jdk_48_method_27_code 20 = .ok (.ireturn, 1) := by decide +kernel
theorem pn_nl : plainFor (⟨"jdk/internal/util/ArraysSupport", "newLength", "(III)I"⟩ : MethodName) = true := plainFor_of_name (by first | (simp [plainName, overriddenIn]; done) | decide +kernel)
theorem pd_nl_0 : parseMethodDescriptor "(II)I" = some ⟨[.int, .int], some .int⟩ := by decide +kernel
theorem ef_nl (m : MethodId) (x0 : Int32) (x1 : Int32) (x2 : Int32) : entryFrame m #[(.int x0), (.int x1), (.int x2)] 4 = mkF m 0 #[.val (.int x0), .val (.int x1), .val (.int x2), .unset] [] := by first | (simp [entryFrame, mkF, argsToLocals, Value.category]; done) | rfl
set_option maxRecDepth 65536 in
set_option maxHeartbeats 40000000 in
theorem rm_newlen (l : Launch) (Z : State) (a0 : Array Value) (hw : ∀ d ∈ tables_1, d.before a0 Z = true) (ws : List Jvm.Cond) (xa xg xq : Nat) (h0 : Heap) (n0 : Nat) (O : Old Z n0 h0) (hxa : xa < 500000000) (hxg : xg < 500000000) (hxq : xq < 500000000) (hxp : 0 < xq) :
    MetFree l (⟨"jdk/internal/util/ArraysSupport", "newLength", "(III)I"⟩ : MethodName) (head1 (Jvm.Cond.code (⟨"jdk/internal/util/ArraysSupport", "newLength", "(III)I"⟩ : MethodName) jdk_48_method_27_code 4 (some .int) :: ws) ({ frames := 1, cells := 0, slots := 0, locals := 14 } : Room)) (fun as_ U => as_ = #[(.int (Int32.ofNat xa)), (.int (Int32.ofNat xg)), (.int (Int32.ofNat xq))] ∧ Z.Warmed39 U.vm ∧ U.heap = h0) (fun _ _ _ _ _ => True) (fun _ U o U' => ∃ v L, o = .returned v ∧ Qpure (some (.int (Int32.ofNat (xa + max xg xq)))) h0 n0 v U'.heap L ∧ FrameEnd U o U' L ({ frames := 1, cells := 0, slots := 0, locals := 14 } : Room).cells ({ frames := 1, cells := 0, slots := 0, locals := 14 } : Room).slots) := by
  refine MetFree.of_bodySF pn_nl hisR ?_
  intro p e s m args below meth c s₁ Bd hml0 hP hK
  obtain ⟨rfl, hZ, hh⟩ := hP
  have hx := Bd.exec
  have hby := Bd.bytes
  have hml : c.maxLocals = 4 := hml0
  have hown : s.vm.findClass "jdk/internal/util/ArraysSupport" = some m.cls := findClass_of_methodNamed Bd.named
  have hnm := (name_of_methodNamed Bd.named Bd.method).1
  have X0 : Stand p l e ({ frames := 1, cells := 0, slots := 0, locals := 14 } : Room) s m #[(.int (Int32.ofNat xa)), (.int (Int32.ofNat xg)), (.int (Int32.ofNat xq))] below meth c s₁ [] 0 0 := Stand.of_body Bd
  have e0 : s₁.heap = h0 := by rw [← hh, Bd.state]; rfl
  have N := Fr.nil n0
  have K : Keep h0 h0 [] := Keep.refl _ _
  refine Go.by (T' := s₁) (f' := (mkF m 0 #[.val (.int (Int32.ofNat xa)), .val (.int (Int32.ofNat xg)), .val (.int (Int32.ofNat xq)), .unset] [])) (fun _ k => castTop (ef_nl m (Int32.ofNat xa) (Int32.ofNat xg) (Int32.ofNat xq)) k) ?_
  refine Go.by (T' := s₁) (f' := (mkF m 1 #[.val (.int (Int32.ofNat xa)), .val (.int (Int32.ofNat xg)), .val (.int (Int32.ofNat xq)), .unset] [(.int (Int32.ofNat xa))])) (fun _ k => XS.iloadN X0.here hx rfl (hb hby d_nl_0) rfl k) ?_
  refine Go.by (T' := s₁) (f' := (mkF m 2 #[.val (.int (Int32.ofNat xa)), .val (.int (Int32.ofNat xg)), .val (.int (Int32.ofNat xq)), .unset] [(.int (Int32.ofNat xg)), (.int (Int32.ofNat xa))])) (fun _ k => XS.iloadN X0.here hx rfl (hb hby d_nl_1) rfl k) ?_
  refine Go.by (T' := s₁) (f' := (mkF m 3 #[.val (.int (Int32.ofNat xa)), .val (.int (Int32.ofNat xg)), .val (.int (Int32.ofNat xq)), .unset] [(.int (Int32.ofNat xq)), (.int (Int32.ofNat xg)), (.int (Int32.ofNat xa))])) (fun _ k => XS.iloadN X0.here hx rfl (hb hby d_nl_2) rfl k) ?_
  have hm1a : xg < 1073741824 := by omega
  have hm1b : xq < 1073741824 := by omega
  obtain ⟨v1, _, ⟨T1, L1, k1, n1⟩, -, X1, ⟨Lc1, hQ1, l1, y1, z1⟩, st1⟩ := Jvm.LawKit.callS X0 hx (y := (⟨"java/lang/Math", "max", "(II)I"⟩ : MethodName)) hown (mvT hZ (hw _ (List.mem_of_getElem? (i := 175) rfl))) (mvT hZ (hw _ (List.mem_of_getElem? (i := 176) rfl))) (mvT hZ (hw _ (List.mem_of_getElem? (i := 163) rfl))) (mvT hZ (hw _ (List.mem_of_getElem? (i := 177) rfl))) (by decide) (backOf (W := 1) (rm_max l Z a0 hw [] (xg) (xq) h0 n0 O hm1a hm1b) hZ (hw _ (List.mem_of_getElem? (i := 177) rfl)) (hw _ (List.mem_of_getElem? (i := 163) rfl)) (by decide) (by decide)) (g := (mkF m 3 #[.val (.int (Int32.ofNat xa)), .val (.int (Int32.ofNat xg)), .val (.int (Int32.ofNat xq)), .unset] [(.int (Int32.ofNat xq)), (.int (Int32.ofNat xg)), (.int (Int32.ofNat xa))])) rfl (by rw [hml]; rfl) (argsL := [(.int (Int32.ofNat xg)), (.int (Int32.ofNat xq))]) (rest := [(.int (Int32.ofNat xa))]) (lenOf pd_nl_0 rfl) rfl (by show 2 * 0 + _ ≤ _; exact Nat.le_of_eq rfl) (hb hby d_nl_3) (fun _ _ => ⟨rfl, e0, (by decide : 0 + 0 ≤ _), (by decide : 0 + 0 ≤ _)⟩)
  dsimp only [Pt.U, Pt.locs, Pt.cells, Pt.slots] at X1 l1 y1 z1 st1 hQ1
  subst l1 y1 z1
  obtain ⟨rfl, Nq1, e1⟩ := hQ1
  replace N := Fr.app N Nq1
  refine Go.by (T' := T1) (f' := (mkF m 6 #[.val (.int (Int32.ofNat xa)), .val (.int (Int32.ofNat xg)), .val (.int (Int32.ofNat xq)), .unset] [(.int (Int32.ofNat (max (xg) (xq)))), (.int (Int32.ofNat xa))])) (st1) ?_
  refine Go.by (T' := T1) (f' := (mkF m 7 #[.val (.int (Int32.ofNat xa)), .val (.int (Int32.ofNat xg)), .val (.int (Int32.ofNat xq)), .unset] [(.int ((Int32.ofNat xa) + (Int32.ofNat (max (xg) (xq)))))])) (fun _ k => XS.iadd X1.here hx rfl (hb hby d_nl_6) rfl k) ?_
  rw [show ((Int32.ofNat xa) + (Int32.ofNat (max (xg) (xq)))) = (Int32.ofNat (xa + (max (xg) (xq)))) from own_add _ _]
  refine Go.by (T' := T1) (f' := (mkF m 8 #[.val (.int (Int32.ofNat xa)), .val (.int (Int32.ofNat xg)), .val (.int (Int32.ofNat xq)), .val (.int (Int32.ofNat (xa + (max (xg) (xq)))))] [])) (fun _ k => XS.istoreN X1.here hx rfl (hb hby d_nl_7) rfl (l' := #[.val (.int (Int32.ofNat xa)), .val (.int (Int32.ofNat xg)), .val (.int (Int32.ofNat xq)), .val (.int (Int32.ofNat (xa + (max (xg) (xq)))))]) rfl k) ?_
  refine Go.by (T' := T1) (f' := (mkF m 9 #[.val (.int (Int32.ofNat xa)), .val (.int (Int32.ofNat xg)), .val (.int (Int32.ofNat xq)), .val (.int (Int32.ofNat (xa + (max (xg) (xq)))))] [(.int (0 : Int32))])) (fun _ k => XS.iconst X1.here hx rfl (hb hby d_nl_8) k) ?_
  refine Go.by (T' := T1) (f' := (mkF m 10 #[.val (.int (Int32.ofNat xa)), .val (.int (Int32.ofNat xg)), .val (.int (Int32.ofNat xq)), .val (.int (Int32.ofNat (xa + (max (xg) (xq)))))] [(.int (Int32.ofNat (xa + (max (xg) (xq))))), (.int (0 : Int32))])) (fun _ k => XS.iloadN X1.here hx rfl (hb hby d_nl_9) rfl k) ?_
  refine Go.by (T' := T1) (f' := (mkF m 13 #[.val (.int (Int32.ofNat xa)), .val (.int (Int32.ofNat xg)), .val (.int (Int32.ofNat xq)), .val (.int (Int32.ofNat (xa + (max (xg) (xq)))))] [])) (fun _ k => XS.icmpNo X1.here hx rfl (hb hby d_nl_10) rfl (tlt ((own_nlt (a := 0) (b := (xa + (max (xg) (xq)))) (by omega) (by omega)).mpr (by omega))).2.1 k) ?_
  refine Go.by (T' := T1) (f' := (mkF m 14 #[.val (.int (Int32.ofNat xa)), .val (.int (Int32.ofNat xg)), .val (.int (Int32.ofNat xq)), .val (.int (Int32.ofNat (xa + (max (xg) (xq)))))] [(.int (Int32.ofNat (xa + (max (xg) (xq)))))])) (fun _ k => XS.iloadN X1.here hx rfl (hb hby d_nl_13) rfl k) ?_
  refine Go.by (T' := T1) (f' := (mkF m 16 #[.val (.int (Int32.ofNat xa)), .val (.int (Int32.ofNat xg)), .val (.int (Int32.ofNat xq)), .val (.int (Int32.ofNat (xa + (max (xg) (xq)))))] [(.int (2147483639 : Int32)), (.int (Int32.ofNat (xa + (max (xg) (xq)))))])) (X1.ldcInt hx hown (mvT hZ (hw _ (List.mem_of_getElem? (i := 178) rfl))) (g := (mkF m 14 #[.val (.int (Int32.ofNat xa)), .val (.int (Int32.ofNat xg)), .val (.int (Int32.ofNat xq)), .val (.int (Int32.ofNat (xa + (max (xg) (xq)))))] [(.int (Int32.ofNat (xa + (max (xg) (xq)))))])) rfl (hb hby d_nl_14)) ?_
  refine Go.by (T' := T1) (f' := (mkF m 19 #[.val (.int (Int32.ofNat xa)), .val (.int (Int32.ofNat xg)), .val (.int (Int32.ofNat xq)), .val (.int (Int32.ofNat (xa + (max (xg) (xq)))))] [])) (fun _ k => XS.icmpNo X1.here hx rfl (hb hby d_nl_16) rfl (flt (mt (own_nlt (a := 2147483639) (b := (xa + (max (xg) (xq)))) (by omega) (by omega)).mp (by omega))).2.2.1 k) ?_
  refine Go.by (T' := T1) (f' := (mkF m 20 #[.val (.int (Int32.ofNat xa)), .val (.int (Int32.ofNat xg)), .val (.int (Int32.ofNat xq)), .val (.int (Int32.ofNat (xa + (max (xg) (xq)))))] [(.int (Int32.ofNat (xa + (max (xg) (xq)))))])) (fun _ k => XS.iloadN X1.here hx rfl (hb hby d_nl_19) rfl k) ?_
  obtain ⟨fs, hr, hrun, hended, hW, hsame⟩ := X1.leave (v := some (.int (Int32.ofNat (xa + (max (xg) (xq)))))) (fun h => by rw [Bd.returns] at h; cases h)
  refine ⟨_, _, retOut X1 hx Bd.returns rfl (Or.inl ⟨rfl, Or.inl rfl, _, rfl⟩) (hb hby d_nl_20) hr, hrun, hended, _, _, rfl, ?_, ⟨_, rfl⟩, hW, hsame.mono (by decide) (by decide)⟩
  show Qpure (some (.int (Int32.ofNat (xa + max xg xq)))) h0 n0 (some (.int (Int32.ofNat (xa + (max (xg) (xq)))))) T1.heap _
  rw [e1]
  exact ⟨rfl, N, rfl⟩

theorem d_chk_0 : decode jdk_65_method_131_code 0 = .ok (.iload_n 1, 1) := by decide +kernel
theorem d_chk_1 : decode jdk_65_method_131_code 1 = .ok (.iload_n 0, 1) := by decide +kernel
theorem d_chk_2 : decode jdk_65_method_131_code 2 = .ok (.if_icmp .ge 35, 3) := by decide +kernel
theorem d_chk_37 : decode jdk_65_method_131_code 37 = .ok (.return_, 1) := by decide +kernel
theorem pn_chk : plainFor (⟨"java/util/Arrays", "checkLength", "(II)V"⟩ : MethodName) = true := plainFor_of_name (by first | (simp [plainName, overriddenIn]; done) | decide +kernel)
theorem ef_chk (m : MethodId) (x0 : Int32) (x1 : Int32) : entryFrame m #[(.int x0), (.int x1)] 2 = mkF m 0 #[.val (.int x0), .val (.int x1)] [] := by first | (simp [entryFrame, mkF, argsToLocals, Value.category]; done) | rfl
set_option maxRecDepth 65536 in
set_option maxHeartbeats 40000000 in
theorem rm_chk (l : Launch) (Z : State) (a0 : Array Value) (hw : ∀ d ∈ tables_1, d.before a0 Z = true) (ws : List Jvm.Cond) (xa xb : Nat) (h0 : Heap) (n0 : Nat) (O : Old Z n0 h0) (hxa : xa ≤ xb) (hxb : xb < 1073741824) :
    MetFree l (⟨"java/util/Arrays", "checkLength", "(II)V"⟩ : MethodName) (head1 (Jvm.Cond.code (⟨"java/util/Arrays", "checkLength", "(II)V"⟩ : MethodName) jdk_65_method_131_code 2 none :: ws) ({ frames := 0, cells := 0, slots := 0, locals := 0 } : Room)) (fun as_ U => as_ = #[(.int (Int32.ofNat xa)), (.int (Int32.ofNat xb))] ∧ Z.Warmed39 U.vm ∧ U.heap = h0) (fun _ _ _ _ _ => True) (fun _ U o U' => ∃ v L, o = .returned v ∧ Qpure none h0 n0 v U'.heap L ∧ FrameEnd U o U' L ({ frames := 0, cells := 0, slots := 0, locals := 0 } : Room).cells ({ frames := 0, cells := 0, slots := 0, locals := 0 } : Room).slots) := by
  refine MetFree.of_bodySF pn_chk hisR ?_
  intro p e s m args below meth c s₁ Bd hml0 hP hK
  obtain ⟨rfl, hZ, hh⟩ := hP
  have hx := Bd.exec
  have hby := Bd.bytes
  have hml : c.maxLocals = 2 := hml0
  have hown : s.vm.findClass "java/util/Arrays" = some m.cls := findClass_of_methodNamed Bd.named
  have hnm := (name_of_methodNamed Bd.named Bd.method).1
  have X0 : Stand p l e ({ frames := 0, cells := 0, slots := 0, locals := 0 } : Room) s m #[(.int (Int32.ofNat xa)), (.int (Int32.ofNat xb))] below meth c s₁ [] 0 0 := Stand.of_body Bd
  have e0 : s₁.heap = h0 := by rw [← hh, Bd.state]; rfl
  have N := Fr.nil n0
  have K : Keep h0 h0 [] := Keep.refl _ _
  refine Go.by (T' := s₁) (f' := (mkF m 0 #[.val (.int (Int32.ofNat xa)), .val (.int (Int32.ofNat xb))] [])) (fun _ k => castTop (ef_chk m (Int32.ofNat xa) (Int32.ofNat xb)) k) ?_
  refine Go.by (T' := s₁) (f' := (mkF m 1 #[.val (.int (Int32.ofNat xa)), .val (.int (Int32.ofNat xb))] [(.int (Int32.ofNat xb))])) (fun _ k => XS.iloadN X0.here hx rfl (hb hby d_chk_0) rfl k) ?_
  refine Go.by (T' := s₁) (f' := (mkF m 2 #[.val (.int (Int32.ofNat xa)), .val (.int (Int32.ofNat xb))] [(.int (Int32.ofNat xa)), (.int (Int32.ofNat xb))])) (fun _ k => XS.iloadN X0.here hx rfl (hb hby d_chk_1) rfl k) ?_
  refine Go.by (T' := s₁) (f' := (mkF m 37 #[.val (.int (Int32.ofNat xa)), .val (.int (Int32.ofNat xb))] [])) (fun _ k => XS.icmpYes X0.here hx rfl (pc0 := 2) (pc' := 37) rfl (hb hby d_chk_2) rfl (flt (mt (own_nlt (a := xb) (b := xa) (by omega) (by omega)).mp (by omega))).2.1 (by decide) (by decide) k) ?_
  obtain ⟨fs, hr, hrun, hended, hW, hsame⟩ := X0.leave (v := none) (fun _ => rfl)
  refine ⟨_, _, X0.returnOut hx Bd.returns (hb hby d_chk_37) hr, hrun, hended, _, _, rfl, ?_, ⟨_, rfl⟩, hW, hsame.mono (by decide) (by decide)⟩
  show Qpure none h0 n0 (none) s₁.heap _
  rw [e0]
  exact ⟨rfl, N, rfl⟩

theorem d_coder_0 : decode jdk_42_method_152_code 0 = .ok (.getstatic 38, 3) := by decide +kernel
theorem d_coder_3 : decode jdk_42_method_152_code 3 = .ok (.ifCond .eq 10, 3) := by decide +kernel
theorem d_coder_6 : decode jdk_42_method_152_code 6 = .ok (.aload_n 0, 1) := by decide +kernel
theorem d_coder_7 : decode jdk_42_method_152_code 7 = .ok (.getfield 15, 3) := by decide +kernel
theorem d_coder_10 : decode jdk_42_method_152_code 10 = .ok (.goto 4, 3) := by decide +kernel
theorem d_coder_14 : decode jdk_42_method_152_code 14 = .ok (.ireturn, 1) := by decide +kernel
theorem pn_coder : plainFor (⟨"java/lang/String", "coder", "()B"⟩ : MethodName) = true := plainFor_of_name (by first | (simp [plainName, overriddenIn]; done) | decide +kernel)
theorem ef_coder (m : MethodId) (x0 : Addr) : entryFrame m #[(.ref x0)] 1 = mkF m 0 #[.val (.ref x0)] [] := by first | (simp [entryFrame, mkF, argsToLocals, Value.category]; done) | rfl
set_option maxRecDepth 65536 in
set_option maxHeartbeats 40000000 in
theorem rm_coder (l : Launch) (Z : State) (a0 : Array Value) (hw : ∀ d ∈ tables_1, d.before a0 Z = true) (ws : List Jvm.Cond) (x tx : Addr) (kx : ClassId) (lx : Nat) (vx : List Value) (zc : Int32) (ls us ss : Addr) (hS0 : Sf Z zc ls us ss) (h0 : Heap) (n0 : Nat) (O : Old Z n0 h0) (E_x : Exa Z h0 x "java/lang/String") (Fv_x : Fld Z h0 x "java/lang/String" "value" "[B" (.ref tx)) (Fc_x : Fld Z h0 x "java/lang/String" "coder" "B" (.int 0)) (V_tx : Arv Z h0 tx kx .byte (Int32.ofNat lx) vx (.int 0)) :
    MetFree l (⟨"java/lang/String", "coder", "()B"⟩ : MethodName) (head1 (Jvm.Cond.code (⟨"java/lang/String", "coder", "()B"⟩ : MethodName) jdk_42_method_152_code 1 (some .byte) :: ws) ({ frames := 0, cells := 0, slots := 0, locals := 0 } : Room)) (fun as_ U => as_ = #[(.ref x)] ∧ Z.Warmed39 U.vm ∧ U.heap = h0) (fun _ _ _ _ _ => True) (fun _ U o U' => ∃ v L, o = .returned v ∧ Qpure (some (.int 0)) h0 n0 v U'.heap L ∧ FrameEnd U o U' L ({ frames := 0, cells := 0, slots := 0, locals := 0 } : Room).cells ({ frames := 0, cells := 0, slots := 0, locals := 0 } : Room).slots) := by
  refine MetFree.of_bodySF pn_coder hisR ?_
  intro p e s m args below meth c s₁ Bd hml0 hP hK
  obtain ⟨rfl, hZ, hh⟩ := hP
  have hx := Bd.exec
  have hby := Bd.bytes
  have hml : c.maxLocals = 1 := hml0
  have hown : s.vm.findClass "java/lang/String" = some m.cls := findClass_of_methodNamed Bd.named
  have hnm := (name_of_methodNamed Bd.named Bd.method).1
  have X0 : Stand p l e ({ frames := 0, cells := 0, slots := 0, locals := 0 } : Room) s m #[(.ref x)] below meth c s₁ [] 0 0 := Stand.of_body Bd
  have e0 : s₁.heap = h0 := by rw [← hh, Bd.state]; rfl
  have N := Fr.nil n0
  have K : Keep h0 h0 [] := Keep.refl _ _
  refine Go.by (T' := s₁) (f' := (mkF m 0 #[.val (.ref x)] [])) (fun _ k => castTop (ef_coder m x) k) ?_
  obtain ⟨T1, X1, e1, st1⟩ := getS2 X0 hx hZ hown (host := "") (Or.inl (hw _ (List.mem_of_getElem? (i := 70) rfl))) Via.refl e0 (Sta.ext O.2 hS0.1) (g := (mkF m 0 #[.val (.ref x)] [])) rfl (hb hby d_coder_0)
  refine Go.by (T' := T1) (f' := (mkF m 3 #[.val (.ref x)] [(.int zc)])) (st1) ?_
  refine Go.by (T' := T1) (f' := (mkF m 6 #[.val (.ref x)] [])) (fun _ k => XS.ifNo X1.here hx rfl (hb hby d_coder_3) rfl ((if0 _ _).trans (feq hS0.2.1).1) k) ?_
  refine Go.by (T' := T1) (f' := (mkF m 7 #[.val (.ref x)] [(.ref x)])) (fun _ k => XS.aloadN X1.here hx rfl (hb hby d_coder_6) rfl rfl k) ?_
  obtain ⟨T3, X3, e3, st3⟩ := getF X1 hx hZ hown (host := "") (Or.inl (hw _ (List.mem_of_getElem? (i := 21) rfl))) Via.refl e1 Fc_x (g := (mkF m 7 #[.val (.ref x)] [(.ref x)])) rfl rfl (hb hby d_coder_7)
  refine Go.by (T' := T3) (f' := (mkF m 10 #[.val (.ref x)] [(.int (0 : Int32))])) (st3) ?_
  refine Go.by (T' := T3) (f' := (mkF m 14 #[.val (.ref x)] [(.int (0 : Int32))])) (fun _ k => XS.goto X3.here hx rfl (pc0 := 10) (pc' := 14) rfl (hb hby d_coder_10) (by decide) (by decide) k) ?_
  obtain ⟨fs, hr, hrun, hended, hW, hsame⟩ := X3.leave (v := some (.int (0 : Int32))) (fun h => by rw [Bd.returns] at h; cases h)
  refine ⟨_, _, retN X3 hx (t := .byte) Bd.returns (by simp) (hb hby d_coder_14) hr, hrun, hended, _, _, rfl, ?_, ⟨_, rfl⟩, hW, hsame.mono (by decide) (by decide)⟩
  show Qpure (some (.int 0)) h0 n0 (some (.int (0 : Int32))) T3.heap _
  rw [e3]
  exact ⟨rfl, N, rfl⟩

theorem d_slen_0 : decode jdk_42_method_54_code 0 = .ok (.aload_n 0, 1) := by decide +kernel
theorem d_slen_1 : decode jdk_42_method_54_code 1 = .ok (.getfield 9, 3) := by decide +kernel
theorem d_slen_4 : decode jdk_42_method_54_code 4 = .ok (.arraylength, 1) := by decide +kernel
theorem d_slen_5 : decode jdk_42_method_54_code 5 = .ok (.aload_n 0, 1) := by decide +kernel
theorem d_slen_6 : decode jdk_42_method_54_code 6 = .ok (.invokevirtual 335, 3) := by decide +kernel
theorem d_slen_9 : decode jdk_42_method_54_code 9 = .ok (.ishr, 1) := by decide +kernel
theorem d_slen_10 : decode jdk_42_method_54_code 10 = .ok (.ireturn, 1) := by decide +kernel
theorem pn_slen : plainFor (⟨"java/lang/String", "length", "()I"⟩ : MethodName) = true := plainFor_of_name (by first | (simp [plainName, overriddenIn]; done) | decide +kernel)
theorem pd_slen_0 : parseMethodDescriptor "()B" = some ⟨[], some .byte⟩ := by decide +kernel
theorem ef_slen (m : MethodId) (x0 : Addr) : entryFrame m #[(.ref x0)] 1 = mkF m 0 #[.val (.ref x0)] [] := by first | (simp [entryFrame, mkF, argsToLocals, Value.category]; done) | rfl
set_option maxRecDepth 65536 in
set_option maxHeartbeats 40000000 in
theorem rm_slen (l : Launch) (Z : State) (a0 : Array Value) (hw : ∀ d ∈ tables_1, d.before a0 Z = true) (ws : List Jvm.Cond) (x tx : Addr) (kx : ClassId) (lx : Nat) (vx : List Value) (zc : Int32) (ls us ss : Addr) (hS0 : Sf Z zc ls us ss) (h0 : Heap) (n0 : Nat) (O : Old Z n0 h0) (E_x : Exa Z h0 x "java/lang/String") (Fv_x : Fld Z h0 x "java/lang/String" "value" "[B" (.ref tx)) (Fc_x : Fld Z h0 x "java/lang/String" "coder" "B" (.int 0)) (V_tx : Arv Z h0 tx kx .byte (Int32.ofNat lx) vx (.int 0)) :
    MetFree l (⟨"java/lang/String", "length", "()I"⟩ : MethodName) (head1 (Jvm.Cond.code (⟨"java/lang/String", "length", "()I"⟩ : MethodName) jdk_42_method_54_code 1 (some .int) :: ws) ({ frames := 1, cells := 0, slots := 0, locals := 13 } : Room)) (fun as_ U => as_ = #[(.ref x)] ∧ Z.Warmed39 U.vm ∧ U.heap = h0) (fun _ _ _ _ _ => True) (fun _ U o U' => ∃ v L, o = .returned v ∧ Qpure (some (.int (Int32.ofNat lx))) h0 n0 v U'.heap L ∧ FrameEnd U o U' L ({ frames := 1, cells := 0, slots := 0, locals := 13 } : Room).cells ({ frames := 1, cells := 0, slots := 0, locals := 13 } : Room).slots) := by
  refine MetFree.of_bodySF pn_slen hisR ?_
  intro p e s m args below meth c s₁ Bd hml0 hP hK
  obtain ⟨rfl, hZ, hh⟩ := hP
  have hx := Bd.exec
  have hby := Bd.bytes
  have hml : c.maxLocals = 1 := hml0
  have hown : s.vm.findClass "java/lang/String" = some m.cls := findClass_of_methodNamed Bd.named
  have hnm := (name_of_methodNamed Bd.named Bd.method).1
  have X0 : Stand p l e ({ frames := 1, cells := 0, slots := 0, locals := 13 } : Room) s m #[(.ref x)] below meth c s₁ [] 0 0 := Stand.of_body Bd
  have e0 : s₁.heap = h0 := by rw [← hh, Bd.state]; rfl
  have N := Fr.nil n0
  have K : Keep h0 h0 [] := Keep.refl _ _
  refine Go.by (T' := s₁) (f' := (mkF m 0 #[.val (.ref x)] [])) (fun _ k => castTop (ef_slen m x) k) ?_
  refine Go.by (T' := s₁) (f' := (mkF m 1 #[.val (.ref x)] [(.ref x)])) (fun _ k => XS.aloadN X0.here hx rfl (hb hby d_slen_0) rfl rfl k) ?_
  obtain ⟨T1, X1, e1, st1⟩ := getF X0 hx hZ hown (host := "") (Or.inl (hw _ (List.mem_of_getElem? (i := 20) rfl))) Via.refl e0 Fv_x (g := (mkF m 1 #[.val (.ref x)] [(.ref x)])) rfl rfl (hb hby d_slen_1)
  refine Go.by (T' := T1) (f' := (mkF m 4 #[.val (.ref x)] [(.ref tx)])) (st1) ?_
  obtain ⟨cl2, Ar2, q2, S2, N2', H2, G2⟩ := id V_tx
  refine Go.by (T' := T1) (f' := (mkF m 5 #[.val (.ref x)] [(.int (Int32.ofNat lx))])) (fun t k => X1.arraylength hx (by rw [e1]; exact Ar2.1) (State.isArrayOf_alike hZ.alike Ar2.2.1) (g := (mkF m 4 #[.val (.ref x)] [(.ref tx)])) rfl rfl (hb hby d_slen_4) t (by rw [len_of S2 N2']; exact k)) ?_
  refine Go.by (T' := T1) (f' := (mkF m 6 #[.val (.ref x)] [(.ref x), (.int (Int32.ofNat lx))])) (fun _ k => XS.aloadN X1.here hx rfl (hb hby d_slen_5) rfl rfl k) ?_
  obtain ⟨cq3, kq3, q3a, q3b, q3c⟩ := isOf hZ e1 E_x
  obtain ⟨v3, _, ⟨T3, L3, k3, n3⟩, -, X3, ⟨Lc3, hQ3, l3, y3, z3⟩, st3⟩ := X1.virtualBack hx (y := (⟨"java/lang/String", "coder", "()B"⟩ : MethodName)) (z := (⟨"java/lang/String", "coder", "()B"⟩ : MethodName)) hown (mvT hZ (hw _ (List.mem_of_getElem? (i := 65) rfl))) (mvT hZ (hw _ (List.mem_of_getElem? (i := 66) rfl))) (notFace_of_selects (args := #[]) (mvT hZ (hw _ (List.mem_of_getElem? (i := 68) rfl)))) (mvT hZ (hw _ (List.mem_of_getElem? (i := 68) rfl))) (mvT hZ (hw _ (List.mem_of_getElem? (i := 67) rfl))) (by decide) (backOf (W := 1) (rm_coder l Z a0 hw [] x tx _ (lx) _ zc ls us ss hS0 h0 n0 O E_x Fv_x Fc_x V_tx) hZ (hw _ (List.mem_of_getElem? (i := 69) rfl)) (hw _ (List.mem_of_getElem? (i := 2) rfl)) (by decide) (by decide)) q3a q3c (g := (mkF m 6 #[.val (.ref x)] [(.ref x), (.int (Int32.ofNat lx))])) rfl (by rw [hml]; rfl) (Steps.refl _) (argsL := []) (rest := [(.int (Int32.ofNat lx))]) (lenOf pd_slen_0 rfl) rfl (by show 2 * 0 + _ ≤ _; exact Nat.le_of_eq rfl) (hb hby d_slen_6) (fun _ _ => ⟨rfl, e1, (by decide : 0 + 0 ≤ _), (by decide : 0 + 0 ≤ _)⟩)
  dsimp only [Pt.U, Pt.locs, Pt.cells, Pt.slots] at X3 l3 y3 z3 st3 hQ3
  subst l3 y3 z3
  obtain ⟨rfl, Nq3, e3⟩ := hQ3
  replace N := Fr.app N Nq3
  refine Go.by (T' := T3) (f' := (mkF m 9 #[.val (.ref x)] [(.int (0 : Int32)), (.int (Int32.ofNat lx))])) (fun _ k => st3.trans k) ?_
  refine Go.by (T' := T3) (f' := (mkF m 10 #[.val (.ref x)] [(.int ((Int32.ofNat lx) >>> ((0 : Int32) &&& 31)))])) (fun _ k => XS.ishr X3.here hx rfl (hb hby d_slen_9) rfl k) ?_
  rw [show ((Int32.ofNat lx) >>> ((0 : Int32) &&& 31)) = (Int32.ofNat lx) from own_shr0 _]
  obtain ⟨fs, hr, hrun, hended, hW, hsame⟩ := X3.leave (v := some (.int (Int32.ofNat lx))) (fun h => by rw [Bd.returns] at h; cases h)
  refine ⟨_, _, retOut X3 hx Bd.returns rfl (Or.inl ⟨rfl, Or.inl rfl, _, rfl⟩) (hb hby d_slen_10) hr, hrun, hended, _, _, rfl, ?_, ⟨_, rfl⟩, hW, hsame.mono (by decide) (by decide)⟩
  show Qpure (some (.int (Int32.ofNat lx))) h0 n0 (some (.int (Int32.ofNat lx))) T3.heap _
  rw [e3]
  exact ⟨rfl, N, rfl⟩

theorem d_ncap_0 : decode jdk_68_method_10_code 0 = .ok (.aload_n 0, 1) := by decide +kernel
theorem d_ncap_1 : decode jdk_68_method_10_code 1 = .ok (.getfield 15, 3) := by decide +kernel
theorem d_ncap_4 : decode jdk_68_method_10_code 4 = .ok (.arraylength, 1) := by decide +kernel
theorem d_ncap_5 : decode jdk_68_method_10_code 5 = .ok (.istore_n 2, 1) := by decide +kernel
theorem d_ncap_6 : decode jdk_68_method_10_code 6 = .ok (.iload_n 1, 1) := by decide +kernel
theorem d_ncap_7 : decode jdk_68_method_10_code 7 = .ok (.aload_n 0, 1) := by decide +kernel
theorem d_ncap_8 : decode jdk_68_method_10_code 8 = .ok (.getfield 22, 3) := by decide +kernel
theorem d_ncap_11 : decode jdk_68_method_10_code 11 = .ok (.ishl, 1) := by decide +kernel
theorem d_ncap_12 : decode jdk_68_method_10_code 12 = .ok (.istore_n 3, 1) := by decide +kernel
theorem d_ncap_13 : decode jdk_68_method_10_code 13 = .ok (.iload_n 3, 1) := by decide +kernel
theorem d_ncap_14 : decode jdk_68_method_10_code 14 = .ok (.iload_n 2, 1) := by decide +kernel
theorem d_ncap_15 : decode jdk_68_method_10_code 15 = .ok (.isub, 1) := by decide +kernel
theorem d_ncap_16 : decode jdk_68_method_10_code 16 = .ok (.istore 4, 2) := by decide +kernel
theorem d_ncap_18 : decode jdk_68_method_10_code 18 = .ok (.iload_n 2, 1) := by decide +kernel
theorem d_ncap_19 : decode jdk_68_method_10_code 19 = .ok (.iload 4, 2) := by decide +kernel
theorem d_ncap_21 : decode jdk_68_method_10_code 21 = .ok (.iload_n 2, 1) := by decide +kernel
theorem d_ncap_22 : decode jdk_68_method_10_code 22 = .ok (.iconst 2, 1) := by decide +kernel
theorem d_ncap_23 : decode jdk_68_method_10_code 23 = .ok (.aload_n 0, 1) := by decide +kernel
theorem d_ncap_24 : decode jdk_68_method_10_code 24 = .ok (.getfield 22, 3) := by decide +kernel
theorem d_ncap_27 : decode jdk_68_method_10_code 27 = .ok (.ishl, 1) := by decide +kernel
theorem d_ncap_28 : decode jdk_68_method_10_code 28 = .ok (.iadd, 1) := by decide +kernel
theorem d_ncap_29 : decode jdk_68_method_10_code 29 = .ok (.invokestatic 114, 3) := by decide +kernel
theorem d_ncap_32 : decode jdk_68_method_10_code 32 = .ok (.istore 5, 2) := by decide +kernel
theorem d_ncap_34 : decode jdk_68_method_10_code 34 = .ok (.iload 5, 2) := by decide +kernel
theorem d_ncap_36 : decode jdk_68_method_10_code 36 = .ok (.ldc 39, 2) := by decide +kernel
theorem d_ncap_38 : decode jdk_68_method_10_code 38 = .ok (.if_icmp .ne 13, 3) := by decide +kernel
theorem d_ncap_51 : decode jdk_68_method_10_code 51 = .ok (.iload 5, 2) := by decide +kernel
theorem d_ncap_53 : decode jdk_68_method_10_code 53 = .ok (.aload_n 0, 1) := by decide +kernel
theorem d_ncap_54 : decode jdk_68_method_10_code 54 = .ok (.getfield 22, 3) := by decide +kernel
theorem d_ncap_57 : decode jdk_68_method_10_code 57 = .ok (.ishr, 1) := by decide +kernel
theorem d_ncap_58 : decode jdk_68_method_10_code 58 = .ok (.ireturn, 1) := by decide +kernel
theorem pn_ncap : plainFor (⟨"java/lang/AbstractStringBuilder", "newCapacity", "(I)I"⟩ : MethodName) = true := plainFor_of_name (by first | (simp [plainName, overriddenIn]; done) | decide +kernel)
theorem pd_ncap_0 : parseMethodDescriptor "(III)I" = some ⟨[.int, .int, .int], some .int⟩ := by decide +kernel
theorem ef_ncap (m : MethodId) (x0 : Addr) (x1 : Int32) : entryFrame m #[(.ref x0), (.int x1)] 6 = mkF m 0 #[.val (.ref x0), .val (.int x1), .unset, .unset, .unset, .unset] [] := by first | (simp [entryFrame, mkF, argsToLocals, Value.category]; done) | rfl
set_option maxRecDepth 65536 in
set_option maxHeartbeats 40000000 in
theorem rm_newcap (l : Launch) (Z : State) (a0 : Array Value) (hw : ∀ d ∈ tables_1, d.before a0 Z = true) (ws : List Jvm.Cond) (bb tb : Addr) (kt : ClassId) (Lb cb : Nat) (vt : List Value) (M : Nat) (h0 : Heap) (n0 : Nat) (O : Old Z n0 h0) (E_b : Exa Z h0 bb "java/lang/StringBuilder") (Fv_b : Fld Z h0 bb "java/lang/AbstractStringBuilder" "value" "[B" (.ref tb)) (Fc_b : Fld Z h0 bb "java/lang/AbstractStringBuilder" "coder" "B" (.int 0)) (Fn_b : Fld Z h0 bb "java/lang/AbstractStringBuilder" "count" "I" (.int (Int32.ofNat cb))) (V_t : Arv Z h0 tb kt .byte (Int32.ofNat Lb) vt (.int 0)) (E_t : Exa Z h0 tb "[B") (g_bb : n0 ≤ bb) (g_tb : n0 ≤ tb) (hLb : Lb ≤ 300) (hLb2 : 16 ≤ Lb) (hcLb : cb ≤ Lb) (hM : M ≤ 150) (hLM : Lb < M) :
    MetFree l (⟨"java/lang/AbstractStringBuilder", "newCapacity", "(I)I"⟩ : MethodName) (head1 (Jvm.Cond.code (⟨"java/lang/AbstractStringBuilder", "newCapacity", "(I)I"⟩ : MethodName) jdk_68_method_10_code 6 (some .int) :: ws) ({ frames := 2, cells := 0, slots := 0, locals := 29 } : Room)) (fun as_ U => as_ = #[(.ref bb), (.int (Int32.ofNat M))] ∧ Z.Warmed39 U.vm ∧ U.heap = h0) (fun _ _ _ _ _ => True) (fun _ U o U' => ∃ v L, o = .returned v ∧ Qpure (some (.int (Int32.ofNat (Lb + max (M - Lb) (Lb + 2))))) h0 n0 v U'.heap L ∧ FrameEnd U o U' L ({ frames := 2, cells := 0, slots := 0, locals := 29 } : Room).cells ({ frames := 2, cells := 0, slots := 0, locals := 29 } : Room).slots) := by
  refine MetFree.of_bodySF pn_ncap hisR ?_
  intro p e s m args below meth c s₁ Bd hml0 hP hK
  obtain ⟨rfl, hZ, hh⟩ := hP
  have hx := Bd.exec
  have hby := Bd.bytes
  have hml : c.maxLocals = 6 := hml0
  have hown : s.vm.findClass "java/lang/AbstractStringBuilder" = some m.cls := findClass_of_methodNamed Bd.named
  have hnm := (name_of_methodNamed Bd.named Bd.method).1
  have X0 : Stand p l e ({ frames := 2, cells := 0, slots := 0, locals := 29 } : Room) s m #[(.ref bb), (.int (Int32.ofNat M))] below meth c s₁ [] 0 0 := Stand.of_body Bd
  have e0 : s₁.heap = h0 := by rw [← hh, Bd.state]; rfl
  have N := Fr.nil n0
  have K : Keep h0 h0 [] := Keep.refl _ _
  refine Go.by (T' := s₁) (f' := (mkF m 0 #[.val (.ref bb), .val (.int (Int32.ofNat M)), .unset, .unset, .unset, .unset] [])) (fun _ k => castTop (ef_ncap m bb (Int32.ofNat M)) k) ?_
  refine Go.by (T' := s₁) (f' := (mkF m 1 #[.val (.ref bb), .val (.int (Int32.ofNat M)), .unset, .unset, .unset, .unset] [(.ref bb)])) (fun _ k => XS.aloadN X0.here hx rfl (hb hby d_ncap_0) rfl rfl k) ?_
  obtain ⟨T1, X1, e1, st1⟩ := getF X0 hx hZ hown (host := "") (Or.inl (hw _ (List.mem_of_getElem? (i := 45) rfl))) Via.refl e0 Fv_b (g := (mkF m 1 #[.val (.ref bb), .val (.int (Int32.ofNat M)), .unset, .unset, .unset, .unset] [(.ref bb)])) rfl rfl (hb hby d_ncap_1)
  refine Go.by (T' := T1) (f' := (mkF m 4 #[.val (.ref bb), .val (.int (Int32.ofNat M)), .unset, .unset, .unset, .unset] [(.ref tb)])) (st1) ?_
  obtain ⟨cl2, Ar2, q2, S2, N2', H2, G2⟩ := id V_t
  refine Go.by (T' := T1) (f' := (mkF m 5 #[.val (.ref bb), .val (.int (Int32.ofNat M)), .unset, .unset, .unset, .unset] [(.int (Int32.ofNat Lb))])) (fun t k => X1.arraylength hx (by rw [e1]; exact Ar2.1) (State.isArrayOf_alike hZ.alike Ar2.2.1) (g := (mkF m 4 #[.val (.ref bb), .val (.int (Int32.ofNat M)), .unset, .unset, .unset, .unset] [(.ref tb)])) rfl rfl (hb hby d_ncap_4) t (by rw [len_of S2 N2']; exact k)) ?_
  refine Go.by (T' := T1) (f' := (mkF m 6 #[.val (.ref bb), .val (.int (Int32.ofNat M)), .val (.int (Int32.ofNat Lb)), .unset, .unset, .unset] [])) (fun _ k => XS.istoreN X1.here hx rfl (hb hby d_ncap_5) rfl (l' := #[.val (.ref bb), .val (.int (Int32.ofNat M)), .val (.int (Int32.ofNat Lb)), .unset, .unset, .unset]) rfl k) ?_
  refine Go.by (T' := T1) (f' := (mkF m 7 #[.val (.ref bb), .val (.int (Int32.ofNat M)), .val (.int (Int32.ofNat Lb)), .unset, .unset, .unset] [(.int (Int32.ofNat M))])) (fun _ k => XS.iloadN X1.here hx rfl (hb hby d_ncap_6) rfl k) ?_
  refine Go.by (T' := T1) (f' := (mkF m 8 #[.val (.ref bb), .val (.int (Int32.ofNat M)), .val (.int (Int32.ofNat Lb)), .unset, .unset, .unset] [(.ref bb), (.int (Int32.ofNat M))])) (fun _ k => XS.aloadN X1.here hx rfl (hb hby d_ncap_7) rfl rfl k) ?_
  obtain ⟨T3, X3, e3, st3⟩ := getF X1 hx hZ hown (host := "") (Or.inl (hw _ (List.mem_of_getElem? (i := 47) rfl))) Via.refl e1 Fc_b (g := (mkF m 8 #[.val (.ref bb), .val (.int (Int32.ofNat M)), .val (.int (Int32.ofNat Lb)), .unset, .unset, .unset] [(.ref bb), (.int (Int32.ofNat M))])) rfl rfl (hb hby d_ncap_8)
  refine Go.by (T' := T3) (f' := (mkF m 11 #[.val (.ref bb), .val (.int (Int32.ofNat M)), .val (.int (Int32.ofNat Lb)), .unset, .unset, .unset] [(.int (0 : Int32)), (.int (Int32.ofNat M))])) (st3) ?_
  refine Go.by (T' := T3) (f' := (mkF m 12 #[.val (.ref bb), .val (.int (Int32.ofNat M)), .val (.int (Int32.ofNat Lb)), .unset, .unset, .unset] [(.int ((Int32.ofNat M) <<< ((0 : Int32) &&& 31)))])) (fun _ k => XS.ishl X3.here hx rfl (hb hby d_ncap_11) rfl k) ?_
  rw [show ((Int32.ofNat M) <<< ((0 : Int32) &&& 31)) = (Int32.ofNat M) from own_shl0 _]
  refine Go.by (T' := T3) (f' := (mkF m 13 #[.val (.ref bb), .val (.int (Int32.ofNat M)), .val (.int (Int32.ofNat Lb)), .val (.int (Int32.ofNat M)), .unset, .unset] [])) (fun _ k => XS.istoreN X3.here hx rfl (hb hby d_ncap_12) rfl (l' := #[.val (.ref bb), .val (.int (Int32.ofNat M)), .val (.int (Int32.ofNat Lb)), .val (.int (Int32.ofNat M)), .unset, .unset]) rfl k) ?_
  refine Go.by (T' := T3) (f' := (mkF m 14 #[.val (.ref bb), .val (.int (Int32.ofNat M)), .val (.int (Int32.ofNat Lb)), .val (.int (Int32.ofNat M)), .unset, .unset] [(.int (Int32.ofNat M))])) (fun _ k => XS.iloadN X3.here hx rfl (hb hby d_ncap_13) rfl k) ?_
  refine Go.by (T' := T3) (f' := (mkF m 15 #[.val (.ref bb), .val (.int (Int32.ofNat M)), .val (.int (Int32.ofNat Lb)), .val (.int (Int32.ofNat M)), .unset, .unset] [(.int (Int32.ofNat Lb)), (.int (Int32.ofNat M))])) (fun _ k => XS.iloadN X3.here hx rfl (hb hby d_ncap_14) rfl k) ?_
  refine Go.by (T' := T3) (f' := (mkF m 16 #[.val (.ref bb), .val (.int (Int32.ofNat M)), .val (.int (Int32.ofNat Lb)), .val (.int (Int32.ofNat M)), .unset, .unset] [(.int ((Int32.ofNat M) - (Int32.ofNat Lb)))])) (fun _ k => XS.isub X3.here hx rfl (hb hby d_ncap_15) rfl k) ?_
  rw [show ((Int32.ofNat M) - (Int32.ofNat Lb)) = (Int32.ofNat (M - Lb)) from own_sub (by omega)]
  refine Go.by (T' := T3) (f' := (mkF m 18 #[.val (.ref bb), .val (.int (Int32.ofNat M)), .val (.int (Int32.ofNat Lb)), .val (.int (Int32.ofNat M)), .val (.int (Int32.ofNat (M - Lb))), .unset] [])) (fun _ k => XS.istore X3.here hx rfl (hb hby d_ncap_16) rfl (l' := #[.val (.ref bb), .val (.int (Int32.ofNat M)), .val (.int (Int32.ofNat Lb)), .val (.int (Int32.ofNat M)), .val (.int (Int32.ofNat (M - Lb))), .unset]) rfl k) ?_
  refine Go.by (T' := T3) (f' := (mkF m 19 #[.val (.ref bb), .val (.int (Int32.ofNat M)), .val (.int (Int32.ofNat Lb)), .val (.int (Int32.ofNat M)), .val (.int (Int32.ofNat (M - Lb))), .unset] [(.int (Int32.ofNat Lb))])) (fun _ k => XS.iloadN X3.here hx rfl (hb hby d_ncap_18) rfl k) ?_
  refine Go.by (T' := T3) (f' := (mkF m 21 #[.val (.ref bb), .val (.int (Int32.ofNat M)), .val (.int (Int32.ofNat Lb)), .val (.int (Int32.ofNat M)), .val (.int (Int32.ofNat (M - Lb))), .unset] [(.int (Int32.ofNat (M - Lb))), (.int (Int32.ofNat Lb))])) (fun _ k => XS.iload X3.here hx rfl (hb hby d_ncap_19) rfl k) ?_
  refine Go.by (T' := T3) (f' := (mkF m 22 #[.val (.ref bb), .val (.int (Int32.ofNat M)), .val (.int (Int32.ofNat Lb)), .val (.int (Int32.ofNat M)), .val (.int (Int32.ofNat (M - Lb))), .unset] [(.int (Int32.ofNat Lb)), (.int (Int32.ofNat (M - Lb))), (.int (Int32.ofNat Lb))])) (fun _ k => XS.iloadN X3.here hx rfl (hb hby d_ncap_21) rfl k) ?_
  refine Go.by (T' := T3) (f' := (mkF m 23 #[.val (.ref bb), .val (.int (Int32.ofNat M)), .val (.int (Int32.ofNat Lb)), .val (.int (Int32.ofNat M)), .val (.int (Int32.ofNat (M - Lb))), .unset] [(.int (2 : Int32)), (.int (Int32.ofNat Lb)), (.int (Int32.ofNat (M - Lb))), (.int (Int32.ofNat Lb))])) (fun _ k => XS.iconst X3.here hx rfl (hb hby d_ncap_22) k) ?_
  refine Go.by (T' := T3) (f' := (mkF m 24 #[.val (.ref bb), .val (.int (Int32.ofNat M)), .val (.int (Int32.ofNat Lb)), .val (.int (Int32.ofNat M)), .val (.int (Int32.ofNat (M - Lb))), .unset] [(.ref bb), (.int (2 : Int32)), (.int (Int32.ofNat Lb)), (.int (Int32.ofNat (M - Lb))), (.int (Int32.ofNat Lb))])) (fun _ k => XS.aloadN X3.here hx rfl (hb hby d_ncap_23) rfl rfl k) ?_
  obtain ⟨T4, X4, e4, st4⟩ := getF X3 hx hZ hown (host := "") (Or.inl (hw _ (List.mem_of_getElem? (i := 47) rfl))) Via.refl e3 Fc_b (g := (mkF m 24 #[.val (.ref bb), .val (.int (Int32.ofNat M)), .val (.int (Int32.ofNat Lb)), .val (.int (Int32.ofNat M)), .val (.int (Int32.ofNat (M - Lb))), .unset] [(.ref bb), (.int (2 : Int32)), (.int (Int32.ofNat Lb)), (.int (Int32.ofNat (M - Lb))), (.int (Int32.ofNat Lb))])) rfl rfl (hb hby d_ncap_24)
  refine Go.by (T' := T4) (f' := (mkF m 27 #[.val (.ref bb), .val (.int (Int32.ofNat M)), .val (.int (Int32.ofNat Lb)), .val (.int (Int32.ofNat M)), .val (.int (Int32.ofNat (M - Lb))), .unset] [(.int (0 : Int32)), (.int (2 : Int32)), (.int (Int32.ofNat Lb)), (.int (Int32.ofNat (M - Lb))), (.int (Int32.ofNat Lb))])) (st4) ?_
  refine Go.by (T' := T4) (f' := (mkF m 28 #[.val (.ref bb), .val (.int (Int32.ofNat M)), .val (.int (Int32.ofNat Lb)), .val (.int (Int32.ofNat M)), .val (.int (Int32.ofNat (M - Lb))), .unset] [(.int ((2 : Int32) <<< ((0 : Int32) &&& 31))), (.int (Int32.ofNat Lb)), (.int (Int32.ofNat (M - Lb))), (.int (Int32.ofNat Lb))])) (fun _ k => XS.ishl X4.here hx rfl (hb hby d_ncap_27) rfl k) ?_
  rw [show ((2 : Int32) <<< ((0 : Int32) &&& 31)) = (2 : Int32) from own_shl0 _]
  refine Go.by (T' := T4) (f' := (mkF m 29 #[.val (.ref bb), .val (.int (Int32.ofNat M)), .val (.int (Int32.ofNat Lb)), .val (.int (Int32.ofNat M)), .val (.int (Int32.ofNat (M - Lb))), .unset] [(.int ((Int32.ofNat Lb) + (2 : Int32))), (.int (Int32.ofNat (M - Lb))), (.int (Int32.ofNat Lb))])) (fun _ k => XS.iadd X4.here hx rfl (hb hby d_ncap_28) rfl k) ?_
  rw [show ((Int32.ofNat Lb) + (2 : Int32)) = (Int32.ofNat (Lb + 2)) from own_add _ _]
  have hl5a : Lb < 500000000 := by omega
  have hl5b : (M - Lb) < 500000000 := by omega
  have hl5c : (Lb + 2) < 500000000 := by omega
  have hl5d : 0 < (Lb + 2) := by omega
  obtain ⟨v5, _, ⟨T5, L5, k5, n5⟩, -, X5, ⟨Lc5, hQ5, l5, y5, z5⟩, st5⟩ := Jvm.LawKit.callS X4 hx (y := (⟨"jdk/internal/util/ArraysSupport", "newLength", "(III)I"⟩ : MethodName)) hown (mvT hZ (hw _ (List.mem_of_getElem? (i := 171) rfl))) (mvT hZ (hw _ (List.mem_of_getElem? (i := 172) rfl))) (mvT hZ (hw _ (List.mem_of_getElem? (i := 173) rfl))) (mvT hZ (hw _ (List.mem_of_getElem? (i := 174) rfl))) (by decide) (backOf (W := 0) (rm_newlen l Z a0 hw [] (Lb) ((M - Lb)) ((Lb + 2)) h0 n0 O hl5a hl5b hl5c hl5d) hZ (hw _ (List.mem_of_getElem? (i := 174) rfl)) (hw _ (List.mem_of_getElem? (i := 173) rfl)) (by decide) (by decide)) (g := (mkF m 29 #[.val (.ref bb), .val (.int (Int32.ofNat M)), .val (.int (Int32.ofNat Lb)), .val (.int (Int32.ofNat M)), .val (.int (Int32.ofNat (M - Lb))), .unset] [(.int (Int32.ofNat (Lb + 2))), (.int (Int32.ofNat (M - Lb))), (.int (Int32.ofNat Lb))])) rfl (by rw [hml]; rfl) (argsL := [(.int (Int32.ofNat Lb)), (.int (Int32.ofNat (M - Lb))), (.int (Int32.ofNat (Lb + 2)))]) (rest := []) (lenOf pd_ncap_0 rfl) rfl (by show 2 * 0 + _ ≤ _; exact Nat.le_of_eq rfl) (hb hby d_ncap_29) (fun _ _ => ⟨rfl, e4, (by decide : 0 + 0 ≤ _), (by decide : 0 + 0 ≤ _)⟩)
  dsimp only [Pt.U, Pt.locs, Pt.cells, Pt.slots] at X5 l5 y5 z5 st5 hQ5
  subst l5 y5 z5
  obtain ⟨rfl, Nq5, e5⟩ := hQ5
  replace N := Fr.app N Nq5
  refine Go.by (T' := T5) (f' := (mkF m 32 #[.val (.ref bb), .val (.int (Int32.ofNat M)), .val (.int (Int32.ofNat Lb)), .val (.int (Int32.ofNat M)), .val (.int (Int32.ofNat (M - Lb))), .unset] [(.int (Int32.ofNat (Lb + max ((M - Lb)) ((Lb + 2)))))])) (st5) ?_
  refine Go.by (T' := T5) (f' := (mkF m 34 #[.val (.ref bb), .val (.int (Int32.ofNat M)), .val (.int (Int32.ofNat Lb)), .val (.int (Int32.ofNat M)), .val (.int (Int32.ofNat (M - Lb))), .val (.int (Int32.ofNat (Lb + max ((M - Lb)) ((Lb + 2)))))] [])) (fun _ k => XS.istore X5.here hx rfl (hb hby d_ncap_32) rfl (l' := #[.val (.ref bb), .val (.int (Int32.ofNat M)), .val (.int (Int32.ofNat Lb)), .val (.int (Int32.ofNat M)), .val (.int (Int32.ofNat (M - Lb))), .val (.int (Int32.ofNat (Lb + max ((M - Lb)) ((Lb + 2)))))]) rfl k) ?_
  refine Go.by (T' := T5) (f' := (mkF m 36 #[.val (.ref bb), .val (.int (Int32.ofNat M)), .val (.int (Int32.ofNat Lb)), .val (.int (Int32.ofNat M)), .val (.int (Int32.ofNat (M - Lb))), .val (.int (Int32.ofNat (Lb + max ((M - Lb)) ((Lb + 2)))))] [(.int (Int32.ofNat (Lb + max ((M - Lb)) ((Lb + 2)))))])) (fun _ k => XS.iload X5.here hx rfl (hb hby d_ncap_34) rfl k) ?_
  refine Go.by (T' := T5) (f' := (mkF m 38 #[.val (.ref bb), .val (.int (Int32.ofNat M)), .val (.int (Int32.ofNat Lb)), .val (.int (Int32.ofNat M)), .val (.int (Int32.ofNat (M - Lb))), .val (.int (Int32.ofNat (Lb + max ((M - Lb)) ((Lb + 2)))))] [(.int (2147483647 : Int32)), (.int (Int32.ofNat (Lb + max ((M - Lb)) ((Lb + 2)))))])) (X5.ldcInt hx hown (mvT hZ (hw _ (List.mem_of_getElem? (i := 179) rfl))) (g := (mkF m 36 #[.val (.ref bb), .val (.int (Int32.ofNat M)), .val (.int (Int32.ofNat Lb)), .val (.int (Int32.ofNat M)), .val (.int (Int32.ofNat (M - Lb))), .val (.int (Int32.ofNat (Lb + max ((M - Lb)) ((Lb + 2)))))] [(.int (Int32.ofNat (Lb + max ((M - Lb)) ((Lb + 2)))))])) rfl (hb hby d_ncap_36)) ?_
  refine Go.by (T' := T5) (f' := (mkF m 51 #[.val (.ref bb), .val (.int (Int32.ofNat M)), .val (.int (Int32.ofNat Lb)), .val (.int (Int32.ofNat M)), .val (.int (Int32.ofNat (M - Lb))), .val (.int (Int32.ofNat (Lb + max ((M - Lb)) ((Lb + 2)))))] [])) (fun _ k => XS.icmpYes X5.here hx rfl (pc0 := 38) (pc' := 51) rfl (hb hby d_ncap_38) rfl (feq (mt (own_neq (a := (Lb + max ((M - Lb)) ((Lb + 2)))) (b := 2147483647) (by omega) (by omega)).mp (by omega))).2 (by decide) (by decide) k) ?_
  refine Go.by (T' := T5) (f' := (mkF m 53 #[.val (.ref bb), .val (.int (Int32.ofNat M)), .val (.int (Int32.ofNat Lb)), .val (.int (Int32.ofNat M)), .val (.int (Int32.ofNat (M - Lb))), .val (.int (Int32.ofNat (Lb + max ((M - Lb)) ((Lb + 2)))))] [(.int (Int32.ofNat (Lb + max ((M - Lb)) ((Lb + 2)))))])) (fun _ k => XS.iload X5.here hx rfl (hb hby d_ncap_51) rfl k) ?_
  refine Go.by (T' := T5) (f' := (mkF m 54 #[.val (.ref bb), .val (.int (Int32.ofNat M)), .val (.int (Int32.ofNat Lb)), .val (.int (Int32.ofNat M)), .val (.int (Int32.ofNat (M - Lb))), .val (.int (Int32.ofNat (Lb + max ((M - Lb)) ((Lb + 2)))))] [(.ref bb), (.int (Int32.ofNat (Lb + max ((M - Lb)) ((Lb + 2)))))])) (fun _ k => XS.aloadN X5.here hx rfl (hb hby d_ncap_53) rfl rfl k) ?_
  obtain ⟨T7, X7, e7, st7⟩ := getF X5 hx hZ hown (host := "") (Or.inl (hw _ (List.mem_of_getElem? (i := 47) rfl))) Via.refl e5 Fc_b (g := (mkF m 54 #[.val (.ref bb), .val (.int (Int32.ofNat M)), .val (.int (Int32.ofNat Lb)), .val (.int (Int32.ofNat M)), .val (.int (Int32.ofNat (M - Lb))), .val (.int (Int32.ofNat (Lb + max ((M - Lb)) ((Lb + 2)))))] [(.ref bb), (.int (Int32.ofNat (Lb + max ((M - Lb)) ((Lb + 2)))))])) rfl rfl (hb hby d_ncap_54)
  refine Go.by (T' := T7) (f' := (mkF m 57 #[.val (.ref bb), .val (.int (Int32.ofNat M)), .val (.int (Int32.ofNat Lb)), .val (.int (Int32.ofNat M)), .val (.int (Int32.ofNat (M - Lb))), .val (.int (Int32.ofNat (Lb + max ((M - Lb)) ((Lb + 2)))))] [(.int (0 : Int32)), (.int (Int32.ofNat (Lb + max ((M - Lb)) ((Lb + 2)))))])) (st7) ?_
  refine Go.by (T' := T7) (f' := (mkF m 58 #[.val (.ref bb), .val (.int (Int32.ofNat M)), .val (.int (Int32.ofNat Lb)), .val (.int (Int32.ofNat M)), .val (.int (Int32.ofNat (M - Lb))), .val (.int (Int32.ofNat (Lb + max ((M - Lb)) ((Lb + 2)))))] [(.int ((Int32.ofNat (Lb + max ((M - Lb)) ((Lb + 2)))) >>> ((0 : Int32) &&& 31)))])) (fun _ k => XS.ishr X7.here hx rfl (hb hby d_ncap_57) rfl k) ?_
  rw [show ((Int32.ofNat (Lb + max ((M - Lb)) ((Lb + 2)))) >>> ((0 : Int32) &&& 31)) = (Int32.ofNat (Lb + max ((M - Lb)) ((Lb + 2)))) from own_shr0 _]
  obtain ⟨fs, hr, hrun, hended, hW, hsame⟩ := X7.leave (v := some (.int (Int32.ofNat (Lb + max ((M - Lb)) ((Lb + 2)))))) (fun h => by rw [Bd.returns] at h; cases h)
  refine ⟨_, _, retOut X7 hx Bd.returns rfl (Or.inl ⟨rfl, Or.inl rfl, _, rfl⟩) (hb hby d_ncap_58) hr, hrun, hended, _, _, rfl, ?_, ⟨_, rfl⟩, hW, hsame.mono (by decide) (by decide)⟩
  show Qpure (some (.int (Int32.ofNat (Lb + max (M - Lb) (Lb + 2))))) h0 n0 (some (.int (Int32.ofNat (Lb + max ((M - Lb)) ((Lb + 2)))))) T7.heap _
  rw [e7]
  exact ⟨rfl, N, rfl⟩

theorem d_cpof_0 : decode jdk_65_method_121_code 0 = .ok (.iload_n 1, 1) := by decide +kernel
theorem d_cpof_1 : decode jdk_65_method_121_code 1 = .ok (.aload_n 0, 1) := by decide +kernel
theorem d_cpof_2 : decode jdk_65_method_121_code 2 = .ok (.arraylength, 1) := by decide +kernel
theorem d_cpof_3 : decode jdk_65_method_121_code 3 = .ok (.if_icmp .ne 11, 3) := by decide +kernel
theorem d_cpof_14 : decode jdk_65_method_121_code 14 = .ok (.iload_n 1, 1) := by decide +kernel
theorem d_cpof_15 : decode jdk_65_method_121_code 15 = .ok (.newarray .byte, 2) := by decide +kernel
theorem d_cpof_17 : decode jdk_65_method_121_code 17 = .ok (.astore_n 2, 1) := by decide +kernel
theorem d_cpof_18 : decode jdk_65_method_121_code 18 = .ok (.aload_n 0, 1) := by decide +kernel
theorem d_cpof_19 : decode jdk_65_method_121_code 19 = .ok (.iconst 0, 1) := by decide +kernel
theorem d_cpof_20 : decode jdk_65_method_121_code 20 = .ok (.aload_n 2, 1) := by decide +kernel
theorem d_cpof_21 : decode jdk_65_method_121_code 21 = .ok (.iconst 0, 1) := by decide +kernel
theorem d_cpof_22 : decode jdk_65_method_121_code 22 = .ok (.aload_n 0, 1) := by decide +kernel
theorem d_cpof_23 : decode jdk_65_method_121_code 23 = .ok (.arraylength, 1) := by decide +kernel
theorem d_cpof_24 : decode jdk_65_method_121_code 24 = .ok (.iload_n 1, 1) := by decide +kernel
theorem d_cpof_25 : decode jdk_65_method_121_code 25 = .ok (.invokestatic 304, 3) := by decide +kernel
theorem d_cpof_28 : decode jdk_65_method_121_code 28 = .ok (.invokestatic 150, 3) := by decide +kernel
theorem d_cpof_31 : decode jdk_65_method_121_code 31 = .ok (.aload_n 2, 1) := by decide +kernel
theorem d_cpof_32 : decode jdk_65_method_121_code 32 = .ok (.areturn, 1) := by decide +kernel
theorem pn_cpof : plainFor (⟨"java/util/Arrays", "copyOf", "([BI)[B"⟩ : MethodName) = true := plainFor_of_name (by first | (simp [plainName, overriddenIn]; done) | decide +kernel)
theorem pd_cpof_0 : parseMethodDescriptor "(II)I" = some ⟨[.int, .int], some .int⟩ := by decide +kernel
theorem ef_cpof (m : MethodId) (x0 : Addr) (x1 : Int32) : entryFrame m #[(.ref x0), (.int x1)] 3 = mkF m 0 #[.val (.ref x0), .val (.int x1), .unset] [] := by first | (simp [entryFrame, mkF, argsToLocals, Value.category]; done) | rfl
set_option maxRecDepth 65536 in
set_option maxHeartbeats 40000000 in
theorem rm_copyof (l : Launch) (Z : State) (a0 : Array Value) (hw : ∀ d ∈ tables_1, d.before a0 Z = true) (ws : List Jvm.Cond) (tb : Addr) (kt : ClassId) (Lb Nn : Nat) (vt : List Value) (h0 : Heap) (n0 : Nat) (O : Old Z n0 h0) (V_t : Arv Z h0 tb kt .byte (Int32.ofNat Lb) vt (.int 0)) (hLb : Lb < Nn) (hNn : Nn ≤ 300) :
    MetFree l (⟨"java/util/Arrays", "copyOf", "([BI)[B"⟩ : MethodName) (head1 (Jvm.Cond.code (⟨"java/util/Arrays", "copyOf", "([BI)[B"⟩ : MethodName) jdk_65_method_121_code 3 (some (.array .byte)) :: ws) ({ frames := 1, cells := 1, slots := 300, locals := 18 } : Room)) (fun as_ U => as_ = #[(.ref tb), (.int (Int32.ofNat Nn))] ∧ Z.Warmed39 U.vm ∧ U.heap = h0) (fun _ _ _ _ _ => True) (fun _ U o U' => ∃ v L, o = .returned v ∧ Qr Z Nn h0 n0 v U'.heap L ∧ FrameEnd U o U' L ({ frames := 1, cells := 1, slots := 300, locals := 18 } : Room).cells ({ frames := 1, cells := 1, slots := 300, locals := 18 } : Room).slots) := by
  refine MetFree.of_bodySF pn_cpof hisR ?_
  intro p e s m args below meth c s₁ Bd hml0 hP hK
  obtain ⟨rfl, hZ, hh⟩ := hP
  have hx := Bd.exec
  have hby := Bd.bytes
  have hml : c.maxLocals = 3 := hml0
  have hown : s.vm.findClass "java/util/Arrays" = some m.cls := findClass_of_methodNamed Bd.named
  have hnm := (name_of_methodNamed Bd.named Bd.method).1
  have X0 : Stand p l e ({ frames := 1, cells := 1, slots := 300, locals := 18 } : Room) s m #[(.ref tb), (.int (Int32.ofNat Nn))] below meth c s₁ [] 0 0 := Stand.of_body Bd
  have e0 : s₁.heap = h0 := by rw [← hh, Bd.state]; rfl
  have N := Fr.nil n0
  have K : Keep h0 h0 [] := Keep.refl _ _
  refine Go.by (T' := s₁) (f' := (mkF m 0 #[.val (.ref tb), .val (.int (Int32.ofNat Nn)), .unset] [])) (fun _ k => castTop (ef_cpof m tb (Int32.ofNat Nn)) k) ?_
  refine Go.by (T' := s₁) (f' := (mkF m 1 #[.val (.ref tb), .val (.int (Int32.ofNat Nn)), .unset] [(.int (Int32.ofNat Nn))])) (fun _ k => XS.iloadN X0.here hx rfl (hb hby d_cpof_0) rfl k) ?_
  refine Go.by (T' := s₁) (f' := (mkF m 2 #[.val (.ref tb), .val (.int (Int32.ofNat Nn)), .unset] [(.ref tb), (.int (Int32.ofNat Nn))])) (fun _ k => XS.aloadN X0.here hx rfl (hb hby d_cpof_1) rfl rfl k) ?_
  obtain ⟨cl1, Ar1, q1, S1, N1', H1, G1⟩ := id V_t
  refine Go.by (T' := s₁) (f' := (mkF m 3 #[.val (.ref tb), .val (.int (Int32.ofNat Nn)), .unset] [(.int (Int32.ofNat Lb)), (.int (Int32.ofNat Nn))])) (fun t k => X0.arraylength hx (by rw [e0]; exact Ar1.1) (State.isArrayOf_alike hZ.alike Ar1.2.1) (g := (mkF m 2 #[.val (.ref tb), .val (.int (Int32.ofNat Nn)), .unset] [(.ref tb), (.int (Int32.ofNat Nn))])) rfl rfl (hb hby d_cpof_2) t (by rw [len_of S1 N1']; exact k)) ?_
  refine Go.by (T' := s₁) (f' := (mkF m 14 #[.val (.ref tb), .val (.int (Int32.ofNat Nn)), .unset] [])) (fun _ k => XS.icmpYes X0.here hx rfl (pc0 := 3) (pc' := 14) rfl (hb hby d_cpof_3) rfl (feq (mt (own_neq (a := Nn) (b := Lb) (by omega) (by omega)).mp (by omega))).2 (by decide) (by decide) k) ?_
  refine Go.by (T' := s₁) (f' := (mkF m 15 #[.val (.ref tb), .val (.int (Int32.ofNat Nn)), .unset] [(.int (Int32.ofNat Nn))])) (fun _ k => XS.iloadN X0.here hx rfl (hb hby d_cpof_14) rfl k) ?_
  obtain ⟨T3, h3, k3, X3, e3, E3, A3, B3, st3⟩ := newPE X0 hx hZ (hw _ (List.mem_of_getElem? (i := 15) rfl)) e0 (g := (mkF m 15 #[.val (.ref tb), .val (.int (Int32.ofNat Nn)), .unset] [(.int (Int32.ofNat Nn))])) rfl (hb hby d_cpof_15) rfl (own_neg (by omega)) (cap := 300) (by rw [own_nat (by omega)]; omega) (by decide) (by decide) (by decide) (ad := "[B") (by decide)
  obtain ⟨b3, g3⟩ : ∃ z, z = h0.size := ⟨_, rfl⟩
  rw [← g3] at A3 B3 st3
  have ne_tb_b3 : tb ≠ b3 := Nat.ne_of_lt (Nat.lt_of_lt_of_le V_t.lt (Nat.le_of_eq g3.symm))
  have g_b3 : n0 ≤ b3 := Nat.le_trans (Old.le O) (Nat.le_of_eq g3.symm)
  have sz_b3 : h0.size ≤ b3 := Nat.le_trans K.1 (Nat.le_of_eq g3.symm)
  replace V_t := V_t.ext E3
  replace O := O.ext E3
  replace K := K.ext E3
  have V_b3 : Arv Z h3 b3 k3 .byte (Int32.ofNat Nn) [] (.int (0 : Int32)) := Arv.new A3 (own_neg (by omega))
  have E_b3 := B3
  refine Go.by (T' := T3) (f' := (mkF m 17 #[.val (.ref tb), .val (.int (Int32.ofNat Nn)), .unset] [(.ref b3)])) (st3) ?_
  refine Go.by (T' := T3) (f' := (mkF m 18 #[.val (.ref tb), .val (.int (Int32.ofNat Nn)), .val (.ref b3)] [])) (fun _ k => XS.astoreN X3.here hx rfl (hb hby d_cpof_17) rfl rfl (l' := #[.val (.ref tb), .val (.int (Int32.ofNat Nn)), .val (.ref b3)]) rfl k) ?_
  refine Go.by (T' := T3) (f' := (mkF m 19 #[.val (.ref tb), .val (.int (Int32.ofNat Nn)), .val (.ref b3)] [(.ref tb)])) (fun _ k => XS.aloadN X3.here hx rfl (hb hby d_cpof_18) rfl rfl k) ?_
  refine Go.by (T' := T3) (f' := (mkF m 20 #[.val (.ref tb), .val (.int (Int32.ofNat Nn)), .val (.ref b3)] [(.int (0 : Int32)), (.ref tb)])) (fun _ k => XS.iconst X3.here hx rfl (hb hby d_cpof_19) k) ?_
  refine Go.by (T' := T3) (f' := (mkF m 21 #[.val (.ref tb), .val (.int (Int32.ofNat Nn)), .val (.ref b3)] [(.ref b3), (.int (0 : Int32)), (.ref tb)])) (fun _ k => XS.aloadN X3.here hx rfl (hb hby d_cpof_20) rfl rfl k) ?_
  refine Go.by (T' := T3) (f' := (mkF m 22 #[.val (.ref tb), .val (.int (Int32.ofNat Nn)), .val (.ref b3)] [(.int (0 : Int32)), (.ref b3), (.int (0 : Int32)), (.ref tb)])) (fun _ k => XS.iconst X3.here hx rfl (hb hby d_cpof_21) k) ?_
  refine Go.by (T' := T3) (f' := (mkF m 23 #[.val (.ref tb), .val (.int (Int32.ofNat Nn)), .val (.ref b3)] [(.ref tb), (.int (0 : Int32)), (.ref b3), (.int (0 : Int32)), (.ref tb)])) (fun _ k => XS.aloadN X3.here hx rfl (hb hby d_cpof_22) rfl rfl k) ?_
  obtain ⟨cl4, Ar4, q4, S4, N4', H4, G4⟩ := id V_t
  refine Go.by (T' := T3) (f' := (mkF m 24 #[.val (.ref tb), .val (.int (Int32.ofNat Nn)), .val (.ref b3)] [(.int (Int32.ofNat Lb)), (.int (0 : Int32)), (.ref b3), (.int (0 : Int32)), (.ref tb)])) (fun t k => X3.arraylength hx (by rw [e3]; exact Ar4.1) (State.isArrayOf_alike hZ.alike Ar4.2.1) (g := (mkF m 23 #[.val (.ref tb), .val (.int (Int32.ofNat Nn)), .val (.ref b3)] [(.ref tb), (.int (0 : Int32)), (.ref b3), (.int (0 : Int32)), (.ref tb)])) rfl rfl (hb hby d_cpof_23) t (by rw [len_of S4 N4']; exact k)) ?_
  refine Go.by (T' := T3) (f' := (mkF m 25 #[.val (.ref tb), .val (.int (Int32.ofNat Nn)), .val (.ref b3)] [(.int (Int32.ofNat Nn)), (.int (Int32.ofNat Lb)), (.int (0 : Int32)), (.ref b3), (.int (0 : Int32)), (.ref tb)])) (fun _ k => XS.iloadN X3.here hx rfl (hb hby d_cpof_24) rfl k) ?_
  have hm5a : Lb < 1073741824 := by omega
  have hm5b : Nn < 1073741824 := by omega
  obtain ⟨v5, _, ⟨T5, L5, k5, n5⟩, -, X5, ⟨Lc5, hQ5, l5, y5, z5⟩, st5⟩ := Jvm.LawKit.callS X3 hx (y := (⟨"java/lang/Math", "min", "(II)I"⟩ : MethodName)) hown (mvT hZ (hw _ (List.mem_of_getElem? (i := 161) rfl))) (mvT hZ (hw _ (List.mem_of_getElem? (i := 162) rfl))) (mvT hZ (hw _ (List.mem_of_getElem? (i := 163) rfl))) (mvT hZ (hw _ (List.mem_of_getElem? (i := 164) rfl))) (by decide) (backOf (W := 4) (rm_min l Z a0 hw [] (Lb) (Nn) h3 n0 O hm5a hm5b) hZ (hw _ (List.mem_of_getElem? (i := 164) rfl)) (hw _ (List.mem_of_getElem? (i := 163) rfl)) (by decide) (by decide)) (g := (mkF m 25 #[.val (.ref tb), .val (.int (Int32.ofNat Nn)), .val (.ref b3)] [(.int (Int32.ofNat Nn)), (.int (Int32.ofNat Lb)), (.int (0 : Int32)), (.ref b3), (.int (0 : Int32)), (.ref tb)])) rfl (by rw [hml]; rfl) (argsL := [(.int (Int32.ofNat Lb)), (.int (Int32.ofNat Nn))]) (rest := [(.int (0 : Int32)), (.ref b3), (.int (0 : Int32)), (.ref tb)]) (lenOf pd_cpof_0 rfl) rfl (by show 2 * 0 + _ ≤ _; exact Nat.le_of_eq rfl) (hb hby d_cpof_25) (fun _ _ => ⟨rfl, e3, (by decide : 1 + 0 ≤ _), (by decide : 300 + 0 ≤ _)⟩)
  dsimp only [Pt.U, Pt.locs, Pt.cells, Pt.slots] at X5 l5 y5 z5 st5 hQ5
  subst l5 y5 z5
  obtain ⟨rfl, Nq5, e5⟩ := hQ5
  replace N := Fr.app N Nq5
  refine Go.by (T' := T5) (f' := (mkF m 28 #[.val (.ref tb), .val (.int (Int32.ofNat Nn)), .val (.ref b3)] [(.int (Int32.ofNat (min (Lb) (Nn)))), (.int (0 : Int32)), (.ref b3), (.int (0 : Int32)), (.ref tb)])) (st5) ?_
  obtain ⟨vf6, lf6, Vf6⟩ := own_full V_b3
  obtain ⟨T6, h6, L6, X6, e6, N6, K6, V6, st6⟩ := cpA X5 hx hZ hown (hw _ (List.mem_of_getElem? (i := 165) rfl)) (hw _ (List.mem_of_getElem? (i := 97) rfl)) (hw _ (List.mem_of_getElem? (i := 95) rfl)) (hw _ (List.mem_of_getElem? (i := 96) rfl)) e5 V_t Vf6 (Or.inl ⟨rfl, rfl⟩) (sp := (0 : Int32)) (dp := (0 : Int32)) (nn := (Int32.ofNat (min (Lb) (Nn)))) (by decide) (by decide) (own_neg (by omega)) (by rw [own_nat (by omega), own_nat (by omega)]; show 0 + _ ≤ _; omega) (by rw [own_nat (by omega), own_nat (by omega)]; show 0 + _ ≤ _; omega) rfl (by rw [lf6]; exact (by rw [own_nat (by omega), own_nat (by omega)]; show 0 + _ ≤ _; omega)) N g_b3 (g := (mkF m 28 #[.val (.ref tb), .val (.int (Int32.ofNat Nn)), .val (.ref b3)] [(.int (Int32.ofNat (min (Lb) (Nn)))), (.int (0 : Int32)), (.ref b3), (.int (0 : Int32)), (.ref tb)])) rfl (by rw [hml]; rfl) rfl (hb hby d_cpof_28) (by decide) (W := 0) (by show 2 * 0 + _ ≤ _; exact Nat.le_of_eq rfl) (by decide)
  replace N := N6
  replace V_t := V_t.keep K6 (ninS ne_tb_b3 nin0)
  replace E_b3 := E_b3.keep K6
  replace O := O.keep K6 (allS g_b3 all0)
  replace K := K.trans K6 (allS (Or.inr sz_b3) all0)
  refine Go.by (T' := T6) (f' := (mkF m 31 #[.val (.ref tb), .val (.int (Int32.ofNat Nn)), .val (.ref b3)] [])) (st6) ?_
  refine Go.by (T' := T6) (f' := (mkF m 32 #[.val (.ref tb), .val (.int (Int32.ofNat Nn)), .val (.ref b3)] [(.ref b3)])) (fun _ k => XS.aloadN X6.here hx rfl (hb hby d_cpof_31) rfl rfl k) ?_
  obtain ⟨fs, hr, hrun, hended, hW, hsame⟩ := X6.leave (v := some (.ref b3)) (fun h => by rw [Bd.returns] at h; cases h)
  refine ⟨_, _, retOut X6 hx Bd.returns rfl (Or.inr (Or.inr (Or.inr (Or.inr ⟨rfl, rfl, rfl⟩)))) (hb hby d_cpof_32) hr, hrun, hended, _, _, rfl, ?_, ⟨_, rfl⟩, hW, hsame.mono (by decide) (by decide)⟩
  show Qr Z Nn h0 n0 (some (.ref b3)) T6.heap _
  rw [e6]
  exact ⟨_, _, _, rfl, N, K, sz_b3, V6, E_b3⟩

theorem d_ens_0 : decode jdk_68_method_9_code 0 = .ok (.aload_n 0, 1) := by decide +kernel
theorem d_ens_1 : decode jdk_68_method_9_code 1 = .ok (.getfield 15, 3) := by decide +kernel
theorem d_ens_4 : decode jdk_68_method_9_code 4 = .ok (.arraylength, 1) := by decide +kernel
theorem d_ens_5 : decode jdk_68_method_9_code 5 = .ok (.aload_n 0, 1) := by decide +kernel
theorem d_ens_6 : decode jdk_68_method_9_code 6 = .ok (.getfield 22, 3) := by decide +kernel
theorem d_ens_9 : decode jdk_68_method_9_code 9 = .ok (.ishr, 1) := by decide +kernel
theorem d_ens_10 : decode jdk_68_method_9_code 10 = .ok (.istore_n 2, 1) := by decide +kernel
theorem d_ens_11 : decode jdk_68_method_9_code 11 = .ok (.iload_n 1, 1) := by decide +kernel
theorem d_ens_12 : decode jdk_68_method_9_code 12 = .ok (.iload_n 2, 1) := by decide +kernel
theorem d_ens_13 : decode jdk_68_method_9_code 13 = .ok (.isub, 1) := by decide +kernel
theorem d_ens_14 : decode jdk_68_method_9_code 14 = .ok (.ifCond .le 24, 3) := by decide +kernel
theorem d_ens_17 : decode jdk_68_method_9_code 17 = .ok (.aload_n 0, 1) := by decide +kernel
theorem d_ens_18 : decode jdk_68_method_9_code 18 = .ok (.aload_n 0, 1) := by decide +kernel
theorem d_ens_19 : decode jdk_68_method_9_code 19 = .ok (.getfield 15, 3) := by decide +kernel
theorem d_ens_22 : decode jdk_68_method_9_code 22 = .ok (.aload_n 0, 1) := by decide +kernel
theorem d_ens_23 : decode jdk_68_method_9_code 23 = .ok (.iload_n 1, 1) := by decide +kernel
theorem d_ens_24 : decode jdk_68_method_9_code 24 = .ok (.invokevirtual 104, 3) := by decide +kernel
theorem d_ens_27 : decode jdk_68_method_9_code 27 = .ok (.aload_n 0, 1) := by decide +kernel
theorem d_ens_28 : decode jdk_68_method_9_code 28 = .ok (.getfield 22, 3) := by decide +kernel
theorem d_ens_31 : decode jdk_68_method_9_code 31 = .ok (.ishl, 1) := by decide +kernel
theorem d_ens_32 : decode jdk_68_method_9_code 32 = .ok (.invokestatic 108, 3) := by decide +kernel
theorem d_ens_35 : decode jdk_68_method_9_code 35 = .ok (.putfield 15, 3) := by decide +kernel
theorem d_ens_38 : decode jdk_68_method_9_code 38 = .ok (.return_, 1) := by decide +kernel
theorem pn_ens : plainFor (⟨"java/lang/AbstractStringBuilder", "ensureCapacityInternal", "(I)V"⟩ : MethodName) = true := plainFor_of_name (by first | (simp [plainName, overriddenIn]; done) | decide +kernel)
theorem pd_ens_0 : parseMethodDescriptor "(I)I" = some ⟨[.int], some .int⟩ := by decide +kernel
theorem pd_ens_1 : parseMethodDescriptor "([BI)[B" = some ⟨[(.array .byte), .int], some (.array .byte)⟩ := by decide +kernel
theorem ef_ens (m : MethodId) (x0 : Addr) (x1 : Int32) : entryFrame m #[(.ref x0), (.int x1)] 3 = mkF m 0 #[.val (.ref x0), .val (.int x1), .unset] [] := by first | (simp [entryFrame, mkF, argsToLocals, Value.category]; done) | rfl
set_option maxRecDepth 65536 in
set_option maxHeartbeats 40000000 in
theorem rm_ensure (l : Launch) (Z : State) (a0 : Array Value) (hw : ∀ d ∈ tables_1, d.before a0 Z = true) (ws : List Jvm.Cond) (bb tb : Addr) (kt : ClassId) (Lb cb : Nat) (vt : List Value) (M : Nat) (h0 : Heap) (n0 : Nat) (O : Old Z n0 h0) (E_b : Exa Z h0 bb "java/lang/StringBuilder") (Fv_b : Fld Z h0 bb "java/lang/AbstractStringBuilder" "value" "[B" (.ref tb)) (Fc_b : Fld Z h0 bb "java/lang/AbstractStringBuilder" "coder" "B" (.int 0)) (Fn_b : Fld Z h0 bb "java/lang/AbstractStringBuilder" "count" "I" (.int (Int32.ofNat cb))) (V_t : Arv Z h0 tb kt .byte (Int32.ofNat Lb) vt (.int 0)) (E_t : Exa Z h0 tb "[B") (g_bb : n0 ≤ bb) (g_tb : n0 ≤ tb) (hLb : Lb ≤ 300) (hLb2 : 16 ≤ Lb) (hcLb : cb ≤ Lb) (hM : M ≤ 150) :
    MetFree l (⟨"java/lang/AbstractStringBuilder", "ensureCapacityInternal", "(I)V"⟩ : MethodName) (head1 (Jvm.Cond.code (⟨"java/lang/AbstractStringBuilder", "ensureCapacityInternal", "(I)V"⟩ : MethodName) jdk_68_method_9_code 3 none :: ws) ({ frames := 3, cells := 1, slots := 300, locals := 48 } : Room)) (fun as_ U => as_ = #[(.ref bb), (.int (Int32.ofNat M))] ∧ Z.Warmed39 U.vm ∧ U.heap = h0) (fun _ _ _ _ _ => True) (fun _ U o U' => ∃ v L, o = .returned v ∧ Qb Z bb tb none cb (max M cb) h0 n0 v U'.heap L ∧ FrameEnd U o U' L ({ frames := 3, cells := 1, slots := 300, locals := 48 } : Room).cells ({ frames := 3, cells := 1, slots := 300, locals := 48 } : Room).slots) := by
  refine MetFree.of_bodySF pn_ens hisR ?_
  intro p e s m args below meth c s₁ Bd hml0 hP hK
  obtain ⟨rfl, hZ, hh⟩ := hP
  have hx := Bd.exec
  have hby := Bd.bytes
  have hml : c.maxLocals = 3 := hml0
  have hown : s.vm.findClass "java/lang/AbstractStringBuilder" = some m.cls := findClass_of_methodNamed Bd.named
  have hnm := (name_of_methodNamed Bd.named Bd.method).1
  have X0 : Stand p l e ({ frames := 3, cells := 1, slots := 300, locals := 48 } : Room) s m #[(.ref bb), (.int (Int32.ofNat M))] below meth c s₁ [] 0 0 := Stand.of_body Bd
  have e0 : s₁.heap = h0 := by rw [← hh, Bd.state]; rfl
  have N := Fr.nil n0
  have K : Keep h0 h0 [bb, tb] := Keep.refl _ _
  refine Go.by (T' := s₁) (f' := (mkF m 0 #[.val (.ref bb), .val (.int (Int32.ofNat M)), .unset] [])) (fun _ k => castTop (ef_ens m bb (Int32.ofNat M)) k) ?_
  refine Go.by (T' := s₁) (f' := (mkF m 1 #[.val (.ref bb), .val (.int (Int32.ofNat M)), .unset] [(.ref bb)])) (fun _ k => XS.aloadN X0.here hx rfl (hb hby d_ens_0) rfl rfl k) ?_
  obtain ⟨T1, X1, e1, st1⟩ := getF X0 hx hZ hown (host := "") (Or.inl (hw _ (List.mem_of_getElem? (i := 45) rfl))) Via.refl e0 Fv_b (g := (mkF m 1 #[.val (.ref bb), .val (.int (Int32.ofNat M)), .unset] [(.ref bb)])) rfl rfl (hb hby d_ens_1)
  refine Go.by (T' := T1) (f' := (mkF m 4 #[.val (.ref bb), .val (.int (Int32.ofNat M)), .unset] [(.ref tb)])) (st1) ?_
  obtain ⟨cl2, Ar2, q2, S2, N2', H2, G2⟩ := id V_t
  refine Go.by (T' := T1) (f' := (mkF m 5 #[.val (.ref bb), .val (.int (Int32.ofNat M)), .unset] [(.int (Int32.ofNat Lb))])) (fun t k => X1.arraylength hx (by rw [e1]; exact Ar2.1) (State.isArrayOf_alike hZ.alike Ar2.2.1) (g := (mkF m 4 #[.val (.ref bb), .val (.int (Int32.ofNat M)), .unset] [(.ref tb)])) rfl rfl (hb hby d_ens_4) t (by rw [len_of S2 N2']; exact k)) ?_
  refine Go.by (T' := T1) (f' := (mkF m 6 #[.val (.ref bb), .val (.int (Int32.ofNat M)), .unset] [(.ref bb), (.int (Int32.ofNat Lb))])) (fun _ k => XS.aloadN X1.here hx rfl (hb hby d_ens_5) rfl rfl k) ?_
  obtain ⟨T3, X3, e3, st3⟩ := getF X1 hx hZ hown (host := "") (Or.inl (hw _ (List.mem_of_getElem? (i := 47) rfl))) Via.refl e1 Fc_b (g := (mkF m 6 #[.val (.ref bb), .val (.int (Int32.ofNat M)), .unset] [(.ref bb), (.int (Int32.ofNat Lb))])) rfl rfl (hb hby d_ens_6)
  refine Go.by (T' := T3) (f' := (mkF m 9 #[.val (.ref bb), .val (.int (Int32.ofNat M)), .unset] [(.int (0 : Int32)), (.int (Int32.ofNat Lb))])) (st3) ?_
  refine Go.by (T' := T3) (f' := (mkF m 10 #[.val (.ref bb), .val (.int (Int32.ofNat M)), .unset] [(.int ((Int32.ofNat Lb) >>> ((0 : Int32) &&& 31)))])) (fun _ k => XS.ishr X3.here hx rfl (hb hby d_ens_9) rfl k) ?_
  rw [show ((Int32.ofNat Lb) >>> ((0 : Int32) &&& 31)) = (Int32.ofNat Lb) from own_shr0 _]
  refine Go.by (T' := T3) (f' := (mkF m 11 #[.val (.ref bb), .val (.int (Int32.ofNat M)), .val (.int (Int32.ofNat Lb))] [])) (fun _ k => XS.istoreN X3.here hx rfl (hb hby d_ens_10) rfl (l' := #[.val (.ref bb), .val (.int (Int32.ofNat M)), .val (.int (Int32.ofNat Lb))]) rfl k) ?_
  refine Go.by (T' := T3) (f' := (mkF m 12 #[.val (.ref bb), .val (.int (Int32.ofNat M)), .val (.int (Int32.ofNat Lb))] [(.int (Int32.ofNat M))])) (fun _ k => XS.iloadN X3.here hx rfl (hb hby d_ens_11) rfl k) ?_
  refine Go.by (T' := T3) (f' := (mkF m 13 #[.val (.ref bb), .val (.int (Int32.ofNat M)), .val (.int (Int32.ofNat Lb))] [(.int (Int32.ofNat Lb)), (.int (Int32.ofNat M))])) (fun _ k => XS.iloadN X3.here hx rfl (hb hby d_ens_12) rfl k) ?_
  refine Go.by (T' := T3) (f' := (mkF m 14 #[.val (.ref bb), .val (.int (Int32.ofNat M)), .val (.int (Int32.ofNat Lb))] [(.int ((Int32.ofNat M) - (Int32.ofNat Lb)))])) (fun _ k => XS.isub X3.here hx rfl (hb hby d_ens_13) rfl k) ?_
  by_cases hc14_4 : Lb < M
  · skip
    refine Go.by (T' := T3) (f' := (mkF m 17 #[.val (.ref bb), .val (.int (Int32.ofNat M)), .val (.int (Int32.ofNat Lb))] [])) (fun _ k => XS.ifNo X3.here hx rfl (hb hby d_ens_14) rfl ((if0 _ _).trans (tlt ((own_pos (a := M) (b := Lb) (by omega) (by omega)).mpr hc14_4)).2.2.2) k) ?_
    refine Go.by (T' := T3) (f' := (mkF m 18 #[.val (.ref bb), .val (.int (Int32.ofNat M)), .val (.int (Int32.ofNat Lb))] [(.ref bb)])) (fun _ k => XS.aloadN X3.here hx rfl (hb hby d_ens_17) rfl rfl k) ?_
    refine Go.by (T' := T3) (f' := (mkF m 19 #[.val (.ref bb), .val (.int (Int32.ofNat M)), .val (.int (Int32.ofNat Lb))] [(.ref bb), (.ref bb)])) (fun _ k => XS.aloadN X3.here hx rfl (hb hby d_ens_18) rfl rfl k) ?_
    obtain ⟨T5, X5, e5, st5⟩ := getF X3 hx hZ hown (host := "") (Or.inl (hw _ (List.mem_of_getElem? (i := 45) rfl))) Via.refl e3 Fv_b (g := (mkF m 19 #[.val (.ref bb), .val (.int (Int32.ofNat M)), .val (.int (Int32.ofNat Lb))] [(.ref bb), (.ref bb)])) rfl rfl (hb hby d_ens_19)
    refine Go.by (T' := T5) (f' := (mkF m 22 #[.val (.ref bb), .val (.int (Int32.ofNat M)), .val (.int (Int32.ofNat Lb))] [(.ref tb), (.ref bb)])) (st5) ?_
    refine Go.by (T' := T5) (f' := (mkF m 23 #[.val (.ref bb), .val (.int (Int32.ofNat M)), .val (.int (Int32.ofNat Lb))] [(.ref bb), (.ref tb), (.ref bb)])) (fun _ k => XS.aloadN X5.here hx rfl (hb hby d_ens_22) rfl rfl k) ?_
    refine Go.by (T' := T5) (f' := (mkF m 24 #[.val (.ref bb), .val (.int (Int32.ofNat M)), .val (.int (Int32.ofNat Lb))] [(.int (Int32.ofNat M)), (.ref bb), (.ref tb), (.ref bb)])) (fun _ k => XS.iloadN X5.here hx rfl (hb hby d_ens_23) rfl k) ?_
    have hi6a : Lb ≤ 300 := by omega
    have hi6b : 16 ≤ Lb := by omega
    have hi6c : cb ≤ Lb := by omega
    have hj6a : M ≤ 150 := by omega
    have hj6b : Lb < M := by omega
    obtain ⟨cq6, q6, q6'⟩ := E_b.cell
    obtain ⟨v6, _, ⟨T6, L6, k6, n6⟩, -, X6, ⟨Lc6, hQ6, l6, y6, z6⟩, st6⟩ := X5.privateBack hx (y := (⟨"java/lang/AbstractStringBuilder", "newCapacity", "(I)I"⟩ : MethodName)) hown (mvT hZ (hw _ (List.mem_of_getElem? (i := 166) rfl))) (mvT hZ (hw _ (List.mem_of_getElem? (i := 167) rfl))) (own_selp (mvT hZ (hw _ (List.mem_of_getElem? (i := 169) rfl))) (Cond.privateMethod_at (mvP hZ (hw _ (List.mem_of_getElem? (i := 168) rfl)) (args := #[]))) (mvT hZ (hw _ (List.mem_of_getElem? (i := 167) rfl))) (by decide)) (Cond.privateMethod_at (mvP hZ (hw _ (List.mem_of_getElem? (i := 168) rfl)) (args := #[]))) (mvT hZ (hw _ (List.mem_of_getElem? (i := 170) rfl))) (by decide) (backOf (W := 2) (rm_newcap l Z a0 hw [] bb tb _ (Lb) (cb) _ (M) h0 n0 O E_b Fv_b Fc_b Fn_b V_t E_t g_bb g_tb hi6a hi6b hi6c hj6a hj6b) hZ (hw _ (List.mem_of_getElem? (i := 170) rfl)) (hw _ (List.mem_of_getElem? (i := 41) rfl)) (by decide) (by decide)) (g := (mkF m 24 #[.val (.ref bb), .val (.int (Int32.ofNat M)), .val (.int (Int32.ofNat Lb))] [(.int (Int32.ofNat M)), (.ref bb), (.ref tb), (.ref bb)])) rfl (by rw [hml]; rfl) (Steps.refl _) (a := bb) (by rw [e5]; exact q6) q6' (argsL := [(.int (Int32.ofNat M))]) (rest := [(.ref tb), (.ref bb)]) (lenOf pd_ens_0 rfl) rfl (by show 2 * 0 + _ ≤ _; exact Nat.le_of_eq rfl) (hb hby d_ens_24) (fun _ _ => ⟨rfl, e5, (by decide : 0 + 0 ≤ _), (by decide : 0 + 0 ≤ _)⟩)
    dsimp only [Pt.U, Pt.locs, Pt.cells, Pt.slots] at X6 l6 y6 z6 st6 hQ6
    subst l6 y6 z6
    obtain ⟨rfl, Nq6, e6⟩ := hQ6
    replace N := Fr.app N Nq6
    refine Go.by (T' := T6) (f' := (mkF m 27 #[.val (.ref bb), .val (.int (Int32.ofNat M)), .val (.int (Int32.ofNat Lb))] [(.int (Int32.ofNat (Lb + max (M - Lb) (Lb + 2)))), (.ref tb), (.ref bb)])) (fun _ k => st6.trans k) ?_
    refine Go.by (T' := T6) (f' := (mkF m 28 #[.val (.ref bb), .val (.int (Int32.ofNat M)), .val (.int (Int32.ofNat Lb))] [(.ref bb), (.int (Int32.ofNat (Lb + max (M - Lb) (Lb + 2)))), (.ref tb), (.ref bb)])) (fun _ k => XS.aloadN X6.here hx rfl (hb hby d_ens_27) rfl rfl k) ?_
    obtain ⟨T7, X7, e7, st7⟩ := getF X6 hx hZ hown (host := "") (Or.inl (hw _ (List.mem_of_getElem? (i := 47) rfl))) Via.refl e6 Fc_b (g := (mkF m 28 #[.val (.ref bb), .val (.int (Int32.ofNat M)), .val (.int (Int32.ofNat Lb))] [(.ref bb), (.int (Int32.ofNat (Lb + max (M - Lb) (Lb + 2)))), (.ref tb), (.ref bb)])) rfl rfl (hb hby d_ens_28)
    refine Go.by (T' := T7) (f' := (mkF m 31 #[.val (.ref bb), .val (.int (Int32.ofNat M)), .val (.int (Int32.ofNat Lb))] [(.int (0 : Int32)), (.int (Int32.ofNat (Lb + max (M - Lb) (Lb + 2)))), (.ref tb), (.ref bb)])) (st7) ?_
    refine Go.by (T' := T7) (f' := (mkF m 32 #[.val (.ref bb), .val (.int (Int32.ofNat M)), .val (.int (Int32.ofNat Lb))] [(.int ((Int32.ofNat (Lb + max (M - Lb) (Lb + 2))) <<< ((0 : Int32) &&& 31))), (.ref tb), (.ref bb)])) (fun _ k => XS.ishl X7.here hx rfl (hb hby d_ens_31) rfl k) ?_
    rw [show ((Int32.ofNat (Lb + max (M - Lb) (Lb + 2))) <<< ((0 : Int32) &&& 31)) = (Int32.ofNat (Lb + max (M - Lb) (Lb + 2))) from own_shl0 _]
    have hp8a : Lb < (Lb + max (M - Lb) (Lb + 2)) := by omega
    have hp8b : (Lb + max (M - Lb) (Lb + 2)) ≤ 300 := by omega
    obtain ⟨v8, _, ⟨T8, L8, k8, n8⟩, -, X8, ⟨Lc8, hQ8, l8, y8, z8⟩, st8⟩ := Jvm.LawKit.callS X7 hx (y := (⟨"java/util/Arrays", "copyOf", "([BI)[B"⟩ : MethodName)) hown (mvT hZ (hw _ (List.mem_of_getElem? (i := 180) rfl))) (mvT hZ (hw _ (List.mem_of_getElem? (i := 181) rfl))) (mvT hZ (hw _ (List.mem_of_getElem? (i := 153) rfl))) (mvT hZ (hw _ (List.mem_of_getElem? (i := 182) rfl))) (by decide) (backOf (W := 1) (rm_copyof l Z a0 hw [] tb _ (Lb) ((Lb + max (M - Lb) (Lb + 2))) _ h0 n0 O V_t hp8a hp8b) hZ (hw _ (List.mem_of_getElem? (i := 182) rfl)) (hw _ (List.mem_of_getElem? (i := 153) rfl)) (by decide) (by decide)) (g := (mkF m 32 #[.val (.ref bb), .val (.int (Int32.ofNat M)), .val (.int (Int32.ofNat Lb))] [(.int (Int32.ofNat (Lb + max (M - Lb) (Lb + 2)))), (.ref tb), (.ref bb)])) rfl (by rw [hml]; rfl) (argsL := [(.ref tb), (.int (Int32.ofNat (Lb + max (M - Lb) (Lb + 2))))]) (rest := [(.ref bb)]) (lenOf pd_ens_1 rfl) rfl (by show 2 * 0 + _ ≤ _; exact Nat.le_of_eq rfl) (hb hby d_ens_32) (fun _ _ => ⟨rfl, e7, (by decide : 0 + 1 ≤ _), (by decide : 0 + 300 ≤ _)⟩)
    dsimp only [Pt.U, Pt.locs, Pt.cells, Pt.slots] at X8 l8 y8 z8 st8 hQ8
    subst l8 y8 z8
    obtain ⟨r8, k28, vs8, rfl, Nq8, K8, gr8, Vr8, Er8⟩ := hQ8
    replace N := Fr.app N Nq8
    have ne_bb_r8 : bb ≠ r8 := Nat.ne_of_lt (Nat.lt_of_lt_of_le E_b.lt gr8)
    have ne_tb_r8 : tb ≠ r8 := Nat.ne_of_lt (Nat.lt_of_lt_of_le V_t.lt gr8)
    have g_r8 : n0 ≤ r8 := Nat.le_trans (Old.le O) gr8
    have sz_r8 : h0.size ≤ r8 := Nat.le_trans K.1 gr8
    replace E_b := E_b.keep K8
    replace Fv_b := Fv_b.keep K8 nin0
    replace Fc_b := Fc_b.keep K8 nin0
    replace Fn_b := Fn_b.keep K8 nin0
    replace V_t := V_t.keep K8 nin0
    replace E_t := E_t.keep K8
    replace O := O.keep K8 all0
    replace K := K.trans K8 all0
    refine Go.by (T' := T8) (f' := (mkF m 35 #[.val (.ref bb), .val (.int (Int32.ofNat M)), .val (.int (Int32.ofNat Lb))] [(.ref r8), (.ref bb)])) (st8) ?_
    obtain ⟨T9, h9, X9, e9, W9, st9⟩ := putF X8 hx hZ hown (host := "") (Or.inl (hw _ (List.mem_of_getElem? (i := 45) rfl))) Via.refl rfl Fv_b E_b (Or.inl (hw _ (List.mem_of_getElem? (i := 46) rfl))) (hw _ (List.mem_of_getElem? (i := 32) rfl)) (ty := (.array .byte)) (by decide) rfl rfl (g := (mkF m 35 #[.val (.ref bb), .val (.int (Int32.ofNat M)), .val (.int (Int32.ofNat Lb))] [(.ref r8), (.ref bb)])) rfl rfl (hb hby d_ens_35)
    have nq10 : tb ≠ bb := (ne_exa E_t E_b (by decide))
    replace E_b := E_b.wr W9
    replace Fc_b := Fc_b.other W9 (Or.inr (slot_ne (Or.inl (hw _ (List.mem_of_getElem? (i := 48) rfl))) (Or.inl (hw _ (List.mem_of_getElem? (i := 46) rfl))) (by decide) (t := .byte) (t' := (.array .byte)) (by decide) (by decide)))
    replace Fn_b := Fn_b.other W9 (Or.inr (slot_ne (Or.inl (hw _ (List.mem_of_getElem? (i := 72) rfl))) (Or.inl (hw _ (List.mem_of_getElem? (i := 46) rfl))) (by decide) (t := .int) (t' := (.array .byte)) (by decide) (by decide)))
    replace V_t := V_t.other W9 nq10
    replace E_t := E_t.wr W9
    replace Vr8 := Vr8.other W9 (Ne.symm ne_bb_r8)
    replace Er8 := Er8.wr W9
    replace Fv_b := Fv_b.same W9
    replace O := O.wr W9 g_bb
    replace K := K.wr W9 (Or.inl (by simp))
    replace N := Fr.snoc X9 N g_bb
    refine Go.by (T' := T9) (f' := (mkF m 38 #[.val (.ref bb), .val (.int (Int32.ofNat M)), .val (.int (Int32.ofNat Lb))] [])) (st9) ?_
    obtain ⟨fs, hr, hrun, hended, hW, hsame⟩ := X9.leave (v := none) (fun _ => rfl)
    refine ⟨_, _, X9.returnOut hx Bd.returns (hb hby d_ens_38) hr, hrun, hended, _, _, rfl, ?_, ⟨_, rfl⟩, hW, hsame.mono (by decide) (by decide)⟩
    show Qb Z bb tb none cb (max M cb) h0 n0 (none) T9.heap _
    rw [e9]
    exact ⟨rfl, N, K, r8, _, (Lb + max (M - Lb) (Lb + 2)), _, Or.inr sz_r8, by omega, by omega, by omega, Fv_b, Fc_b, Fn_b, Vr8, Er8⟩
  · skip
    refine Go.by (T' := T3) (f' := (mkF m 38 #[.val (.ref bb), .val (.int (Int32.ofNat M)), .val (.int (Int32.ofNat Lb))] [])) (fun _ k => XS.ifYes X3.here hx rfl (pc0 := 14) (pc' := 38) rfl (hb hby d_ens_14) rfl ((if0 _ _).trans (flt (mt (own_pos (a := M) (b := Lb) (by omega) (by omega)).mp hc14_4)).2.2.2) (by decide) (by decide) k) ?_
    obtain ⟨fs, hr, hrun, hended, hW, hsame⟩ := X3.leave (v := none) (fun _ => rfl)
    refine ⟨_, _, X3.returnOut hx Bd.returns (hb hby d_ens_38) hr, hrun, hended, _, _, rfl, ?_, ⟨_, rfl⟩, hW, hsame.mono (by decide) (by decide)⟩
    show Qb Z bb tb none cb (max M cb) h0 n0 (none) T3.heap _
    rw [e3]
    exact ⟨rfl, N, K, tb, _, Lb, _, Or.inl rfl, by omega, by omega, by omega, Fv_b, Fc_b, Fn_b, V_t, E_t⟩

def Qn (Z : State) (b : Addr) (h0 : Heap) (n0 : Nat) (v : Option Value) (h : Heap) (L : List Loc) : Prop := v = none ∧ Fr n0 L ∧ Keep h0 h [b] ∧ ∃ (t' : Addr) (k' : ClassId) (vs' : List Value), h0.size ≤ t' ∧ Fld Z h b "java/lang/AbstractStringBuilder" "value" "[B" (.ref t') ∧ Fld Z h b "java/lang/AbstractStringBuilder" "coder" "B" (.int 0) ∧ Fld Z h b "java/lang/AbstractStringBuilder" "count" "I" (.int 0) ∧ Arv Z h t' k' .byte (Int32.ofNat 16) vs' (.int 0) ∧ Exa Z h t' "[B"
theorem d_asbi_0 : decode jdk_68_method_2_code 0 = .ok (.aload_n 0, 1) := by decide +kernel
theorem d_asbi_1 : decode jdk_68_method_2_code 1 = .ok (.invokespecial 3, 3) := by decide +kernel
theorem d_asbi_4 : decode jdk_68_method_2_code 4 = .ok (.getstatic 18, 3) := by decide +kernel
theorem d_asbi_7 : decode jdk_68_method_2_code 7 = .ok (.ifCond .eq 18, 3) := by decide +kernel
theorem d_asbi_10 : decode jdk_68_method_2_code 10 = .ok (.aload_n 0, 1) := by decide +kernel
theorem d_asbi_11 : decode jdk_68_method_2_code 11 = .ok (.iload_n 1, 1) := by decide +kernel
theorem d_asbi_12 : decode jdk_68_method_2_code 12 = .ok (.newarray .byte, 2) := by decide +kernel
theorem d_asbi_14 : decode jdk_68_method_2_code 14 = .ok (.putfield 15, 3) := by decide +kernel
theorem d_asbi_17 : decode jdk_68_method_2_code 17 = .ok (.aload_n 0, 1) := by decide +kernel
theorem d_asbi_18 : decode jdk_68_method_2_code 18 = .ok (.iconst 0, 1) := by decide +kernel
theorem d_asbi_19 : decode jdk_68_method_2_code 19 = .ok (.putfield 22, 3) := by decide +kernel
theorem d_asbi_22 : decode jdk_68_method_2_code 22 = .ok (.goto 16, 3) := by decide +kernel
theorem d_asbi_38 : decode jdk_68_method_2_code 38 = .ok (.return_, 1) := by decide +kernel
theorem pn_asbi : plainFor (⟨"java/lang/AbstractStringBuilder", "<init>", "(I)V"⟩ : MethodName) = true := plainFor_of_name (by first | (simp [plainName, overriddenIn]; done) | decide +kernel)
theorem ef_asbi (m : MethodId) (x0 : Addr) : entryFrame m #[(.ref x0), (.int (16 : Int32))] 2 = mkF m 0 #[.val (.ref x0), .val (.int (16 : Int32))] [] := by first | (simp [entryFrame, mkF, argsToLocals, Value.category]; done) | rfl
set_option maxRecDepth 65536 in
set_option maxHeartbeats 40000000 in
theorem rm_asbi (l : Launch) (Z : State) (a0 : Array Value) (hw : ∀ d ∈ tables_1, d.before a0 Z = true) (ws : List Jvm.Cond) (bb : Addr) (zc : Int32) (ls us ss : Addr) (hS0 : Sf Z zc ls us ss) (h0 : Heap) (n0 : Nat) (O : Old Z n0 h0) (E_b : Exa Z h0 bb "java/lang/StringBuilder") (Fv_b : Fld Z h0 bb "java/lang/AbstractStringBuilder" "value" "[B" .null) (Fc_b : Fld Z h0 bb "java/lang/AbstractStringBuilder" "coder" "B" (.int 0)) (Fn_b : Fld Z h0 bb "java/lang/AbstractStringBuilder" "count" "I" (.int 0)) (g_bb : n0 ≤ bb) :
    MetFree l (⟨"java/lang/AbstractStringBuilder", "<init>", "(I)V"⟩ : MethodName) (head1 (Jvm.Cond.code (⟨"java/lang/AbstractStringBuilder", "<init>", "(I)V"⟩ : MethodName) jdk_68_method_2_code 2 none :: ws) ({ frames := 1, cells := 1, slots := 16, locals := 12 } : Room)) (fun as_ U => as_ = #[(.ref bb), (.int (16 : Int32))] ∧ Z.Warmed39 U.vm ∧ U.heap = h0) (fun _ _ _ _ _ => True) (fun _ U o U' => ∃ v L, o = .returned v ∧ Qn Z bb h0 n0 v U'.heap L ∧ FrameEnd U o U' L ({ frames := 1, cells := 1, slots := 16, locals := 12 } : Room).cells ({ frames := 1, cells := 1, slots := 16, locals := 12 } : Room).slots) := by
  refine MetFree.of_bodySF pn_asbi hisR ?_
  intro p e s m args below meth c s₁ Bd hml0 hP hK
  obtain ⟨rfl, hZ, hh⟩ := hP
  have hx := Bd.exec
  have hby := Bd.bytes
  have hml : c.maxLocals = 2 := hml0
  have hown : s.vm.findClass "java/lang/AbstractStringBuilder" = some m.cls := findClass_of_methodNamed Bd.named
  have hnm := (name_of_methodNamed Bd.named Bd.method).1
  have X0 : Stand p l e ({ frames := 1, cells := 1, slots := 16, locals := 12 } : Room) s m #[(.ref bb), (.int (16 : Int32))] below meth c s₁ [] 0 0 := Stand.of_body Bd
  have e0 : s₁.heap = h0 := by rw [← hh, Bd.state]; rfl
  have N := Fr.nil n0
  have K : Keep h0 h0 [bb] := Keep.refl _ _
  refine Go.by (T' := s₁) (f' := (mkF m 0 #[.val (.ref bb), .val (.int (16 : Int32))] [])) (fun _ k => castTop (ef_asbi m bb) k) ?_
  refine Go.by (T' := s₁) (f' := (mkF m 1 #[.val (.ref bb), .val (.int (16 : Int32))] [(.ref bb)])) (fun _ k => XS.aloadN X0.here hx rfl (hb hby d_asbi_0) rfl rfl k) ?_
  obtain ⟨T1, X1, e1, st1⟩ := initO X0 hx hZ hown (hw _ (List.mem_of_getElem? (i := 43) rfl)) (hw _ (List.mem_of_getElem? (i := 12) rfl)) (hw _ (List.mem_of_getElem? (i := 13) rfl)) e0 (g := (mkF m 1 #[.val (.ref bb), .val (.int (16 : Int32))] [(.ref bb)])) rfl (by rw [hml]; rfl) rfl (hb hby d_asbi_1) (by decide) (W := 0) (by show 2 * 0 + _ ≤ _; exact Nat.le_of_eq rfl) (by decide)
  refine Go.by (T' := T1) (f' := (mkF m 4 #[.val (.ref bb), .val (.int (16 : Int32))] [])) (st1) ?_
  obtain ⟨T2, X2, e2, st2⟩ := getS2 X1 hx hZ hown (host := "") (Or.inl (hw _ (List.mem_of_getElem? (i := 44) rfl))) Via.refl e1 (Sta.ext O.2 hS0.1) (g := (mkF m 4 #[.val (.ref bb), .val (.int (16 : Int32))] [])) rfl (hb hby d_asbi_4)
  refine Go.by (T' := T2) (f' := (mkF m 7 #[.val (.ref bb), .val (.int (16 : Int32))] [(.int zc)])) (st2) ?_
  refine Go.by (T' := T2) (f' := (mkF m 10 #[.val (.ref bb), .val (.int (16 : Int32))] [])) (fun _ k => XS.ifNo X2.here hx rfl (hb hby d_asbi_7) rfl ((if0 _ _).trans (feq hS0.2.1).1) k) ?_
  refine Go.by (T' := T2) (f' := (mkF m 11 #[.val (.ref bb), .val (.int (16 : Int32))] [(.ref bb)])) (fun _ k => XS.aloadN X2.here hx rfl (hb hby d_asbi_10) rfl rfl k) ?_
  refine Go.by (T' := T2) (f' := (mkF m 12 #[.val (.ref bb), .val (.int (16 : Int32))] [(.int (16 : Int32)), (.ref bb)])) (fun _ k => XS.iloadN X2.here hx rfl (hb hby d_asbi_11) rfl k) ?_
  obtain ⟨T4, h4, k4, X4, e4, E4, A4, B4, st4⟩ := newPE X2 hx hZ (hw _ (List.mem_of_getElem? (i := 15) rfl)) e2 (g := (mkF m 12 #[.val (.ref bb), .val (.int (16 : Int32))] [(.int (16 : Int32)), (.ref bb)])) rfl (hb hby d_asbi_12) rfl (by decide) (cap := 16) (by decide) (by decide) (by decide) (by decide) (ad := "[B") (by decide)
  obtain ⟨b4, g4⟩ : ∃ z, z = h0.size := ⟨_, rfl⟩
  rw [← g4] at A4 B4 st4
  have ne_bb_b4 : bb ≠ b4 := Nat.ne_of_lt (Nat.lt_of_lt_of_le E_b.lt (Nat.le_of_eq g4.symm))
  have g_b4 : n0 ≤ b4 := Nat.le_trans (Old.le O) (Nat.le_of_eq g4.symm)
  have sz_b4 : h0.size ≤ b4 := Nat.le_trans K.1 (Nat.le_of_eq g4.symm)
  replace E_b := E_b.ext E4
  replace Fv_b := Fv_b.ext E4
  replace Fc_b := Fc_b.ext E4
  replace Fn_b := Fn_b.ext E4
  replace O := O.ext E4
  replace K := K.ext E4
  have V_b4 : Arv Z h4 b4 k4 .byte (16 : Int32) [] (.int (0 : Int32)) := Arv.new A4 (by decide)
  have E_b4 := B4
  refine Go.by (T' := T4) (f' := (mkF m 14 #[.val (.ref bb), .val (.int (16 : Int32))] [(.ref b4), (.ref bb)])) (st4) ?_
  obtain ⟨T5, h5, X5, e5, W5, st5⟩ := putF X4 hx hZ hown (host := "") (Or.inl (hw _ (List.mem_of_getElem? (i := 45) rfl))) Via.refl e4 Fv_b E_b (Or.inl (hw _ (List.mem_of_getElem? (i := 46) rfl))) (hw _ (List.mem_of_getElem? (i := 32) rfl)) (ty := (.array .byte)) (by decide) rfl rfl (g := (mkF m 14 #[.val (.ref bb), .val (.int (16 : Int32))] [(.ref b4), (.ref bb)])) rfl rfl (hb hby d_asbi_14)
  replace E_b := E_b.wr W5
  replace Fc_b := Fc_b.other W5 (Or.inr (slot_ne (Or.inl (hw _ (List.mem_of_getElem? (i := 48) rfl))) (Or.inl (hw _ (List.mem_of_getElem? (i := 46) rfl))) (by decide) (t := .byte) (t' := (.array .byte)) (by decide) (by decide)))
  replace Fn_b := Fn_b.other W5 (Or.inr (slot_ne (Or.inl (hw _ (List.mem_of_getElem? (i := 72) rfl))) (Or.inl (hw _ (List.mem_of_getElem? (i := 46) rfl))) (by decide) (t := .int) (t' := (.array .byte)) (by decide) (by decide)))
  replace V_b4 := V_b4.other W5 (Ne.symm ne_bb_b4)
  replace E_b4 := E_b4.wr W5
  replace Fv_b := Fv_b.same W5
  replace O := O.wr W5 g_bb
  replace K := K.wr W5 (Or.inl (by simp))
  replace N := Fr.snoc X5 N g_bb
  refine Go.by (T' := T5) (f' := (mkF m 17 #[.val (.ref bb), .val (.int (16 : Int32))] [])) (st5) ?_
  refine Go.by (T' := T5) (f' := (mkF m 18 #[.val (.ref bb), .val (.int (16 : Int32))] [(.ref bb)])) (fun _ k => XS.aloadN X5.here hx rfl (hb hby d_asbi_17) rfl rfl k) ?_
  refine Go.by (T' := T5) (f' := (mkF m 19 #[.val (.ref bb), .val (.int (16 : Int32))] [(.int (0 : Int32)), (.ref bb)])) (fun _ k => XS.iconst X5.here hx rfl (hb hby d_asbi_18) k) ?_
  obtain ⟨T6, h6, X6, e6, W6, st6⟩ := putFN X5 hx hZ hown (hw _ (List.mem_of_getElem? (i := 47) rfl)) Via.refl e5 Fc_b E_b (Or.inl (hw _ (List.mem_of_getElem? (i := 48) rfl))) (hw _ (List.mem_of_getElem? (i := 32) rfl)) (ty := .byte) (v' := (.int (0 : Int32))) (by decide) rfl rfl (g := (mkF m 19 #[.val (.ref bb), .val (.int (16 : Int32))] [(.int (0 : Int32)), (.ref bb)])) rfl rfl (hb hby d_asbi_19)
  replace E_b := E_b.wr W6
  replace Fv_b := Fv_b.other W6 (Or.inr (slot_ne (Or.inl (hw _ (List.mem_of_getElem? (i := 46) rfl))) (Or.inl (hw _ (List.mem_of_getElem? (i := 48) rfl))) (by decide) (t := (.array .byte)) (t' := .byte) (by decide) (by decide)))
  replace Fn_b := Fn_b.other W6 (Or.inr (slot_ne (Or.inl (hw _ (List.mem_of_getElem? (i := 72) rfl))) (Or.inl (hw _ (List.mem_of_getElem? (i := 48) rfl))) (by decide) (t := .int) (t' := .byte) (by decide) (by decide)))
  replace V_b4 := V_b4.other W6 (Ne.symm ne_bb_b4)
  replace E_b4 := E_b4.wr W6
  replace Fc_b := Fc_b.same W6
  replace O := O.wr W6 g_bb
  replace K := K.wr W6 (Or.inl (by simp))
  replace N := Fr.snoc X6 N g_bb
  refine Go.by (T' := T6) (f' := (mkF m 22 #[.val (.ref bb), .val (.int (16 : Int32))] [])) (st6) ?_
  refine Go.by (T' := T6) (f' := (mkF m 38 #[.val (.ref bb), .val (.int (16 : Int32))] [])) (fun _ k => XS.goto X6.here hx rfl (pc0 := 22) (pc' := 38) rfl (hb hby d_asbi_22) (by decide) (by decide) k) ?_
  obtain ⟨fs, hr, hrun, hended, hW, hsame⟩ := X6.leave (v := none) (fun _ => rfl)
  refine ⟨_, _, X6.returnOut hx Bd.returns (hb hby d_asbi_38) hr, hrun, hended, _, _, rfl, ?_, ⟨_, rfl⟩, hW, hsame.mono (by decide) (by decide)⟩
  show Qn Z bb h0 n0 (none) T6.heap _
  rw [e6]
  exact ⟨rfl, N, K, b4, _, _, sz_b4, Fv_b, Fc_b, Fn_b, V_b4, E_b4⟩

theorem d_sbi_0 : decode jdk_67_method_1_code 0 = .ok (.aload_n 0, 1) := by decide +kernel
theorem d_sbi_1 : decode jdk_67_method_1_code 1 = .ok (.bipush 16, 2) := by decide +kernel
theorem d_sbi_3 : decode jdk_67_method_1_code 3 = .ok (.invokespecial 1, 3) := by decide +kernel
theorem d_sbi_6 : decode jdk_67_method_1_code 6 = .ok (.return_, 1) := by decide +kernel
theorem pn_sbi : plainFor (⟨"java/lang/StringBuilder", "<init>", "()V"⟩ : MethodName) = true := plainFor_of_name (by first | (simp [plainName, overriddenIn]; done) | decide +kernel)
theorem pd_sbi_0 : parseMethodDescriptor "(I)V" = some ⟨[.int], none⟩ := by decide +kernel
theorem ef_sbi (m : MethodId) (x0 : Addr) : entryFrame m #[(.ref x0)] 1 = mkF m 0 #[.val (.ref x0)] [] := by first | (simp [entryFrame, mkF, argsToLocals, Value.category]; done) | rfl
set_option maxRecDepth 65536 in
set_option maxHeartbeats 40000000 in
theorem rm_sbi (l : Launch) (Z : State) (a0 : Array Value) (hw : ∀ d ∈ tables_1, d.before a0 Z = true) (ws : List Jvm.Cond) (bb : Addr) (zc : Int32) (ls us ss : Addr) (hS0 : Sf Z zc ls us ss) (h0 : Heap) (n0 : Nat) (O : Old Z n0 h0) (E_b : Exa Z h0 bb "java/lang/StringBuilder") (Fv_b : Fld Z h0 bb "java/lang/AbstractStringBuilder" "value" "[B" .null) (Fc_b : Fld Z h0 bb "java/lang/AbstractStringBuilder" "coder" "B" (.int 0)) (Fn_b : Fld Z h0 bb "java/lang/AbstractStringBuilder" "count" "I" (.int 0)) (g_bb : n0 ≤ bb) :
    MetFree l (⟨"java/lang/StringBuilder", "<init>", "()V"⟩ : MethodName) (head1 (Jvm.Cond.code (⟨"java/lang/StringBuilder", "<init>", "()V"⟩ : MethodName) jdk_67_method_1_code 1 none :: ws) ({ frames := 2, cells := 1, slots := 16, locals := 25 } : Room)) (fun as_ U => as_ = #[(.ref bb)] ∧ Z.Warmed39 U.vm ∧ U.heap = h0) (fun _ _ _ _ _ => True) (fun _ U o U' => ∃ v L, o = .returned v ∧ Qn Z bb h0 n0 v U'.heap L ∧ FrameEnd U o U' L ({ frames := 2, cells := 1, slots := 16, locals := 25 } : Room).cells ({ frames := 2, cells := 1, slots := 16, locals := 25 } : Room).slots) := by
  refine MetFree.of_bodySF pn_sbi hisR ?_
  intro p e s m args below meth c s₁ Bd hml0 hP hK
  obtain ⟨rfl, hZ, hh⟩ := hP
  have hx := Bd.exec
  have hby := Bd.bytes
  have hml : c.maxLocals = 1 := hml0
  have hown : s.vm.findClass "java/lang/StringBuilder" = some m.cls := findClass_of_methodNamed Bd.named
  have hnm := (name_of_methodNamed Bd.named Bd.method).1
  have X0 : Stand p l e ({ frames := 2, cells := 1, slots := 16, locals := 25 } : Room) s m #[(.ref bb)] below meth c s₁ [] 0 0 := Stand.of_body Bd
  have e0 : s₁.heap = h0 := by rw [← hh, Bd.state]; rfl
  have N := Fr.nil n0
  have K : Keep h0 h0 [bb] := Keep.refl _ _
  refine Go.by (T' := s₁) (f' := (mkF m 0 #[.val (.ref bb)] [])) (fun _ k => castTop (ef_sbi m bb) k) ?_
  refine Go.by (T' := s₁) (f' := (mkF m 1 #[.val (.ref bb)] [(.ref bb)])) (fun _ k => XS.aloadN X0.here hx rfl (hb hby d_sbi_0) rfl rfl k) ?_
  refine Go.by (T' := s₁) (f' := (mkF m 3 #[.val (.ref bb)] [(.int (16 : Int32)), (.ref bb)])) (fun _ k => XS.bipush X0.here hx rfl (hb hby d_sbi_1) k) ?_
  obtain ⟨v1, _, ⟨T1, L1, k1, n1⟩, -, X1, ⟨Lc1, hQ1, l1, y1, z1⟩, st1⟩ := X0.specialBack hx (y := (⟨"java/lang/AbstractStringBuilder", "<init>", "(I)V"⟩ : MethodName)) rfl hown (mvT hZ (hw _ (List.mem_of_getElem? (i := 37) rfl))) (mvT hZ (hw _ (List.mem_of_getElem? (i := 38) rfl))) (mvT hZ (hw _ (List.mem_of_getElem? (i := 42) rfl))) (by decide) (backOf (W := 0) (rm_asbi l Z a0 hw [] bb zc ls us ss hS0 h0 n0 O E_b Fv_b Fc_b Fn_b g_bb) hZ (hw _ (List.mem_of_getElem? (i := 42) rfl)) (hw _ (List.mem_of_getElem? (i := 41) rfl)) (by decide) (by decide)) (g := (mkF m 3 #[.val (.ref bb)] [(.int (16 : Int32)), (.ref bb)])) rfl (by rw [hml]; rfl) (Steps.refl _) (a := bb) (argsL := [(.int (16 : Int32))]) (rest := []) (lenOf pd_sbi_0 rfl) rfl (by show 2 * 0 + _ ≤ _; exact Nat.le_of_eq rfl) (hb hby d_sbi_3) (fun _ _ => ⟨rfl, e0, (by decide : 0 + 1 ≤ _), (by decide : 0 + 16 ≤ _)⟩)
  dsimp only [Pt.U, Pt.locs, Pt.cells, Pt.slots] at X1 l1 y1 z1 st1 hQ1
  subst l1 y1 z1
  obtain ⟨rfl, Nq1, K1, t1, k21, vs1, gt1, Gv1, Gc1, Gn1, Vt1, Et1⟩ := hQ1
  replace N := Fr.app N Nq1
  have ne_bb_t1 : bb ≠ t1 := Nat.ne_of_lt (Nat.lt_of_lt_of_le E_b.lt gt1)
  have g_t1 : n0 ≤ t1 := Nat.le_trans (Old.le O) gt1
  have sz_t1 : h0.size ≤ t1 := Nat.le_trans K.1 gt1
  replace E_b := E_b.keep K1
  replace O := O.keep K1 (allS g_bb all0)
  replace K := K.trans K1 (allS (Or.inl (by simp)) all0)
  refine Go.by (T' := T1) (f' := (mkF m 6 #[.val (.ref bb)] [])) (fun _ k => st1.trans k) ?_
  obtain ⟨fs, hr, hrun, hended, hW, hsame⟩ := X1.leave (v := none) (fun _ => rfl)
  refine ⟨_, _, X1.returnOut hx Bd.returns (hb hby d_sbi_6) hr, hrun, hended, _, _, rfl, ?_, ⟨_, rfl⟩, hW, hsame.mono (by decide) (by decide)⟩
  show Qn Z bb h0 n0 (none) T1.heap _
  exact ⟨rfl, N, K, t1, _, _, sz_t1, Gv1, Gc1, Gn1, Vt1, Et1⟩

theorem d_blat_0 : decode jdk_68_method_68_code 0 = .ok (.getstatic 18, 3) := by decide +kernel
theorem d_blat_3 : decode jdk_68_method_68_code 3 = .ok (.ifCond .eq 14, 3) := by decide +kernel
theorem d_blat_6 : decode jdk_68_method_68_code 6 = .ok (.aload_n 0, 1) := by decide +kernel
theorem d_blat_7 : decode jdk_68_method_68_code 7 = .ok (.getfield 22, 3) := by decide +kernel
theorem d_blat_10 : decode jdk_68_method_68_code 10 = .ok (.ifCond .ne 7, 3) := by decide +kernel
theorem d_blat_13 : decode jdk_68_method_68_code 13 = .ok (.iconst 1, 1) := by decide +kernel
theorem d_blat_14 : decode jdk_68_method_68_code 14 = .ok (.goto 4, 3) := by decide +kernel
theorem d_blat_18 : decode jdk_68_method_68_code 18 = .ok (.ireturn, 1) := by decide +kernel
theorem pn_blat : plainFor (⟨"java/lang/AbstractStringBuilder", "isLatin1", "()Z"⟩ : MethodName) = true := plainFor_of_name (by first | (simp [plainName, overriddenIn]; done) | decide +kernel)
theorem ef_blat (m : MethodId) (x0 : Addr) : entryFrame m #[(.ref x0)] 1 = mkF m 0 #[.val (.ref x0)] [] := by first | (simp [entryFrame, mkF, argsToLocals, Value.category]; done) | rfl
set_option maxRecDepth 65536 in
set_option maxHeartbeats 40000000 in
theorem rm_blat (l : Launch) (Z : State) (a0 : Array Value) (hw : ∀ d ∈ tables_1, d.before a0 Z = true) (ws : List Jvm.Cond) (bb tb : Addr) (kt : ClassId) (Lb cb : Nat) (vt : List Value) (zc : Int32) (ls us ss : Addr) (hS0 : Sf Z zc ls us ss) (h0 : Heap) (n0 : Nat) (O : Old Z n0 h0) (E_b : Exa Z h0 bb "java/lang/StringBuilder") (Fv_b : Fld Z h0 bb "java/lang/AbstractStringBuilder" "value" "[B" (.ref tb)) (Fc_b : Fld Z h0 bb "java/lang/AbstractStringBuilder" "coder" "B" (.int 0)) (Fn_b : Fld Z h0 bb "java/lang/AbstractStringBuilder" "count" "I" (.int (Int32.ofNat cb))) (V_t : Arv Z h0 tb kt .byte (Int32.ofNat Lb) vt (.int 0)) (E_t : Exa Z h0 tb "[B") (g_bb : n0 ≤ bb) (g_tb : n0 ≤ tb) (hLb : Lb ≤ 300) (hLb2 : 16 ≤ Lb) (hcLb : cb ≤ Lb) :
    MetFree l (⟨"java/lang/AbstractStringBuilder", "isLatin1", "()Z"⟩ : MethodName) (head1 (Jvm.Cond.code (⟨"java/lang/AbstractStringBuilder", "isLatin1", "()Z"⟩ : MethodName) jdk_68_method_68_code 1 (some .boolean) :: ws) ({ frames := 0, cells := 0, slots := 0, locals := 0 } : Room)) (fun as_ U => as_ = #[(.ref bb)] ∧ Z.Warmed39 U.vm ∧ U.heap = h0) (fun _ _ _ _ _ => True) (fun _ U o U' => ∃ v L, o = .returned v ∧ Qpure (some (.int 1)) h0 n0 v U'.heap L ∧ FrameEnd U o U' L ({ frames := 0, cells := 0, slots := 0, locals := 0 } : Room).cells ({ frames := 0, cells := 0, slots := 0, locals := 0 } : Room).slots) := by
  refine MetFree.of_bodySF pn_blat hisR ?_
  intro p e s m args below meth c s₁ Bd hml0 hP hK
  obtain ⟨rfl, hZ, hh⟩ := hP
  have hx := Bd.exec
  have hby := Bd.bytes
  have hml : c.maxLocals = 1 := hml0
  have hown : s.vm.findClass "java/lang/AbstractStringBuilder" = some m.cls := findClass_of_methodNamed Bd.named
  have hnm := (name_of_methodNamed Bd.named Bd.method).1
  have X0 : Stand p l e ({ frames := 0, cells := 0, slots := 0, locals := 0 } : Room) s m #[(.ref bb)] below meth c s₁ [] 0 0 := Stand.of_body Bd
  have e0 : s₁.heap = h0 := by rw [← hh, Bd.state]; rfl
  have N := Fr.nil n0
  have K : Keep h0 h0 [] := Keep.refl _ _
  refine Go.by (T' := s₁) (f' := (mkF m 0 #[.val (.ref bb)] [])) (fun _ k => castTop (ef_blat m bb) k) ?_
  obtain ⟨T1, X1, e1, st1⟩ := getS2 X0 hx hZ hown (host := "") (Or.inl (hw _ (List.mem_of_getElem? (i := 44) rfl))) Via.refl e0 (Sta.ext O.2 hS0.1) (g := (mkF m 0 #[.val (.ref bb)] [])) rfl (hb hby d_blat_0)
  refine Go.by (T' := T1) (f' := (mkF m 3 #[.val (.ref bb)] [(.int zc)])) (st1) ?_
  refine Go.by (T' := T1) (f' := (mkF m 6 #[.val (.ref bb)] [])) (fun _ k => XS.ifNo X1.here hx rfl (hb hby d_blat_3) rfl ((if0 _ _).trans (feq hS0.2.1).1) k) ?_
  refine Go.by (T' := T1) (f' := (mkF m 7 #[.val (.ref bb)] [(.ref bb)])) (fun _ k => XS.aloadN X1.here hx rfl (hb hby d_blat_6) rfl rfl k) ?_
  obtain ⟨T3, X3, e3, st3⟩ := getF X1 hx hZ hown (host := "") (Or.inl (hw _ (List.mem_of_getElem? (i := 47) rfl))) Via.refl e1 Fc_b (g := (mkF m 7 #[.val (.ref bb)] [(.ref bb)])) rfl rfl (hb hby d_blat_7)
  refine Go.by (T' := T3) (f' := (mkF m 10 #[.val (.ref bb)] [(.int (0 : Int32))])) (st3) ?_
  refine Go.by (T' := T3) (f' := (mkF m 13 #[.val (.ref bb)] [])) (fun _ k => XS.ifNo X3.here hx rfl (hb hby d_blat_10) rfl ((if0 _ _).trans (teq (by decide : (0 : Int32) = (0 : Int32))).2) k) ?_
  refine Go.by (T' := T3) (f' := (mkF m 14 #[.val (.ref bb)] [(.int (1 : Int32))])) (fun _ k => XS.iconst X3.here hx rfl (hb hby d_blat_13) k) ?_
  refine Go.by (T' := T3) (f' := (mkF m 18 #[.val (.ref bb)] [(.int (1 : Int32))])) (fun _ k => XS.goto X3.here hx rfl (pc0 := 14) (pc' := 18) rfl (hb hby d_blat_14) (by decide) (by decide) k) ?_
  obtain ⟨fs, hr, hrun, hended, hW, hsame⟩ := X3.leave (v := some (.int (1 : Int32))) (fun h => by rw [Bd.returns] at h; cases h)
  refine ⟨_, _, retN X3 hx (t := .boolean) Bd.returns (by simp) (hb hby d_blat_18) hr, hrun, hended, _, _, rfl, ?_, ⟨_, rfl⟩, hW, hsame.mono (by decide) (by decide)⟩
  show Qpure (some (.int 1)) h0 n0 (some (.int (1 : Int32))) T3.heap _
  rw [e3]
  exact ⟨rfl, N, rfl⟩

theorem d_infl_0 : decode jdk_68_method_71_code 0 = .ok (.getstatic 18, 3) := by decide +kernel
theorem d_infl_3 : decode jdk_68_method_71_code 3 = .ok (.ifCond .eq 18, 3) := by decide +kernel
theorem d_infl_6 : decode jdk_68_method_71_code 6 = .ok (.aload_n 0, 1) := by decide +kernel
theorem d_infl_7 : decode jdk_68_method_71_code 7 = .ok (.getfield 22, 3) := by decide +kernel
theorem d_infl_10 : decode jdk_68_method_71_code 10 = .ok (.aload_n 1, 1) := by decide +kernel
theorem d_infl_11 : decode jdk_68_method_71_code 11 = .ok (.invokevirtual 40, 3) := by decide +kernel
theorem d_infl_14 : decode jdk_68_method_71_code 14 = .ok (.if_icmp .eq 7, 3) := by decide +kernel
theorem d_infl_21 : decode jdk_68_method_71_code 21 = .ok (.return_, 1) := by decide +kernel
theorem pn_infl : plainFor (⟨"java/lang/AbstractStringBuilder", "inflateIfNeededFor", "(Ljava/lang/String;)V"⟩ : MethodName) = true := plainFor_of_name (by first | (simp [plainName, overriddenIn]; done) | decide +kernel)
theorem pd_infl_0 : parseMethodDescriptor "()B" = some ⟨[], some .byte⟩ := by decide +kernel
theorem ef_infl (m : MethodId) (x0 : Addr) (x1 : Addr) : entryFrame m #[(.ref x0), (.ref x1)] 2 = mkF m 0 #[.val (.ref x0), .val (.ref x1)] [] := by first | (simp [entryFrame, mkF, argsToLocals, Value.category]; done) | rfl
set_option maxRecDepth 65536 in
set_option maxHeartbeats 40000000 in
theorem rm_infl (l : Launch) (Z : State) (a0 : Array Value) (hw : ∀ d ∈ tables_1, d.before a0 Z = true) (ws : List Jvm.Cond) (bb tb : Addr) (kt : ClassId) (Lb cb : Nat) (vt : List Value) (x tx : Addr) (kx : ClassId) (lx : Nat) (vx : List Value) (zc : Int32) (ls us ss : Addr) (hS0 : Sf Z zc ls us ss) (h0 : Heap) (n0 : Nat) (O : Old Z n0 h0) (E_b : Exa Z h0 bb "java/lang/StringBuilder") (Fv_b : Fld Z h0 bb "java/lang/AbstractStringBuilder" "value" "[B" (.ref tb)) (Fc_b : Fld Z h0 bb "java/lang/AbstractStringBuilder" "coder" "B" (.int 0)) (Fn_b : Fld Z h0 bb "java/lang/AbstractStringBuilder" "count" "I" (.int (Int32.ofNat cb))) (V_t : Arv Z h0 tb kt .byte (Int32.ofNat Lb) vt (.int 0)) (E_t : Exa Z h0 tb "[B") (g_bb : n0 ≤ bb) (g_tb : n0 ≤ tb) (hLb : Lb ≤ 300) (hLb2 : 16 ≤ Lb) (hcLb : cb ≤ Lb) (E_x : Exa Z h0 x "java/lang/String") (Fv_x : Fld Z h0 x "java/lang/String" "value" "[B" (.ref tx)) (Fc_x : Fld Z h0 x "java/lang/String" "coder" "B" (.int 0)) (V_tx : Arv Z h0 tx kx .byte (Int32.ofNat lx) vx (.int 0)) (hne : tx ≠ tb) :
    MetFree l (⟨"java/lang/AbstractStringBuilder", "inflateIfNeededFor", "(Ljava/lang/String;)V"⟩ : MethodName) (head1 (Jvm.Cond.code (⟨"java/lang/AbstractStringBuilder", "inflateIfNeededFor", "(Ljava/lang/String;)V"⟩ : MethodName) jdk_68_method_71_code 2 none :: ws) ({ frames := 1, cells := 0, slots := 0, locals := 13 } : Room)) (fun as_ U => as_ = #[(.ref bb), (.ref x)] ∧ Z.Warmed39 U.vm ∧ U.heap = h0) (fun _ _ _ _ _ => True) (fun _ U o U' => ∃ v L, o = .returned v ∧ Qpure none h0 n0 v U'.heap L ∧ FrameEnd U o U' L ({ frames := 1, cells := 0, slots := 0, locals := 13 } : Room).cells ({ frames := 1, cells := 0, slots := 0, locals := 13 } : Room).slots) := by
  refine MetFree.of_bodySF pn_infl hisR ?_
  intro p e s m args below meth c s₁ Bd hml0 hP hK
  obtain ⟨rfl, hZ, hh⟩ := hP
  have hx := Bd.exec
  have hby := Bd.bytes
  have hml : c.maxLocals = 2 := hml0
  have hown : s.vm.findClass "java/lang/AbstractStringBuilder" = some m.cls := findClass_of_methodNamed Bd.named
  have hnm := (name_of_methodNamed Bd.named Bd.method).1
  have X0 : Stand p l e ({ frames := 1, cells := 0, slots := 0, locals := 13 } : Room) s m #[(.ref bb), (.ref x)] below meth c s₁ [] 0 0 := Stand.of_body Bd
  have e0 : s₁.heap = h0 := by rw [← hh, Bd.state]; rfl
  have N := Fr.nil n0
  have K : Keep h0 h0 [] := Keep.refl _ _
  refine Go.by (T' := s₁) (f' := (mkF m 0 #[.val (.ref bb), .val (.ref x)] [])) (fun _ k => castTop (ef_infl m bb x) k) ?_
  obtain ⟨T1, X1, e1, st1⟩ := getS2 X0 hx hZ hown (host := "") (Or.inl (hw _ (List.mem_of_getElem? (i := 44) rfl))) Via.refl e0 (Sta.ext O.2 hS0.1) (g := (mkF m 0 #[.val (.ref bb), .val (.ref x)] [])) rfl (hb hby d_infl_0)
  refine Go.by (T' := T1) (f' := (mkF m 3 #[.val (.ref bb), .val (.ref x)] [(.int zc)])) (st1) ?_
  refine Go.by (T' := T1) (f' := (mkF m 6 #[.val (.ref bb), .val (.ref x)] [])) (fun _ k => XS.ifNo X1.here hx rfl (hb hby d_infl_3) rfl ((if0 _ _).trans (feq hS0.2.1).1) k) ?_
  refine Go.by (T' := T1) (f' := (mkF m 7 #[.val (.ref bb), .val (.ref x)] [(.ref bb)])) (fun _ k => XS.aloadN X1.here hx rfl (hb hby d_infl_6) rfl rfl k) ?_
  obtain ⟨T3, X3, e3, st3⟩ := getF X1 hx hZ hown (host := "") (Or.inl (hw _ (List.mem_of_getElem? (i := 47) rfl))) Via.refl e1 Fc_b (g := (mkF m 7 #[.val (.ref bb), .val (.ref x)] [(.ref bb)])) rfl rfl (hb hby d_infl_7)
  refine Go.by (T' := T3) (f' := (mkF m 10 #[.val (.ref bb), .val (.ref x)] [(.int (0 : Int32))])) (st3) ?_
  refine Go.by (T' := T3) (f' := (mkF m 11 #[.val (.ref bb), .val (.ref x)] [(.ref x), (.int (0 : Int32))])) (fun _ k => XS.aloadN X3.here hx rfl (hb hby d_infl_10) rfl rfl k) ?_
  obtain ⟨cq4, kq4, q4a, q4b, q4c⟩ := isOf hZ e3 E_x
  obtain ⟨v4, _, ⟨T4, L4, k4, n4⟩, -, X4, ⟨Lc4, hQ4, l4, y4, z4⟩, st4⟩ := X3.virtualBack hx (y := (⟨"java/lang/String", "coder", "()B"⟩ : MethodName)) (z := (⟨"java/lang/String", "coder", "()B"⟩ : MethodName)) hown (mvT hZ (hw _ (List.mem_of_getElem? (i := 88) rfl))) (mvT hZ (hw _ (List.mem_of_getElem? (i := 66) rfl))) (notFace_of_selects (args := #[]) (mvT hZ (hw _ (List.mem_of_getElem? (i := 68) rfl)))) (mvT hZ (hw _ (List.mem_of_getElem? (i := 68) rfl))) (mvT hZ (hw _ (List.mem_of_getElem? (i := 67) rfl))) (by decide) (backOf (W := 1) (rm_coder l Z a0 hw [] x tx _ (lx) _ zc ls us ss hS0 h0 n0 O E_x Fv_x Fc_x V_tx) hZ (hw _ (List.mem_of_getElem? (i := 69) rfl)) (hw _ (List.mem_of_getElem? (i := 2) rfl)) (by decide) (by decide)) q4a q4c (g := (mkF m 11 #[.val (.ref bb), .val (.ref x)] [(.ref x), (.int (0 : Int32))])) rfl (by rw [hml]; rfl) (Steps.refl _) (argsL := []) (rest := [(.int (0 : Int32))]) (lenOf pd_infl_0 rfl) rfl (by show 2 * 0 + _ ≤ _; exact Nat.le_of_eq rfl) (hb hby d_infl_11) (fun _ _ => ⟨rfl, e3, (by decide : 0 + 0 ≤ _), (by decide : 0 + 0 ≤ _)⟩)
  dsimp only [Pt.U, Pt.locs, Pt.cells, Pt.slots] at X4 l4 y4 z4 st4 hQ4
  subst l4 y4 z4
  obtain ⟨rfl, Nq4, e4⟩ := hQ4
  replace N := Fr.app N Nq4
  refine Go.by (T' := T4) (f' := (mkF m 14 #[.val (.ref bb), .val (.ref x)] [(.int (0 : Int32)), (.int (0 : Int32))])) (fun _ k => st4.trans k) ?_
  refine Go.by (T' := T4) (f' := (mkF m 21 #[.val (.ref bb), .val (.ref x)] [])) (fun _ k => XS.icmpYes X4.here hx rfl (pc0 := 14) (pc' := 21) rfl (hb hby d_infl_14) rfl (teq (by decide : (0 : Int32) = (0 : Int32))).1 (by decide) (by decide) k) ?_
  obtain ⟨fs, hr, hrun, hended, hW, hsame⟩ := X4.leave (v := none) (fun _ => rfl)
  refine ⟨_, _, X4.returnOut hx Bd.returns (hb hby d_infl_21) hr, hrun, hended, _, _, rfl, ?_, ⟨_, rfl⟩, hW, hsame.mono (by decide) (by decide)⟩
  show Qpure none h0 n0 (none) T4.heap _
  rw [e4]
  exact ⟨rfl, N, rfl⟩

theorem d_gb_0 : decode jdk_42_method_147_code 0 = .ok (.aload_n 0, 1) := by decide +kernel
theorem d_gb_1 : decode jdk_42_method_147_code 1 = .ok (.invokevirtual 335, 3) := by decide +kernel
theorem d_gb_4 : decode jdk_42_method_147_code 4 = .ok (.iload_n 3, 1) := by decide +kernel
theorem d_gb_5 : decode jdk_42_method_147_code 5 = .ok (.if_icmp .ne 23, 3) := by decide +kernel
theorem d_gb_8 : decode jdk_42_method_147_code 8 = .ok (.aload_n 0, 1) := by decide +kernel
theorem d_gb_9 : decode jdk_42_method_147_code 9 = .ok (.getfield 9, 3) := by decide +kernel
theorem d_gb_12 : decode jdk_42_method_147_code 12 = .ok (.iconst 0, 1) := by decide +kernel
theorem d_gb_13 : decode jdk_42_method_147_code 13 = .ok (.aload_n 1, 1) := by decide +kernel
theorem d_gb_14 : decode jdk_42_method_147_code 14 = .ok (.iload_n 2, 1) := by decide +kernel
theorem d_gb_15 : decode jdk_42_method_147_code 15 = .ok (.iload_n 3, 1) := by decide +kernel
theorem d_gb_16 : decode jdk_42_method_147_code 16 = .ok (.ishl, 1) := by decide +kernel
theorem d_gb_17 : decode jdk_42_method_147_code 17 = .ok (.aload_n 0, 1) := by decide +kernel
theorem d_gb_18 : decode jdk_42_method_147_code 18 = .ok (.getfield 9, 3) := by decide +kernel
theorem d_gb_21 : decode jdk_42_method_147_code 21 = .ok (.arraylength, 1) := by decide +kernel
theorem d_gb_22 : decode jdk_42_method_147_code 22 = .ok (.invokestatic 212, 3) := by decide +kernel
theorem d_gb_25 : decode jdk_42_method_147_code 25 = .ok (.goto 18, 3) := by decide +kernel
theorem d_gb_43 : decode jdk_42_method_147_code 43 = .ok (.return_, 1) := by decide +kernel
theorem pn_gb : plainFor (⟨"java/lang/String", "getBytes", "([BIB)V"⟩ : MethodName) = true := plainFor_of_name (by first | (simp [plainName, overriddenIn]; done) | decide +kernel)
theorem pd_gb_0 : parseMethodDescriptor "()B" = some ⟨[], some .byte⟩ := by decide +kernel
theorem ef_gb (m : MethodId) (x0 : Addr) (x1 : Addr) (x2 : Int32) : entryFrame m #[(.ref x0), (.ref x1), (.int x2), (.int (0 : Int32))] 4 = mkF m 0 #[.val (.ref x0), .val (.ref x1), .val (.int x2), .val (.int (0 : Int32))] [] := by first | (simp [entryFrame, mkF, argsToLocals, Value.category]; done) | rfl
set_option maxRecDepth 65536 in
set_option maxHeartbeats 40000000 in
theorem rm_gb (l : Launch) (Z : State) (a0 : Array Value) (hw : ∀ d ∈ tables_1, d.before a0 Z = true) (ws : List Jvm.Cond) (x tx : Addr) (kx : ClassId) (lx : Nat) (vx : List Value) (tb : Addr) (kt : ClassId) (Lb cb : Nat) (vt : List Value) (zc : Int32) (ls us ss : Addr) (hS0 : Sf Z zc ls us ss) (h0 : Heap) (n0 : Nat) (O : Old Z n0 h0) (E_x : Exa Z h0 x "java/lang/String") (Fv_x : Fld Z h0 x "java/lang/String" "value" "[B" (.ref tx)) (Fc_x : Fld Z h0 x "java/lang/String" "coder" "B" (.int 0)) (V_tx : Arv Z h0 tx kx .byte (Int32.ofNat lx) vx (.int 0)) (V_t : Arv Z h0 tb kt .byte (Int32.ofNat Lb) vt (.int 0)) (E_t : Exa Z h0 tb "[B") (g_tb : n0 ≤ tb) (hne : tx ≠ tb) (hLb : Lb ≤ 300) (hcl : cb + lx ≤ Lb) :
    MetFree l (⟨"java/lang/String", "getBytes", "([BIB)V"⟩ : MethodName) (head1 (Jvm.Cond.code (⟨"java/lang/String", "getBytes", "([BIB)V"⟩ : MethodName) jdk_42_method_147_code 4 none :: ws) ({ frames := 1, cells := 0, slots := 0, locals := 18 } : Room)) (fun as_ U => as_ = #[(.ref x), (.ref tb), (.int (Int32.ofNat cb)), (.int (0 : Int32))] ∧ Z.Warmed39 U.vm ∧ U.heap = h0) (fun _ _ _ _ _ => True) (fun _ U o U' => ∃ v L, o = .returned v ∧ Qa Z tb (Int32.ofNat Lb) h0 n0 v U'.heap L ∧ FrameEnd U o U' L ({ frames := 1, cells := 0, slots := 0, locals := 18 } : Room).cells ({ frames := 1, cells := 0, slots := 0, locals := 18 } : Room).slots) := by
  refine MetFree.of_bodySF pn_gb hisR ?_
  intro p e s m args below meth c s₁ Bd hml0 hP hK
  obtain ⟨rfl, hZ, hh⟩ := hP
  have hx := Bd.exec
  have hby := Bd.bytes
  have hml : c.maxLocals = 4 := hml0
  have hown : s.vm.findClass "java/lang/String" = some m.cls := findClass_of_methodNamed Bd.named
  have hnm := (name_of_methodNamed Bd.named Bd.method).1
  have X0 : Stand p l e ({ frames := 1, cells := 0, slots := 0, locals := 18 } : Room) s m #[(.ref x), (.ref tb), (.int (Int32.ofNat cb)), (.int (0 : Int32))] below meth c s₁ [] 0 0 := Stand.of_body Bd
  have e0 : s₁.heap = h0 := by rw [← hh, Bd.state]; rfl
  have N := Fr.nil n0
  have K : Keep h0 h0 [tb] := Keep.refl _ _
  refine Go.by (T' := s₁) (f' := (mkF m 0 #[.val (.ref x), .val (.ref tb), .val (.int (Int32.ofNat cb)), .val (.int (0 : Int32))] [])) (fun _ k => castTop (ef_gb m x tb (Int32.ofNat cb)) k) ?_
  refine Go.by (T' := s₁) (f' := (mkF m 1 #[.val (.ref x), .val (.ref tb), .val (.int (Int32.ofNat cb)), .val (.int (0 : Int32))] [(.ref x)])) (fun _ k => XS.aloadN X0.here hx rfl (hb hby d_gb_0) rfl rfl k) ?_
  obtain ⟨cq1, kq1, q1a, q1b, q1c⟩ := isOf hZ e0 E_x
  obtain ⟨v1, _, ⟨T1, L1, k1, n1⟩, -, X1, ⟨Lc1, hQ1, l1, y1, z1⟩, st1⟩ := X0.virtualBack hx (y := (⟨"java/lang/String", "coder", "()B"⟩ : MethodName)) (z := (⟨"java/lang/String", "coder", "()B"⟩ : MethodName)) hown (mvT hZ (hw _ (List.mem_of_getElem? (i := 65) rfl))) (mvT hZ (hw _ (List.mem_of_getElem? (i := 66) rfl))) (notFace_of_selects (args := #[]) (mvT hZ (hw _ (List.mem_of_getElem? (i := 68) rfl)))) (mvT hZ (hw _ (List.mem_of_getElem? (i := 68) rfl))) (mvT hZ (hw _ (List.mem_of_getElem? (i := 67) rfl))) (by decide) (backOf (W := 0) (rm_coder l Z a0 hw [] x tx _ (lx) _ zc ls us ss hS0 h0 n0 O E_x Fv_x Fc_x V_tx) hZ (hw _ (List.mem_of_getElem? (i := 69) rfl)) (hw _ (List.mem_of_getElem? (i := 2) rfl)) (by decide) (by decide)) q1a q1c (g := (mkF m 1 #[.val (.ref x), .val (.ref tb), .val (.int (Int32.ofNat cb)), .val (.int (0 : Int32))] [(.ref x)])) rfl (by rw [hml]; rfl) (Steps.refl _) (argsL := []) (rest := []) (lenOf pd_gb_0 rfl) rfl (by show 2 * 0 + _ ≤ _; exact Nat.le_of_eq rfl) (hb hby d_gb_1) (fun _ _ => ⟨rfl, e0, (by decide : 0 + 0 ≤ _), (by decide : 0 + 0 ≤ _)⟩)
  dsimp only [Pt.U, Pt.locs, Pt.cells, Pt.slots] at X1 l1 y1 z1 st1 hQ1
  subst l1 y1 z1
  obtain ⟨rfl, Nq1, e1⟩ := hQ1
  replace N := Fr.app N Nq1
  refine Go.by (T' := T1) (f' := (mkF m 4 #[.val (.ref x), .val (.ref tb), .val (.int (Int32.ofNat cb)), .val (.int (0 : Int32))] [(.int (0 : Int32))])) (fun _ k => st1.trans k) ?_
  refine Go.by (T' := T1) (f' := (mkF m 5 #[.val (.ref x), .val (.ref tb), .val (.int (Int32.ofNat cb)), .val (.int (0 : Int32))] [(.int (0 : Int32)), (.int (0 : Int32))])) (fun _ k => XS.iloadN X1.here hx rfl (hb hby d_gb_4) rfl k) ?_
  refine Go.by (T' := T1) (f' := (mkF m 8 #[.val (.ref x), .val (.ref tb), .val (.int (Int32.ofNat cb)), .val (.int (0 : Int32))] [])) (fun _ k => XS.icmpNo X1.here hx rfl (hb hby d_gb_5) rfl (teq (by decide : (0 : Int32) = (0 : Int32))).2 k) ?_
  refine Go.by (T' := T1) (f' := (mkF m 9 #[.val (.ref x), .val (.ref tb), .val (.int (Int32.ofNat cb)), .val (.int (0 : Int32))] [(.ref x)])) (fun _ k => XS.aloadN X1.here hx rfl (hb hby d_gb_8) rfl rfl k) ?_
  obtain ⟨T3, X3, e3, st3⟩ := getF X1 hx hZ hown (host := "") (Or.inl (hw _ (List.mem_of_getElem? (i := 20) rfl))) Via.refl e1 Fv_x (g := (mkF m 9 #[.val (.ref x), .val (.ref tb), .val (.int (Int32.ofNat cb)), .val (.int (0 : Int32))] [(.ref x)])) rfl rfl (hb hby d_gb_9)
  refine Go.by (T' := T3) (f' := (mkF m 12 #[.val (.ref x), .val (.ref tb), .val (.int (Int32.ofNat cb)), .val (.int (0 : Int32))] [(.ref tx)])) (st3) ?_
  refine Go.by (T' := T3) (f' := (mkF m 13 #[.val (.ref x), .val (.ref tb), .val (.int (Int32.ofNat cb)), .val (.int (0 : Int32))] [(.int (0 : Int32)), (.ref tx)])) (fun _ k => XS.iconst X3.here hx rfl (hb hby d_gb_12) k) ?_
  refine Go.by (T' := T3) (f' := (mkF m 14 #[.val (.ref x), .val (.ref tb), .val (.int (Int32.ofNat cb)), .val (.int (0 : Int32))] [(.ref tb), (.int (0 : Int32)), (.ref tx)])) (fun _ k => XS.aloadN X3.here hx rfl (hb hby d_gb_13) rfl rfl k) ?_
  refine Go.by (T' := T3) (f' := (mkF m 15 #[.val (.ref x), .val (.ref tb), .val (.int (Int32.ofNat cb)), .val (.int (0 : Int32))] [(.int (Int32.ofNat cb)), (.ref tb), (.int (0 : Int32)), (.ref tx)])) (fun _ k => XS.iloadN X3.here hx rfl (hb hby d_gb_14) rfl k) ?_
  refine Go.by (T' := T3) (f' := (mkF m 16 #[.val (.ref x), .val (.ref tb), .val (.int (Int32.ofNat cb)), .val (.int (0 : Int32))] [(.int (0 : Int32)), (.int (Int32.ofNat cb)), (.ref tb), (.int (0 : Int32)), (.ref tx)])) (fun _ k => XS.iloadN X3.here hx rfl (hb hby d_gb_15) rfl k) ?_
  refine Go.by (T' := T3) (f' := (mkF m 17 #[.val (.ref x), .val (.ref tb), .val (.int (Int32.ofNat cb)), .val (.int (0 : Int32))] [(.int ((Int32.ofNat cb) <<< ((0 : Int32) &&& 31))), (.ref tb), (.int (0 : Int32)), (.ref tx)])) (fun _ k => XS.ishl X3.here hx rfl (hb hby d_gb_16) rfl k) ?_
  rw [show ((Int32.ofNat cb) <<< ((0 : Int32) &&& 31)) = (Int32.ofNat cb) from own_shl0 _]
  refine Go.by (T' := T3) (f' := (mkF m 18 #[.val (.ref x), .val (.ref tb), .val (.int (Int32.ofNat cb)), .val (.int (0 : Int32))] [(.ref x), (.int (Int32.ofNat cb)), (.ref tb), (.int (0 : Int32)), (.ref tx)])) (fun _ k => XS.aloadN X3.here hx rfl (hb hby d_gb_17) rfl rfl k) ?_
  obtain ⟨T4, X4, e4, st4⟩ := getF X3 hx hZ hown (host := "") (Or.inl (hw _ (List.mem_of_getElem? (i := 20) rfl))) Via.refl e3 Fv_x (g := (mkF m 18 #[.val (.ref x), .val (.ref tb), .val (.int (Int32.ofNat cb)), .val (.int (0 : Int32))] [(.ref x), (.int (Int32.ofNat cb)), (.ref tb), (.int (0 : Int32)), (.ref tx)])) rfl rfl (hb hby d_gb_18)
  refine Go.by (T' := T4) (f' := (mkF m 21 #[.val (.ref x), .val (.ref tb), .val (.int (Int32.ofNat cb)), .val (.int (0 : Int32))] [(.ref tx), (.int (Int32.ofNat cb)), (.ref tb), (.int (0 : Int32)), (.ref tx)])) (st4) ?_
  obtain ⟨cl5, Ar5, q5, S5, N5', H5, G5⟩ := id V_tx
  refine Go.by (T' := T4) (f' := (mkF m 22 #[.val (.ref x), .val (.ref tb), .val (.int (Int32.ofNat cb)), .val (.int (0 : Int32))] [(.int (Int32.ofNat lx)), (.int (Int32.ofNat cb)), (.ref tb), (.int (0 : Int32)), (.ref tx)])) (fun t k => X4.arraylength hx (by rw [e4]; exact Ar5.1) (State.isArrayOf_alike hZ.alike Ar5.2.1) (g := (mkF m 21 #[.val (.ref x), .val (.ref tb), .val (.int (Int32.ofNat cb)), .val (.int (0 : Int32))] [(.ref tx), (.int (Int32.ofNat cb)), (.ref tb), (.int (0 : Int32)), (.ref tx)])) rfl rfl (hb hby d_gb_21) t (by rw [len_of S5 N5']; exact k)) ?_
  obtain ⟨vf6, lf6, Vf6⟩ := own_full V_t
  obtain ⟨T6, h6, L6, X6, e6, N6, K6, V6, st6⟩ := cpA X4 hx hZ hown (hw _ (List.mem_of_getElem? (i := 94) rfl)) (hw _ (List.mem_of_getElem? (i := 97) rfl)) (hw _ (List.mem_of_getElem? (i := 95) rfl)) (hw _ (List.mem_of_getElem? (i := 96) rfl)) e4 V_tx Vf6 (Or.inl ⟨rfl, rfl⟩) (sp := (0 : Int32)) (dp := (Int32.ofNat cb)) (nn := (Int32.ofNat lx)) (by decide) (own_neg (by omega)) (own_neg (by omega)) (by rw [own_nat (by omega)]; show 0 + _ ≤ _; omega) (by rw [own_nat (by omega), own_nat (by omega), own_nat (by omega)]; omega) rfl (by rw [lf6]; exact (by rw [own_nat (by omega), own_nat (by omega), own_nat (by omega)]; omega)) N g_tb (g := (mkF m 22 #[.val (.ref x), .val (.ref tb), .val (.int (Int32.ofNat cb)), .val (.int (0 : Int32))] [(.int (Int32.ofNat lx)), (.int (Int32.ofNat cb)), (.ref tb), (.int (0 : Int32)), (.ref tx)])) rfl (by rw [hml]; rfl) rfl (hb hby d_gb_22) (by decide) (W := 0) (by show 2 * 0 + _ ≤ _; exact Nat.le_of_eq rfl) (by decide)
  replace N := N6
  have nq7 : x ≠ tb := (ne_exa E_x E_t (by decide))
  replace E_x := E_x.keep K6
  replace Fv_x := Fv_x.keep K6 (ninS nq7 nin0)
  replace Fc_x := Fc_x.keep K6 (ninS nq7 nin0)
  replace V_tx := V_tx.keep K6 (ninS hne nin0)
  replace E_t := E_t.keep K6
  replace O := O.keep K6 (allS g_tb all0)
  replace K := K.trans K6 (allS (Or.inl (by simp)) all0)
  refine Go.by (T' := T6) (f' := (mkF m 25 #[.val (.ref x), .val (.ref tb), .val (.int (Int32.ofNat cb)), .val (.int (0 : Int32))] [])) (st6) ?_
  refine Go.by (T' := T6) (f' := (mkF m 43 #[.val (.ref x), .val (.ref tb), .val (.int (Int32.ofNat cb)), .val (.int (0 : Int32))] [])) (fun _ k => XS.goto X6.here hx rfl (pc0 := 25) (pc' := 43) rfl (hb hby d_gb_25) (by decide) (by decide) k) ?_
  obtain ⟨fs, hr, hrun, hended, hW, hsame⟩ := X6.leave (v := none) (fun _ => rfl)
  refine ⟨_, _, X6.returnOut hx Bd.returns (hb hby d_gb_43) hr, hrun, hended, _, _, rfl, ?_, ⟨_, rfl⟩, hW, hsame.mono (by decide) (by decide)⟩
  show Qa Z tb (Int32.ofNat Lb) h0 n0 (none) T6.heap _
  rw [e6]
  exact ⟨rfl, N, K, _, _, V6⟩

theorem d_put_0 : decode jdk_68_method_73_code 0 = .ok (.aload_n 0, 1) := by decide +kernel
theorem d_put_1 : decode jdk_68_method_73_code 1 = .ok (.aload_n 2, 1) := by decide +kernel
theorem d_put_2 : decode jdk_68_method_73_code 2 = .ok (.invokevirtual 397, 3) := by decide +kernel
theorem d_put_5 : decode jdk_68_method_73_code 5 = .ok (.aload_n 2, 1) := by decide +kernel
theorem d_put_6 : decode jdk_68_method_73_code 6 = .ok (.aload_n 0, 1) := by decide +kernel
theorem d_put_7 : decode jdk_68_method_73_code 7 = .ok (.getfield 15, 3) := by decide +kernel
theorem d_put_10 : decode jdk_68_method_73_code 10 = .ok (.iload_n 1, 1) := by decide +kernel
theorem d_put_11 : decode jdk_68_method_73_code 11 = .ok (.aload_n 0, 1) := by decide +kernel
theorem d_put_12 : decode jdk_68_method_73_code 12 = .ok (.getfield 22, 3) := by decide +kernel
theorem d_put_15 : decode jdk_68_method_73_code 15 = .ok (.invokevirtual 399, 3) := by decide +kernel
theorem d_put_18 : decode jdk_68_method_73_code 18 = .ok (.return_, 1) := by decide +kernel
theorem pn_put : plainFor (⟨"java/lang/AbstractStringBuilder", "putStringAt", "(ILjava/lang/String;)V"⟩ : MethodName) = true := plainFor_of_name (by first | (simp [plainName, overriddenIn]; done) | decide +kernel)
theorem pd_put_0 : parseMethodDescriptor "(Ljava/lang/String;)V" = some ⟨[(.object "java/lang/String")], none⟩ := by decide +kernel
theorem pd_put_1 : parseMethodDescriptor "([BIB)V" = some ⟨[(.array .byte), .int, .byte], none⟩ := by decide +kernel
theorem ef_put (m : MethodId) (x0 : Addr) (x1 : Int32) (x2 : Addr) : entryFrame m #[(.ref x0), (.int x1), (.ref x2)] 3 = mkF m 0 #[.val (.ref x0), .val (.int x1), .val (.ref x2)] [] := by first | (simp [entryFrame, mkF, argsToLocals, Value.category]; done) | rfl
set_option maxRecDepth 65536 in
set_option maxHeartbeats 40000000 in
theorem rm_put (l : Launch) (Z : State) (a0 : Array Value) (hw : ∀ d ∈ tables_1, d.before a0 Z = true) (ws : List Jvm.Cond) (bb tb : Addr) (kt : ClassId) (Lb cb : Nat) (vt : List Value) (x tx : Addr) (kx : ClassId) (lx : Nat) (vx : List Value) (zc : Int32) (ls us ss : Addr) (hS0 : Sf Z zc ls us ss) (ci : Nat) (h0 : Heap) (n0 : Nat) (O : Old Z n0 h0) (E_b : Exa Z h0 bb "java/lang/StringBuilder") (Fv_b : Fld Z h0 bb "java/lang/AbstractStringBuilder" "value" "[B" (.ref tb)) (Fc_b : Fld Z h0 bb "java/lang/AbstractStringBuilder" "coder" "B" (.int 0)) (Fn_b : Fld Z h0 bb "java/lang/AbstractStringBuilder" "count" "I" (.int (Int32.ofNat cb))) (V_t : Arv Z h0 tb kt .byte (Int32.ofNat Lb) vt (.int 0)) (E_t : Exa Z h0 tb "[B") (g_bb : n0 ≤ bb) (g_tb : n0 ≤ tb) (hLb : Lb ≤ 300) (hLb2 : 16 ≤ Lb) (hcLb : cb ≤ Lb) (E_x : Exa Z h0 x "java/lang/String") (Fv_x : Fld Z h0 x "java/lang/String" "value" "[B" (.ref tx)) (Fc_x : Fld Z h0 x "java/lang/String" "coder" "B" (.int 0)) (V_tx : Arv Z h0 tx kx .byte (Int32.ofNat lx) vx (.int 0)) (hne : tx ≠ tb) (hci : ci + lx ≤ Lb) :
    MetFree l (⟨"java/lang/AbstractStringBuilder", "putStringAt", "(ILjava/lang/String;)V"⟩ : MethodName) (head1 (Jvm.Cond.code (⟨"java/lang/AbstractStringBuilder", "putStringAt", "(ILjava/lang/String;)V"⟩ : MethodName) jdk_68_method_73_code 3 none :: ws) ({ frames := 2, cells := 0, slots := 0, locals := 33 } : Room)) (fun as_ U => as_ = #[(.ref bb), (.int (Int32.ofNat ci)), (.ref x)] ∧ Z.Warmed39 U.vm ∧ U.heap = h0) (fun _ _ _ _ _ => True) (fun _ U o U' => ∃ v L, o = .returned v ∧ Qa Z tb (Int32.ofNat Lb) h0 n0 v U'.heap L ∧ FrameEnd U o U' L ({ frames := 2, cells := 0, slots := 0, locals := 33 } : Room).cells ({ frames := 2, cells := 0, slots := 0, locals := 33 } : Room).slots) := by
  refine MetFree.of_bodySF pn_put hisR ?_
  intro p e s m args below meth c s₁ Bd hml0 hP hK
  obtain ⟨rfl, hZ, hh⟩ := hP
  have hx := Bd.exec
  have hby := Bd.bytes
  have hml : c.maxLocals = 3 := hml0
  have hown : s.vm.findClass "java/lang/AbstractStringBuilder" = some m.cls := findClass_of_methodNamed Bd.named
  have hnm := (name_of_methodNamed Bd.named Bd.method).1
  have X0 : Stand p l e ({ frames := 2, cells := 0, slots := 0, locals := 33 } : Room) s m #[(.ref bb), (.int (Int32.ofNat ci)), (.ref x)] below meth c s₁ [] 0 0 := Stand.of_body Bd
  have e0 : s₁.heap = h0 := by rw [← hh, Bd.state]; rfl
  have N := Fr.nil n0
  have K : Keep h0 h0 [tb] := Keep.refl _ _
  refine Go.by (T' := s₁) (f' := (mkF m 0 #[.val (.ref bb), .val (.int (Int32.ofNat ci)), .val (.ref x)] [])) (fun _ k => castTop (ef_put m bb (Int32.ofNat ci) x) k) ?_
  refine Go.by (T' := s₁) (f' := (mkF m 1 #[.val (.ref bb), .val (.int (Int32.ofNat ci)), .val (.ref x)] [(.ref bb)])) (fun _ k => XS.aloadN X0.here hx rfl (hb hby d_put_0) rfl rfl k) ?_
  refine Go.by (T' := s₁) (f' := (mkF m 2 #[.val (.ref bb), .val (.int (Int32.ofNat ci)), .val (.ref x)] [(.ref x), (.ref bb)])) (fun _ k => XS.aloadN X0.here hx rfl (hb hby d_put_1) rfl rfl k) ?_
  have hi1a : Lb ≤ 300 := by omega
  have hi1b : 16 ≤ Lb := by omega
  have hi1c : cb ≤ Lb := by omega
  obtain ⟨cq1, q1, q1'⟩ := E_b.cell
  obtain ⟨v1, _, ⟨T1, L1, k1, n1⟩, -, X1, ⟨Lc1, hQ1, l1, y1, z1⟩, st1⟩ := X0.privateBack hx (y := (⟨"java/lang/AbstractStringBuilder", "inflateIfNeededFor", "(Ljava/lang/String;)V"⟩ : MethodName)) hown (mvT hZ (hw _ (List.mem_of_getElem? (i := 83) rfl))) (mvT hZ (hw _ (List.mem_of_getElem? (i := 84) rfl))) (own_selp (mvT hZ (hw _ (List.mem_of_getElem? (i := 86) rfl))) (Cond.privateMethod_at (mvP hZ (hw _ (List.mem_of_getElem? (i := 85) rfl)) (args := #[]))) (mvT hZ (hw _ (List.mem_of_getElem? (i := 84) rfl))) (by decide)) (Cond.privateMethod_at (mvP hZ (hw _ (List.mem_of_getElem? (i := 85) rfl)) (args := #[]))) (mvT hZ (hw _ (List.mem_of_getElem? (i := 87) rfl))) (by decide) (backOf (W := 0) (rm_infl l Z a0 hw [] bb tb _ (Lb) (cb) _ x tx _ (lx) _ zc ls us ss hS0 h0 n0 O E_b Fv_b Fc_b Fn_b V_t E_t g_bb g_tb hi1a hi1b hi1c E_x Fv_x Fc_x V_tx hne) hZ (hw _ (List.mem_of_getElem? (i := 87) rfl)) (hw _ (List.mem_of_getElem? (i := 41) rfl)) (by decide) (by decide)) (g := (mkF m 2 #[.val (.ref bb), .val (.int (Int32.ofNat ci)), .val (.ref x)] [(.ref x), (.ref bb)])) rfl (by rw [hml]; rfl) (Steps.refl _) (a := bb) (by rw [e0]; exact q1) q1' (argsL := [(.ref x)]) (rest := []) (lenOf pd_put_0 rfl) rfl (by show 2 * 0 + _ ≤ _; exact Nat.le_of_eq rfl) (hb hby d_put_2) (fun _ _ => ⟨rfl, e0, (by decide : 0 + 0 ≤ _), (by decide : 0 + 0 ≤ _)⟩)
  dsimp only [Pt.U, Pt.locs, Pt.cells, Pt.slots] at X1 l1 y1 z1 st1 hQ1
  subst l1 y1 z1
  obtain ⟨rfl, Nq1, e1⟩ := hQ1
  replace N := Fr.app N Nq1
  refine Go.by (T' := T1) (f' := (mkF m 5 #[.val (.ref bb), .val (.int (Int32.ofNat ci)), .val (.ref x)] [])) (fun _ k => st1.trans k) ?_
  refine Go.by (T' := T1) (f' := (mkF m 6 #[.val (.ref bb), .val (.int (Int32.ofNat ci)), .val (.ref x)] [(.ref x)])) (fun _ k => XS.aloadN X1.here hx rfl (hb hby d_put_5) rfl rfl k) ?_
  refine Go.by (T' := T1) (f' := (mkF m 7 #[.val (.ref bb), .val (.int (Int32.ofNat ci)), .val (.ref x)] [(.ref bb), (.ref x)])) (fun _ k => XS.aloadN X1.here hx rfl (hb hby d_put_6) rfl rfl k) ?_
  obtain ⟨T2, X2, e2, st2⟩ := getF X1 hx hZ hown (host := "") (Or.inl (hw _ (List.mem_of_getElem? (i := 45) rfl))) Via.refl e1 Fv_b (g := (mkF m 7 #[.val (.ref bb), .val (.int (Int32.ofNat ci)), .val (.ref x)] [(.ref bb), (.ref x)])) rfl rfl (hb hby d_put_7)
  refine Go.by (T' := T2) (f' := (mkF m 10 #[.val (.ref bb), .val (.int (Int32.ofNat ci)), .val (.ref x)] [(.ref tb), (.ref x)])) (st2) ?_
  refine Go.by (T' := T2) (f' := (mkF m 11 #[.val (.ref bb), .val (.int (Int32.ofNat ci)), .val (.ref x)] [(.int (Int32.ofNat ci)), (.ref tb), (.ref x)])) (fun _ k => XS.iloadN X2.here hx rfl (hb hby d_put_10) rfl k) ?_
  refine Go.by (T' := T2) (f' := (mkF m 12 #[.val (.ref bb), .val (.int (Int32.ofNat ci)), .val (.ref x)] [(.ref bb), (.int (Int32.ofNat ci)), (.ref tb), (.ref x)])) (fun _ k => XS.aloadN X2.here hx rfl (hb hby d_put_11) rfl rfl k) ?_
  obtain ⟨T3, X3, e3, st3⟩ := getF X2 hx hZ hown (host := "") (Or.inl (hw _ (List.mem_of_getElem? (i := 47) rfl))) Via.refl e2 Fc_b (g := (mkF m 12 #[.val (.ref bb), .val (.int (Int32.ofNat ci)), .val (.ref x)] [(.ref bb), (.int (Int32.ofNat ci)), (.ref tb), (.ref x)])) rfl rfl (hb hby d_put_12)
  refine Go.by (T' := T3) (f' := (mkF m 15 #[.val (.ref bb), .val (.int (Int32.ofNat ci)), .val (.ref x)] [(.int (0 : Int32)), (.int (Int32.ofNat ci)), (.ref tb), (.ref x)])) (st3) ?_
  have hg4a : Lb ≤ 300 := by omega
  have hg4b : ci + lx ≤ Lb := by omega
  obtain ⟨cq4, kq4, q4a, q4b, q4c⟩ := isOf hZ e3 E_x
  obtain ⟨v4, _, ⟨T4, L4, k4, n4⟩, -, X4, ⟨Lc4, hQ4, l4, y4, z4⟩, st4⟩ := X3.virtualBack hx (y := (⟨"java/lang/String", "getBytes", "([BIB)V"⟩ : MethodName)) (z := (⟨"java/lang/String", "getBytes", "([BIB)V"⟩ : MethodName)) hown (mvT hZ (hw _ (List.mem_of_getElem? (i := 89) rfl))) (mvT hZ (hw _ (List.mem_of_getElem? (i := 90) rfl))) (notFace_of_selects (args := #[]) (mvT hZ (hw _ (List.mem_of_getElem? (i := 92) rfl)))) (mvT hZ (hw _ (List.mem_of_getElem? (i := 92) rfl))) (mvT hZ (hw _ (List.mem_of_getElem? (i := 91) rfl))) (by decide) (backOf (W := 0) (rm_gb l Z a0 hw [] x tx _ (lx) _ tb _ (Lb) (ci) _ zc ls us ss hS0 h0 n0 O E_x Fv_x Fc_x V_tx V_t E_t g_tb hne hg4a hg4b) hZ (hw _ (List.mem_of_getElem? (i := 93) rfl)) (hw _ (List.mem_of_getElem? (i := 2) rfl)) (by decide) (by decide)) q4a q4c (g := (mkF m 15 #[.val (.ref bb), .val (.int (Int32.ofNat ci)), .val (.ref x)] [(.int (0 : Int32)), (.int (Int32.ofNat ci)), (.ref tb), (.ref x)])) rfl (by rw [hml]; rfl) (Steps.refl _) (argsL := [(.ref tb), (.int (Int32.ofNat ci)), (.int (0 : Int32))]) (rest := []) (lenOf pd_put_1 rfl) rfl (by show 2 * 0 + _ ≤ _; exact Nat.le_of_eq rfl) (hb hby d_put_15) (fun _ _ => ⟨rfl, e3, (by decide : 0 + 0 ≤ _), (by decide : 0 + 0 ≤ _)⟩)
  dsimp only [Pt.U, Pt.locs, Pt.cells, Pt.slots] at X4 l4 y4 z4 st4 hQ4
  subst l4 y4 z4
  obtain ⟨rfl, Nq4, K4, k24, vs4, Vt4⟩ := hQ4
  replace N := Fr.app N Nq4
  have nq5 : bb ≠ tb := (ne_exa E_b E_t (by decide))
  have nq6 : x ≠ tb := (ne_exa E_x E_t (by decide))
  replace E_b := E_b.keep K4
  replace Fv_b := Fv_b.keep K4 (ninS nq5 nin0)
  replace Fc_b := Fc_b.keep K4 (ninS nq5 nin0)
  replace Fn_b := Fn_b.keep K4 (ninS nq5 nin0)
  replace E_t := E_t.keep K4
  replace E_x := E_x.keep K4
  replace Fv_x := Fv_x.keep K4 (ninS nq6 nin0)
  replace Fc_x := Fc_x.keep K4 (ninS nq6 nin0)
  replace V_tx := V_tx.keep K4 (ninS hne nin0)
  replace O := O.keep K4 (allS g_tb all0)
  replace K := K.trans K4 (allS (Or.inl (by simp)) all0)
  refine Go.by (T' := T4) (f' := (mkF m 18 #[.val (.ref bb), .val (.int (Int32.ofNat ci)), .val (.ref x)] [])) (fun _ k => st4.trans k) ?_
  obtain ⟨fs, hr, hrun, hended, hW, hsame⟩ := X4.leave (v := none) (fun _ => rfl)
  refine ⟨_, _, X4.returnOut hx Bd.returns (hb hby d_put_18) hr, hrun, hended, _, _, rfl, ?_, ⟨_, rfl⟩, hW, hsame.mono (by decide) (by decide)⟩
  show Qa Z tb (Int32.ofNat Lb) h0 n0 (none) T4.heap _
  exact ⟨rfl, N, K, _, _, Vt4⟩

theorem d_aas_0 : decode jdk_68_method_22_code 0 = .ok (.aload_n 1, 1) := by decide +kernel
theorem d_aas_1 : decode jdk_68_method_22_code 1 = .ok (.ifnonnull 8, 3) := by decide +kernel
theorem d_aas_9 : decode jdk_68_method_22_code 9 = .ok (.aload_n 1, 1) := by decide +kernel
theorem d_aas_10 : decode jdk_68_method_22_code 10 = .ok (.invokevirtual 32, 3) := by decide +kernel
theorem d_aas_13 : decode jdk_68_method_22_code 13 = .ok (.istore_n 2, 1) := by decide +kernel
theorem d_aas_14 : decode jdk_68_method_22_code 14 = .ok (.aload_n 0, 1) := by decide +kernel
theorem d_aas_15 : decode jdk_68_method_22_code 15 = .ok (.aload_n 0, 1) := by decide +kernel
theorem d_aas_16 : decode jdk_68_method_22_code 16 = .ok (.getfield 79, 3) := by decide +kernel
theorem d_aas_19 : decode jdk_68_method_22_code 19 = .ok (.iload_n 2, 1) := by decide +kernel
theorem d_aas_20 : decode jdk_68_method_22_code 20 = .ok (.iadd, 1) := by decide +kernel
theorem d_aas_21 : decode jdk_68_method_22_code 21 = .ok (.invokevirtual 100, 3) := by decide +kernel
theorem d_aas_24 : decode jdk_68_method_22_code 24 = .ok (.aload_n 0, 1) := by decide +kernel
theorem d_aas_25 : decode jdk_68_method_22_code 25 = .ok (.aload_n 0, 1) := by decide +kernel
theorem d_aas_26 : decode jdk_68_method_22_code 26 = .ok (.getfield 79, 3) := by decide +kernel
theorem d_aas_29 : decode jdk_68_method_22_code 29 = .ok (.aload_n 1, 1) := by decide +kernel
theorem d_aas_30 : decode jdk_68_method_22_code 30 = .ok (.invokevirtual 208, 3) := by decide +kernel
theorem d_aas_33 : decode jdk_68_method_22_code 33 = .ok (.aload_n 0, 1) := by decide +kernel
theorem d_aas_34 : decode jdk_68_method_22_code 34 = .ok (.dup, 1) := by decide +kernel
theorem d_aas_35 : decode jdk_68_method_22_code 35 = .ok (.getfield 79, 3) := by decide +kernel
theorem d_aas_38 : decode jdk_68_method_22_code 38 = .ok (.iload_n 2, 1) := by decide +kernel
theorem d_aas_39 : decode jdk_68_method_22_code 39 = .ok (.iadd, 1) := by decide +kernel
theorem d_aas_40 : decode jdk_68_method_22_code 40 = .ok (.putfield 79, 3) := by decide +kernel
theorem d_aas_43 : decode jdk_68_method_22_code 43 = .ok (.aload_n 0, 1) := by decide +kernel
theorem d_aas_44 : decode jdk_68_method_22_code 44 = .ok (.areturn, 1) := by decide +kernel
theorem pn_aas : plainFor (⟨"java/lang/AbstractStringBuilder", "append", "(Ljava/lang/String;)Ljava/lang/AbstractStringBuilder;"⟩ : MethodName) = true := plainFor_of_name (by first | (simp [plainName, overriddenIn]; done) | decide +kernel)
theorem pd_aas_0 : parseMethodDescriptor "()I" = some ⟨[], some .int⟩ := by decide +kernel
theorem pd_aas_1 : parseMethodDescriptor "(I)V" = some ⟨[.int], none⟩ := by decide +kernel
theorem pd_aas_2 : parseMethodDescriptor "(ILjava/lang/String;)V" = some ⟨[.int, (.object "java/lang/String")], none⟩ := by decide +kernel
theorem ef_aas (m : MethodId) (x0 : Addr) (x1 : Addr) : entryFrame m #[(.ref x0), (.ref x1)] 3 = mkF m 0 #[.val (.ref x0), .val (.ref x1), .unset] [] := by first | (simp [entryFrame, mkF, argsToLocals, Value.category]; done) | rfl
set_option maxRecDepth 65536 in
set_option maxHeartbeats 40000000 in
theorem rm_aas (l : Launch) (Z : State) (a0 : Array Value) (hw : ∀ d ∈ tables_1, d.before a0 Z = true) (ws : List Jvm.Cond) (bb tb : Addr) (kt : ClassId) (Lb cb : Nat) (vt : List Value) (x tx : Addr) (kx : ClassId) (lx : Nat) (vx : List Value) (zc : Int32) (ls us ss : Addr) (hS0 : Sf Z zc ls us ss) (h0 : Heap) (n0 : Nat) (O : Old Z n0 h0) (E_b : Exa Z h0 bb "java/lang/StringBuilder") (Fv_b : Fld Z h0 bb "java/lang/AbstractStringBuilder" "value" "[B" (.ref tb)) (Fc_b : Fld Z h0 bb "java/lang/AbstractStringBuilder" "coder" "B" (.int 0)) (Fn_b : Fld Z h0 bb "java/lang/AbstractStringBuilder" "count" "I" (.int (Int32.ofNat cb))) (V_t : Arv Z h0 tb kt .byte (Int32.ofNat Lb) vt (.int 0)) (E_t : Exa Z h0 tb "[B") (g_bb : n0 ≤ bb) (g_tb : n0 ≤ tb) (hLb : Lb ≤ 300) (hLb2 : 16 ≤ Lb) (hcLb : cb ≤ Lb) (E_x : Exa Z h0 x "java/lang/String") (Fv_x : Fld Z h0 x "java/lang/String" "value" "[B" (.ref tx)) (Fc_x : Fld Z h0 x "java/lang/String" "coder" "B" (.int 0)) (V_tx : Arv Z h0 tx kx .byte (Int32.ofNat lx) vx (.int 0)) (hne : tx ≠ tb) (hcx : cb + lx ≤ 150) :
    MetFree l (⟨"java/lang/AbstractStringBuilder", "append", "(Ljava/lang/String;)Ljava/lang/AbstractStringBuilder;"⟩ : MethodName) (head1 (Jvm.Cond.code (⟨"java/lang/AbstractStringBuilder", "append", "(Ljava/lang/String;)Ljava/lang/AbstractStringBuilder;"⟩ : MethodName) jdk_68_method_22_code 3 (some (.object "java/lang/AbstractStringBuilder")) :: ws) ({ frames := 4, cells := 1, slots := 300, locals := 62 } : Room)) (fun as_ U => as_ = #[(.ref bb), (.ref x)] ∧ Z.Warmed39 U.vm ∧ U.heap = h0) (fun _ _ _ _ _ => True) (fun _ U o U' => ∃ v L, o = .returned v ∧ Qb Z bb tb (some (.ref bb)) (cb + lx) (cb + lx) h0 n0 v U'.heap L ∧ FrameEnd U o U' L ({ frames := 4, cells := 1, slots := 300, locals := 62 } : Room).cells ({ frames := 4, cells := 1, slots := 300, locals := 62 } : Room).slots) := by
  refine MetFree.of_bodySF pn_aas hisR ?_
  intro p e s m args below meth c s₁ Bd hml0 hP hK
  obtain ⟨rfl, hZ, hh⟩ := hP
  have hx := Bd.exec
  have hby := Bd.bytes
  have hml : c.maxLocals = 3 := hml0
  have hown : s.vm.findClass "java/lang/AbstractStringBuilder" = some m.cls := findClass_of_methodNamed Bd.named
  have hnm := (name_of_methodNamed Bd.named Bd.method).1
  have X0 : Stand p l e ({ frames := 4, cells := 1, slots := 300, locals := 62 } : Room) s m #[(.ref bb), (.ref x)] below meth c s₁ [] 0 0 := Stand.of_body Bd
  have e0 : s₁.heap = h0 := by rw [← hh, Bd.state]; rfl
  have N := Fr.nil n0
  have K : Keep h0 h0 [bb, tb] := Keep.refl _ _
  refine Go.by (T' := s₁) (f' := (mkF m 0 #[.val (.ref bb), .val (.ref x), .unset] [])) (fun _ k => castTop (ef_aas m bb x) k) ?_
  refine Go.by (T' := s₁) (f' := (mkF m 1 #[.val (.ref bb), .val (.ref x), .unset] [(.ref x)])) (fun _ k => XS.aloadN X0.here hx rfl (hb hby d_aas_0) rfl rfl k) ?_
  refine Go.by (T' := s₁) (f' := (mkF m 9 #[.val (.ref bb), .val (.ref x), .unset] [])) (fun _ k => XS.ifnonnullYes X0.here hx rfl (pc0 := 1) (pc' := 9) rfl (hb hby d_aas_1) rfl (by decide) (by decide) k) ?_
  refine Go.by (T' := s₁) (f' := (mkF m 10 #[.val (.ref bb), .val (.ref x), .unset] [(.ref x)])) (fun _ k => XS.aloadN X0.here hx rfl (hb hby d_aas_9) rfl rfl k) ?_
  obtain ⟨cq1, kq1, q1a, q1b, q1c⟩ := isOf hZ e0 E_x
  obtain ⟨v1, _, ⟨T1, L1, k1, n1⟩, -, X1, ⟨Lc1, hQ1, l1, y1, z1⟩, st1⟩ := X0.virtualBack hx (y := (⟨"java/lang/String", "length", "()I"⟩ : MethodName)) (z := (⟨"java/lang/String", "length", "()I"⟩ : MethodName)) hown (mvT hZ (hw _ (List.mem_of_getElem? (i := 60) rfl))) (mvT hZ (hw _ (List.mem_of_getElem? (i := 61) rfl))) (notFace_of_selects (args := #[]) (mvT hZ (hw _ (List.mem_of_getElem? (i := 63) rfl)))) (mvT hZ (hw _ (List.mem_of_getElem? (i := 63) rfl))) (mvT hZ (hw _ (List.mem_of_getElem? (i := 62) rfl))) (by decide) (backOf (W := 0) (rm_slen l Z a0 hw [] x tx _ (lx) _ zc ls us ss hS0 h0 n0 O E_x Fv_x Fc_x V_tx) hZ (hw _ (List.mem_of_getElem? (i := 64) rfl)) (hw _ (List.mem_of_getElem? (i := 2) rfl)) (by decide) (by decide)) q1a q1c (g := (mkF m 10 #[.val (.ref bb), .val (.ref x), .unset] [(.ref x)])) rfl (by rw [hml]; rfl) (Steps.refl _) (argsL := []) (rest := []) (lenOf pd_aas_0 rfl) rfl (by show 2 * 0 + _ ≤ _; exact Nat.le_of_eq rfl) (hb hby d_aas_10) (fun _ _ => ⟨rfl, e0, (by decide : 0 + 0 ≤ _), (by decide : 0 + 0 ≤ _)⟩)
  dsimp only [Pt.U, Pt.locs, Pt.cells, Pt.slots] at X1 l1 y1 z1 st1 hQ1
  subst l1 y1 z1
  obtain ⟨rfl, Nq1, e1⟩ := hQ1
  replace N := Fr.app N Nq1
  refine Go.by (T' := T1) (f' := (mkF m 13 #[.val (.ref bb), .val (.ref x), .unset] [(.int (Int32.ofNat lx))])) (fun _ k => st1.trans k) ?_
  refine Go.by (T' := T1) (f' := (mkF m 14 #[.val (.ref bb), .val (.ref x), .val (.int (Int32.ofNat lx))] [])) (fun _ k => XS.istoreN X1.here hx rfl (hb hby d_aas_13) rfl (l' := #[.val (.ref bb), .val (.ref x), .val (.int (Int32.ofNat lx))]) rfl k) ?_
  refine Go.by (T' := T1) (f' := (mkF m 15 #[.val (.ref bb), .val (.ref x), .val (.int (Int32.ofNat lx))] [(.ref bb)])) (fun _ k => XS.aloadN X1.here hx rfl (hb hby d_aas_14) rfl rfl k) ?_
  refine Go.by (T' := T1) (f' := (mkF m 16 #[.val (.ref bb), .val (.ref x), .val (.int (Int32.ofNat lx))] [(.ref bb), (.ref bb)])) (fun _ k => XS.aloadN X1.here hx rfl (hb hby d_aas_15) rfl rfl k) ?_
  obtain ⟨T2, X2, e2, st2⟩ := getF X1 hx hZ hown (host := "") (Or.inl (hw _ (List.mem_of_getElem? (i := 71) rfl))) Via.refl e1 Fn_b (g := (mkF m 16 #[.val (.ref bb), .val (.ref x), .val (.int (Int32.ofNat lx))] [(.ref bb), (.ref bb)])) rfl rfl (hb hby d_aas_16)
  refine Go.by (T' := T2) (f' := (mkF m 19 #[.val (.ref bb), .val (.ref x), .val (.int (Int32.ofNat lx))] [(.int (Int32.ofNat cb)), (.ref bb)])) (st2) ?_
  refine Go.by (T' := T2) (f' := (mkF m 20 #[.val (.ref bb), .val (.ref x), .val (.int (Int32.ofNat lx))] [(.int (Int32.ofNat lx)), (.int (Int32.ofNat cb)), (.ref bb)])) (fun _ k => XS.iloadN X2.here hx rfl (hb hby d_aas_19) rfl k) ?_
  refine Go.by (T' := T2) (f' := (mkF m 21 #[.val (.ref bb), .val (.ref x), .val (.int (Int32.ofNat lx))] [(.int ((Int32.ofNat cb) + (Int32.ofNat lx))), (.ref bb)])) (fun _ k => XS.iadd X2.here hx rfl (hb hby d_aas_20) rfl k) ?_
  rw [show ((Int32.ofNat cb) + (Int32.ofNat lx)) = (Int32.ofNat (cb + lx)) from own_add _ _]
  have hi3a : Lb ≤ 300 := by omega
  have hi3b : 16 ≤ Lb := by omega
  have hi3c : cb ≤ Lb := by omega
  have hj3a : (cb + lx) ≤ 150 := by omega
  obtain ⟨cq3, q3, q3'⟩ := E_b.cell
  obtain ⟨v3, _, ⟨T3, L3, k3, n3⟩, -, X3, ⟨Lc3, hQ3, l3, y3, z3⟩, st3⟩ := X2.privateBack hx (y := (⟨"java/lang/AbstractStringBuilder", "ensureCapacityInternal", "(I)V"⟩ : MethodName)) hown (mvT hZ (hw _ (List.mem_of_getElem? (i := 73) rfl))) (mvT hZ (hw _ (List.mem_of_getElem? (i := 74) rfl))) (own_selp (mvT hZ (hw _ (List.mem_of_getElem? (i := 76) rfl))) (Cond.privateMethod_at (mvP hZ (hw _ (List.mem_of_getElem? (i := 75) rfl)) (args := #[]))) (mvT hZ (hw _ (List.mem_of_getElem? (i := 74) rfl))) (by decide)) (Cond.privateMethod_at (mvP hZ (hw _ (List.mem_of_getElem? (i := 75) rfl)) (args := #[]))) (mvT hZ (hw _ (List.mem_of_getElem? (i := 77) rfl))) (by decide) (backOf (W := 0) (rm_ensure l Z a0 hw [] bb tb _ (Lb) (cb) _ ((cb + lx)) h0 n0 O E_b Fv_b Fc_b Fn_b V_t E_t g_bb g_tb hi3a hi3b hi3c hj3a) hZ (hw _ (List.mem_of_getElem? (i := 77) rfl)) (hw _ (List.mem_of_getElem? (i := 41) rfl)) (by decide) (by decide)) (g := (mkF m 21 #[.val (.ref bb), .val (.ref x), .val (.int (Int32.ofNat lx))] [(.int (Int32.ofNat (cb + lx))), (.ref bb)])) rfl (by rw [hml]; rfl) (Steps.refl _) (a := bb) (by rw [e2]; exact q3) q3' (argsL := [(.int (Int32.ofNat (cb + lx)))]) (rest := []) (lenOf pd_aas_1 rfl) rfl (by show 2 * 0 + _ ≤ _; exact Nat.le_of_eq rfl) (hb hby d_aas_21) (fun _ _ => ⟨rfl, e2, (by decide : 0 + 1 ≤ _), (by decide : 0 + 300 ≤ _)⟩)
  dsimp only [Pt.U, Pt.locs, Pt.cells, Pt.slots] at X3 l3 y3 z3 st3 hQ3
  subst l3 y3 z3
  obtain ⟨rfl, Nq3, K3, t3, k23, L2_3, vs3, or3, hb31, hb32, hb33, Gv3, Gc3, Gn3, Vt3, Et3⟩ := hQ3
  replace N := Fr.app N Nq3
  have nt3_tx : tx ≠ t3 := own_orne or3 hne V_tx.lt
  have g_t3 : n0 ≤ t3 := own_or or3 g_tb (Old.le O)
  have io_t3 : t3 ∈ [bb, tb] ∨ h0.size ≤ t3 := own_orin or3 (Or.inl (by simp)) K.1
  have oo_t3 : t3 = tb ∨ h0.size ≤ t3 := or3
  have nq4 : x ≠ bb := (ne_exa E_x E_b (by decide))
  have nq5 : x ≠ tb := (ne_exa E_x E_t (by decide))
  have nq6 : tx ≠ bb := (Ne.symm (own_nev E_b (hw _ (List.mem_of_getElem? (i := 32) rfl)) V_tx))
  replace E_b := E_b.keep K3
  replace E_t := E_t.keep K3
  replace E_x := E_x.keep K3
  replace Fv_x := Fv_x.keep K3 (ninS nq4 (ninS nq5 nin0))
  replace Fc_x := Fc_x.keep K3 (ninS nq4 (ninS nq5 nin0))
  replace V_tx := V_tx.keep K3 (ninS nq6 (ninS hne nin0))
  replace O := O.keep K3 (allS g_bb (allS g_tb all0))
  replace K := K.trans K3 (allS (Or.inl (by simp)) (allS (Or.inl (by simp)) all0))
  refine Go.by (T' := T3) (f' := (mkF m 24 #[.val (.ref bb), .val (.ref x), .val (.int (Int32.ofNat lx))] [])) (fun _ k => st3.trans k) ?_
  refine Go.by (T' := T3) (f' := (mkF m 25 #[.val (.ref bb), .val (.ref x), .val (.int (Int32.ofNat lx))] [(.ref bb)])) (fun _ k => XS.aloadN X3.here hx rfl (hb hby d_aas_24) rfl rfl k) ?_
  refine Go.by (T' := T3) (f' := (mkF m 26 #[.val (.ref bb), .val (.ref x), .val (.int (Int32.ofNat lx))] [(.ref bb), (.ref bb)])) (fun _ k => XS.aloadN X3.here hx rfl (hb hby d_aas_25) rfl rfl k) ?_
  obtain ⟨T7, X7, e7, st7⟩ := getF X3 hx hZ hown (host := "") (Or.inl (hw _ (List.mem_of_getElem? (i := 71) rfl))) Via.refl rfl Gn3 (g := (mkF m 26 #[.val (.ref bb), .val (.ref x), .val (.int (Int32.ofNat lx))] [(.ref bb), (.ref bb)])) rfl rfl (hb hby d_aas_26)
  refine Go.by (T' := T7) (f' := (mkF m 29 #[.val (.ref bb), .val (.ref x), .val (.int (Int32.ofNat lx))] [(.int (Int32.ofNat cb)), (.ref bb)])) (st7) ?_
  refine Go.by (T' := T7) (f' := (mkF m 30 #[.val (.ref bb), .val (.ref x), .val (.int (Int32.ofNat lx))] [(.ref x), (.int (Int32.ofNat cb)), (.ref bb)])) (fun _ k => XS.aloadN X7.here hx rfl (hb hby d_aas_29) rfl rfl k) ?_
  have hi8a : L2_3 ≤ 300 := by omega
  have hi8b : 16 ≤ L2_3 := by omega
  have hi8c : cb ≤ L2_3 := by omega
  have hu8 : cb + lx ≤ L2_3 := by omega
  obtain ⟨cq8, q8, q8'⟩ := E_b.cell
  obtain ⟨v8, _, ⟨T8, L8, k8, n8⟩, -, X8, ⟨Lc8, hQ8, l8, y8, z8⟩, st8⟩ := X7.privateBack hx (y := (⟨"java/lang/AbstractStringBuilder", "putStringAt", "(ILjava/lang/String;)V"⟩ : MethodName)) hown (mvT hZ (hw _ (List.mem_of_getElem? (i := 78) rfl))) (mvT hZ (hw _ (List.mem_of_getElem? (i := 79) rfl))) (own_selp (mvT hZ (hw _ (List.mem_of_getElem? (i := 81) rfl))) (Cond.privateMethod_at (mvP hZ (hw _ (List.mem_of_getElem? (i := 80) rfl)) (args := #[]))) (mvT hZ (hw _ (List.mem_of_getElem? (i := 79) rfl))) (by decide)) (Cond.privateMethod_at (mvP hZ (hw _ (List.mem_of_getElem? (i := 80) rfl)) (args := #[]))) (mvT hZ (hw _ (List.mem_of_getElem? (i := 82) rfl))) (by decide) (backOf (W := 0) (rm_put l Z a0 hw [] bb t3 _ (L2_3) (cb) _ x tx _ (lx) _ zc ls us ss hS0 (cb) T3.heap n0 O E_b Gv3 Gc3 Gn3 Vt3 Et3 g_bb g_t3 hi8a hi8b hi8c E_x Fv_x Fc_x V_tx nt3_tx hu8) hZ (hw _ (List.mem_of_getElem? (i := 82) rfl)) (hw _ (List.mem_of_getElem? (i := 41) rfl)) (by decide) (by decide)) (g := (mkF m 30 #[.val (.ref bb), .val (.ref x), .val (.int (Int32.ofNat lx))] [(.ref x), (.int (Int32.ofNat cb)), (.ref bb)])) rfl (by rw [hml]; rfl) (Steps.refl _) (a := bb) (by rw [e7]; exact q8) q8' (argsL := [(.int (Int32.ofNat cb)), (.ref x)]) (rest := []) (lenOf pd_aas_2 rfl) rfl (by show 2 * 0 + _ ≤ _; exact Nat.le_of_eq rfl) (hb hby d_aas_30) (fun _ _ => ⟨rfl, e7, (by decide : 1 + 0 ≤ _), (by decide : 300 + 0 ≤ _)⟩)
  dsimp only [Pt.U, Pt.locs, Pt.cells, Pt.slots] at X8 l8 y8 z8 st8 hQ8
  subst l8 y8 z8
  obtain ⟨rfl, Nq8, K8, k28, vs8, Vt8⟩ := hQ8
  replace N := Fr.app N Nq8
  have nq9 : x ≠ t3 := (ne_exa E_x Et3 (by decide))
  have nq10 : bb ≠ t3 := (ne_exa E_b Et3 (by decide))
  replace E_b := E_b.keep K8
  replace E_x := E_x.keep K8
  replace Fv_x := Fv_x.keep K8 (ninS nq9 nin0)
  replace Fc_x := Fc_x.keep K8 (ninS nq9 nin0)
  replace V_tx := V_tx.keep K8 (ninS nt3_tx nin0)
  replace Gv3 := Gv3.keep K8 (ninS nq10 nin0)
  replace Gc3 := Gc3.keep K8 (ninS nq10 nin0)
  replace Gn3 := Gn3.keep K8 (ninS nq10 nin0)
  replace Et3 := Et3.keep K8
  replace O := O.keep K8 (allS g_t3 all0)
  replace K := K.trans K8 (allS (io_t3) all0)
  refine Go.by (T' := T8) (f' := (mkF m 33 #[.val (.ref bb), .val (.ref x), .val (.int (Int32.ofNat lx))] [])) (fun _ k => st8.trans k) ?_
  refine Go.by (T' := T8) (f' := (mkF m 34 #[.val (.ref bb), .val (.ref x), .val (.int (Int32.ofNat lx))] [(.ref bb)])) (fun _ k => XS.aloadN X8.here hx rfl (hb hby d_aas_33) rfl rfl k) ?_
  refine Go.by (T' := T8) (f' := (mkF m 35 #[.val (.ref bb), .val (.ref x), .val (.int (Int32.ofNat lx))] [(.ref bb), (.ref bb)])) (fun _ k => XS.dup X8.here hx rfl (hb hby d_aas_34) rfl rfl k) ?_
  obtain ⟨T11, X11, e11, st11⟩ := getF X8 hx hZ hown (host := "") (Or.inl (hw _ (List.mem_of_getElem? (i := 71) rfl))) Via.refl rfl Gn3 (g := (mkF m 35 #[.val (.ref bb), .val (.ref x), .val (.int (Int32.ofNat lx))] [(.ref bb), (.ref bb)])) rfl rfl (hb hby d_aas_35)
  refine Go.by (T' := T11) (f' := (mkF m 38 #[.val (.ref bb), .val (.ref x), .val (.int (Int32.ofNat lx))] [(.int (Int32.ofNat cb)), (.ref bb)])) (st11) ?_
  refine Go.by (T' := T11) (f' := (mkF m 39 #[.val (.ref bb), .val (.ref x), .val (.int (Int32.ofNat lx))] [(.int (Int32.ofNat lx)), (.int (Int32.ofNat cb)), (.ref bb)])) (fun _ k => XS.iloadN X11.here hx rfl (hb hby d_aas_38) rfl k) ?_
  refine Go.by (T' := T11) (f' := (mkF m 40 #[.val (.ref bb), .val (.ref x), .val (.int (Int32.ofNat lx))] [(.int ((Int32.ofNat cb) + (Int32.ofNat lx))), (.ref bb)])) (fun _ k => XS.iadd X11.here hx rfl (hb hby d_aas_39) rfl k) ?_
  rw [show ((Int32.ofNat cb) + (Int32.ofNat lx)) = (Int32.ofNat (cb + lx)) from own_add _ _]
  obtain ⟨T12, h12, X12, e12, W12, st12⟩ := putF X11 hx hZ hown (host := "") (Or.inl (hw _ (List.mem_of_getElem? (i := 71) rfl))) Via.refl e11 Gn3 E_b (Or.inl (hw _ (List.mem_of_getElem? (i := 72) rfl))) (hw _ (List.mem_of_getElem? (i := 32) rfl)) (ty := .int) (by decide) rfl rfl (g := (mkF m 40 #[.val (.ref bb), .val (.ref x), .val (.int (Int32.ofNat lx))] [(.int (Int32.ofNat (cb + lx))), (.ref bb)])) rfl rfl (hb hby d_aas_40)
  replace E_b := E_b.wr W12
  replace E_x := E_x.wr W12
  replace Fv_x := Fv_x.other W12 (Or.inl nq4)
  replace Fc_x := Fc_x.other W12 (Or.inl nq4)
  replace V_tx := V_tx.other W12 nq6
  replace Gv3 := Gv3.other W12 (Or.inr (slot_ne (Or.inl (hw _ (List.mem_of_getElem? (i := 46) rfl))) (Or.inl (hw _ (List.mem_of_getElem? (i := 72) rfl))) (by decide) (t := (.array .byte)) (t' := .int) (by decide) (by decide)))
  replace Gc3 := Gc3.other W12 (Or.inr (slot_ne (Or.inl (hw _ (List.mem_of_getElem? (i := 48) rfl))) (Or.inl (hw _ (List.mem_of_getElem? (i := 72) rfl))) (by decide) (t := .byte) (t' := .int) (by decide) (by decide)))
  replace Et3 := Et3.wr W12
  replace Vt8 := Vt8.other W12 (Ne.symm nq10)
  replace Gn3 := Gn3.same W12
  replace O := O.wr W12 g_bb
  replace K := K.wr W12 (Or.inl (by simp))
  replace N := Fr.snoc X12 N g_bb
  refine Go.by (T' := T12) (f' := (mkF m 43 #[.val (.ref bb), .val (.ref x), .val (.int (Int32.ofNat lx))] [])) (st12) ?_
  refine Go.by (T' := T12) (f' := (mkF m 44 #[.val (.ref bb), .val (.ref x), .val (.int (Int32.ofNat lx))] [(.ref bb)])) (fun _ k => XS.aloadN X12.here hx rfl (hb hby d_aas_43) rfl rfl k) ?_
  obtain ⟨fs, hr, hrun, hended, hW, hsame⟩ := X12.leave (v := some (.ref bb)) (fun h => by rw [Bd.returns] at h; cases h)
  refine ⟨_, _, retOut X12 hx Bd.returns rfl (Or.inr (Or.inr (Or.inr (Or.inr ⟨rfl, rfl, rfl⟩)))) (hb hby d_aas_44) hr, hrun, hended, _, _, rfl, ?_, ⟨_, rfl⟩, hW, hsame.mono (by decide) (by decide)⟩
  show Qb Z bb tb (some (.ref bb)) (cb + lx) (cb + lx) h0 n0 (some (.ref bb)) T12.heap _
  rw [e12]
  exact ⟨rfl, N, K, t3, _, L2_3, _, oo_t3, by omega, by omega, by omega, Gv3, Gc3, Gn3, Vt8, Et3⟩

theorem d_sas_0 : decode jdk_67_method_7_code 0 = .ok (.aload_n 0, 1) := by decide +kernel
theorem d_sas_1 : decode jdk_67_method_7_code 1 = .ok (.aload_n 1, 1) := by decide +kernel
theorem d_sas_2 : decode jdk_67_method_7_code 2 = .ok (.invokespecial 29, 3) := by decide +kernel
theorem d_sas_5 : decode jdk_67_method_7_code 5 = .ok (.pop, 1) := by decide +kernel
theorem d_sas_6 : decode jdk_67_method_7_code 6 = .ok (.aload_n 0, 1) := by decide +kernel
theorem d_sas_7 : decode jdk_67_method_7_code 7 = .ok (.areturn, 1) := by decide +kernel
theorem pn_sas : plainFor (⟨"java/lang/StringBuilder", "append", "(Ljava/lang/String;)Ljava/lang/StringBuilder;"⟩ : MethodName) = true := plainFor_of_name (by first | (simp [plainName, overriddenIn]; done) | decide +kernel)
theorem pd_sas_0 : parseMethodDescriptor "(Ljava/lang/String;)Ljava/lang/AbstractStringBuilder;" = some ⟨[(.object "java/lang/String")], some (.object "java/lang/AbstractStringBuilder")⟩ := by decide +kernel
theorem ef_sas (m : MethodId) (x0 : Addr) (x1 : Addr) : entryFrame m #[(.ref x0), (.ref x1)] 2 = mkF m 0 #[.val (.ref x0), .val (.ref x1)] [] := by first | (simp [entryFrame, mkF, argsToLocals, Value.category]; done) | rfl
set_option maxRecDepth 65536 in
set_option maxHeartbeats 40000000 in
theorem rm_sas (l : Launch) (Z : State) (a0 : Array Value) (hw : ∀ d ∈ tables_1, d.before a0 Z = true) (ws : List Jvm.Cond) (bb tb : Addr) (kt : ClassId) (Lb cb : Nat) (vt : List Value) (x tx : Addr) (kx : ClassId) (lx : Nat) (vx : List Value) (zc : Int32) (ls us ss : Addr) (hS0 : Sf Z zc ls us ss) (h0 : Heap) (n0 : Nat) (O : Old Z n0 h0) (E_b : Exa Z h0 bb "java/lang/StringBuilder") (Fv_b : Fld Z h0 bb "java/lang/AbstractStringBuilder" "value" "[B" (.ref tb)) (Fc_b : Fld Z h0 bb "java/lang/AbstractStringBuilder" "coder" "B" (.int 0)) (Fn_b : Fld Z h0 bb "java/lang/AbstractStringBuilder" "count" "I" (.int (Int32.ofNat cb))) (V_t : Arv Z h0 tb kt .byte (Int32.ofNat Lb) vt (.int 0)) (E_t : Exa Z h0 tb "[B") (g_bb : n0 ≤ bb) (g_tb : n0 ≤ tb) (hLb : Lb ≤ 300) (hLb2 : 16 ≤ Lb) (hcLb : cb ≤ Lb) (E_x : Exa Z h0 x "java/lang/String") (Fv_x : Fld Z h0 x "java/lang/String" "value" "[B" (.ref tx)) (Fc_x : Fld Z h0 x "java/lang/String" "coder" "B" (.int 0)) (V_tx : Arv Z h0 tx kx .byte (Int32.ofNat lx) vx (.int 0)) (hne : tx ≠ tb) (hcx : cb + lx ≤ 150) :
    MetFree l (⟨"java/lang/StringBuilder", "append", "(Ljava/lang/String;)Ljava/lang/StringBuilder;"⟩ : MethodName) (head1 (Jvm.Cond.code (⟨"java/lang/StringBuilder", "append", "(Ljava/lang/String;)Ljava/lang/StringBuilder;"⟩ : MethodName) jdk_67_method_7_code 2 (some (.object "java/lang/StringBuilder")) :: ws) ({ frames := 5, cells := 1, slots := 300, locals := 76 } : Room)) (fun as_ U => as_ = #[(.ref bb), (.ref x)] ∧ Z.Warmed39 U.vm ∧ U.heap = h0) (fun _ _ _ _ _ => True) (fun _ U o U' => ∃ v L, o = .returned v ∧ Qb Z bb tb (some (.ref bb)) (cb + lx) (cb + lx) h0 n0 v U'.heap L ∧ FrameEnd U o U' L ({ frames := 5, cells := 1, slots := 300, locals := 76 } : Room).cells ({ frames := 5, cells := 1, slots := 300, locals := 76 } : Room).slots) := by
  refine MetFree.of_bodySF pn_sas hisR ?_
  intro p e s m args below meth c s₁ Bd hml0 hP hK
  obtain ⟨rfl, hZ, hh⟩ := hP
  have hx := Bd.exec
  have hby := Bd.bytes
  have hml : c.maxLocals = 2 := hml0
  have hown : s.vm.findClass "java/lang/StringBuilder" = some m.cls := findClass_of_methodNamed Bd.named
  have hnm := (name_of_methodNamed Bd.named Bd.method).1
  have X0 : Stand p l e ({ frames := 5, cells := 1, slots := 300, locals := 76 } : Room) s m #[(.ref bb), (.ref x)] below meth c s₁ [] 0 0 := Stand.of_body Bd
  have e0 : s₁.heap = h0 := by rw [← hh, Bd.state]; rfl
  have N := Fr.nil n0
  have K : Keep h0 h0 [bb, tb] := Keep.refl _ _
  refine Go.by (T' := s₁) (f' := (mkF m 0 #[.val (.ref bb), .val (.ref x)] [])) (fun _ k => castTop (ef_sas m bb x) k) ?_
  refine Go.by (T' := s₁) (f' := (mkF m 1 #[.val (.ref bb), .val (.ref x)] [(.ref bb)])) (fun _ k => XS.aloadN X0.here hx rfl (hb hby d_sas_0) rfl rfl k) ?_
  refine Go.by (T' := s₁) (f' := (mkF m 2 #[.val (.ref bb), .val (.ref x)] [(.ref x), (.ref bb)])) (fun _ k => XS.aloadN X0.here hx rfl (hb hby d_sas_1) rfl rfl k) ?_
  have hi1a : Lb ≤ 300 := by omega
  have hi1b : 16 ≤ Lb := by omega
  have hi1c : cb ≤ Lb := by omega
  have hv1 : cb + lx ≤ 150 := by omega
  obtain ⟨v1, _, ⟨T1, L1, k1, n1⟩, -, X1, ⟨Lc1, hQ1, l1, y1, z1⟩, st1⟩ := superBack X0 hx hZ (y := (⟨"java/lang/AbstractStringBuilder", "append", "(Ljava/lang/String;)Ljava/lang/AbstractStringBuilder;"⟩ : MethodName)) hown (hw _ (List.mem_of_getElem? (i := 55) rfl)) (own_same (y := (⟨"java/lang/AbstractStringBuilder", "append", "(Ljava/lang/String;)Ljava/lang/AbstractStringBuilder;"⟩ : MethodName)) (hw _ (List.mem_of_getElem? (i := 76) rfl)) rfl (hw _ (List.mem_of_getElem? (i := 56) rfl)) (by decide)) (hw _ (List.mem_of_getElem? (i := 56) rfl)) (hw _ (List.mem_of_getElem? (i := 57) rfl)) (by decide) (backOf (W := 0) (rm_aas l Z a0 hw [] bb tb _ (Lb) (cb) _ x tx _ (lx) _ zc ls us ss hS0 h0 n0 O E_b Fv_b Fc_b Fn_b V_t E_t g_bb g_tb hi1a hi1b hi1c E_x Fv_x Fc_x V_tx hne hv1) hZ (hw _ (List.mem_of_getElem? (i := 59) rfl)) (hw _ (List.mem_of_getElem? (i := 41) rfl)) (by decide) (by decide)) e0 (Ins.self E_b) (g := (mkF m 2 #[.val (.ref bb), .val (.ref x)] [(.ref x), (.ref bb)])) rfl (by rw [hml]; rfl) (hw _ (List.mem_of_getElem? (i := 59) rfl)) (argsL := [(.ref x)]) (rest := []) (lenOf pd_sas_0 rfl) rfl (by show 2 * 0 + _ ≤ _; exact Nat.le_of_eq rfl) (hb hby d_sas_2) (fun _ _ => ⟨rfl, e0, (by decide : 0 + 1 ≤ _), (by decide : 0 + 300 ≤ _)⟩)
  dsimp only [Pt.U, Pt.locs, Pt.cells, Pt.slots] at X1 l1 y1 z1 st1 hQ1
  subst l1 y1 z1
  obtain ⟨rfl, Nq1, K1, t1, k21, L2_1, vs1, or1, hb11, hb12, hb13, Gv1, Gc1, Gn1, Vt1, Et1⟩ := hQ1
  replace N := Fr.app N Nq1
  have nt1_tx : tx ≠ t1 := own_orne or1 hne V_tx.lt
  have g_t1 : n0 ≤ t1 := own_or or1 g_tb (Old.le O)
  have io_t1 : t1 ∈ [bb, tb] ∨ h0.size ≤ t1 := own_orin or1 (Or.inl (by simp)) K.1
  have oo_t1 : t1 = tb ∨ h0.size ≤ t1 := or1
  have nq2 : x ≠ bb := (ne_exa E_x E_b (by decide))
  have nq3 : x ≠ tb := (ne_exa E_x E_t (by decide))
  have nq4 : tx ≠ bb := (Ne.symm (own_nev E_b (hw _ (List.mem_of_getElem? (i := 32) rfl)) V_tx))
  replace E_b := E_b.keep K1
  replace E_t := E_t.keep K1
  replace E_x := E_x.keep K1
  replace Fv_x := Fv_x.keep K1 (ninS nq2 (ninS nq3 nin0))
  replace Fc_x := Fc_x.keep K1 (ninS nq2 (ninS nq3 nin0))
  replace V_tx := V_tx.keep K1 (ninS nq4 (ninS hne nin0))
  replace O := O.keep K1 (allS g_bb (allS g_tb all0))
  replace K := K.trans K1 (allS (Or.inl (by simp)) (allS (Or.inl (by simp)) all0))
  refine Go.by (T' := T1) (f' := (mkF m 5 #[.val (.ref bb), .val (.ref x)] [(.ref bb)])) (fun _ k => st1.trans k) ?_
  refine Go.by (T' := T1) (f' := (mkF m 6 #[.val (.ref bb), .val (.ref x)] [])) (fun _ k => XS.pop X1.here hx rfl (hb hby d_sas_5) rfl rfl k) ?_
  refine Go.by (T' := T1) (f' := (mkF m 7 #[.val (.ref bb), .val (.ref x)] [(.ref bb)])) (fun _ k => XS.aloadN X1.here hx rfl (hb hby d_sas_6) rfl rfl k) ?_
  obtain ⟨fs, hr, hrun, hended, hW, hsame⟩ := X1.leave (v := some (.ref bb)) (fun h => by rw [Bd.returns] at h; cases h)
  refine ⟨_, _, retOut X1 hx Bd.returns rfl (Or.inr (Or.inr (Or.inr (Or.inr ⟨rfl, rfl, rfl⟩)))) (hb hby d_sas_7) hr, hrun, hended, _, _, rfl, ?_, ⟨_, rfl⟩, hW, hsame.mono (by decide) (by decide)⟩
  show Qb Z bb tb (some (.ref bb)) (cb + lx) (cb + lx) h0 n0 (some (.ref bb)) T1.heap _
  exact ⟨rfl, N, K, t1, _, L2_1, _, oo_t1, by omega, by omega, by omega, Gv1, Gc1, Gn1, Vt1, Et1⟩

theorem d_anull_0 : decode jdk_68_method_26_code 0 = .ok (.aload_n 0, 1) := by decide +kernel
theorem d_anull_1 : decode jdk_68_method_26_code 1 = .ok (.aload_n 0, 1) := by decide +kernel
theorem d_anull_2 : decode jdk_68_method_26_code 2 = .ok (.getfield 79, 3) := by decide +kernel
theorem d_anull_5 : decode jdk_68_method_26_code 5 = .ok (.iconst 4, 1) := by decide +kernel
theorem d_anull_6 : decode jdk_68_method_26_code 6 = .ok (.iadd, 1) := by decide +kernel
theorem d_anull_7 : decode jdk_68_method_26_code 7 = .ok (.invokevirtual 100, 3) := by decide +kernel
theorem d_anull_10 : decode jdk_68_method_26_code 10 = .ok (.aload_n 0, 1) := by decide +kernel
theorem d_anull_11 : decode jdk_68_method_26_code 11 = .ok (.getfield 79, 3) := by decide +kernel
theorem d_anull_14 : decode jdk_68_method_26_code 14 = .ok (.istore_n 1, 1) := by decide +kernel
theorem d_anull_15 : decode jdk_68_method_26_code 15 = .ok (.aload_n 0, 1) := by decide +kernel
theorem d_anull_16 : decode jdk_68_method_26_code 16 = .ok (.getfield 15, 3) := by decide +kernel
theorem d_anull_19 : decode jdk_68_method_26_code 19 = .ok (.astore_n 2, 1) := by decide +kernel
theorem d_anull_20 : decode jdk_68_method_26_code 20 = .ok (.aload_n 0, 1) := by decide +kernel
theorem d_anull_21 : decode jdk_68_method_26_code 21 = .ok (.invokevirtual 83, 3) := by decide +kernel
theorem d_anull_24 : decode jdk_68_method_26_code 24 = .ok (.ifCond .eq 38, 3) := by decide +kernel
theorem d_anull_27 : decode jdk_68_method_26_code 27 = .ok (.aload_n 2, 1) := by decide +kernel
theorem d_anull_28 : decode jdk_68_method_26_code 28 = .ok (.iload_n 1, 1) := by decide +kernel
theorem d_anull_29 : decode jdk_68_method_26_code 29 = .ok (.iinc 1 1, 3) := by decide +kernel
theorem d_anull_32 : decode jdk_68_method_26_code 32 = .ok (.bipush 110, 2) := by decide +kernel
theorem d_anull_34 : decode jdk_68_method_26_code 34 = .ok (.bastore, 1) := by decide +kernel
theorem d_anull_35 : decode jdk_68_method_26_code 35 = .ok (.aload_n 2, 1) := by decide +kernel
theorem d_anull_36 : decode jdk_68_method_26_code 36 = .ok (.iload_n 1, 1) := by decide +kernel
theorem d_anull_37 : decode jdk_68_method_26_code 37 = .ok (.iinc 1 1, 3) := by decide +kernel
theorem d_anull_40 : decode jdk_68_method_26_code 40 = .ok (.bipush 117, 2) := by decide +kernel
theorem d_anull_42 : decode jdk_68_method_26_code 42 = .ok (.bastore, 1) := by decide +kernel
theorem d_anull_43 : decode jdk_68_method_26_code 43 = .ok (.aload_n 2, 1) := by decide +kernel
theorem d_anull_44 : decode jdk_68_method_26_code 44 = .ok (.iload_n 1, 1) := by decide +kernel
theorem d_anull_45 : decode jdk_68_method_26_code 45 = .ok (.iinc 1 1, 3) := by decide +kernel
theorem d_anull_48 : decode jdk_68_method_26_code 48 = .ok (.bipush 108, 2) := by decide +kernel
theorem d_anull_50 : decode jdk_68_method_26_code 50 = .ok (.bastore, 1) := by decide +kernel
theorem d_anull_51 : decode jdk_68_method_26_code 51 = .ok (.aload_n 2, 1) := by decide +kernel
theorem d_anull_52 : decode jdk_68_method_26_code 52 = .ok (.iload_n 1, 1) := by decide +kernel
theorem d_anull_53 : decode jdk_68_method_26_code 53 = .ok (.iinc 1 1, 3) := by decide +kernel
theorem d_anull_56 : decode jdk_68_method_26_code 56 = .ok (.bipush 108, 2) := by decide +kernel
theorem d_anull_58 : decode jdk_68_method_26_code 58 = .ok (.bastore, 1) := by decide +kernel
theorem d_anull_59 : decode jdk_68_method_26_code 59 = .ok (.goto 17, 3) := by decide +kernel
theorem d_anull_76 : decode jdk_68_method_26_code 76 = .ok (.aload_n 0, 1) := by decide +kernel
theorem d_anull_77 : decode jdk_68_method_26_code 77 = .ok (.iload_n 1, 1) := by decide +kernel
theorem d_anull_78 : decode jdk_68_method_26_code 78 = .ok (.putfield 79, 3) := by decide +kernel
theorem d_anull_81 : decode jdk_68_method_26_code 81 = .ok (.aload_n 0, 1) := by decide +kernel
theorem d_anull_82 : decode jdk_68_method_26_code 82 = .ok (.areturn, 1) := by decide +kernel
theorem pn_anull : plainFor (⟨"java/lang/AbstractStringBuilder", "appendNull", "()Ljava/lang/AbstractStringBuilder;"⟩ : MethodName) = true := plainFor_of_name (by first | (simp [plainName, overriddenIn]; done) | decide +kernel)
theorem pd_anull_0 : parseMethodDescriptor "(I)V" = some ⟨[.int], none⟩ := by decide +kernel
theorem pd_anull_1 : parseMethodDescriptor "()Z" = some ⟨[], some .boolean⟩ := by decide +kernel
theorem ef_anull (m : MethodId) (x0 : Addr) : entryFrame m #[(.ref x0)] 3 = mkF m 0 #[.val (.ref x0), .unset, .unset] [] := by first | (simp [entryFrame, mkF, argsToLocals, Value.category]; done) | rfl
set_option maxRecDepth 65536 in
set_option maxHeartbeats 40000000 in
theorem rm_anull (l : Launch) (Z : State) (a0 : Array Value) (hw : ∀ d ∈ tables_1, d.before a0 Z = true) (ws : List Jvm.Cond) (bb tb : Addr) (kt : ClassId) (Lb cb : Nat) (vt : List Value) (zc : Int32) (ls us ss : Addr) (hS0 : Sf Z zc ls us ss) (h0 : Heap) (n0 : Nat) (O : Old Z n0 h0) (E_b : Exa Z h0 bb "java/lang/StringBuilder") (Fv_b : Fld Z h0 bb "java/lang/AbstractStringBuilder" "value" "[B" (.ref tb)) (Fc_b : Fld Z h0 bb "java/lang/AbstractStringBuilder" "coder" "B" (.int 0)) (Fn_b : Fld Z h0 bb "java/lang/AbstractStringBuilder" "count" "I" (.int (Int32.ofNat cb))) (V_t : Arv Z h0 tb kt .byte (Int32.ofNat Lb) vt (.int 0)) (E_t : Exa Z h0 tb "[B") (g_bb : n0 ≤ bb) (g_tb : n0 ≤ tb) (hLb : Lb ≤ 300) (hLb2 : 16 ≤ Lb) (hcLb : cb ≤ Lb) (hcx : cb + 4 ≤ 150) :
    MetFree l (⟨"java/lang/AbstractStringBuilder", "appendNull", "()Ljava/lang/AbstractStringBuilder;"⟩ : MethodName) (head1 (Jvm.Cond.code (⟨"java/lang/AbstractStringBuilder", "appendNull", "()Ljava/lang/AbstractStringBuilder;"⟩ : MethodName) jdk_68_method_26_code 3 (some (.object "java/lang/AbstractStringBuilder")) :: ws) ({ frames := 4, cells := 1, slots := 300, locals := 62 } : Room)) (fun as_ U => as_ = #[(.ref bb)] ∧ Z.Warmed39 U.vm ∧ U.heap = h0) (fun _ _ _ _ _ => True) (fun _ U o U' => ∃ v L, o = .returned v ∧ Qb Z bb tb (some (.ref bb)) (cb + 4) (cb + 4) h0 n0 v U'.heap L ∧ FrameEnd U o U' L ({ frames := 4, cells := 1, slots := 300, locals := 62 } : Room).cells ({ frames := 4, cells := 1, slots := 300, locals := 62 } : Room).slots) := by
  refine MetFree.of_bodySF pn_anull hisR ?_
  intro p e s m args below meth c s₁ Bd hml0 hP hK
  obtain ⟨rfl, hZ, hh⟩ := hP
  have hx := Bd.exec
  have hby := Bd.bytes
  have hml : c.maxLocals = 3 := hml0
  have hown : s.vm.findClass "java/lang/AbstractStringBuilder" = some m.cls := findClass_of_methodNamed Bd.named
  have hnm := (name_of_methodNamed Bd.named Bd.method).1
  have X0 : Stand p l e ({ frames := 4, cells := 1, slots := 300, locals := 62 } : Room) s m #[(.ref bb)] below meth c s₁ [] 0 0 := Stand.of_body Bd
  have e0 : s₁.heap = h0 := by rw [← hh, Bd.state]; rfl
  have N := Fr.nil n0
  have K : Keep h0 h0 [bb, tb] := Keep.refl _ _
  refine Go.by (T' := s₁) (f' := (mkF m 0 #[.val (.ref bb), .unset, .unset] [])) (fun _ k => castTop (ef_anull m bb) k) ?_
  refine Go.by (T' := s₁) (f' := (mkF m 1 #[.val (.ref bb), .unset, .unset] [(.ref bb)])) (fun _ k => XS.aloadN X0.here hx rfl (hb hby d_anull_0) rfl rfl k) ?_
  refine Go.by (T' := s₁) (f' := (mkF m 2 #[.val (.ref bb), .unset, .unset] [(.ref bb), (.ref bb)])) (fun _ k => XS.aloadN X0.here hx rfl (hb hby d_anull_1) rfl rfl k) ?_
  obtain ⟨T1, X1, e1, st1⟩ := getF X0 hx hZ hown (host := "") (Or.inl (hw _ (List.mem_of_getElem? (i := 71) rfl))) Via.refl e0 Fn_b (g := (mkF m 2 #[.val (.ref bb), .unset, .unset] [(.ref bb), (.ref bb)])) rfl rfl (hb hby d_anull_2)
  refine Go.by (T' := T1) (f' := (mkF m 5 #[.val (.ref bb), .unset, .unset] [(.int (Int32.ofNat cb)), (.ref bb)])) (st1) ?_
  refine Go.by (T' := T1) (f' := (mkF m 6 #[.val (.ref bb), .unset, .unset] [(.int (4 : Int32)), (.int (Int32.ofNat cb)), (.ref bb)])) (fun _ k => XS.iconst X1.here hx rfl (hb hby d_anull_5) k) ?_
  refine Go.by (T' := T1) (f' := (mkF m 7 #[.val (.ref bb), .unset, .unset] [(.int ((Int32.ofNat cb) + (4 : Int32))), (.ref bb)])) (fun _ k => XS.iadd X1.here hx rfl (hb hby d_anull_6) rfl k) ?_
  rw [show ((Int32.ofNat cb) + (4 : Int32)) = (Int32.ofNat (cb + 4)) from own_add _ _]
  have hi2a : Lb ≤ 300 := by omega
  have hi2b : 16 ≤ Lb := by omega
  have hi2c : cb ≤ Lb := by omega
  have hj2a : (cb + 4) ≤ 150 := by omega
  obtain ⟨cq2, q2, q2'⟩ := E_b.cell
  obtain ⟨v2, _, ⟨T2, L2, k2, n2⟩, -, X2, ⟨Lc2, hQ2, l2, y2, z2⟩, st2⟩ := X1.privateBack hx (y := (⟨"java/lang/AbstractStringBuilder", "ensureCapacityInternal", "(I)V"⟩ : MethodName)) hown (mvT hZ (hw _ (List.mem_of_getElem? (i := 73) rfl))) (mvT hZ (hw _ (List.mem_of_getElem? (i := 74) rfl))) (own_selp (mvT hZ (hw _ (List.mem_of_getElem? (i := 76) rfl))) (Cond.privateMethod_at (mvP hZ (hw _ (List.mem_of_getElem? (i := 75) rfl)) (args := #[]))) (mvT hZ (hw _ (List.mem_of_getElem? (i := 74) rfl))) (by decide)) (Cond.privateMethod_at (mvP hZ (hw _ (List.mem_of_getElem? (i := 75) rfl)) (args := #[]))) (mvT hZ (hw _ (List.mem_of_getElem? (i := 77) rfl))) (by decide) (backOf (W := 0) (rm_ensure l Z a0 hw [] bb tb _ (Lb) (cb) _ ((cb + 4)) h0 n0 O E_b Fv_b Fc_b Fn_b V_t E_t g_bb g_tb hi2a hi2b hi2c hj2a) hZ (hw _ (List.mem_of_getElem? (i := 77) rfl)) (hw _ (List.mem_of_getElem? (i := 41) rfl)) (by decide) (by decide)) (g := (mkF m 7 #[.val (.ref bb), .unset, .unset] [(.int (Int32.ofNat (cb + 4))), (.ref bb)])) rfl (by rw [hml]; rfl) (Steps.refl _) (a := bb) (by rw [e1]; exact q2) q2' (argsL := [(.int (Int32.ofNat (cb + 4)))]) (rest := []) (lenOf pd_anull_0 rfl) rfl (by show 2 * 0 + _ ≤ _; exact Nat.le_of_eq rfl) (hb hby d_anull_7) (fun _ _ => ⟨rfl, e1, (by decide : 0 + 1 ≤ _), (by decide : 0 + 300 ≤ _)⟩)
  dsimp only [Pt.U, Pt.locs, Pt.cells, Pt.slots] at X2 l2 y2 z2 st2 hQ2
  subst l2 y2 z2
  obtain ⟨rfl, Nq2, K2, t2, k22, L2_2, vs2, or2, hb21, hb22, hb23, Gv2, Gc2, Gn2, Vt2, Et2⟩ := hQ2
  replace N := Fr.app N Nq2
  have g_t2 : n0 ≤ t2 := own_or or2 g_tb (Old.le O)
  have io_t2 : t2 ∈ [bb, tb] ∨ h0.size ≤ t2 := own_orin or2 (Or.inl (by simp)) K.1
  have oo_t2 : t2 = tb ∨ h0.size ≤ t2 := or2
  replace E_b := E_b.keep K2
  replace E_t := E_t.keep K2
  replace O := O.keep K2 (allS g_bb (allS g_tb all0))
  replace K := K.trans K2 (allS (Or.inl (by simp)) (allS (Or.inl (by simp)) all0))
  refine Go.by (T' := T2) (f' := (mkF m 10 #[.val (.ref bb), .unset, .unset] [])) (fun _ k => st2.trans k) ?_
  refine Go.by (T' := T2) (f' := (mkF m 11 #[.val (.ref bb), .unset, .unset] [(.ref bb)])) (fun _ k => XS.aloadN X2.here hx rfl (hb hby d_anull_10) rfl rfl k) ?_
  obtain ⟨T3, X3, e3, st3⟩ := getF X2 hx hZ hown (host := "") (Or.inl (hw _ (List.mem_of_getElem? (i := 71) rfl))) Via.refl rfl Gn2 (g := (mkF m 11 #[.val (.ref bb), .unset, .unset] [(.ref bb)])) rfl rfl (hb hby d_anull_11)
  refine Go.by (T' := T3) (f' := (mkF m 14 #[.val (.ref bb), .unset, .unset] [(.int (Int32.ofNat cb))])) (st3) ?_
  refine Go.by (T' := T3) (f' := (mkF m 15 #[.val (.ref bb), .val (.int (Int32.ofNat cb)), .unset] [])) (fun _ k => XS.istoreN X3.here hx rfl (hb hby d_anull_14) rfl (l' := #[.val (.ref bb), .val (.int (Int32.ofNat cb)), .unset]) rfl k) ?_
  refine Go.by (T' := T3) (f' := (mkF m 16 #[.val (.ref bb), .val (.int (Int32.ofNat cb)), .unset] [(.ref bb)])) (fun _ k => XS.aloadN X3.here hx rfl (hb hby d_anull_15) rfl rfl k) ?_
  obtain ⟨T4, X4, e4, st4⟩ := getF X3 hx hZ hown (host := "") (Or.inl (hw _ (List.mem_of_getElem? (i := 45) rfl))) Via.refl e3 Gv2 (g := (mkF m 16 #[.val (.ref bb), .val (.int (Int32.ofNat cb)), .unset] [(.ref bb)])) rfl rfl (hb hby d_anull_16)
  refine Go.by (T' := T4) (f' := (mkF m 19 #[.val (.ref bb), .val (.int (Int32.ofNat cb)), .unset] [(.ref t2)])) (st4) ?_
  refine Go.by (T' := T4) (f' := (mkF m 20 #[.val (.ref bb), .val (.int (Int32.ofNat cb)), .val (.ref t2)] [])) (fun _ k => XS.astoreN X4.here hx rfl (hb hby d_anull_19) rfl rfl (l' := #[.val (.ref bb), .val (.int (Int32.ofNat cb)), .val (.ref t2)]) rfl k) ?_
  refine Go.by (T' := T4) (f' := (mkF m 21 #[.val (.ref bb), .val (.int (Int32.ofNat cb)), .val (.ref t2)] [(.ref bb)])) (fun _ k => XS.aloadN X4.here hx rfl (hb hby d_anull_20) rfl rfl k) ?_
  have hi5a : L2_2 ≤ 300 := by omega
  have hi5b : 16 ≤ L2_2 := by omega
  have hi5c : cb ≤ L2_2 := by omega
  obtain ⟨cq5, kq5, q5a, q5b, q5c⟩ := isOf hZ e4 E_b
  obtain ⟨v5, _, ⟨T5, L5, k5, n5⟩, -, X5, ⟨Lc5, hQ5, l5, y5, z5⟩, st5⟩ := X4.virtualBack hx (y := (⟨"java/lang/AbstractStringBuilder", "isLatin1", "()Z"⟩ : MethodName)) (z := (⟨"java/lang/AbstractStringBuilder", "isLatin1", "()Z"⟩ : MethodName)) hown (mvT hZ (hw _ (List.mem_of_getElem? (i := 115) rfl))) (mvT hZ (hw _ (List.mem_of_getElem? (i := 116) rfl))) (notFace_of_selects (args := #[]) (mvT hZ (hw _ (List.mem_of_getElem? (i := 118) rfl)))) (mvT hZ (hw _ (List.mem_of_getElem? (i := 118) rfl))) (mvT hZ (hw _ (List.mem_of_getElem? (i := 117) rfl))) (by decide) (backOf (W := 0) (rm_blat l Z a0 hw [] bb t2 _ (L2_2) (cb) _ zc ls us ss hS0 T2.heap n0 O E_b Gv2 Gc2 Gn2 Vt2 Et2 g_bb g_t2 hi5a hi5b hi5c) hZ (hw _ (List.mem_of_getElem? (i := 119) rfl)) (hw _ (List.mem_of_getElem? (i := 41) rfl)) (by decide) (by decide)) q5a q5c (g := (mkF m 21 #[.val (.ref bb), .val (.int (Int32.ofNat cb)), .val (.ref t2)] [(.ref bb)])) rfl (by rw [hml]; rfl) (Steps.refl _) (argsL := []) (rest := []) (lenOf pd_anull_1 rfl) rfl (by show 2 * 0 + _ ≤ _; exact Nat.le_of_eq rfl) (hb hby d_anull_21) (fun _ _ => ⟨rfl, e4, (by decide : 1 + 0 ≤ _), (by decide : 300 + 0 ≤ _)⟩)
  dsimp only [Pt.U, Pt.locs, Pt.cells, Pt.slots] at X5 l5 y5 z5 st5 hQ5
  subst l5 y5 z5
  obtain ⟨rfl, Nq5, e5⟩ := hQ5
  replace N := Fr.app N Nq5
  refine Go.by (T' := T5) (f' := (mkF m 24 #[.val (.ref bb), .val (.int (Int32.ofNat cb)), .val (.ref t2)] [(.int (1 : Int32))])) (fun _ k => st5.trans k) ?_
  refine Go.by (T' := T5) (f' := (mkF m 27 #[.val (.ref bb), .val (.int (Int32.ofNat cb)), .val (.ref t2)] [])) (fun _ k => XS.ifNo X5.here hx rfl (hb hby d_anull_24) rfl ((if0 _ _).trans (feq (by decide : ¬ ((1 : Int32) = (0 : Int32)))).1) k) ?_
  refine Go.by (T' := T5) (f' := (mkF m 28 #[.val (.ref bb), .val (.int (Int32.ofNat cb)), .val (.ref t2)] [(.ref t2)])) (fun _ k => XS.aloadN X5.here hx rfl (hb hby d_anull_27) rfl rfl k) ?_
  refine Go.by (T' := T5) (f' := (mkF m 29 #[.val (.ref bb), .val (.int (Int32.ofNat cb)), .val (.ref t2)] [(.int (Int32.ofNat cb)), (.ref t2)])) (fun _ k => XS.iloadN X5.here hx rfl (hb hby d_anull_28) rfl k) ?_
  refine Go.by (T' := T5) (f' := (mkF m 32 #[.val (.ref bb), .val (.int ((Int32.ofNat cb) + (1 : Int32))), .val (.ref t2)] [(.int (Int32.ofNat cb)), (.ref t2)])) (fun _ k => XS.iinc X5.here hx rfl (hb hby d_anull_29) rfl (l' := #[.val (.ref bb), .val (.int ((Int32.ofNat cb) + (1 : Int32))), .val (.ref t2)]) rfl k) ?_
  rw [show ((Int32.ofNat cb) + (1 : Int32)) = (Int32.ofNat (cb + 1)) from own_add _ _]
  refine Go.by (T' := T5) (f' := (mkF m 34 #[.val (.ref bb), .val (.int (Int32.ofNat (cb + 1))), .val (.ref t2)] [(.int (110 : Int32)), (.int (Int32.ofNat cb)), (.ref t2)])) (fun _ k => XS.bipush X5.here hx rfl (hb hby d_anull_32) k) ?_
  obtain ⟨vf7, lf7, Vf7⟩ := own_full Vt2
  obtain ⟨cl7, Ar7, q7, S7, N7', H7, G7⟩ := id Vf7
  obtain ⟨T7, h7, X7, e7, W7, st7⟩ := stB X5 hx hZ e5 Ar7 (j := (Int32.ofNat cb)) (inb_of S7 ⟨own_neg (by omega), (own_nlt (a := cb) (by omega) (by omega)).mpr (by omega)⟩) (g := (mkF m 34 #[.val (.ref bb), .val (.int (Int32.ofNat (cb + 1))), .val (.ref t2)] [(.int (110 : Int32)), (.int (Int32.ofNat cb)), (.ref t2)])) rfl rfl (hb hby d_anull_34)
  have nq8 : bb ≠ t2 := (ne_exa E_b Et2 (by decide))
  replace E_b := E_b.wr W7
  replace Gv2 := Gv2.other W7 (Or.inl nq8)
  replace Gc2 := Gc2.other W7 (Or.inl nq8)
  replace Gn2 := Gn2.other W7 (Or.inl nq8)
  replace Et2 := Et2.wr W7
  replace Vt2 := Arv.set Ar7 q7 S7 N7' H7 G7 (fits_nar_byte _) W7 (cb) (own_nat (by omega)) (by rw [lf7, own_nat (by omega)]; omega)
  replace O := O.wr W7 g_t2
  replace K := K.wr W7 (io_t2)
  replace N := Fr.snoc X7 N g_t2
  refine Go.by (T' := T7) (f' := (mkF m 35 #[.val (.ref bb), .val (.int (Int32.ofNat (cb + 1))), .val (.ref t2)] [])) (st7) ?_
  refine Go.by (T' := T7) (f' := (mkF m 36 #[.val (.ref bb), .val (.int (Int32.ofNat (cb + 1))), .val (.ref t2)] [(.ref t2)])) (fun _ k => XS.aloadN X7.here hx rfl (hb hby d_anull_35) rfl rfl k) ?_
  refine Go.by (T' := T7) (f' := (mkF m 37 #[.val (.ref bb), .val (.int (Int32.ofNat (cb + 1))), .val (.ref t2)] [(.int (Int32.ofNat (cb + 1))), (.ref t2)])) (fun _ k => XS.iloadN X7.here hx rfl (hb hby d_anull_36) rfl k) ?_
  refine Go.by (T' := T7) (f' := (mkF m 40 #[.val (.ref bb), .val (.int ((Int32.ofNat (cb + 1)) + (1 : Int32))), .val (.ref t2)] [(.int (Int32.ofNat (cb + 1))), (.ref t2)])) (fun _ k => XS.iinc X7.here hx rfl (hb hby d_anull_37) rfl (l' := #[.val (.ref bb), .val (.int ((Int32.ofNat (cb + 1)) + (1 : Int32))), .val (.ref t2)]) rfl k) ?_
  rw [show ((Int32.ofNat (cb + 1)) + (1 : Int32)) = (Int32.ofNat ((cb + 1) + 1)) from own_add _ _]
  refine Go.by (T' := T7) (f' := (mkF m 42 #[.val (.ref bb), .val (.int (Int32.ofNat ((cb + 1) + 1))), .val (.ref t2)] [(.int (117 : Int32)), (.int (Int32.ofNat (cb + 1))), (.ref t2)])) (fun _ k => XS.bipush X7.here hx rfl (hb hby d_anull_40) k) ?_
  obtain ⟨vf9, lf9, Vf9⟩ := own_full Vt2
  obtain ⟨cl9, Ar9, q9, S9, N9', H9, G9⟩ := id Vf9
  obtain ⟨T9, h9, X9, e9, W9, st9⟩ := stB X7 hx hZ e7 Ar9 (j := (Int32.ofNat (cb + 1))) (inb_of S9 ⟨own_neg (by omega), (own_nlt (a := (cb + 1)) (by omega) (by omega)).mpr (by omega)⟩) (g := (mkF m 42 #[.val (.ref bb), .val (.int (Int32.ofNat ((cb + 1) + 1))), .val (.ref t2)] [(.int (117 : Int32)), (.int (Int32.ofNat (cb + 1))), (.ref t2)])) rfl rfl (hb hby d_anull_42)
  replace E_b := E_b.wr W9
  replace Gv2 := Gv2.other W9 (Or.inl nq8)
  replace Gc2 := Gc2.other W9 (Or.inl nq8)
  replace Gn2 := Gn2.other W9 (Or.inl nq8)
  replace Et2 := Et2.wr W9
  replace Vt2 := Arv.set Ar9 q9 S9 N9' H9 G9 (fits_nar_byte _) W9 ((cb + 1)) (own_nat (by omega)) (by rw [lf9, own_nat (by omega)]; omega)
  replace O := O.wr W9 g_t2
  replace K := K.wr W9 (io_t2)
  replace N := Fr.snoc X9 N g_t2
  refine Go.by (T' := T9) (f' := (mkF m 43 #[.val (.ref bb), .val (.int (Int32.ofNat ((cb + 1) + 1))), .val (.ref t2)] [])) (st9) ?_
  refine Go.by (T' := T9) (f' := (mkF m 44 #[.val (.ref bb), .val (.int (Int32.ofNat ((cb + 1) + 1))), .val (.ref t2)] [(.ref t2)])) (fun _ k => XS.aloadN X9.here hx rfl (hb hby d_anull_43) rfl rfl k) ?_
  refine Go.by (T' := T9) (f' := (mkF m 45 #[.val (.ref bb), .val (.int (Int32.ofNat ((cb + 1) + 1))), .val (.ref t2)] [(.int (Int32.ofNat ((cb + 1) + 1))), (.ref t2)])) (fun _ k => XS.iloadN X9.here hx rfl (hb hby d_anull_44) rfl k) ?_
  refine Go.by (T' := T9) (f' := (mkF m 48 #[.val (.ref bb), .val (.int ((Int32.ofNat ((cb + 1) + 1)) + (1 : Int32))), .val (.ref t2)] [(.int (Int32.ofNat ((cb + 1) + 1))), (.ref t2)])) (fun _ k => XS.iinc X9.here hx rfl (hb hby d_anull_45) rfl (l' := #[.val (.ref bb), .val (.int ((Int32.ofNat ((cb + 1) + 1)) + (1 : Int32))), .val (.ref t2)]) rfl k) ?_
  rw [show ((Int32.ofNat ((cb + 1) + 1)) + (1 : Int32)) = (Int32.ofNat (((cb + 1) + 1) + 1)) from own_add _ _]
  refine Go.by (T' := T9) (f' := (mkF m 50 #[.val (.ref bb), .val (.int (Int32.ofNat (((cb + 1) + 1) + 1))), .val (.ref t2)] [(.int (108 : Int32)), (.int (Int32.ofNat ((cb + 1) + 1))), (.ref t2)])) (fun _ k => XS.bipush X9.here hx rfl (hb hby d_anull_48) k) ?_
  obtain ⟨vf10, lf10, Vf10⟩ := own_full Vt2
  obtain ⟨cl10, Ar10, q10, S10, N10', H10, G10⟩ := id Vf10
  obtain ⟨T10, h10, X10, e10, W10, st10⟩ := stB X9 hx hZ e9 Ar10 (j := (Int32.ofNat ((cb + 1) + 1))) (inb_of S10 ⟨own_neg (by omega), (own_nlt (a := ((cb + 1) + 1)) (by omega) (by omega)).mpr (by omega)⟩) (g := (mkF m 50 #[.val (.ref bb), .val (.int (Int32.ofNat (((cb + 1) + 1) + 1))), .val (.ref t2)] [(.int (108 : Int32)), (.int (Int32.ofNat ((cb + 1) + 1))), (.ref t2)])) rfl rfl (hb hby d_anull_50)
  replace E_b := E_b.wr W10
  replace Gv2 := Gv2.other W10 (Or.inl nq8)
  replace Gc2 := Gc2.other W10 (Or.inl nq8)
  replace Gn2 := Gn2.other W10 (Or.inl nq8)
  replace Et2 := Et2.wr W10
  replace Vt2 := Arv.set Ar10 q10 S10 N10' H10 G10 (fits_nar_byte _) W10 (((cb + 1) + 1)) (own_nat (by omega)) (by rw [lf10, own_nat (by omega)]; omega)
  replace O := O.wr W10 g_t2
  replace K := K.wr W10 (io_t2)
  replace N := Fr.snoc X10 N g_t2
  refine Go.by (T' := T10) (f' := (mkF m 51 #[.val (.ref bb), .val (.int (Int32.ofNat (((cb + 1) + 1) + 1))), .val (.ref t2)] [])) (st10) ?_
  refine Go.by (T' := T10) (f' := (mkF m 52 #[.val (.ref bb), .val (.int (Int32.ofNat (((cb + 1) + 1) + 1))), .val (.ref t2)] [(.ref t2)])) (fun _ k => XS.aloadN X10.here hx rfl (hb hby d_anull_51) rfl rfl k) ?_
  refine Go.by (T' := T10) (f' := (mkF m 53 #[.val (.ref bb), .val (.int (Int32.ofNat (((cb + 1) + 1) + 1))), .val (.ref t2)] [(.int (Int32.ofNat (((cb + 1) + 1) + 1))), (.ref t2)])) (fun _ k => XS.iloadN X10.here hx rfl (hb hby d_anull_52) rfl k) ?_
  refine Go.by (T' := T10) (f' := (mkF m 56 #[.val (.ref bb), .val (.int ((Int32.ofNat (((cb + 1) + 1) + 1)) + (1 : Int32))), .val (.ref t2)] [(.int (Int32.ofNat (((cb + 1) + 1) + 1))), (.ref t2)])) (fun _ k => XS.iinc X10.here hx rfl (hb hby d_anull_53) rfl (l' := #[.val (.ref bb), .val (.int ((Int32.ofNat (((cb + 1) + 1) + 1)) + (1 : Int32))), .val (.ref t2)]) rfl k) ?_
  rw [show ((Int32.ofNat (((cb + 1) + 1) + 1)) + (1 : Int32)) = (Int32.ofNat ((((cb + 1) + 1) + 1) + 1)) from own_add _ _]
  refine Go.by (T' := T10) (f' := (mkF m 58 #[.val (.ref bb), .val (.int (Int32.ofNat ((((cb + 1) + 1) + 1) + 1))), .val (.ref t2)] [(.int (108 : Int32)), (.int (Int32.ofNat (((cb + 1) + 1) + 1))), (.ref t2)])) (fun _ k => XS.bipush X10.here hx rfl (hb hby d_anull_56) k) ?_
  obtain ⟨vf11, lf11, Vf11⟩ := own_full Vt2
  obtain ⟨cl11, Ar11, q11, S11, N11', H11, G11⟩ := id Vf11
  obtain ⟨T11, h11, X11, e11, W11, st11⟩ := stB X10 hx hZ e10 Ar11 (j := (Int32.ofNat (((cb + 1) + 1) + 1))) (inb_of S11 ⟨own_neg (by omega), (own_nlt (a := (((cb + 1) + 1) + 1)) (by omega) (by omega)).mpr (by omega)⟩) (g := (mkF m 58 #[.val (.ref bb), .val (.int (Int32.ofNat ((((cb + 1) + 1) + 1) + 1))), .val (.ref t2)] [(.int (108 : Int32)), (.int (Int32.ofNat (((cb + 1) + 1) + 1))), (.ref t2)])) rfl rfl (hb hby d_anull_58)
  replace E_b := E_b.wr W11
  replace Gv2 := Gv2.other W11 (Or.inl nq8)
  replace Gc2 := Gc2.other W11 (Or.inl nq8)
  replace Gn2 := Gn2.other W11 (Or.inl nq8)
  replace Et2 := Et2.wr W11
  replace Vt2 := Arv.set Ar11 q11 S11 N11' H11 G11 (fits_nar_byte _) W11 ((((cb + 1) + 1) + 1)) (own_nat (by omega)) (by rw [lf11, own_nat (by omega)]; omega)
  replace O := O.wr W11 g_t2
  replace K := K.wr W11 (io_t2)
  replace N := Fr.snoc X11 N g_t2
  refine Go.by (T' := T11) (f' := (mkF m 59 #[.val (.ref bb), .val (.int (Int32.ofNat ((((cb + 1) + 1) + 1) + 1))), .val (.ref t2)] [])) (st11) ?_
  refine Go.by (T' := T11) (f' := (mkF m 76 #[.val (.ref bb), .val (.int (Int32.ofNat ((((cb + 1) + 1) + 1) + 1))), .val (.ref t2)] [])) (fun _ k => XS.goto X11.here hx rfl (pc0 := 59) (pc' := 76) rfl (hb hby d_anull_59) (by decide) (by decide) k) ?_
  refine Go.by (T' := T11) (f' := (mkF m 77 #[.val (.ref bb), .val (.int (Int32.ofNat ((((cb + 1) + 1) + 1) + 1))), .val (.ref t2)] [(.ref bb)])) (fun _ k => XS.aloadN X11.here hx rfl (hb hby d_anull_76) rfl rfl k) ?_
  refine Go.by (T' := T11) (f' := (mkF m 78 #[.val (.ref bb), .val (.int (Int32.ofNat ((((cb + 1) + 1) + 1) + 1))), .val (.ref t2)] [(.int (Int32.ofNat ((((cb + 1) + 1) + 1) + 1))), (.ref bb)])) (fun _ k => XS.iloadN X11.here hx rfl (hb hby d_anull_77) rfl k) ?_
  obtain ⟨T12, h12, X12, e12, W12, st12⟩ := putF X11 hx hZ hown (host := "") (Or.inl (hw _ (List.mem_of_getElem? (i := 71) rfl))) Via.refl e11 Gn2 E_b (Or.inl (hw _ (List.mem_of_getElem? (i := 72) rfl))) (hw _ (List.mem_of_getElem? (i := 32) rfl)) (ty := .int) (by decide) rfl rfl (g := (mkF m 78 #[.val (.ref bb), .val (.int (Int32.ofNat ((((cb + 1) + 1) + 1) + 1))), .val (.ref t2)] [(.int (Int32.ofNat ((((cb + 1) + 1) + 1) + 1))), (.ref bb)])) rfl rfl (hb hby d_anull_78)
  replace E_b := E_b.wr W12
  replace Gv2 := Gv2.other W12 (Or.inr (slot_ne (Or.inl (hw _ (List.mem_of_getElem? (i := 46) rfl))) (Or.inl (hw _ (List.mem_of_getElem? (i := 72) rfl))) (by decide) (t := (.array .byte)) (t' := .int) (by decide) (by decide)))
  replace Gc2 := Gc2.other W12 (Or.inr (slot_ne (Or.inl (hw _ (List.mem_of_getElem? (i := 48) rfl))) (Or.inl (hw _ (List.mem_of_getElem? (i := 72) rfl))) (by decide) (t := .byte) (t' := .int) (by decide) (by decide)))
  replace Vt2 := Vt2.other W12 (Ne.symm nq8)
  replace Et2 := Et2.wr W12
  replace Gn2 := Gn2.same W12
  replace O := O.wr W12 g_bb
  replace K := K.wr W12 (Or.inl (by simp))
  replace N := Fr.snoc X12 N g_bb
  refine Go.by (T' := T12) (f' := (mkF m 81 #[.val (.ref bb), .val (.int (Int32.ofNat ((((cb + 1) + 1) + 1) + 1))), .val (.ref t2)] [])) (st12) ?_
  refine Go.by (T' := T12) (f' := (mkF m 82 #[.val (.ref bb), .val (.int (Int32.ofNat ((((cb + 1) + 1) + 1) + 1))), .val (.ref t2)] [(.ref bb)])) (fun _ k => XS.aloadN X12.here hx rfl (hb hby d_anull_81) rfl rfl k) ?_
  obtain ⟨fs, hr, hrun, hended, hW, hsame⟩ := X12.leave (v := some (.ref bb)) (fun h => by rw [Bd.returns] at h; cases h)
  refine ⟨_, _, retOut X12 hx Bd.returns rfl (Or.inr (Or.inr (Or.inr (Or.inr ⟨rfl, rfl, rfl⟩)))) (hb hby d_anull_82) hr, hrun, hended, _, _, rfl, ?_, ⟨_, rfl⟩, hW, hsame.mono (by decide) (by decide)⟩
  show Qb Z bb tb (some (.ref bb)) (cb + 4) (cb + 4) h0 n0 (some (.ref bb)) T12.heap _
  rw [e12]
  exact ⟨rfl, N, K, t2, _, L2_2, _, oo_t2, by omega, by omega, by omega, Gv2, Gc2, Gn2, Vt2, Et2⟩

theorem d_aan_0 : decode jdk_68_method_22_code 0 = .ok (.aload_n 1, 1) := by decide +kernel
theorem d_aan_1 : decode jdk_68_method_22_code 1 = .ok (.ifnonnull 8, 3) := by decide +kernel
theorem d_aan_4 : decode jdk_68_method_22_code 4 = .ok (.aload_n 0, 1) := by decide +kernel
theorem d_aan_5 : decode jdk_68_method_22_code 5 = .ok (.invokevirtual 204, 3) := by decide +kernel
theorem d_aan_8 : decode jdk_68_method_22_code 8 = .ok (.areturn, 1) := by decide +kernel
theorem pn_aan : plainFor (⟨"java/lang/AbstractStringBuilder", "append", "(Ljava/lang/String;)Ljava/lang/AbstractStringBuilder;"⟩ : MethodName) = true := plainFor_of_name (by first | (simp [plainName, overriddenIn]; done) | decide +kernel)
theorem pd_aan_0 : parseMethodDescriptor "()Ljava/lang/AbstractStringBuilder;" = some ⟨[], some (.object "java/lang/AbstractStringBuilder")⟩ := by decide +kernel
theorem ef_aan (m : MethodId) (x0 : Addr) : entryFrame m #[(.ref x0), .null] 3 = mkF m 0 #[.val (.ref x0), .val .null, .unset] [] := by first | (simp [entryFrame, mkF, argsToLocals, Value.category]; done) | rfl
set_option maxRecDepth 65536 in
set_option maxHeartbeats 40000000 in
theorem rm_aan (l : Launch) (Z : State) (a0 : Array Value) (hw : ∀ d ∈ tables_1, d.before a0 Z = true) (ws : List Jvm.Cond) (bb tb : Addr) (kt : ClassId) (Lb cb : Nat) (vt : List Value) (zc : Int32) (ls us ss : Addr) (hS0 : Sf Z zc ls us ss) (h0 : Heap) (n0 : Nat) (O : Old Z n0 h0) (E_b : Exa Z h0 bb "java/lang/StringBuilder") (Fv_b : Fld Z h0 bb "java/lang/AbstractStringBuilder" "value" "[B" (.ref tb)) (Fc_b : Fld Z h0 bb "java/lang/AbstractStringBuilder" "coder" "B" (.int 0)) (Fn_b : Fld Z h0 bb "java/lang/AbstractStringBuilder" "count" "I" (.int (Int32.ofNat cb))) (V_t : Arv Z h0 tb kt .byte (Int32.ofNat Lb) vt (.int 0)) (E_t : Exa Z h0 tb "[B") (g_bb : n0 ≤ bb) (g_tb : n0 ≤ tb) (hLb : Lb ≤ 300) (hLb2 : 16 ≤ Lb) (hcLb : cb ≤ Lb) (hcx : cb + 4 ≤ 150) :
    MetFree l (⟨"java/lang/AbstractStringBuilder", "append", "(Ljava/lang/String;)Ljava/lang/AbstractStringBuilder;"⟩ : MethodName) (head1 (Jvm.Cond.code (⟨"java/lang/AbstractStringBuilder", "append", "(Ljava/lang/String;)Ljava/lang/AbstractStringBuilder;"⟩ : MethodName) jdk_68_method_22_code 3 (some (.object "java/lang/AbstractStringBuilder")) :: ws) ({ frames := 5, cells := 1, slots := 300, locals := 76 } : Room)) (fun as_ U => as_ = #[(.ref bb), .null] ∧ Z.Warmed39 U.vm ∧ U.heap = h0) (fun _ _ _ _ _ => True) (fun _ U o U' => ∃ v L, o = .returned v ∧ Qb Z bb tb (some (.ref bb)) (cb + 4) (cb + 4) h0 n0 v U'.heap L ∧ FrameEnd U o U' L ({ frames := 5, cells := 1, slots := 300, locals := 76 } : Room).cells ({ frames := 5, cells := 1, slots := 300, locals := 76 } : Room).slots) := by
  refine MetFree.of_bodySF pn_aan hisR ?_
  intro p e s m args below meth c s₁ Bd hml0 hP hK
  obtain ⟨rfl, hZ, hh⟩ := hP
  have hx := Bd.exec
  have hby := Bd.bytes
  have hml : c.maxLocals = 3 := hml0
  have hown : s.vm.findClass "java/lang/AbstractStringBuilder" = some m.cls := findClass_of_methodNamed Bd.named
  have hnm := (name_of_methodNamed Bd.named Bd.method).1
  have X0 : Stand p l e ({ frames := 5, cells := 1, slots := 300, locals := 76 } : Room) s m #[(.ref bb), .null] below meth c s₁ [] 0 0 := Stand.of_body Bd
  have e0 : s₁.heap = h0 := by rw [← hh, Bd.state]; rfl
  have N := Fr.nil n0
  have K : Keep h0 h0 [bb, tb] := Keep.refl _ _
  refine Go.by (T' := s₁) (f' := (mkF m 0 #[.val (.ref bb), .val .null, .unset] [])) (fun _ k => castTop (ef_aan m bb) k) ?_
  refine Go.by (T' := s₁) (f' := (mkF m 1 #[.val (.ref bb), .val .null, .unset] [.null])) (fun _ k => XS.aloadN X0.here hx rfl (hb hby d_aan_0) rfl rfl k) ?_
  refine Go.by (T' := s₁) (f' := (mkF m 4 #[.val (.ref bb), .val .null, .unset] [])) (fun _ k => XS.ifnonnullNo X0.here hx rfl (hb hby d_aan_1) rfl k) ?_
  refine Go.by (T' := s₁) (f' := (mkF m 5 #[.val (.ref bb), .val .null, .unset] [(.ref bb)])) (fun _ k => XS.aloadN X0.here hx rfl (hb hby d_aan_4) rfl rfl k) ?_
  have hi1a : Lb ≤ 300 := by omega
  have hi1b : 16 ≤ Lb := by omega
  have hi1c : cb ≤ Lb := by omega
  have hv1 : cb + 4 ≤ 150 := by omega
  obtain ⟨cq1, q1, q1'⟩ := E_b.cell
  obtain ⟨v1, _, ⟨T1, L1, k1, n1⟩, -, X1, ⟨Lc1, hQ1, l1, y1, z1⟩, st1⟩ := X0.privateBack hx (y := (⟨"java/lang/AbstractStringBuilder", "appendNull", "()Ljava/lang/AbstractStringBuilder;"⟩ : MethodName)) hown (mvT hZ (hw _ (List.mem_of_getElem? (i := 274) rfl))) (mvT hZ (hw _ (List.mem_of_getElem? (i := 275) rfl))) (own_selp (mvT hZ (hw _ (List.mem_of_getElem? (i := 277) rfl))) (Cond.privateMethod_at (mvP hZ (hw _ (List.mem_of_getElem? (i := 276) rfl)) (args := #[]))) (mvT hZ (hw _ (List.mem_of_getElem? (i := 275) rfl))) (by decide)) (Cond.privateMethod_at (mvP hZ (hw _ (List.mem_of_getElem? (i := 276) rfl)) (args := #[]))) (mvT hZ (hw _ (List.mem_of_getElem? (i := 278) rfl))) (by decide) (backOf (W := 0) (rm_anull l Z a0 hw [] bb tb _ (Lb) (cb) _ zc ls us ss hS0 h0 n0 O E_b Fv_b Fc_b Fn_b V_t E_t g_bb g_tb hi1a hi1b hi1c hv1) hZ (hw _ (List.mem_of_getElem? (i := 278) rfl)) (hw _ (List.mem_of_getElem? (i := 41) rfl)) (by decide) (by decide)) (g := (mkF m 5 #[.val (.ref bb), .val .null, .unset] [(.ref bb)])) rfl (by rw [hml]; rfl) (Steps.refl _) (a := bb) (by rw [e0]; exact q1) q1' (argsL := []) (rest := []) (lenOf pd_aan_0 rfl) rfl (by show 2 * 0 + _ ≤ _; exact Nat.le_of_eq rfl) (hb hby d_aan_5) (fun _ _ => ⟨rfl, e0, (by decide : 0 + 1 ≤ _), (by decide : 0 + 300 ≤ _)⟩)
  dsimp only [Pt.U, Pt.locs, Pt.cells, Pt.slots] at X1 l1 y1 z1 st1 hQ1
  subst l1 y1 z1
  obtain ⟨rfl, Nq1, K1, t1, k21, L2_1, vs1, or1, hb11, hb12, hb13, Gv1, Gc1, Gn1, Vt1, Et1⟩ := hQ1
  replace N := Fr.app N Nq1
  have g_t1 : n0 ≤ t1 := own_or or1 g_tb (Old.le O)
  have io_t1 : t1 ∈ [bb, tb] ∨ h0.size ≤ t1 := own_orin or1 (Or.inl (by simp)) K.1
  have oo_t1 : t1 = tb ∨ h0.size ≤ t1 := or1
  replace E_b := E_b.keep K1
  replace E_t := E_t.keep K1
  replace O := O.keep K1 (allS g_bb (allS g_tb all0))
  replace K := K.trans K1 (allS (Or.inl (by simp)) (allS (Or.inl (by simp)) all0))
  refine Go.by (T' := T1) (f' := (mkF m 8 #[.val (.ref bb), .val .null, .unset] [(.ref bb)])) (fun _ k => st1.trans k) ?_
  obtain ⟨fs, hr, hrun, hended, hW, hsame⟩ := X1.leave (v := some (.ref bb)) (fun h => by rw [Bd.returns] at h; cases h)
  refine ⟨_, _, retOut X1 hx Bd.returns rfl (Or.inr (Or.inr (Or.inr (Or.inr ⟨rfl, rfl, rfl⟩)))) (hb hby d_aan_8) hr, hrun, hended, _, _, rfl, ?_, ⟨_, rfl⟩, hW, hsame.mono (by decide) (by decide)⟩
  show Qb Z bb tb (some (.ref bb)) (cb + 4) (cb + 4) h0 n0 (some (.ref bb)) T1.heap _
  exact ⟨rfl, N, K, t1, _, L2_1, _, oo_t1, by omega, by omega, by omega, Gv1, Gc1, Gn1, Vt1, Et1⟩

theorem d_san_0 : decode jdk_67_method_7_code 0 = .ok (.aload_n 0, 1) := by decide +kernel
theorem d_san_1 : decode jdk_67_method_7_code 1 = .ok (.aload_n 1, 1) := by decide +kernel
theorem d_san_2 : decode jdk_67_method_7_code 2 = .ok (.invokespecial 29, 3) := by decide +kernel
theorem d_san_5 : decode jdk_67_method_7_code 5 = .ok (.pop, 1) := by decide +kernel
theorem d_san_6 : decode jdk_67_method_7_code 6 = .ok (.aload_n 0, 1) := by decide +kernel
theorem d_san_7 : decode jdk_67_method_7_code 7 = .ok (.areturn, 1) := by decide +kernel
theorem pn_san : plainFor (⟨"java/lang/StringBuilder", "append", "(Ljava/lang/String;)Ljava/lang/StringBuilder;"⟩ : MethodName) = true := plainFor_of_name (by first | (simp [plainName, overriddenIn]; done) | decide +kernel)
theorem pd_san_0 : parseMethodDescriptor "(Ljava/lang/String;)Ljava/lang/AbstractStringBuilder;" = some ⟨[(.object "java/lang/String")], some (.object "java/lang/AbstractStringBuilder")⟩ := by decide +kernel
theorem ef_san (m : MethodId) (x0 : Addr) : entryFrame m #[(.ref x0), .null] 2 = mkF m 0 #[.val (.ref x0), .val .null] [] := by first | (simp [entryFrame, mkF, argsToLocals, Value.category]; done) | rfl
set_option maxRecDepth 65536 in
set_option maxHeartbeats 40000000 in
theorem rm_san (l : Launch) (Z : State) (a0 : Array Value) (hw : ∀ d ∈ tables_1, d.before a0 Z = true) (ws : List Jvm.Cond) (bb tb : Addr) (kt : ClassId) (Lb cb : Nat) (vt : List Value) (zc : Int32) (ls us ss : Addr) (hS0 : Sf Z zc ls us ss) (h0 : Heap) (n0 : Nat) (O : Old Z n0 h0) (E_b : Exa Z h0 bb "java/lang/StringBuilder") (Fv_b : Fld Z h0 bb "java/lang/AbstractStringBuilder" "value" "[B" (.ref tb)) (Fc_b : Fld Z h0 bb "java/lang/AbstractStringBuilder" "coder" "B" (.int 0)) (Fn_b : Fld Z h0 bb "java/lang/AbstractStringBuilder" "count" "I" (.int (Int32.ofNat cb))) (V_t : Arv Z h0 tb kt .byte (Int32.ofNat Lb) vt (.int 0)) (E_t : Exa Z h0 tb "[B") (g_bb : n0 ≤ bb) (g_tb : n0 ≤ tb) (hLb : Lb ≤ 300) (hLb2 : 16 ≤ Lb) (hcLb : cb ≤ Lb) (hcx : cb + 4 ≤ 150) :
    MetFree l (⟨"java/lang/StringBuilder", "append", "(Ljava/lang/String;)Ljava/lang/StringBuilder;"⟩ : MethodName) (head1 (Jvm.Cond.code (⟨"java/lang/StringBuilder", "append", "(Ljava/lang/String;)Ljava/lang/StringBuilder;"⟩ : MethodName) jdk_67_method_7_code 2 (some (.object "java/lang/StringBuilder")) :: ws) ({ frames := 6, cells := 1, slots := 300, locals := 90 } : Room)) (fun as_ U => as_ = #[(.ref bb), .null] ∧ Z.Warmed39 U.vm ∧ U.heap = h0) (fun _ _ _ _ _ => True) (fun _ U o U' => ∃ v L, o = .returned v ∧ Qb Z bb tb (some (.ref bb)) (cb + 4) (cb + 4) h0 n0 v U'.heap L ∧ FrameEnd U o U' L ({ frames := 6, cells := 1, slots := 300, locals := 90 } : Room).cells ({ frames := 6, cells := 1, slots := 300, locals := 90 } : Room).slots) := by
  refine MetFree.of_bodySF pn_san hisR ?_
  intro p e s m args below meth c s₁ Bd hml0 hP hK
  obtain ⟨rfl, hZ, hh⟩ := hP
  have hx := Bd.exec
  have hby := Bd.bytes
  have hml : c.maxLocals = 2 := hml0
  have hown : s.vm.findClass "java/lang/StringBuilder" = some m.cls := findClass_of_methodNamed Bd.named
  have hnm := (name_of_methodNamed Bd.named Bd.method).1
  have X0 : Stand p l e ({ frames := 6, cells := 1, slots := 300, locals := 90 } : Room) s m #[(.ref bb), .null] below meth c s₁ [] 0 0 := Stand.of_body Bd
  have e0 : s₁.heap = h0 := by rw [← hh, Bd.state]; rfl
  have N := Fr.nil n0
  have K : Keep h0 h0 [bb, tb] := Keep.refl _ _
  refine Go.by (T' := s₁) (f' := (mkF m 0 #[.val (.ref bb), .val .null] [])) (fun _ k => castTop (ef_san m bb) k) ?_
  refine Go.by (T' := s₁) (f' := (mkF m 1 #[.val (.ref bb), .val .null] [(.ref bb)])) (fun _ k => XS.aloadN X0.here hx rfl (hb hby d_san_0) rfl rfl k) ?_
  refine Go.by (T' := s₁) (f' := (mkF m 2 #[.val (.ref bb), .val .null] [.null, (.ref bb)])) (fun _ k => XS.aloadN X0.here hx rfl (hb hby d_san_1) rfl rfl k) ?_
  have hi1a : Lb ≤ 300 := by omega
  have hi1b : 16 ≤ Lb := by omega
  have hi1c : cb ≤ Lb := by omega
  have hv1 : cb + 4 ≤ 150 := by omega
  obtain ⟨v1, _, ⟨T1, L1, k1, n1⟩, -, X1, ⟨Lc1, hQ1, l1, y1, z1⟩, st1⟩ := superBack X0 hx hZ (y := (⟨"java/lang/AbstractStringBuilder", "append", "(Ljava/lang/String;)Ljava/lang/AbstractStringBuilder;"⟩ : MethodName)) hown (hw _ (List.mem_of_getElem? (i := 55) rfl)) (own_same (y := (⟨"java/lang/AbstractStringBuilder", "append", "(Ljava/lang/String;)Ljava/lang/AbstractStringBuilder;"⟩ : MethodName)) (hw _ (List.mem_of_getElem? (i := 76) rfl)) rfl (hw _ (List.mem_of_getElem? (i := 56) rfl)) (by decide)) (hw _ (List.mem_of_getElem? (i := 56) rfl)) (hw _ (List.mem_of_getElem? (i := 57) rfl)) (by decide) (backOf (W := 0) (rm_aan l Z a0 hw [] bb tb _ (Lb) (cb) _ zc ls us ss hS0 h0 n0 O E_b Fv_b Fc_b Fn_b V_t E_t g_bb g_tb hi1a hi1b hi1c hv1) hZ (hw _ (List.mem_of_getElem? (i := 59) rfl)) (hw _ (List.mem_of_getElem? (i := 41) rfl)) (by decide) (by decide)) e0 (Ins.self E_b) (g := (mkF m 2 #[.val (.ref bb), .val .null] [.null, (.ref bb)])) rfl (by rw [hml]; rfl) (hw _ (List.mem_of_getElem? (i := 59) rfl)) (argsL := [.null]) (rest := []) (lenOf pd_san_0 rfl) rfl (by show 2 * 0 + _ ≤ _; exact Nat.le_of_eq rfl) (hb hby d_san_2) (fun _ _ => ⟨rfl, e0, (by decide : 0 + 1 ≤ _), (by decide : 0 + 300 ≤ _)⟩)
  dsimp only [Pt.U, Pt.locs, Pt.cells, Pt.slots] at X1 l1 y1 z1 st1 hQ1
  subst l1 y1 z1
  obtain ⟨rfl, Nq1, K1, t1, k21, L2_1, vs1, or1, hb11, hb12, hb13, Gv1, Gc1, Gn1, Vt1, Et1⟩ := hQ1
  replace N := Fr.app N Nq1
  have g_t1 : n0 ≤ t1 := own_or or1 g_tb (Old.le O)
  have io_t1 : t1 ∈ [bb, tb] ∨ h0.size ≤ t1 := own_orin or1 (Or.inl (by simp)) K.1
  have oo_t1 : t1 = tb ∨ h0.size ≤ t1 := or1
  replace E_b := E_b.keep K1
  replace E_t := E_t.keep K1
  replace O := O.keep K1 (allS g_bb (allS g_tb all0))
  replace K := K.trans K1 (allS (Or.inl (by simp)) (allS (Or.inl (by simp)) all0))
  refine Go.by (T' := T1) (f' := (mkF m 5 #[.val (.ref bb), .val .null] [(.ref bb)])) (fun _ k => st1.trans k) ?_
  refine Go.by (T' := T1) (f' := (mkF m 6 #[.val (.ref bb), .val .null] [])) (fun _ k => XS.pop X1.here hx rfl (hb hby d_san_5) rfl rfl k) ?_
  refine Go.by (T' := T1) (f' := (mkF m 7 #[.val (.ref bb), .val .null] [(.ref bb)])) (fun _ k => XS.aloadN X1.here hx rfl (hb hby d_san_6) rfl rfl k) ?_
  obtain ⟨fs, hr, hrun, hended, hW, hsame⟩ := X1.leave (v := some (.ref bb)) (fun h => by rw [Bd.returns] at h; cases h)
  refine ⟨_, _, retOut X1 hx Bd.returns rfl (Or.inr (Or.inr (Or.inr (Or.inr ⟨rfl, rfl, rfl⟩)))) (hb hby d_san_7) hr, hrun, hended, _, _, rfl, ?_, ⟨_, rfl⟩, hW, hsame.mono (by decide) (by decide)⟩
  show Qb Z bb tb (some (.ref bb)) (cb + 4) (cb + 4) h0 n0 (some (.ref bb)) T1.heap _
  exact ⟨rfl, N, K, t1, _, L2_1, _, oo_t1, by omega, by omega, by omega, Gv1, Gc1, Gn1, Vt1, Et1⟩

open Jvm.Free.SBG in
def own_iw : List Cond := [.code GetChars.gcN GetChars.gcB 7 (some .int), .fieldLink "java/lang/Integer" 83 "java/lang/Integer" "DigitOnes" "[B", .fieldLink "java/lang/Integer" 87 "java/lang/Integer" "DigitTens" "[B", .initialized "java/lang/Integer", .code StrSize.ssN StrSize.ssB 4 (some .int)]
theorem own_iw_in : ∀ d ∈ own_iw, d ∈ tables_1 := by decide +kernel
section OwnInt
variable {l : Launch} {R : Room} {p : Program} {e : Env} {below : List Frame} {s Z : State} {args a0 : Array Value} {W : Nat} {h : Heap} {n0 : Nat}
open Jvm.Free.SBG in
theorem own_ss (hw : ∀ d ∈ tables_1, d.before a0 Z = true) (hZ : Z.Warmed39 s.vm) (hfr : 2 ≤ R.frames) (hlo : W + 55 ≤ R.locals) (x : Int32) (n : Nat) (hn : n ≤ 2 ^ 31) (hx : (if x < 0 then x else -x) = negI n) :
    Back l R p e below s args StrSize.ssN 3 W (fun A a => a = #[.int x] ∧ A.U.heap = h ∧ A.cells + 0 ≤ R.cells ∧ A.slots + 0 ≤ R.slots) (fun A _ v B => ∃ L, Qpure (some (.int (Int32.ofNat (Jvm.Free.SBG.digits n + GetChars.sgn x)))) h n0 v B.U.heap L ∧ B.locs = A.locs ++ L ∧ B.cells = A.cells + 0 ∧ B.slots = A.slots + 0) := fun m meth c A g ig mk a X hg hs hd hW hk hp => by
  have w1 : (Cond.code StrSize.ssN StrSize.ssB 4 (some .int)).before a0 Z = true := hw _ (own_iw_in _ (by simp [own_iw]))
  have w2 : (Cond.initialized "java/lang/Integer").before a0 Z = true := hw _ (own_iw_in _ (by simp [own_iw]))
  obtain ⟨rfl, hh, h1, h2⟩ := hp
  obtain ⟨v, B, X', ⟨⟨q1, q2, q3, q4⟩, q5⟩, st⟩ := StrSize.pays (W := W) hfr hlo (show StrSize.tab.before args s = true from mvT hZ w1) (mvT hZ w2) m meth c A g ig mk _ X hg hs hd hW hk ⟨h1, h2, x, rfl⟩
  refine ⟨v, B, X', ⟨[], ⟨?_, Fr.nil _, q1.trans hh⟩, by rw [q2, List.append_nil], q3, q4⟩, st⟩
  rw [q5 x rfl, strSizeOf_eq hn hx]
def Fb (c : Cell) : Prop := ∀ (i : Nat) (v : Value), c.slots[i]? = some v → fits .byte v = true
open Jvm.Free.SBG in
theorem Fb.put {c : Cell} (F : Fb c) (pos : Nat) (x : Int32) : Fb (put c pos x) := fun i v hv => by
  by_cases q : pos = i
  · subst q
    have hs : (c.slots.setIfInBounds pos (.int x.toInt8.toInt32))[pos]? = some v := hv
    by_cases hb : pos < c.slots.size
    · rw [Array.getElem?_setIfInBounds_self_of_lt hb] at hs; cases hs; exact fits_nar_byte _
    · rw [Array.getElem?_eq_none (by rw [Array.size_setIfInBounds]; omega)] at hs; cases hs
  · have hs : (c.slots.setIfInBounds pos (.int x.toInt8.toInt32))[i]? = some v := hv
    rw [Array.getElem?_setIfInBounds_ne q] at hs; exact F i v hs
open Jvm.Free.SBG in
theorem Fb.dig (D1 D2 : Cell) : ∀ (f : Nat) (A : Cell) (n pos : Nat), Fb A → Fb (digLoop D1 D2 f A n pos).1 := fun f => by
  induction f with
  | zero => intro A n pos F; exact F
  | succ f ih =>
    intro A n pos F
    simp only [digLoop]
    split
    · exact ih _ _ _ ((F.put _ _).put _ _)
    · split
      · exact (F.put _ _).put _ _
      · exact F.put _ _
open Jvm.Free.SBG in
theorem own_out (g : GetChars.G) (F : Fb g.A) : Fb (GetChars.outCell g) ∧ (GetChars.outCell g).cls = g.A.cls ∧ (GetChars.outCell g).vm = g.A.vm ∧ (GetChars.outCell g).slots.size = g.A.slots.size := by
  obtain ⟨a, b, c, -⟩ := digLoop_facts g.D1 g.D2 5 g.A g.n g.idx
  unfold GetChars.outCell
  split
  · exact ⟨(Fb.dig _ _ _ _ _ _ F).put _ _, a, b, (put_facts _ _ _).2.2.trans c⟩
  · exact ⟨Fb.dig _ _ _ _ _ _ F, a, b, c⟩
theorem own_arv {t : Addr} {c c' : Cell} {k : ClassId} {z : Int32} {h' : Heap} (A : Arr Z h t c .byte) (q : c.cls = k) (S : c.slots.size = z.toNatClampNeg) (nz : ¬ z < 0) (hc : h'[t]? = some c') (F : Fb c') (e1 : c'.cls = c.cls) (e2 : c'.vm = c.vm) (e3 : c'.slots.size = c.slots.size) : ∃ vs, Arv Z h' t k .byte z vs (.int 0) := by
  obtain ⟨a1, ⟨b1, kk, b2, comp, b3⟩, a3⟩ := A
  have hg : ∀ i, i < c'.slots.size → c'.slots[i]? = some (c'.slots.toList.getD i (.int 0)) := fun i hi => by
    simp [List.getD_eq_getElem?_getD, hi]
  exact ⟨c'.slots.toList, c', ⟨hc, ⟨by rw [e2]; exact b1, kk, by rw [e1]; exact b2, comp, b3⟩, by rw [e2]; exact a3⟩, e1.trans q, e3.trans S, nz, hg, fun i hi => F i _ (hg i hi)⟩
def Qg (Z : State) (t : Addr) (L : Nat) (h0 : Heap) (n0 : Nat) (v : Option Value) (h : Heap) (Lc : List Loc) : Prop := ∃ z : Int32, v = some (.int z) ∧ Fr n0 Lc ∧ Keep h0 h [t] ∧ ∃ (k' : ClassId) (vs' : List Value), Arv Z h t k' .byte (Int32.ofNat L) vs' (.int 0)
open Jvm.Free.SBG in
theorem own_gc (hw : ∀ d ∈ tables_1, d.before a0 Z = true) (hZ : Z.Warmed39 s.vm) (O : Old Z n0 h) (hfr : 2 ≤ R.frames) (hlo : W + 78 ≤ R.locals) (x : Int32) (n : Nat) (hn : n ≤ 2 ^ 31) (hx : (if x < 0 then x else -x) = negI n) {t : Addr} {k : ClassId} {L idx : Nat} {vs : List Value} (V : Arv Z h t k .byte (Int32.ofNat L) vs (.int 0)) (ge : n0 ≤ t) (hL : L < 2147483648) (hi : idx ≤ L) (hd : Jvm.Free.SBG.digits n + GetChars.sgn x ≤ idx)
    {st d1 d2 : Addr} {D1 D2 : Cell} (T1 : Tbl Z "DigitOnes" st d1 D1) (T2 : Tbl Z "DigitTens" st d2 D2) :
    Back l R p e below s args GetChars.gcN 3 W (fun A a => a = #[.int x, .int (Int32.ofNat idx), .ref t] ∧ A.U.heap = h ∧ A.cells + 0 ≤ R.cells ∧ A.slots + 0 ≤ R.slots) (fun A _ v B => ∃ Lc, Qg Z t L h n0 v B.U.heap Lc ∧ B.locs = A.locs ++ Lc ∧ B.cells = A.cells + 0 ∧ B.slots = A.slots + 0) := fun m meth c A g ig mk a X hg hs hd' hW hk hp => by
  have w1 : (Cond.code GetChars.gcN GetChars.gcB 7 (some .int)).before a0 Z = true := hw _ (own_iw_in _ (by simp [own_iw]))
  have w2 : (Cond.fieldLink "java/lang/Integer" 83 "java/lang/Integer" "DigitOnes" "[B").before a0 Z = true := hw _ (own_iw_in _ (by simp [own_iw]))
  have w3 : (Cond.fieldLink "java/lang/Integer" 87 "java/lang/Integer" "DigitTens" "[B").before a0 Z = true := hw _ (own_iw_in _ (by simp [own_iw]))
  have w4 : (Cond.initialized "java/lang/Integer").before a0 Z = true := hw _ (own_iw_in _ (by simp [own_iw]))
  obtain ⟨rfl, hh, h1, h2⟩ := hp
  obtain ⟨cl, Ar, q, S, nz, Hs, G⟩ := V
  have hsz : cl.slots.size = L := by rw [S, own_nat hL]
  have F : Fb cl := fun i v hv => by
    obtain ⟨hi, -⟩ := Array.getElem?_eq_some_iff.mp hv
    rw [Hs i hi] at hv; cases hv; exact G i hi
  have hal : Z.vm.Alike A.U.vm := (wtrans hZ X.warmed).alike
  have old : ∀ {y : Addr} {cy : Cell}, Z.heap[y]? = some cy → A.U.heap[y]? = some cy := fun {y cy} q => by rw [hh]; exact O.2.2 _ _ q
  have lt : ∀ {y : Addr} {cy : Cell}, Z.heap[y]? = some cy → t ≠ y := fun {y cy} q => by
    have h1 := (Array.getElem?_eq_some_iff.mp q).1
    intro e
    rw [O.1, ← e] at h1
    exact absurd h1 (Nat.not_lt.mpr ge)
  obtain ⟨-, -, -, -, cs, -, -, -, -, t5, -, -, t8, -⟩ := id T1
  obtain ⟨-, -, -, -, -, -, -, -, -, -, -, -, u8, -⟩ := id T2
  obtain ⟨v, B, X', ⟨p1, p2, p3, p4, p5, p6, Lc, p7, p8⟩, stp⟩ := GetChars.pays (W := W) { x := x, n := n, idx := idx, da := t, A := cl, st := st, d1 := d1, D1 := D1, d2 := d2, D2 := D2 }
    (by simp only [GetChars.tab, Cond.before_and, Bool.and_eq_true]; exact ⟨mvT hZ w1, mvT hZ w2, mvT hZ w3⟩) (mvT hZ w4) hfr hlo m meth c A g ig mk _ X hg hs hd' hW hk
    ⟨rfl, h1, h2, rfl, by rw [hh]; exact Ar.1, State.isArrayOf_alike hal Ar.2.1, Ar.2.2, by show cl.slots.size < _; omega, by show idx ≤ cl.slots.size; omega, hd, hn, hx, T1.move hal (fun c q => old q) (old t8), T2.move hal (fun c q => old q) (old u8), lt t5, lt t8, lt u8⟩
  obtain ⟨F', f1, f2, f3⟩ := own_out { x := x, n := n, idx := idx, da := t, A := cl, st := st, d1 := d1, D1 := D1, d2 := d2, D2 := D2 } F
  obtain ⟨vs', V'⟩ := own_arv Ar q S nz p2 F' f1 f2 f3
  refine ⟨v, B, X', ⟨Lc, ⟨_, p1, fun y hy => by rw [p8 y hy]; exact ge, ⟨by rw [p5, hh]; exact Nat.le_refl _, fun y cy r z => p6 y cy (fun e => z (by rw [e]; simp)) (by rw [hh]; exact r), fun y cy r => ?_⟩, k, vs', V'⟩, p7, p3, p4⟩, stp⟩
  by_cases e : y = t
  · subst e
    cases Ar.1.symm.trans r
    exact ⟨_, p2, f1, f2, f3⟩
  · exact ⟨cy, p6 y cy e (by rw [hh]; exact r), rfl, rfl, rfl⟩
end OwnInt
theorem d_aai_0 : decode jdk_68_method_32_code 0 = .ok (.aload_n 0, 1) := by decide +kernel
theorem d_aai_1 : decode jdk_68_method_32_code 1 = .ok (.getfield 79, 3) := by decide +kernel
theorem d_aai_4 : decode jdk_68_method_32_code 4 = .ok (.istore_n 2, 1) := by decide +kernel
theorem d_aai_5 : decode jdk_68_method_32_code 5 = .ok (.iload_n 2, 1) := by decide +kernel
theorem d_aai_6 : decode jdk_68_method_32_code 6 = .ok (.iload_n 1, 1) := by decide +kernel
theorem d_aai_7 : decode jdk_68_method_32_code 7 = .ok (.invokestatic 245, 3) := by decide +kernel
theorem d_aai_10 : decode jdk_68_method_32_code 10 = .ok (.iadd, 1) := by decide +kernel
theorem d_aai_11 : decode jdk_68_method_32_code 11 = .ok (.istore_n 3, 1) := by decide +kernel
theorem d_aai_12 : decode jdk_68_method_32_code 12 = .ok (.aload_n 0, 1) := by decide +kernel
theorem d_aai_13 : decode jdk_68_method_32_code 13 = .ok (.iload_n 3, 1) := by decide +kernel
theorem d_aai_14 : decode jdk_68_method_32_code 14 = .ok (.invokevirtual 100, 3) := by decide +kernel
theorem d_aai_17 : decode jdk_68_method_32_code 17 = .ok (.aload_n 0, 1) := by decide +kernel
theorem d_aai_18 : decode jdk_68_method_32_code 18 = .ok (.invokevirtual 83, 3) := by decide +kernel
theorem d_aai_21 : decode jdk_68_method_32_code 21 = .ok (.ifCond .eq 16, 3) := by decide +kernel
theorem d_aai_24 : decode jdk_68_method_32_code 24 = .ok (.iload_n 1, 1) := by decide +kernel
theorem d_aai_25 : decode jdk_68_method_32_code 25 = .ok (.iload_n 3, 1) := by decide +kernel
theorem d_aai_26 : decode jdk_68_method_32_code 26 = .ok (.aload_n 0, 1) := by decide +kernel
theorem d_aai_27 : decode jdk_68_method_32_code 27 = .ok (.getfield 15, 3) := by decide +kernel
theorem d_aai_30 : decode jdk_68_method_32_code 30 = .ok (.invokestatic 248, 3) := by decide +kernel
theorem d_aai_33 : decode jdk_68_method_32_code 33 = .ok (.pop, 1) := by decide +kernel
theorem d_aai_34 : decode jdk_68_method_32_code 34 = .ok (.goto 14, 3) := by decide +kernel
theorem d_aai_48 : decode jdk_68_method_32_code 48 = .ok (.aload_n 0, 1) := by decide +kernel
theorem d_aai_49 : decode jdk_68_method_32_code 49 = .ok (.iload_n 3, 1) := by decide +kernel
theorem d_aai_50 : decode jdk_68_method_32_code 50 = .ok (.putfield 79, 3) := by decide +kernel
theorem d_aai_53 : decode jdk_68_method_32_code 53 = .ok (.aload_n 0, 1) := by decide +kernel
theorem d_aai_54 : decode jdk_68_method_32_code 54 = .ok (.areturn, 1) := by decide +kernel
theorem pn_aai : plainFor (⟨"java/lang/AbstractStringBuilder", "append", "(I)Ljava/lang/AbstractStringBuilder;"⟩ : MethodName) = true := plainFor_of_name (by first | (simp [plainName, overriddenIn]; done) | decide +kernel)
theorem pd_aai_0 : parseMethodDescriptor "(I)I" = some ⟨[.int], some .int⟩ := by decide +kernel
theorem pd_aai_1 : parseMethodDescriptor "(I)V" = some ⟨[.int], none⟩ := by decide +kernel
theorem pd_aai_2 : parseMethodDescriptor "()Z" = some ⟨[], some .boolean⟩ := by decide +kernel
theorem pd_aai_3 : parseMethodDescriptor "(II[B)I" = some ⟨[.int, .int, (.array .byte)], some .int⟩ := by decide +kernel
theorem ef_aai (m : MethodId) (x0 : Addr) (x1 : Int32) : entryFrame m #[(.ref x0), (.int x1)] 4 = mkF m 0 #[.val (.ref x0), .val (.int x1), .unset, .unset] [] := by first | (simp [entryFrame, mkF, argsToLocals, Value.category]; done) | rfl
set_option maxRecDepth 65536 in
set_option maxHeartbeats 40000000 in
theorem rm_aai (l : Launch) (Z : State) (a0 : Array Value) (hw : ∀ d ∈ tables_1, d.before a0 Z = true) (ws : List Jvm.Cond) (bb tb : Addr) (kt : ClassId) (Lb cb : Nat) (vt : List Value) (vi : Int32) (ni : Nat) (sti d1 d2 : Addr) (D1 D2 : Cell) (zc : Int32) (ls us ss : Addr) (hS0 : Sf Z zc ls us ss) (h0 : Heap) (n0 : Nat) (O : Old Z n0 h0) (E_b : Exa Z h0 bb "java/lang/StringBuilder") (Fv_b : Fld Z h0 bb "java/lang/AbstractStringBuilder" "value" "[B" (.ref tb)) (Fc_b : Fld Z h0 bb "java/lang/AbstractStringBuilder" "coder" "B" (.int 0)) (Fn_b : Fld Z h0 bb "java/lang/AbstractStringBuilder" "count" "I" (.int (Int32.ofNat cb))) (V_t : Arv Z h0 tb kt .byte (Int32.ofNat Lb) vt (.int 0)) (E_t : Exa Z h0 tb "[B") (g_bb : n0 ≤ bb) (g_tb : n0 ≤ tb) (hLb : Lb ≤ 300) (hLb2 : 16 ≤ Lb) (hcLb : cb ≤ Lb) (hni : ni ≤ 2 ^ 31) (hvi : (if vi < 0 then vi else -vi) = Jvm.Free.SBG.negI ni) (Tb1 : Jvm.Free.SBG.Tbl Z "DigitOnes" sti d1 D1) (Tb2 : Jvm.Free.SBG.Tbl Z "DigitTens" sti d2 D2) (hcx : cb + 11 ≤ 150) :
    MetFree l (⟨"java/lang/AbstractStringBuilder", "append", "(I)Ljava/lang/AbstractStringBuilder;"⟩ : MethodName) (head1 (Jvm.Cond.code (⟨"java/lang/AbstractStringBuilder", "append", "(I)Ljava/lang/AbstractStringBuilder;"⟩ : MethodName) jdk_68_method_32_code 4 (some (.object "java/lang/AbstractStringBuilder")) :: ws) ({ frames := 4, cells := 1, slots := 300, locals := 78 } : Room)) (fun as_ U => as_ = #[(.ref bb), (.int vi)] ∧ Z.Warmed39 U.vm ∧ U.heap = h0) (fun _ _ _ _ _ => True) (fun _ U o U' => ∃ v L, o = .returned v ∧ Qb Z bb tb (some (.ref bb)) (cb + (Jvm.Free.SBG.digits ni + Jvm.Free.SBG.GetChars.sgn vi)) (cb + (Jvm.Free.SBG.digits ni + Jvm.Free.SBG.GetChars.sgn vi)) h0 n0 v U'.heap L ∧ FrameEnd U o U' L ({ frames := 4, cells := 1, slots := 300, locals := 78 } : Room).cells ({ frames := 4, cells := 1, slots := 300, locals := 78 } : Room).slots) := by
  refine MetFree.of_bodySF pn_aai hisR ?_
  intro p e s m args below meth c s₁ Bd hml0 hP hK
  obtain ⟨rfl, hZ, hh⟩ := hP
  have hx := Bd.exec
  have hby := Bd.bytes
  have hml : c.maxLocals = 4 := hml0
  have hown : s.vm.findClass "java/lang/AbstractStringBuilder" = some m.cls := findClass_of_methodNamed Bd.named
  have hnm := (name_of_methodNamed Bd.named Bd.method).1
  have X0 : Stand p l e ({ frames := 4, cells := 1, slots := 300, locals := 78 } : Room) s m #[(.ref bb), (.int vi)] below meth c s₁ [] 0 0 := Stand.of_body Bd
  have e0 : s₁.heap = h0 := by rw [← hh, Bd.state]; rfl
  have N := Fr.nil n0
  have K : Keep h0 h0 [bb, tb] := Keep.refl _ _
  refine Go.by (T' := s₁) (f' := (mkF m 0 #[.val (.ref bb), .val (.int vi), .unset, .unset] [])) (fun _ k => castTop (ef_aai m bb vi) k) ?_
  obtain ⟨dg, hdg⟩ : ∃ d, d = Jvm.Free.SBG.digits ni + Jvm.Free.SBG.GetChars.sgn vi := ⟨_, rfl⟩
  have hdg2 : 1 ≤ dg ∧ dg ≤ 11 := by
    have q := Jvm.Free.SBG.digits_pos ni
    have q2 : Jvm.Free.SBG.GetChars.sgn vi ≤ 1 := by unfold Jvm.Free.SBG.GetChars.sgn; split <;> omega
    omega
  refine Go.by (T' := s₁) (f' := (mkF m 1 #[.val (.ref bb), .val (.int vi), .unset, .unset] [(.ref bb)])) (fun _ k => XS.aloadN X0.here hx rfl (hb hby d_aai_0) rfl rfl k) ?_
  obtain ⟨T1, X1, e1, st1⟩ := getF X0 hx hZ hown (host := "") (Or.inl (hw _ (List.mem_of_getElem? (i := 71) rfl))) Via.refl e0 Fn_b (g := (mkF m 1 #[.val (.ref bb), .val (.int vi), .unset, .unset] [(.ref bb)])) rfl rfl (hb hby d_aai_1)
  refine Go.by (T' := T1) (f' := (mkF m 4 #[.val (.ref bb), .val (.int vi), .unset, .unset] [(.int (Int32.ofNat cb))])) (st1) ?_
  refine Go.by (T' := T1) (f' := (mkF m 5 #[.val (.ref bb), .val (.int vi), .val (.int (Int32.ofNat cb)), .unset] [])) (fun _ k => XS.istoreN X1.here hx rfl (hb hby d_aai_4) rfl (l' := #[.val (.ref bb), .val (.int vi), .val (.int (Int32.ofNat cb)), .unset]) rfl k) ?_
  refine Go.by (T' := T1) (f' := (mkF m 6 #[.val (.ref bb), .val (.int vi), .val (.int (Int32.ofNat cb)), .unset] [(.int (Int32.ofNat cb))])) (fun _ k => XS.iloadN X1.here hx rfl (hb hby d_aai_5) rfl k) ?_
  refine Go.by (T' := T1) (f' := (mkF m 7 #[.val (.ref bb), .val (.int vi), .val (.int (Int32.ofNat cb)), .unset] [(.int vi), (.int (Int32.ofNat cb))])) (fun _ k => XS.iloadN X1.here hx rfl (hb hby d_aai_6) rfl k) ?_
  obtain ⟨v2, _, ⟨T2, L2, k2, n2⟩, -, X2, ⟨Lc2, hQ2, l2, y2, z2⟩, st2⟩ := Jvm.LawKit.callS X1 hx (y := (⟨"java/lang/Integer", "stringSize", "(I)I"⟩ : MethodName)) hown (mvT hZ (hw _ (List.mem_of_getElem? (i := 111) rfl))) (mvT hZ (hw _ (List.mem_of_getElem? (i := 112) rfl))) (mvT hZ (hw _ (List.mem_of_getElem? (i := 113) rfl))) (mvT hZ (hw _ (List.mem_of_getElem? (i := 114) rfl))) (by decide) (own_ss (W := 1) (h := h0) (n0 := n0) hw hZ (by decide) (by decide) vi ni hni hvi) (g := (mkF m 7 #[.val (.ref bb), .val (.int vi), .val (.int (Int32.ofNat cb)), .unset] [(.int vi), (.int (Int32.ofNat cb))])) rfl (by rw [hml]; rfl) (argsL := [(.int vi)]) (rest := [(.int (Int32.ofNat cb))]) (lenOf pd_aai_0 rfl) rfl (by show 2 * 0 + _ ≤ _; exact Nat.le_of_eq rfl) (hb hby d_aai_7) (fun _ _ => ⟨rfl, e1, (by decide : 0 + 0 ≤ _), (by decide : 0 + 0 ≤ _)⟩)
  dsimp only [Pt.U, Pt.locs, Pt.cells, Pt.slots] at X2 l2 y2 z2 st2 hQ2
  subst l2 y2 z2
  rw [← hdg] at hQ2
  obtain ⟨rfl, Nq2, e2⟩ := hQ2
  replace N := Fr.app N Nq2
  refine Go.by (T' := T2) (f' := (mkF m 10 #[.val (.ref bb), .val (.int vi), .val (.int (Int32.ofNat cb)), .unset] [(.int (Int32.ofNat dg)), (.int (Int32.ofNat cb))])) (st2) ?_
  refine Go.by (T' := T2) (f' := (mkF m 11 #[.val (.ref bb), .val (.int vi), .val (.int (Int32.ofNat cb)), .unset] [(.int ((Int32.ofNat cb) + (Int32.ofNat dg)))])) (fun _ k => XS.iadd X2.here hx rfl (hb hby d_aai_10) rfl k) ?_
  rw [show ((Int32.ofNat cb) + (Int32.ofNat dg)) = (Int32.ofNat (cb + dg)) from own_add _ _]
  refine Go.by (T' := T2) (f' := (mkF m 12 #[.val (.ref bb), .val (.int vi), .val (.int (Int32.ofNat cb)), .val (.int (Int32.ofNat (cb + dg)))] [])) (fun _ k => XS.istoreN X2.here hx rfl (hb hby d_aai_11) rfl (l' := #[.val (.ref bb), .val (.int vi), .val (.int (Int32.ofNat cb)), .val (.int (Int32.ofNat (cb + dg)))]) rfl k) ?_
  refine Go.by (T' := T2) (f' := (mkF m 13 #[.val (.ref bb), .val (.int vi), .val (.int (Int32.ofNat cb)), .val (.int (Int32.ofNat (cb + dg)))] [(.ref bb)])) (fun _ k => XS.aloadN X2.here hx rfl (hb hby d_aai_12) rfl rfl k) ?_
  refine Go.by (T' := T2) (f' := (mkF m 14 #[.val (.ref bb), .val (.int vi), .val (.int (Int32.ofNat cb)), .val (.int (Int32.ofNat (cb + dg)))] [(.int (Int32.ofNat (cb + dg))), (.ref bb)])) (fun _ k => XS.iloadN X2.here hx rfl (hb hby d_aai_13) rfl k) ?_
  have hi3a : Lb ≤ 300 := by omega
  have hi3b : 16 ≤ Lb := by omega
  have hi3c : cb ≤ Lb := by omega
  have hj3a : (cb + dg) ≤ 150 := by omega
  obtain ⟨cq3, q3, q3'⟩ := E_b.cell
  obtain ⟨v3, _, ⟨T3, L3, k3, n3⟩, -, X3, ⟨Lc3, hQ3, l3, y3, z3⟩, st3⟩ := X2.privateBack hx (y := (⟨"java/lang/AbstractStringBuilder", "ensureCapacityInternal", "(I)V"⟩ : MethodName)) hown (mvT hZ (hw _ (List.mem_of_getElem? (i := 73) rfl))) (mvT hZ (hw _ (List.mem_of_getElem? (i := 74) rfl))) (own_selp (mvT hZ (hw _ (List.mem_of_getElem? (i := 76) rfl))) (Cond.privateMethod_at (mvP hZ (hw _ (List.mem_of_getElem? (i := 75) rfl)) (args := #[]))) (mvT hZ (hw _ (List.mem_of_getElem? (i := 74) rfl))) (by decide)) (Cond.privateMethod_at (mvP hZ (hw _ (List.mem_of_getElem? (i := 75) rfl)) (args := #[]))) (mvT hZ (hw _ (List.mem_of_getElem? (i := 77) rfl))) (by decide) (backOf (W := 0) (rm_ensure l Z a0 hw [] bb tb _ (Lb) (cb) _ ((cb + dg)) h0 n0 O E_b Fv_b Fc_b Fn_b V_t E_t g_bb g_tb hi3a hi3b hi3c hj3a) hZ (hw _ (List.mem_of_getElem? (i := 77) rfl)) (hw _ (List.mem_of_getElem? (i := 41) rfl)) (by decide) (by decide)) (g := (mkF m 14 #[.val (.ref bb), .val (.int vi), .val (.int (Int32.ofNat cb)), .val (.int (Int32.ofNat (cb + dg)))] [(.int (Int32.ofNat (cb + dg))), (.ref bb)])) rfl (by rw [hml]; rfl) (Steps.refl _) (a := bb) (by rw [e2]; exact q3) q3' (argsL := [(.int (Int32.ofNat (cb + dg)))]) (rest := []) (lenOf pd_aai_1 rfl) rfl (by show 2 * 0 + _ ≤ _; exact Nat.le_of_eq rfl) (hb hby d_aai_14) (fun _ _ => ⟨rfl, e2, (by decide : 0 + 1 ≤ _), (by decide : 0 + 300 ≤ _)⟩)
  dsimp only [Pt.U, Pt.locs, Pt.cells, Pt.slots] at X3 l3 y3 z3 st3 hQ3
  subst l3 y3 z3
  obtain ⟨rfl, Nq3, K3, t3, k23, L2_3, vs3, or3, hb31, hb32, hb33, Gv3, Gc3, Gn3, Vt3, Et3⟩ := hQ3
  replace N := Fr.app N Nq3
  have g_t3 : n0 ≤ t3 := own_or or3 g_tb (Old.le O)
  have io_t3 : t3 ∈ [bb, tb] ∨ h0.size ≤ t3 := own_orin or3 (Or.inl (by simp)) K.1
  have oo_t3 : t3 = tb ∨ h0.size ≤ t3 := or3
  replace E_b := E_b.keep K3
  replace E_t := E_t.keep K3
  replace O := O.keep K3 (allS g_bb (allS g_tb all0))
  replace K := K.trans K3 (allS (Or.inl (by simp)) (allS (Or.inl (by simp)) all0))
  refine Go.by (T' := T3) (f' := (mkF m 17 #[.val (.ref bb), .val (.int vi), .val (.int (Int32.ofNat cb)), .val (.int (Int32.ofNat (cb + dg)))] [])) (fun _ k => st3.trans k) ?_
  refine Go.by (T' := T3) (f' := (mkF m 18 #[.val (.ref bb), .val (.int vi), .val (.int (Int32.ofNat cb)), .val (.int (Int32.ofNat (cb + dg)))] [(.ref bb)])) (fun _ k => XS.aloadN X3.here hx rfl (hb hby d_aai_17) rfl rfl k) ?_
  have hi4a : L2_3 ≤ 300 := by omega
  have hi4b : 16 ≤ L2_3 := by omega
  have hi4c : cb ≤ L2_3 := by omega
  obtain ⟨cq4, kq4, q4a, q4b, q4c⟩ := isOf hZ rfl E_b
  obtain ⟨v4, _, ⟨T4, L4, k4, n4⟩, -, X4, ⟨Lc4, hQ4, l4, y4, z4⟩, st4⟩ := X3.virtualBack hx (y := (⟨"java/lang/AbstractStringBuilder", "isLatin1", "()Z"⟩ : MethodName)) (z := (⟨"java/lang/AbstractStringBuilder", "isLatin1", "()Z"⟩ : MethodName)) hown (mvT hZ (hw _ (List.mem_of_getElem? (i := 115) rfl))) (mvT hZ (hw _ (List.mem_of_getElem? (i := 116) rfl))) (notFace_of_selects (args := #[]) (mvT hZ (hw _ (List.mem_of_getElem? (i := 118) rfl)))) (mvT hZ (hw _ (List.mem_of_getElem? (i := 118) rfl))) (mvT hZ (hw _ (List.mem_of_getElem? (i := 117) rfl))) (by decide) (backOf (W := 0) (rm_blat l Z a0 hw [] bb t3 _ (L2_3) (cb) _ zc ls us ss hS0 T3.heap n0 O E_b Gv3 Gc3 Gn3 Vt3 Et3 g_bb g_t3 hi4a hi4b hi4c) hZ (hw _ (List.mem_of_getElem? (i := 119) rfl)) (hw _ (List.mem_of_getElem? (i := 41) rfl)) (by decide) (by decide)) q4a q4c (g := (mkF m 18 #[.val (.ref bb), .val (.int vi), .val (.int (Int32.ofNat cb)), .val (.int (Int32.ofNat (cb + dg)))] [(.ref bb)])) rfl (by rw [hml]; rfl) (Steps.refl _) (argsL := []) (rest := []) (lenOf pd_aai_2 rfl) rfl (by show 2 * 0 + _ ≤ _; exact Nat.le_of_eq rfl) (hb hby d_aai_18) (fun _ _ => ⟨rfl, rfl, (by decide : 1 + 0 ≤ _), (by decide : 300 + 0 ≤ _)⟩)
  dsimp only [Pt.U, Pt.locs, Pt.cells, Pt.slots] at X4 l4 y4 z4 st4 hQ4
  subst l4 y4 z4
  obtain ⟨rfl, Nq4, e4⟩ := hQ4
  replace N := Fr.app N Nq4
  refine Go.by (T' := T4) (f' := (mkF m 21 #[.val (.ref bb), .val (.int vi), .val (.int (Int32.ofNat cb)), .val (.int (Int32.ofNat (cb + dg)))] [(.int (1 : Int32))])) (fun _ k => st4.trans k) ?_
  refine Go.by (T' := T4) (f' := (mkF m 24 #[.val (.ref bb), .val (.int vi), .val (.int (Int32.ofNat cb)), .val (.int (Int32.ofNat (cb + dg)))] [])) (fun _ k => XS.ifNo X4.here hx rfl (hb hby d_aai_21) rfl ((if0 _ _).trans (feq (by decide : ¬ ((1 : Int32) = (0 : Int32)))).1) k) ?_
  refine Go.by (T' := T4) (f' := (mkF m 25 #[.val (.ref bb), .val (.int vi), .val (.int (Int32.ofNat cb)), .val (.int (Int32.ofNat (cb + dg)))] [(.int vi)])) (fun _ k => XS.iloadN X4.here hx rfl (hb hby d_aai_24) rfl k) ?_
  refine Go.by (T' := T4) (f' := (mkF m 26 #[.val (.ref bb), .val (.int vi), .val (.int (Int32.ofNat cb)), .val (.int (Int32.ofNat (cb + dg)))] [(.int (Int32.ofNat (cb + dg))), (.int vi)])) (fun _ k => XS.iloadN X4.here hx rfl (hb hby d_aai_25) rfl k) ?_
  refine Go.by (T' := T4) (f' := (mkF m 27 #[.val (.ref bb), .val (.int vi), .val (.int (Int32.ofNat cb)), .val (.int (Int32.ofNat (cb + dg)))] [(.ref bb), (.int (Int32.ofNat (cb + dg))), (.int vi)])) (fun _ k => XS.aloadN X4.here hx rfl (hb hby d_aai_26) rfl rfl k) ?_
  obtain ⟨T6, X6, e6, st6⟩ := getF X4 hx hZ hown (host := "") (Or.inl (hw _ (List.mem_of_getElem? (i := 45) rfl))) Via.refl e4 Gv3 (g := (mkF m 27 #[.val (.ref bb), .val (.int vi), .val (.int (Int32.ofNat cb)), .val (.int (Int32.ofNat (cb + dg)))] [(.ref bb), (.int (Int32.ofNat (cb + dg))), (.int vi)])) rfl rfl (hb hby d_aai_27)
  refine Go.by (T' := T6) (f' := (mkF m 30 #[.val (.ref bb), .val (.int vi), .val (.int (Int32.ofNat cb)), .val (.int (Int32.ofNat (cb + dg)))] [(.ref t3), (.int (Int32.ofNat (cb + dg))), (.int vi)])) (st6) ?_
  have hz7a : L2_3 < 2147483648 := by omega
  have hz7b : (cb + dg) ≤ L2_3 := by omega
  have hz7c : Jvm.Free.SBG.digits ni + Jvm.Free.SBG.GetChars.sgn vi ≤ (cb + dg) := by omega
  obtain ⟨v7, _, ⟨T7, L7, k7, n7⟩, -, X7, ⟨Lc7, hQ7, l7, y7, z7⟩, st7⟩ := Jvm.LawKit.callS X6 hx (y := (⟨"java/lang/Integer", "getChars", "(II[B)I"⟩ : MethodName)) hown (mvT hZ (hw _ (List.mem_of_getElem? (i := 120) rfl))) (mvT hZ (hw _ (List.mem_of_getElem? (i := 121) rfl))) (mvT hZ (hw _ (List.mem_of_getElem? (i := 113) rfl))) (mvT hZ (hw _ (List.mem_of_getElem? (i := 122) rfl))) (by decide) (own_gc (W := 0) hw hZ O (by decide) (by decide) vi ni hni hvi Vt3 g_t3 hz7a hz7b hz7c Tb1 Tb2) (g := (mkF m 30 #[.val (.ref bb), .val (.int vi), .val (.int (Int32.ofNat cb)), .val (.int (Int32.ofNat (cb + dg)))] [(.ref t3), (.int (Int32.ofNat (cb + dg))), (.int vi)])) rfl (by rw [hml]; rfl) (argsL := [(.int vi), (.int (Int32.ofNat (cb + dg))), (.ref t3)]) (rest := []) (lenOf pd_aai_3 rfl) rfl (by show 2 * 0 + _ ≤ _; exact Nat.le_of_eq rfl) (hb hby d_aai_30) (fun _ _ => ⟨rfl, e6, (by decide : 1 + 0 ≤ _), (by decide : 300 + 0 ≤ _)⟩)
  dsimp only [Pt.U, Pt.locs, Pt.cells, Pt.slots] at X7 l7 y7 z7 st7 hQ7
  subst l7 y7 z7
  obtain ⟨zg7, rfl, Nq7, K7, k27, vs7, Vt7⟩ := hQ7
  replace N := Fr.app N Nq7
  have nq8 : bb ≠ t3 := (ne_exa E_b Et3 (by decide))
  replace E_b := E_b.keep K7
  replace Gv3 := Gv3.keep K7 (ninS nq8 nin0)
  replace Gc3 := Gc3.keep K7 (ninS nq8 nin0)
  replace Gn3 := Gn3.keep K7 (ninS nq8 nin0)
  replace Et3 := Et3.keep K7
  replace O := O.keep K7 (allS g_t3 all0)
  replace K := K.trans K7 (allS (io_t3) all0)
  refine Go.by (T' := T7) (f' := (mkF m 33 #[.val (.ref bb), .val (.int vi), .val (.int (Int32.ofNat cb)), .val (.int (Int32.ofNat (cb + dg)))] [(.int zg7)])) (st7) ?_
  refine Go.by (T' := T7) (f' := (mkF m 34 #[.val (.ref bb), .val (.int vi), .val (.int (Int32.ofNat cb)), .val (.int (Int32.ofNat (cb + dg)))] [])) (fun _ k => XS.pop X7.here hx rfl (hb hby d_aai_33) rfl rfl k) ?_
  refine Go.by (T' := T7) (f' := (mkF m 48 #[.val (.ref bb), .val (.int vi), .val (.int (Int32.ofNat cb)), .val (.int (Int32.ofNat (cb + dg)))] [])) (fun _ k => XS.goto X7.here hx rfl (pc0 := 34) (pc' := 48) rfl (hb hby d_aai_34) (by decide) (by decide) k) ?_
  refine Go.by (T' := T7) (f' := (mkF m 49 #[.val (.ref bb), .val (.int vi), .val (.int (Int32.ofNat cb)), .val (.int (Int32.ofNat (cb + dg)))] [(.ref bb)])) (fun _ k => XS.aloadN X7.here hx rfl (hb hby d_aai_48) rfl rfl k) ?_
  refine Go.by (T' := T7) (f' := (mkF m 50 #[.val (.ref bb), .val (.int vi), .val (.int (Int32.ofNat cb)), .val (.int (Int32.ofNat (cb + dg)))] [(.int (Int32.ofNat (cb + dg))), (.ref bb)])) (fun _ k => XS.iloadN X7.here hx rfl (hb hby d_aai_49) rfl k) ?_
  obtain ⟨T9, h9, X9, e9, W9, st9⟩ := putF X7 hx hZ hown (host := "") (Or.inl (hw _ (List.mem_of_getElem? (i := 71) rfl))) Via.refl rfl Gn3 E_b (Or.inl (hw _ (List.mem_of_getElem? (i := 72) rfl))) (hw _ (List.mem_of_getElem? (i := 32) rfl)) (ty := .int) (by decide) rfl rfl (g := (mkF m 50 #[.val (.ref bb), .val (.int vi), .val (.int (Int32.ofNat cb)), .val (.int (Int32.ofNat (cb + dg)))] [(.int (Int32.ofNat (cb + dg))), (.ref bb)])) rfl rfl (hb hby d_aai_50)
  replace E_b := E_b.wr W9
  replace Gv3 := Gv3.other W9 (Or.inr (slot_ne (Or.inl (hw _ (List.mem_of_getElem? (i := 46) rfl))) (Or.inl (hw _ (List.mem_of_getElem? (i := 72) rfl))) (by decide) (t := (.array .byte)) (t' := .int) (by decide) (by decide)))
  replace Gc3 := Gc3.other W9 (Or.inr (slot_ne (Or.inl (hw _ (List.mem_of_getElem? (i := 48) rfl))) (Or.inl (hw _ (List.mem_of_getElem? (i := 72) rfl))) (by decide) (t := .byte) (t' := .int) (by decide) (by decide)))
  replace Et3 := Et3.wr W9
  replace Vt7 := Vt7.other W9 (Ne.symm nq8)
  replace Gn3 := Gn3.same W9
  replace O := O.wr W9 g_bb
  replace K := K.wr W9 (Or.inl (by simp))
  replace N := Fr.snoc X9 N g_bb
  refine Go.by (T' := T9) (f' := (mkF m 53 #[.val (.ref bb), .val (.int vi), .val (.int (Int32.ofNat cb)), .val (.int (Int32.ofNat (cb + dg)))] [])) (st9) ?_
  refine Go.by (T' := T9) (f' := (mkF m 54 #[.val (.ref bb), .val (.int vi), .val (.int (Int32.ofNat cb)), .val (.int (Int32.ofNat (cb + dg)))] [(.ref bb)])) (fun _ k => XS.aloadN X9.here hx rfl (hb hby d_aai_53) rfl rfl k) ?_
  obtain ⟨fs, hr, hrun, hended, hW, hsame⟩ := X9.leave (v := some (.ref bb)) (fun h => by rw [Bd.returns] at h; cases h)
  refine ⟨_, _, retOut X9 hx Bd.returns rfl (Or.inr (Or.inr (Or.inr (Or.inr ⟨rfl, rfl, rfl⟩)))) (hb hby d_aai_54) hr, hrun, hended, _, _, rfl, ?_, ⟨_, rfl⟩, hW, hsame.mono (by decide) (by decide)⟩
  show Qb Z bb tb (some (.ref bb)) (cb + (Jvm.Free.SBG.digits ni + Jvm.Free.SBG.GetChars.sgn vi)) (cb + (Jvm.Free.SBG.digits ni + Jvm.Free.SBG.GetChars.sgn vi)) h0 n0 (some (.ref bb)) T9.heap _
  rw [e9]
  rw [← hdg]
  exact ⟨rfl, N, K, t3, _, L2_3, _, oo_t3, by omega, by omega, by omega, Gv3, Gc3, Gn3, Vt7, Et3⟩

theorem d_sai_0 : decode jdk_67_method_15_code 0 = .ok (.aload_n 0, 1) := by decide +kernel
theorem d_sai_1 : decode jdk_67_method_15_code 1 = .ok (.iload_n 1, 1) := by decide +kernel
theorem d_sai_2 : decode jdk_67_method_15_code 2 = .ok (.invokespecial 53, 3) := by decide +kernel
theorem d_sai_5 : decode jdk_67_method_15_code 5 = .ok (.pop, 1) := by decide +kernel
theorem d_sai_6 : decode jdk_67_method_15_code 6 = .ok (.aload_n 0, 1) := by decide +kernel
theorem d_sai_7 : decode jdk_67_method_15_code 7 = .ok (.areturn, 1) := by decide +kernel
theorem pn_sai : plainFor (⟨"java/lang/StringBuilder", "append", "(I)Ljava/lang/StringBuilder;"⟩ : MethodName) = true := plainFor_of_name (by first | (simp [plainName, overriddenIn]; done) | decide +kernel)
theorem pd_sai_0 : parseMethodDescriptor "(I)Ljava/lang/AbstractStringBuilder;" = some ⟨[.int], some (.object "java/lang/AbstractStringBuilder")⟩ := by decide +kernel
theorem ef_sai (m : MethodId) (x0 : Addr) (x1 : Int32) : entryFrame m #[(.ref x0), (.int x1)] 2 = mkF m 0 #[.val (.ref x0), .val (.int x1)] [] := by first | (simp [entryFrame, mkF, argsToLocals, Value.category]; done) | rfl
set_option maxRecDepth 65536 in
set_option maxHeartbeats 40000000 in
theorem rm_sai (l : Launch) (Z : State) (a0 : Array Value) (hw : ∀ d ∈ tables_1, d.before a0 Z = true) (ws : List Jvm.Cond) (bb tb : Addr) (kt : ClassId) (Lb cb : Nat) (vt : List Value) (vi : Int32) (ni : Nat) (sti d1 d2 : Addr) (D1 D2 : Cell) (zc : Int32) (ls us ss : Addr) (hS0 : Sf Z zc ls us ss) (h0 : Heap) (n0 : Nat) (O : Old Z n0 h0) (E_b : Exa Z h0 bb "java/lang/StringBuilder") (Fv_b : Fld Z h0 bb "java/lang/AbstractStringBuilder" "value" "[B" (.ref tb)) (Fc_b : Fld Z h0 bb "java/lang/AbstractStringBuilder" "coder" "B" (.int 0)) (Fn_b : Fld Z h0 bb "java/lang/AbstractStringBuilder" "count" "I" (.int (Int32.ofNat cb))) (V_t : Arv Z h0 tb kt .byte (Int32.ofNat Lb) vt (.int 0)) (E_t : Exa Z h0 tb "[B") (g_bb : n0 ≤ bb) (g_tb : n0 ≤ tb) (hLb : Lb ≤ 300) (hLb2 : 16 ≤ Lb) (hcLb : cb ≤ Lb) (hni : ni ≤ 2 ^ 31) (hvi : (if vi < 0 then vi else -vi) = Jvm.Free.SBG.negI ni) (Tb1 : Jvm.Free.SBG.Tbl Z "DigitOnes" sti d1 D1) (Tb2 : Jvm.Free.SBG.Tbl Z "DigitTens" sti d2 D2) (hcx : cb + 11 ≤ 150) :
    MetFree l (⟨"java/lang/StringBuilder", "append", "(I)Ljava/lang/StringBuilder;"⟩ : MethodName) (head1 (Jvm.Cond.code (⟨"java/lang/StringBuilder", "append", "(I)Ljava/lang/StringBuilder;"⟩ : MethodName) jdk_67_method_15_code 2 (some (.object "java/lang/StringBuilder")) :: ws) ({ frames := 5, cells := 1, slots := 300, locals := 93 } : Room)) (fun as_ U => as_ = #[(.ref bb), (.int vi)] ∧ Z.Warmed39 U.vm ∧ U.heap = h0) (fun _ _ _ _ _ => True) (fun _ U o U' => ∃ v L, o = .returned v ∧ Qb Z bb tb (some (.ref bb)) (cb + (Jvm.Free.SBG.digits ni + Jvm.Free.SBG.GetChars.sgn vi)) (cb + (Jvm.Free.SBG.digits ni + Jvm.Free.SBG.GetChars.sgn vi)) h0 n0 v U'.heap L ∧ FrameEnd U o U' L ({ frames := 5, cells := 1, slots := 300, locals := 93 } : Room).cells ({ frames := 5, cells := 1, slots := 300, locals := 93 } : Room).slots) := by
  refine MetFree.of_bodySF pn_sai hisR ?_
  intro p e s m args below meth c s₁ Bd hml0 hP hK
  obtain ⟨rfl, hZ, hh⟩ := hP
  have hx := Bd.exec
  have hby := Bd.bytes
  have hml : c.maxLocals = 2 := hml0
  have hown : s.vm.findClass "java/lang/StringBuilder" = some m.cls := findClass_of_methodNamed Bd.named
  have hnm := (name_of_methodNamed Bd.named Bd.method).1
  have X0 : Stand p l e ({ frames := 5, cells := 1, slots := 300, locals := 93 } : Room) s m #[(.ref bb), (.int vi)] below meth c s₁ [] 0 0 := Stand.of_body Bd
  have e0 : s₁.heap = h0 := by rw [← hh, Bd.state]; rfl
  have N := Fr.nil n0
  have K : Keep h0 h0 [bb, tb] := Keep.refl _ _
  refine Go.by (T' := s₁) (f' := (mkF m 0 #[.val (.ref bb), .val (.int vi)] [])) (fun _ k => castTop (ef_sai m bb vi) k) ?_
  obtain ⟨dg, hdg⟩ : ∃ d, d = Jvm.Free.SBG.digits ni + Jvm.Free.SBG.GetChars.sgn vi := ⟨_, rfl⟩
  have hdg2 : 1 ≤ dg ∧ dg ≤ 11 := by
    have q := Jvm.Free.SBG.digits_pos ni
    have q2 : Jvm.Free.SBG.GetChars.sgn vi ≤ 1 := by unfold Jvm.Free.SBG.GetChars.sgn; split <;> omega
    omega
  refine Go.by (T' := s₁) (f' := (mkF m 1 #[.val (.ref bb), .val (.int vi)] [(.ref bb)])) (fun _ k => XS.aloadN X0.here hx rfl (hb hby d_sai_0) rfl rfl k) ?_
  refine Go.by (T' := s₁) (f' := (mkF m 2 #[.val (.ref bb), .val (.int vi)] [(.int vi), (.ref bb)])) (fun _ k => XS.iloadN X0.here hx rfl (hb hby d_sai_1) rfl k) ?_
  have hi1a : Lb ≤ 300 := by omega
  have hi1b : 16 ≤ Lb := by omega
  have hi1c : cb ≤ Lb := by omega
  have hv1 : cb + 11 ≤ 150 := by omega
  obtain ⟨v1, _, ⟨T1, L1, k1, n1⟩, -, X1, ⟨Lc1, hQ1, l1, y1, z1⟩, st1⟩ := superBack X0 hx hZ (y := (⟨"java/lang/AbstractStringBuilder", "append", "(I)Ljava/lang/AbstractStringBuilder;"⟩ : MethodName)) hown (hw _ (List.mem_of_getElem? (i := 107) rfl)) (own_same (y := (⟨"java/lang/AbstractStringBuilder", "append", "(I)Ljava/lang/AbstractStringBuilder;"⟩ : MethodName)) (hw _ (List.mem_of_getElem? (i := 76) rfl)) rfl (hw _ (List.mem_of_getElem? (i := 108) rfl)) (by decide)) (hw _ (List.mem_of_getElem? (i := 108) rfl)) (hw _ (List.mem_of_getElem? (i := 57) rfl)) (by decide) (backOf (W := 0) (rm_aai l Z a0 hw [] bb tb _ (Lb) (cb) _ vi ni sti d1 d2 D1 D2 zc ls us ss hS0 h0 n0 O E_b Fv_b Fc_b Fn_b V_t E_t g_bb g_tb hi1a hi1b hi1c hni hvi Tb1 Tb2 hv1) hZ (hw _ (List.mem_of_getElem? (i := 110) rfl)) (hw _ (List.mem_of_getElem? (i := 41) rfl)) (by decide) (by decide)) e0 (Ins.self E_b) (g := (mkF m 2 #[.val (.ref bb), .val (.int vi)] [(.int vi), (.ref bb)])) rfl (by rw [hml]; rfl) (hw _ (List.mem_of_getElem? (i := 110) rfl)) (argsL := [(.int vi)]) (rest := []) (lenOf pd_sai_0 rfl) rfl (by show 2 * 0 + _ ≤ _; exact Nat.le_of_eq rfl) (hb hby d_sai_2) (fun _ _ => ⟨rfl, e0, (by decide : 0 + 1 ≤ _), (by decide : 0 + 300 ≤ _)⟩)
  dsimp only [Pt.U, Pt.locs, Pt.cells, Pt.slots] at X1 l1 y1 z1 st1 hQ1
  subst l1 y1 z1
  rw [← hdg] at hQ1
  obtain ⟨rfl, Nq1, K1, t1, k21, L2_1, vs1, or1, hb11, hb12, hb13, Gv1, Gc1, Gn1, Vt1, Et1⟩ := hQ1
  replace N := Fr.app N Nq1
  have g_t1 : n0 ≤ t1 := own_or or1 g_tb (Old.le O)
  have io_t1 : t1 ∈ [bb, tb] ∨ h0.size ≤ t1 := own_orin or1 (Or.inl (by simp)) K.1
  have oo_t1 : t1 = tb ∨ h0.size ≤ t1 := or1
  replace E_b := E_b.keep K1
  replace E_t := E_t.keep K1
  replace O := O.keep K1 (allS g_bb (allS g_tb all0))
  replace K := K.trans K1 (allS (Or.inl (by simp)) (allS (Or.inl (by simp)) all0))
  refine Go.by (T' := T1) (f' := (mkF m 5 #[.val (.ref bb), .val (.int vi)] [(.ref bb)])) (fun _ k => st1.trans k) ?_
  refine Go.by (T' := T1) (f' := (mkF m 6 #[.val (.ref bb), .val (.int vi)] [])) (fun _ k => XS.pop X1.here hx rfl (hb hby d_sai_5) rfl rfl k) ?_
  refine Go.by (T' := T1) (f' := (mkF m 7 #[.val (.ref bb), .val (.int vi)] [(.ref bb)])) (fun _ k => XS.aloadN X1.here hx rfl (hb hby d_sai_6) rfl rfl k) ?_
  obtain ⟨fs, hr, hrun, hended, hW, hsame⟩ := X1.leave (v := some (.ref bb)) (fun h => by rw [Bd.returns] at h; cases h)
  refine ⟨_, _, retOut X1 hx Bd.returns rfl (Or.inr (Or.inr (Or.inr (Or.inr ⟨rfl, rfl, rfl⟩)))) (hb hby d_sai_7) hr, hrun, hended, _, _, rfl, ?_, ⟨_, rfl⟩, hW, hsame.mono (by decide) (by decide)⟩
  show Qb Z bb tb (some (.ref bb)) (cb + (Jvm.Free.SBG.digits ni + Jvm.Free.SBG.GetChars.sgn vi)) (cb + (Jvm.Free.SBG.digits ni + Jvm.Free.SBG.GetChars.sgn vi)) h0 n0 (some (.ref bb)) T1.heap _
  rw [← hdg]
  exact ⟨rfl, N, K, t1, _, L2_1, _, oo_t1, by omega, by omega, by omega, Gv1, Gc1, Gn1, Vt1, Et1⟩

theorem d_corb_0 : decode jdk_65_method_133_code 0 = .ok (.iload_n 1, 1) := by decide +kernel
theorem d_corb_1 : decode jdk_65_method_133_code 1 = .ok (.iload_n 2, 1) := by decide +kernel
theorem d_corb_2 : decode jdk_65_method_133_code 2 = .ok (.invokestatic 343, 3) := by decide +kernel
theorem d_corb_5 : decode jdk_65_method_133_code 5 = .ok (.iload_n 2, 1) := by decide +kernel
theorem d_corb_6 : decode jdk_65_method_133_code 6 = .ok (.iload_n 1, 1) := by decide +kernel
theorem d_corb_7 : decode jdk_65_method_133_code 7 = .ok (.isub, 1) := by decide +kernel
theorem d_corb_8 : decode jdk_65_method_133_code 8 = .ok (.istore_n 3, 1) := by decide +kernel
theorem d_corb_9 : decode jdk_65_method_133_code 9 = .ok (.iload_n 3, 1) := by decide +kernel
theorem d_corb_10 : decode jdk_65_method_133_code 10 = .ok (.newarray .byte, 2) := by decide +kernel
theorem d_corb_12 : decode jdk_65_method_133_code 12 = .ok (.astore 4, 2) := by decide +kernel
theorem d_corb_14 : decode jdk_65_method_133_code 14 = .ok (.aload_n 0, 1) := by decide +kernel
theorem d_corb_15 : decode jdk_65_method_133_code 15 = .ok (.iload_n 1, 1) := by decide +kernel
theorem d_corb_16 : decode jdk_65_method_133_code 16 = .ok (.aload 4, 2) := by decide +kernel
theorem d_corb_18 : decode jdk_65_method_133_code 18 = .ok (.iconst 0, 1) := by decide +kernel
theorem d_corb_19 : decode jdk_65_method_133_code 19 = .ok (.aload_n 0, 1) := by decide +kernel
theorem d_corb_20 : decode jdk_65_method_133_code 20 = .ok (.arraylength, 1) := by decide +kernel
theorem d_corb_21 : decode jdk_65_method_133_code 21 = .ok (.iload_n 1, 1) := by decide +kernel
theorem d_corb_22 : decode jdk_65_method_133_code 22 = .ok (.isub, 1) := by decide +kernel
theorem d_corb_23 : decode jdk_65_method_133_code 23 = .ok (.iload_n 3, 1) := by decide +kernel
theorem d_corb_24 : decode jdk_65_method_133_code 24 = .ok (.invokestatic 304, 3) := by decide +kernel
theorem d_corb_27 : decode jdk_65_method_133_code 27 = .ok (.invokestatic 150, 3) := by decide +kernel
theorem d_corb_30 : decode jdk_65_method_133_code 30 = .ok (.aload 4, 2) := by decide +kernel
theorem d_corb_32 : decode jdk_65_method_133_code 32 = .ok (.areturn, 1) := by decide +kernel
theorem pn_corb : plainFor (⟨"java/util/Arrays", "copyOfRangeByte", "([BII)[B"⟩ : MethodName) = true := plainFor_of_name (by first | (simp [plainName, overriddenIn]; done) | decide +kernel)
theorem pd_corb_0 : parseMethodDescriptor "(II)V" = some ⟨[.int, .int], none⟩ := by decide +kernel
theorem pd_corb_1 : parseMethodDescriptor "(II)I" = some ⟨[.int, .int], some .int⟩ := by decide +kernel
theorem ef_corb (m : MethodId) (x0 : Addr) (x2 : Int32) : entryFrame m #[(.ref x0), (.int (0 : Int32)), (.int x2)] 5 = mkF m 0 #[.val (.ref x0), .val (.int (0 : Int32)), .val (.int x2), .unset, .unset] [] := by first | (simp [entryFrame, mkF, argsToLocals, Value.category]; done) | rfl
set_option maxRecDepth 65536 in
set_option maxHeartbeats 40000000 in
theorem rm_corb (l : Launch) (Z : State) (a0 : Array Value) (hw : ∀ d ∈ tables_1, d.before a0 Z = true) (ws : List Jvm.Cond) (tb : Addr) (kt : ClassId) (Lb cb : Nat) (vt : List Value) (h0 : Heap) (n0 : Nat) (O : Old Z n0 h0) (V_t : Arv Z h0 tb kt .byte (Int32.ofNat Lb) vt (.int 0)) (E_t : Exa Z h0 tb "[B") (hcb : cb ≤ Lb) (hLb : Lb ≤ 300) (hcC : cb ≤ 150) :
    MetFree l (⟨"java/util/Arrays", "copyOfRangeByte", "([BII)[B"⟩ : MethodName) (head1 (Jvm.Cond.code (⟨"java/util/Arrays", "copyOfRangeByte", "([BII)[B"⟩ : MethodName) jdk_65_method_133_code 5 (some (.array .byte)) :: ws) ({ frames := 1, cells := 1, slots := 150, locals := 18 } : Room)) (fun as_ U => as_ = #[(.ref tb), (.int (0 : Int32)), (.int (Int32.ofNat cb))] ∧ Z.Warmed39 U.vm ∧ U.heap = h0) (fun _ _ _ _ _ => True) (fun _ U o U' => ∃ v L, o = .returned v ∧ Qr Z cb h0 n0 v U'.heap L ∧ FrameEnd U o U' L ({ frames := 1, cells := 1, slots := 150, locals := 18 } : Room).cells ({ frames := 1, cells := 1, slots := 150, locals := 18 } : Room).slots) := by
  refine MetFree.of_bodySF pn_corb hisR ?_
  intro p e s m args below meth c s₁ Bd hml0 hP hK
  obtain ⟨rfl, hZ, hh⟩ := hP
  have hx := Bd.exec
  have hby := Bd.bytes
  have hml : c.maxLocals = 5 := hml0
  have hown : s.vm.findClass "java/util/Arrays" = some m.cls := findClass_of_methodNamed Bd.named
  have hnm := (name_of_methodNamed Bd.named Bd.method).1
  have X0 : Stand p l e ({ frames := 1, cells := 1, slots := 150, locals := 18 } : Room) s m #[(.ref tb), (.int (0 : Int32)), (.int (Int32.ofNat cb))] below meth c s₁ [] 0 0 := Stand.of_body Bd
  have e0 : s₁.heap = h0 := by rw [← hh, Bd.state]; rfl
  have N := Fr.nil n0
  have K : Keep h0 h0 [] := Keep.refl _ _
  refine Go.by (T' := s₁) (f' := (mkF m 0 #[.val (.ref tb), .val (.int (0 : Int32)), .val (.int (Int32.ofNat cb)), .unset, .unset] [])) (fun _ k => castTop (ef_corb m tb (Int32.ofNat cb)) k) ?_
  refine Go.by (T' := s₁) (f' := (mkF m 1 #[.val (.ref tb), .val (.int (0 : Int32)), .val (.int (Int32.ofNat cb)), .unset, .unset] [(.int (0 : Int32))])) (fun _ k => XS.iloadN X0.here hx rfl (hb hby d_corb_0) rfl k) ?_
  refine Go.by (T' := s₁) (f' := (mkF m 2 #[.val (.ref tb), .val (.int (0 : Int32)), .val (.int (Int32.ofNat cb)), .unset, .unset] [(.int (Int32.ofNat cb)), (.int (0 : Int32))])) (fun _ k => XS.iloadN X0.here hx rfl (hb hby d_corb_1) rfl k) ?_
  have hc1a : 0 ≤ cb := by omega
  have hc1b : cb < 1073741824 := by omega
  obtain ⟨v1, _, ⟨T1, L1, k1, n1⟩, -, X1, ⟨Lc1, hQ1, l1, y1, z1⟩, st1⟩ := Jvm.LawKit.callS X0 hx (y := (⟨"java/util/Arrays", "checkLength", "(II)V"⟩ : MethodName)) hown (mvT hZ (hw _ (List.mem_of_getElem? (i := 158) rfl))) (mvT hZ (hw _ (List.mem_of_getElem? (i := 159) rfl))) (mvT hZ (hw _ (List.mem_of_getElem? (i := 153) rfl))) (mvT hZ (hw _ (List.mem_of_getElem? (i := 160) rfl))) (by decide) (backOf (W := 0) (rm_chk l Z a0 hw [] (0) (cb) h0 n0 O hc1a hc1b) hZ (hw _ (List.mem_of_getElem? (i := 160) rfl)) (hw _ (List.mem_of_getElem? (i := 153) rfl)) (by decide) (by decide)) (g := (mkF m 2 #[.val (.ref tb), .val (.int (0 : Int32)), .val (.int (Int32.ofNat cb)), .unset, .unset] [(.int (Int32.ofNat cb)), (.int (0 : Int32))])) rfl (by rw [hml]; rfl) (argsL := [(.int (0 : Int32)), (.int (Int32.ofNat cb))]) (rest := []) (lenOf pd_corb_0 rfl) rfl (by show 2 * 0 + _ ≤ _; exact Nat.le_of_eq rfl) (hb hby d_corb_2) (fun _ _ => ⟨rfl, e0, (by decide : 0 + 0 ≤ _), (by decide : 0 + 0 ≤ _)⟩)
  dsimp only [Pt.U, Pt.locs, Pt.cells, Pt.slots] at X1 l1 y1 z1 st1 hQ1
  subst l1 y1 z1
  obtain ⟨rfl, Nq1, e1⟩ := hQ1
  replace N := Fr.app N Nq1
  refine Go.by (T' := T1) (f' := (mkF m 5 #[.val (.ref tb), .val (.int (0 : Int32)), .val (.int (Int32.ofNat cb)), .unset, .unset] [])) (st1) ?_
  refine Go.by (T' := T1) (f' := (mkF m 6 #[.val (.ref tb), .val (.int (0 : Int32)), .val (.int (Int32.ofNat cb)), .unset, .unset] [(.int (Int32.ofNat cb))])) (fun _ k => XS.iloadN X1.here hx rfl (hb hby d_corb_5) rfl k) ?_
  refine Go.by (T' := T1) (f' := (mkF m 7 #[.val (.ref tb), .val (.int (0 : Int32)), .val (.int (Int32.ofNat cb)), .unset, .unset] [(.int (0 : Int32)), (.int (Int32.ofNat cb))])) (fun _ k => XS.iloadN X1.here hx rfl (hb hby d_corb_6) rfl k) ?_
  refine Go.by (T' := T1) (f' := (mkF m 8 #[.val (.ref tb), .val (.int (0 : Int32)), .val (.int (Int32.ofNat cb)), .unset, .unset] [(.int ((Int32.ofNat cb) - (0 : Int32)))])) (fun _ k => XS.isub X1.here hx rfl (hb hby d_corb_7) rfl k) ?_
  rw [show ((Int32.ofNat cb) - (0 : Int32)) = (Int32.ofNat cb) from Int32.sub_zero _]
  refine Go.by (T' := T1) (f' := (mkF m 9 #[.val (.ref tb), .val (.int (0 : Int32)), .val (.int (Int32.ofNat cb)), .val (.int (Int32.ofNat cb)), .unset] [])) (fun _ k => XS.istoreN X1.here hx rfl (hb hby d_corb_8) rfl (l' := #[.val (.ref tb), .val (.int (0 : Int32)), .val (.int (Int32.ofNat cb)), .val (.int (Int32.ofNat cb)), .unset]) rfl k) ?_
  refine Go.by (T' := T1) (f' := (mkF m 10 #[.val (.ref tb), .val (.int (0 : Int32)), .val (.int (Int32.ofNat cb)), .val (.int (Int32.ofNat cb)), .unset] [(.int (Int32.ofNat cb))])) (fun _ k => XS.iloadN X1.here hx rfl (hb hby d_corb_9) rfl k) ?_
  obtain ⟨T2, h2, k2, X2, e2, E2, A2, B2, st2⟩ := newPE X1 hx hZ (hw _ (List.mem_of_getElem? (i := 15) rfl)) e1 (g := (mkF m 10 #[.val (.ref tb), .val (.int (0 : Int32)), .val (.int (Int32.ofNat cb)), .val (.int (Int32.ofNat cb)), .unset] [(.int (Int32.ofNat cb))])) rfl (hb hby d_corb_10) rfl (own_neg (by omega)) (cap := 150) (by rw [own_nat (by omega)]; omega) (by decide) (by decide) (by decide) (ad := "[B") (by decide)
  obtain ⟨b2, g2⟩ : ∃ z, z = h0.size := ⟨_, rfl⟩
  rw [← g2] at A2 B2 st2
  have ne_tb_b2 : tb ≠ b2 := Nat.ne_of_lt (Nat.lt_of_lt_of_le V_t.lt (Nat.le_of_eq g2.symm))
  have g_b2 : n0 ≤ b2 := Nat.le_trans (Old.le O) (Nat.le_of_eq g2.symm)
  have sz_b2 : h0.size ≤ b2 := Nat.le_trans K.1 (Nat.le_of_eq g2.symm)
  replace V_t := V_t.ext E2
  replace E_t := E_t.ext E2
  replace O := O.ext E2
  replace K := K.ext E2
  have V_b2 : Arv Z h2 b2 k2 .byte (Int32.ofNat cb) [] (.int (0 : Int32)) := Arv.new A2 (own_neg (by omega))
  have E_b2 := B2
  refine Go.by (T' := T2) (f' := (mkF m 12 #[.val (.ref tb), .val (.int (0 : Int32)), .val (.int (Int32.ofNat cb)), .val (.int (Int32.ofNat cb)), .unset] [(.ref b2)])) (st2) ?_
  refine Go.by (T' := T2) (f' := (mkF m 14 #[.val (.ref tb), .val (.int (0 : Int32)), .val (.int (Int32.ofNat cb)), .val (.int (Int32.ofNat cb)), .val (.ref b2)] [])) (fun _ k => XS.astore X2.here hx rfl (hb hby d_corb_12) rfl rfl (l' := #[.val (.ref tb), .val (.int (0 : Int32)), .val (.int (Int32.ofNat cb)), .val (.int (Int32.ofNat cb)), .val (.ref b2)]) rfl k) ?_
  refine Go.by (T' := T2) (f' := (mkF m 15 #[.val (.ref tb), .val (.int (0 : Int32)), .val (.int (Int32.ofNat cb)), .val (.int (Int32.ofNat cb)), .val (.ref b2)] [(.ref tb)])) (fun _ k => XS.aloadN X2.here hx rfl (hb hby d_corb_14) rfl rfl k) ?_
  refine Go.by (T' := T2) (f' := (mkF m 16 #[.val (.ref tb), .val (.int (0 : Int32)), .val (.int (Int32.ofNat cb)), .val (.int (Int32.ofNat cb)), .val (.ref b2)] [(.int (0 : Int32)), (.ref tb)])) (fun _ k => XS.iloadN X2.here hx rfl (hb hby d_corb_15) rfl k) ?_
  refine Go.by (T' := T2) (f' := (mkF m 18 #[.val (.ref tb), .val (.int (0 : Int32)), .val (.int (Int32.ofNat cb)), .val (.int (Int32.ofNat cb)), .val (.ref b2)] [(.ref b2), (.int (0 : Int32)), (.ref tb)])) (fun _ k => XS.aload X2.here hx rfl (hb hby d_corb_16) rfl rfl k) ?_
  refine Go.by (T' := T2) (f' := (mkF m 19 #[.val (.ref tb), .val (.int (0 : Int32)), .val (.int (Int32.ofNat cb)), .val (.int (Int32.ofNat cb)), .val (.ref b2)] [(.int (0 : Int32)), (.ref b2), (.int (0 : Int32)), (.ref tb)])) (fun _ k => XS.iconst X2.here hx rfl (hb hby d_corb_18) k) ?_
  refine Go.by (T' := T2) (f' := (mkF m 20 #[.val (.ref tb), .val (.int (0 : Int32)), .val (.int (Int32.ofNat cb)), .val (.int (Int32.ofNat cb)), .val (.ref b2)] [(.ref tb), (.int (0 : Int32)), (.ref b2), (.int (0 : Int32)), (.ref tb)])) (fun _ k => XS.aloadN X2.here hx rfl (hb hby d_corb_19) rfl rfl k) ?_
  obtain ⟨cl3, Ar3, q3, S3, N3', H3, G3⟩ := id V_t
  refine Go.by (T' := T2) (f' := (mkF m 21 #[.val (.ref tb), .val (.int (0 : Int32)), .val (.int (Int32.ofNat cb)), .val (.int (Int32.ofNat cb)), .val (.ref b2)] [(.int (Int32.ofNat Lb)), (.int (0 : Int32)), (.ref b2), (.int (0 : Int32)), (.ref tb)])) (fun t k => X2.arraylength hx (by rw [e2]; exact Ar3.1) (State.isArrayOf_alike hZ.alike Ar3.2.1) (g := (mkF m 20 #[.val (.ref tb), .val (.int (0 : Int32)), .val (.int (Int32.ofNat cb)), .val (.int (Int32.ofNat cb)), .val (.ref b2)] [(.ref tb), (.int (0 : Int32)), (.ref b2), (.int (0 : Int32)), (.ref tb)])) rfl rfl (hb hby d_corb_20) t (by rw [len_of S3 N3']; exact k)) ?_
  refine Go.by (T' := T2) (f' := (mkF m 22 #[.val (.ref tb), .val (.int (0 : Int32)), .val (.int (Int32.ofNat cb)), .val (.int (Int32.ofNat cb)), .val (.ref b2)] [(.int (0 : Int32)), (.int (Int32.ofNat Lb)), (.int (0 : Int32)), (.ref b2), (.int (0 : Int32)), (.ref tb)])) (fun _ k => XS.iloadN X2.here hx rfl (hb hby d_corb_21) rfl k) ?_
  refine Go.by (T' := T2) (f' := (mkF m 23 #[.val (.ref tb), .val (.int (0 : Int32)), .val (.int (Int32.ofNat cb)), .val (.int (Int32.ofNat cb)), .val (.ref b2)] [(.int ((Int32.ofNat Lb) - (0 : Int32))), (.int (0 : Int32)), (.ref b2), (.int (0 : Int32)), (.ref tb)])) (fun _ k => XS.isub X2.here hx rfl (hb hby d_corb_22) rfl k) ?_
  rw [show ((Int32.ofNat Lb) - (0 : Int32)) = (Int32.ofNat Lb) from Int32.sub_zero _]
  refine Go.by (T' := T2) (f' := (mkF m 24 #[.val (.ref tb), .val (.int (0 : Int32)), .val (.int (Int32.ofNat cb)), .val (.int (Int32.ofNat cb)), .val (.ref b2)] [(.int (Int32.ofNat cb)), (.int (Int32.ofNat Lb)), (.int (0 : Int32)), (.ref b2), (.int (0 : Int32)), (.ref tb)])) (fun _ k => XS.iloadN X2.here hx rfl (hb hby d_corb_23) rfl k) ?_
  have hm4a : Lb < 1073741824 := by omega
  have hm4b : cb < 1073741824 := by omega
  obtain ⟨v4, _, ⟨T4, L4, k4, n4⟩, -, X4, ⟨Lc4, hQ4, l4, y4, z4⟩, st4⟩ := Jvm.LawKit.callS X2 hx (y := (⟨"java/lang/Math", "min", "(II)I"⟩ : MethodName)) hown (mvT hZ (hw _ (List.mem_of_getElem? (i := 161) rfl))) (mvT hZ (hw _ (List.mem_of_getElem? (i := 162) rfl))) (mvT hZ (hw _ (List.mem_of_getElem? (i := 163) rfl))) (mvT hZ (hw _ (List.mem_of_getElem? (i := 164) rfl))) (by decide) (backOf (W := 4) (rm_min l Z a0 hw [] (Lb) (cb) h2 n0 O hm4a hm4b) hZ (hw _ (List.mem_of_getElem? (i := 164) rfl)) (hw _ (List.mem_of_getElem? (i := 163) rfl)) (by decide) (by decide)) (g := (mkF m 24 #[.val (.ref tb), .val (.int (0 : Int32)), .val (.int (Int32.ofNat cb)), .val (.int (Int32.ofNat cb)), .val (.ref b2)] [(.int (Int32.ofNat cb)), (.int (Int32.ofNat Lb)), (.int (0 : Int32)), (.ref b2), (.int (0 : Int32)), (.ref tb)])) rfl (by rw [hml]; rfl) (argsL := [(.int (Int32.ofNat Lb)), (.int (Int32.ofNat cb))]) (rest := [(.int (0 : Int32)), (.ref b2), (.int (0 : Int32)), (.ref tb)]) (lenOf pd_corb_1 rfl) rfl (by show 2 * 0 + _ ≤ _; exact Nat.le_of_eq rfl) (hb hby d_corb_24) (fun _ _ => ⟨rfl, e2, (by decide : 1 + 0 ≤ _), (by decide : 150 + 0 ≤ _)⟩)
  dsimp only [Pt.U, Pt.locs, Pt.cells, Pt.slots] at X4 l4 y4 z4 st4 hQ4
  subst l4 y4 z4
  obtain ⟨rfl, Nq4, e4⟩ := hQ4
  replace N := Fr.app N Nq4
  refine Go.by (T' := T4) (f' := (mkF m 27 #[.val (.ref tb), .val (.int (0 : Int32)), .val (.int (Int32.ofNat cb)), .val (.int (Int32.ofNat cb)), .val (.ref b2)] [(.int (Int32.ofNat (min (Lb) (cb)))), (.int (0 : Int32)), (.ref b2), (.int (0 : Int32)), (.ref tb)])) (st4) ?_
  obtain ⟨vf5, lf5, Vf5⟩ := own_full V_b2
  obtain ⟨T5, h5, L5, X5, e5, N5, K5, V5, st5⟩ := cpA X4 hx hZ hown (hw _ (List.mem_of_getElem? (i := 165) rfl)) (hw _ (List.mem_of_getElem? (i := 97) rfl)) (hw _ (List.mem_of_getElem? (i := 95) rfl)) (hw _ (List.mem_of_getElem? (i := 96) rfl)) e4 V_t Vf5 (Or.inl ⟨rfl, rfl⟩) (sp := (0 : Int32)) (dp := (0 : Int32)) (nn := (Int32.ofNat (min (Lb) (cb)))) (by decide) (by decide) (own_neg (by omega)) (by rw [own_nat (by omega), own_nat (by omega)]; show 0 + _ ≤ _; omega) (by rw [own_nat (by omega), own_nat (by omega)]; show 0 + _ ≤ _; omega) rfl (by rw [lf5]; exact (by rw [own_nat (by omega), own_nat (by omega)]; show 0 + _ ≤ _; omega)) N g_b2 (g := (mkF m 27 #[.val (.ref tb), .val (.int (0 : Int32)), .val (.int (Int32.ofNat cb)), .val (.int (Int32.ofNat cb)), .val (.ref b2)] [(.int (Int32.ofNat (min (Lb) (cb)))), (.int (0 : Int32)), (.ref b2), (.int (0 : Int32)), (.ref tb)])) rfl (by rw [hml]; rfl) rfl (hb hby d_corb_27) (by decide) (W := 0) (by show 2 * 0 + _ ≤ _; exact Nat.le_of_eq rfl) (by decide)
  replace N := N5
  replace V_t := V_t.keep K5 (ninS ne_tb_b2 nin0)
  replace E_t := E_t.keep K5
  replace E_b2 := E_b2.keep K5
  replace O := O.keep K5 (allS g_b2 all0)
  replace K := K.trans K5 (allS (Or.inr sz_b2) all0)
  refine Go.by (T' := T5) (f' := (mkF m 30 #[.val (.ref tb), .val (.int (0 : Int32)), .val (.int (Int32.ofNat cb)), .val (.int (Int32.ofNat cb)), .val (.ref b2)] [])) (st5) ?_
  refine Go.by (T' := T5) (f' := (mkF m 32 #[.val (.ref tb), .val (.int (0 : Int32)), .val (.int (Int32.ofNat cb)), .val (.int (Int32.ofNat cb)), .val (.ref b2)] [(.ref b2)])) (fun _ k => XS.aload X5.here hx rfl (hb hby d_corb_30) rfl rfl k) ?_
  obtain ⟨fs, hr, hrun, hended, hW, hsame⟩ := X5.leave (v := some (.ref b2)) (fun h => by rw [Bd.returns] at h; cases h)
  refine ⟨_, _, retOut X5 hx Bd.returns rfl (Or.inr (Or.inr (Or.inr (Or.inr ⟨rfl, rfl, rfl⟩)))) (hb hby d_corb_32) hr, hrun, hended, _, _, rfl, ?_, ⟨_, rfl⟩, hW, hsame.mono (by decide) (by decide)⟩
  show Qr Z cb h0 n0 (some (.ref b2)) T5.heap _
  rw [e5]
  exact ⟨_, _, _, rfl, N, K, sz_b2, V5, E_b2⟩

theorem d_cor_0 : decode jdk_65_method_132_code 0 = .ok (.iload_n 1, 1) := by decide +kernel
theorem d_cor_1 : decode jdk_65_method_132_code 1 = .ok (.ifCond .ne 9, 3) := by decide +kernel
theorem d_cor_4 : decode jdk_65_method_132_code 4 = .ok (.iload_n 2, 1) := by decide +kernel
theorem d_cor_5 : decode jdk_65_method_132_code 5 = .ok (.aload_n 0, 1) := by decide +kernel
theorem d_cor_6 : decode jdk_65_method_132_code 6 = .ok (.arraylength, 1) := by decide +kernel
theorem d_cor_7 : decode jdk_65_method_132_code 7 = .ok (.if_icmp .eq 10, 3) := by decide +kernel
theorem d_cor_10 : decode jdk_65_method_132_code 10 = .ok (.aload_n 0, 1) := by decide +kernel
theorem d_cor_11 : decode jdk_65_method_132_code 11 = .ok (.iload_n 1, 1) := by decide +kernel
theorem d_cor_12 : decode jdk_65_method_132_code 12 = .ok (.iload_n 2, 1) := by decide +kernel
theorem d_cor_13 : decode jdk_65_method_132_code 13 = .ok (.invokestatic 339, 3) := by decide +kernel
theorem d_cor_16 : decode jdk_65_method_132_code 16 = .ok (.areturn, 1) := by decide +kernel
theorem d_cor_17 : decode jdk_65_method_132_code 17 = .ok (.aload_n 0, 1) := by decide +kernel
theorem d_cor_18 : decode jdk_65_method_132_code 18 = .ok (.invokevirtual 310, 3) := by decide +kernel
theorem d_cor_21 : decode jdk_65_method_132_code 21 = .ok (.checkcast 311, 3) := by decide +kernel
theorem d_cor_24 : decode jdk_65_method_132_code 24 = .ok (.areturn, 1) := by decide +kernel
theorem pn_cor : plainFor (⟨"java/util/Arrays", "copyOfRange", "([BII)[B"⟩ : MethodName) = true := plainFor_of_name (by first | (simp [plainName, overriddenIn]; done) | decide +kernel)
theorem pd_cor_0 : parseMethodDescriptor "([BII)[B" = some ⟨[(.array .byte), .int, .int], some (.array .byte)⟩ := by decide +kernel
theorem ef_cor (m : MethodId) (x0 : Addr) (x2 : Int32) : entryFrame m #[(.ref x0), (.int (0 : Int32)), (.int x2)] 3 = mkF m 0 #[.val (.ref x0), .val (.int (0 : Int32)), .val (.int x2)] [] := by first | (simp [entryFrame, mkF, argsToLocals, Value.category]; done) | rfl
set_option maxRecDepth 65536 in
set_option maxHeartbeats 40000000 in
theorem rm_cor (l : Launch) (Z : State) (a0 : Array Value) (hw : ∀ d ∈ tables_1, d.before a0 Z = true) (ws : List Jvm.Cond) (tb : Addr) (kt : ClassId) (Lb cb : Nat) (vt : List Value) (h0 : Heap) (n0 : Nat) (O : Old Z n0 h0) (V_t : Arv Z h0 tb kt .byte (Int32.ofNat Lb) vt (.int 0)) (E_t : Exa Z h0 tb "[B") (hcb : cb ≤ Lb) (hLb : Lb ≤ 300) (hcC : cb ≤ 150) :
    MetFree l (⟨"java/util/Arrays", "copyOfRange", "([BII)[B"⟩ : MethodName) (head1 (Jvm.Cond.code (⟨"java/util/Arrays", "copyOfRange", "([BII)[B"⟩ : MethodName) jdk_65_method_132_code 3 (some (.array .byte)) :: ws) ({ frames := 2, cells := 1, slots := 150, locals := 34 } : Room)) (fun as_ U => as_ = #[(.ref tb), (.int (0 : Int32)), (.int (Int32.ofNat cb))] ∧ Z.Warmed39 U.vm ∧ U.heap = h0) (fun _ _ _ _ _ => True) (fun _ U o U' => ∃ v L, o = .returned v ∧ Qr Z cb h0 n0 v U'.heap L ∧ FrameEnd U o U' L ({ frames := 2, cells := 1, slots := 150, locals := 34 } : Room).cells ({ frames := 2, cells := 1, slots := 150, locals := 34 } : Room).slots) := by
  refine MetFree.of_bodySF pn_cor hisR ?_
  intro p e s m args below meth c s₁ Bd hml0 hP hK
  obtain ⟨rfl, hZ, hh⟩ := hP
  have hx := Bd.exec
  have hby := Bd.bytes
  have hml : c.maxLocals = 3 := hml0
  have hown : s.vm.findClass "java/util/Arrays" = some m.cls := findClass_of_methodNamed Bd.named
  have hnm := (name_of_methodNamed Bd.named Bd.method).1
  have X0 : Stand p l e ({ frames := 2, cells := 1, slots := 150, locals := 34 } : Room) s m #[(.ref tb), (.int (0 : Int32)), (.int (Int32.ofNat cb))] below meth c s₁ [] 0 0 := Stand.of_body Bd
  have e0 : s₁.heap = h0 := by rw [← hh, Bd.state]; rfl
  have N := Fr.nil n0
  have K : Keep h0 h0 [] := Keep.refl _ _
  refine Go.by (T' := s₁) (f' := (mkF m 0 #[.val (.ref tb), .val (.int (0 : Int32)), .val (.int (Int32.ofNat cb))] [])) (fun _ k => castTop (ef_cor m tb (Int32.ofNat cb)) k) ?_
  refine Go.by (T' := s₁) (f' := (mkF m 1 #[.val (.ref tb), .val (.int (0 : Int32)), .val (.int (Int32.ofNat cb))] [(.int (0 : Int32))])) (fun _ k => XS.iloadN X0.here hx rfl (hb hby d_cor_0) rfl k) ?_
  refine Go.by (T' := s₁) (f' := (mkF m 4 #[.val (.ref tb), .val (.int (0 : Int32)), .val (.int (Int32.ofNat cb))] [])) (fun _ k => XS.ifNo X0.here hx rfl (hb hby d_cor_1) rfl ((if0 _ _).trans (teq (by decide : (0 : Int32) = (0 : Int32))).2) k) ?_
  refine Go.by (T' := s₁) (f' := (mkF m 5 #[.val (.ref tb), .val (.int (0 : Int32)), .val (.int (Int32.ofNat cb))] [(.int (Int32.ofNat cb))])) (fun _ k => XS.iloadN X0.here hx rfl (hb hby d_cor_4) rfl k) ?_
  refine Go.by (T' := s₁) (f' := (mkF m 6 #[.val (.ref tb), .val (.int (0 : Int32)), .val (.int (Int32.ofNat cb))] [(.ref tb), (.int (Int32.ofNat cb))])) (fun _ k => XS.aloadN X0.here hx rfl (hb hby d_cor_5) rfl rfl k) ?_
  obtain ⟨cl2, Ar2, q2, S2, N2', H2, G2⟩ := id V_t
  refine Go.by (T' := s₁) (f' := (mkF m 7 #[.val (.ref tb), .val (.int (0 : Int32)), .val (.int (Int32.ofNat cb))] [(.int (Int32.ofNat Lb)), (.int (Int32.ofNat cb))])) (fun t k => X0.arraylength hx (by rw [e0]; exact Ar2.1) (State.isArrayOf_alike hZ.alike Ar2.2.1) (g := (mkF m 6 #[.val (.ref tb), .val (.int (0 : Int32)), .val (.int (Int32.ofNat cb))] [(.ref tb), (.int (Int32.ofNat cb))])) rfl rfl (hb hby d_cor_6) t (by rw [len_of S2 N2']; exact k)) ?_
  by_cases hc7_3 : cb = Lb
  · skip
    refine Go.by (T' := s₁) (f' := (mkF m 17 #[.val (.ref tb), .val (.int (0 : Int32)), .val (.int (Int32.ofNat cb))] [])) (fun _ k => XS.icmpYes X0.here hx rfl (pc0 := 7) (pc' := 17) rfl (hb hby d_cor_7) rfl (teq ((own_neq (a := cb) (b := Lb) (by omega) (by omega)).mpr hc7_3)).1 (by decide) (by decide) k) ?_
    refine Go.by (T' := s₁) (f' := (mkF m 18 #[.val (.ref tb), .val (.int (0 : Int32)), .val (.int (Int32.ofNat cb))] [(.ref tb)])) (fun _ k => XS.aloadN X0.here hx rfl (hb hby d_cor_17) rfl rfl k) ?_
    obtain ⟨T4, h4, X4, e4, E4, A4, B4, st4⟩ := cloneH X0 hx hZ hown (hw _ (List.mem_of_getElem? (i := 184) rfl)) (hw _ (List.mem_of_getElem? (i := 185) rfl)) (hw _ (List.mem_of_getElem? (i := 189) rfl)) (hw _ (List.mem_of_getElem? (i := 187) rfl)) (hw _ (List.mem_of_getElem? (i := 188) rfl)) (hw _ (List.mem_of_getElem? (i := 190) rfl)) e0 (Arv.arh V_t) E_t (g := (mkF m 18 #[.val (.ref tb), .val (.int (0 : Int32)), .val (.int (Int32.ofNat cb))] [(.ref tb)])) rfl (by rw [hml]; rfl) rfl (hb hby d_cor_18) (by decide) (W := 0) (by show 2 * 0 + _ ≤ _; exact Nat.le_of_eq rfl) (by decide) (cap := 150) (by rw [own_nat (by omega)]; omega) (by decide) (by decide)
    obtain ⟨b4, g4⟩ : ∃ z, z = h0.size := ⟨_, rfl⟩
    rw [← g4] at A4 B4 st4
    have ne_tb_b4 : tb ≠ b4 := Nat.ne_of_lt (Nat.lt_of_lt_of_le V_t.lt (Nat.le_of_eq g4.symm))
    have g_b4 : n0 ≤ b4 := Nat.le_trans (Old.le O) (Nat.le_of_eq g4.symm)
    have sz_b4 : h0.size ≤ b4 := Nat.le_trans K.1 (Nat.le_of_eq g4.symm)
    replace V_t := V_t.ext E4
    replace E_t := E_t.ext E4
    replace O := O.ext E4
    replace K := K.ext E4
    have V_b4 : Arv Z h4 b4 _ .byte (Int32.ofNat Lb) _ (.int (0 : Int32)) := A4
    have E_b4 := B4
    refine Go.by (T' := T4) (f' := (mkF m 21 #[.val (.ref tb), .val (.int (0 : Int32)), .val (.int (Int32.ofNat cb))] [(.ref b4)])) (st4) ?_
    obtain ⟨T5, X5, e5, st5⟩ := castY X4 hx hZ hown (hw _ (List.mem_of_getElem? (i := 191) rfl)) e4 (Ins.self E_b4) (g := (mkF m 21 #[.val (.ref tb), .val (.int (0 : Int32)), .val (.int (Int32.ofNat cb))] [(.ref b4)])) rfl rfl (hb hby d_cor_21)
    refine Go.by (T' := T5) (f' := (mkF m 24 #[.val (.ref tb), .val (.int (0 : Int32)), .val (.int (Int32.ofNat cb))] [(.ref b4)])) (st5) ?_
    obtain ⟨fs, hr, hrun, hended, hW, hsame⟩ := X5.leave (v := some (.ref b4)) (fun h => by rw [Bd.returns] at h; cases h)
    refine ⟨_, _, retOut X5 hx Bd.returns rfl (Or.inr (Or.inr (Or.inr (Or.inr ⟨rfl, rfl, rfl⟩)))) (hb hby d_cor_24) hr, hrun, hended, _, _, rfl, ?_, ⟨_, rfl⟩, hW, hsame.mono (by decide) (by decide)⟩
    show Qr Z cb h0 n0 (some (.ref b4)) T5.heap _
    rw [e5]
    have eL : cb = Lb := by omega
    subst eL
    exact ⟨_, _, _, rfl, N, K, sz_b4, V_b4, E_b4⟩
  · skip
    refine Go.by (T' := s₁) (f' := (mkF m 10 #[.val (.ref tb), .val (.int (0 : Int32)), .val (.int (Int32.ofNat cb))] [])) (fun _ k => XS.icmpNo X0.here hx rfl (hb hby d_cor_7) rfl (feq (mt (own_neq (a := cb) (b := Lb) (by omega) (by omega)).mp hc7_3)).1 k) ?_
    refine Go.by (T' := s₁) (f' := (mkF m 11 #[.val (.ref tb), .val (.int (0 : Int32)), .val (.int (Int32.ofNat cb))] [(.ref tb)])) (fun _ k => XS.aloadN X0.here hx rfl (hb hby d_cor_10) rfl rfl k) ?_
    refine Go.by (T' := s₁) (f' := (mkF m 12 #[.val (.ref tb), .val (.int (0 : Int32)), .val (.int (Int32.ofNat cb))] [(.int (0 : Int32)), (.ref tb)])) (fun _ k => XS.iloadN X0.here hx rfl (hb hby d_cor_11) rfl k) ?_
    refine Go.by (T' := s₁) (f' := (mkF m 13 #[.val (.ref tb), .val (.int (0 : Int32)), .val (.int (Int32.ofNat cb))] [(.int (Int32.ofNat cb)), (.int (0 : Int32)), (.ref tb)])) (fun _ k => XS.iloadN X0.here hx rfl (hb hby d_cor_12) rfl k) ?_
    have hr6a : cb ≤ Lb := by omega
    have hr6b : Lb ≤ 300 := by omega
    have hr6c : cb ≤ 150 := by omega
    obtain ⟨v6, _, ⟨T6, L6, k6, n6⟩, -, X6, ⟨Lc6, hQ6, l6, y6, z6⟩, st6⟩ := Jvm.LawKit.callS X0 hx (y := (⟨"java/util/Arrays", "copyOfRangeByte", "([BII)[B"⟩ : MethodName)) hown (mvT hZ (hw _ (List.mem_of_getElem? (i := 155) rfl))) (mvT hZ (hw _ (List.mem_of_getElem? (i := 156) rfl))) (mvT hZ (hw _ (List.mem_of_getElem? (i := 153) rfl))) (mvT hZ (hw _ (List.mem_of_getElem? (i := 157) rfl))) (by decide) (backOf (W := 0) (rm_corb l Z a0 hw [] tb _ (Lb) (cb) _ h0 n0 O V_t E_t hr6a hr6b hr6c) hZ (hw _ (List.mem_of_getElem? (i := 157) rfl)) (hw _ (List.mem_of_getElem? (i := 153) rfl)) (by decide) (by decide)) (g := (mkF m 13 #[.val (.ref tb), .val (.int (0 : Int32)), .val (.int (Int32.ofNat cb))] [(.int (Int32.ofNat cb)), (.int (0 : Int32)), (.ref tb)])) rfl (by rw [hml]; rfl) (argsL := [(.ref tb), (.int (0 : Int32)), (.int (Int32.ofNat cb))]) (rest := []) (lenOf pd_cor_0 rfl) rfl (by show 2 * 0 + _ ≤ _; exact Nat.le_of_eq rfl) (hb hby d_cor_13) (fun _ _ => ⟨rfl, e0, (by decide : 0 + 1 ≤ _), (by decide : 0 + 150 ≤ _)⟩)
    dsimp only [Pt.U, Pt.locs, Pt.cells, Pt.slots] at X6 l6 y6 z6 st6 hQ6
    subst l6 y6 z6
    obtain ⟨r6, k26, vs6, rfl, Nq6, K6, gr6, Vr6, Er6⟩ := hQ6
    replace N := Fr.app N Nq6
    have ne_tb_r6 : tb ≠ r6 := Nat.ne_of_lt (Nat.lt_of_lt_of_le V_t.lt gr6)
    have g_r6 : n0 ≤ r6 := Nat.le_trans (Old.le O) gr6
    have sz_r6 : h0.size ≤ r6 := Nat.le_trans K.1 gr6
    replace V_t := V_t.keep K6 nin0
    replace E_t := E_t.keep K6
    replace O := O.keep K6 all0
    replace K := K.trans K6 all0
    refine Go.by (T' := T6) (f' := (mkF m 16 #[.val (.ref tb), .val (.int (0 : Int32)), .val (.int (Int32.ofNat cb))] [(.ref r6)])) (st6) ?_
    obtain ⟨fs, hr, hrun, hended, hW, hsame⟩ := X6.leave (v := some (.ref r6)) (fun h => by rw [Bd.returns] at h; cases h)
    refine ⟨_, _, retOut X6 hx Bd.returns rfl (Or.inr (Or.inr (Or.inr (Or.inr ⟨rfl, rfl, rfl⟩)))) (hb hby d_cor_16) hr, hrun, hended, _, _, rfl, ?_, ⟨_, rfl⟩, hW, hsame.mono (by decide) (by decide)⟩
    show Qr Z cb h0 n0 (some (.ref r6)) T6.heap _
    exact ⟨_, _, _, rfl, N, K, sz_r6, Vr6, Er6⟩

theorem d_gv_0 : decode jdk_68_method_64_code 0 = .ok (.aload_n 0, 1) := by decide +kernel
theorem d_gv_1 : decode jdk_68_method_64_code 1 = .ok (.getfield 15, 3) := by decide +kernel
theorem d_gv_4 : decode jdk_68_method_64_code 4 = .ok (.areturn, 1) := by decide +kernel
theorem pn_gv : plainFor (⟨"java/lang/AbstractStringBuilder", "getValue", "()[B"⟩ : MethodName) = true := plainFor_of_name (by first | (simp [plainName, overriddenIn]; done) | decide +kernel)
theorem ef_gv (m : MethodId) (x0 : Addr) : entryFrame m #[(.ref x0)] 1 = mkF m 0 #[.val (.ref x0)] [] := by first | (simp [entryFrame, mkF, argsToLocals, Value.category]; done) | rfl
set_option maxRecDepth 65536 in
set_option maxHeartbeats 40000000 in
theorem rm_gv (l : Launch) (Z : State) (a0 : Array Value) (hw : ∀ d ∈ tables_1, d.before a0 Z = true) (ws : List Jvm.Cond) (bb tb : Addr) (kt : ClassId) (Lb cb : Nat) (vt : List Value) (h0 : Heap) (n0 : Nat) (O : Old Z n0 h0) (E_b : Exa Z h0 bb "java/lang/StringBuilder") (Fv_b : Fld Z h0 bb "java/lang/AbstractStringBuilder" "value" "[B" (.ref tb)) (Fc_b : Fld Z h0 bb "java/lang/AbstractStringBuilder" "coder" "B" (.int 0)) (Fn_b : Fld Z h0 bb "java/lang/AbstractStringBuilder" "count" "I" (.int (Int32.ofNat cb))) (V_t : Arv Z h0 tb kt .byte (Int32.ofNat Lb) vt (.int 0)) (E_t : Exa Z h0 tb "[B") (g_bb : n0 ≤ bb) (g_tb : n0 ≤ tb) (hLb : Lb ≤ 300) (hLb2 : 16 ≤ Lb) (hcLb : cb ≤ Lb) :
    MetFree l (⟨"java/lang/AbstractStringBuilder", "getValue", "()[B"⟩ : MethodName) (head1 (Jvm.Cond.code (⟨"java/lang/AbstractStringBuilder", "getValue", "()[B"⟩ : MethodName) jdk_68_method_64_code 1 (some (.array .byte)) :: ws) ({ frames := 0, cells := 0, slots := 0, locals := 0 } : Room)) (fun as_ U => as_ = #[(.ref bb)] ∧ Z.Warmed39 U.vm ∧ U.heap = h0) (fun _ _ _ _ _ => True) (fun _ U o U' => ∃ v L, o = .returned v ∧ Qpure (some (.ref tb)) h0 n0 v U'.heap L ∧ FrameEnd U o U' L ({ frames := 0, cells := 0, slots := 0, locals := 0 } : Room).cells ({ frames := 0, cells := 0, slots := 0, locals := 0 } : Room).slots) := by
  refine MetFree.of_bodySF pn_gv hisR ?_
  intro p e s m args below meth c s₁ Bd hml0 hP hK
  obtain ⟨rfl, hZ, hh⟩ := hP
  have hx := Bd.exec
  have hby := Bd.bytes
  have hml : c.maxLocals = 1 := hml0
  have hown : s.vm.findClass "java/lang/AbstractStringBuilder" = some m.cls := findClass_of_methodNamed Bd.named
  have hnm := (name_of_methodNamed Bd.named Bd.method).1
  have X0 : Stand p l e ({ frames := 0, cells := 0, slots := 0, locals := 0 } : Room) s m #[(.ref bb)] below meth c s₁ [] 0 0 := Stand.of_body Bd
  have e0 : s₁.heap = h0 := by rw [← hh, Bd.state]; rfl
  have N := Fr.nil n0
  have K : Keep h0 h0 [] := Keep.refl _ _
  refine Go.by (T' := s₁) (f' := (mkF m 0 #[.val (.ref bb)] [])) (fun _ k => castTop (ef_gv m bb) k) ?_
  refine Go.by (T' := s₁) (f' := (mkF m 1 #[.val (.ref bb)] [(.ref bb)])) (fun _ k => XS.aloadN X0.here hx rfl (hb hby d_gv_0) rfl rfl k) ?_
  obtain ⟨T1, X1, e1, st1⟩ := getF X0 hx hZ hown (host := "") (Or.inl (hw _ (List.mem_of_getElem? (i := 45) rfl))) Via.refl e0 Fv_b (g := (mkF m 1 #[.val (.ref bb)] [(.ref bb)])) rfl rfl (hb hby d_gv_1)
  refine Go.by (T' := T1) (f' := (mkF m 4 #[.val (.ref bb)] [(.ref tb)])) (st1) ?_
  obtain ⟨fs, hr, hrun, hended, hW, hsame⟩ := X1.leave (v := some (.ref tb)) (fun h => by rw [Bd.returns] at h; cases h)
  refine ⟨_, _, retOut X1 hx Bd.returns rfl (Or.inr (Or.inr (Or.inr (Or.inr ⟨rfl, rfl, rfl⟩)))) (hb hby d_gv_4) hr, hrun, hended, _, _, rfl, ?_, ⟨_, rfl⟩, hW, hsame.mono (by decide) (by decide)⟩
  show Qpure (some (.ref tb)) h0 n0 (some (.ref tb)) T1.heap _
  rw [e1]
  exact ⟨rfl, N, rfl⟩

theorem d_alen_0 : decode jdk_68_method_6_code 0 = .ok (.aload_n 0, 1) := by decide +kernel
theorem d_alen_1 : decode jdk_68_method_6_code 1 = .ok (.getfield 79, 3) := by decide +kernel
theorem d_alen_4 : decode jdk_68_method_6_code 4 = .ok (.ireturn, 1) := by decide +kernel
theorem pn_alen : plainFor (⟨"java/lang/AbstractStringBuilder", "length", "()I"⟩ : MethodName) = true := plainFor_of_name (by first | (simp [plainName, overriddenIn]; done) | decide +kernel)
theorem ef_alen (m : MethodId) (x0 : Addr) : entryFrame m #[(.ref x0)] 1 = mkF m 0 #[.val (.ref x0)] [] := by first | (simp [entryFrame, mkF, argsToLocals, Value.category]; done) | rfl
set_option maxRecDepth 65536 in
set_option maxHeartbeats 40000000 in
theorem rm_alen (l : Launch) (Z : State) (a0 : Array Value) (hw : ∀ d ∈ tables_1, d.before a0 Z = true) (ws : List Jvm.Cond) (bb tb : Addr) (kt : ClassId) (Lb cb : Nat) (vt : List Value) (h0 : Heap) (n0 : Nat) (O : Old Z n0 h0) (E_b : Exa Z h0 bb "java/lang/StringBuilder") (Fv_b : Fld Z h0 bb "java/lang/AbstractStringBuilder" "value" "[B" (.ref tb)) (Fc_b : Fld Z h0 bb "java/lang/AbstractStringBuilder" "coder" "B" (.int 0)) (Fn_b : Fld Z h0 bb "java/lang/AbstractStringBuilder" "count" "I" (.int (Int32.ofNat cb))) (V_t : Arv Z h0 tb kt .byte (Int32.ofNat Lb) vt (.int 0)) (E_t : Exa Z h0 tb "[B") (g_bb : n0 ≤ bb) (g_tb : n0 ≤ tb) (hLb : Lb ≤ 300) (hLb2 : 16 ≤ Lb) (hcLb : cb ≤ Lb) :
    MetFree l (⟨"java/lang/AbstractStringBuilder", "length", "()I"⟩ : MethodName) (head1 (Jvm.Cond.code (⟨"java/lang/AbstractStringBuilder", "length", "()I"⟩ : MethodName) jdk_68_method_6_code 1 (some .int) :: ws) ({ frames := 0, cells := 0, slots := 0, locals := 0 } : Room)) (fun as_ U => as_ = #[(.ref bb)] ∧ Z.Warmed39 U.vm ∧ U.heap = h0) (fun _ _ _ _ _ => True) (fun _ U o U' => ∃ v L, o = .returned v ∧ Qpure (some (.int (Int32.ofNat cb))) h0 n0 v U'.heap L ∧ FrameEnd U o U' L ({ frames := 0, cells := 0, slots := 0, locals := 0 } : Room).cells ({ frames := 0, cells := 0, slots := 0, locals := 0 } : Room).slots) := by
  refine MetFree.of_bodySF pn_alen hisR ?_
  intro p e s m args below meth c s₁ Bd hml0 hP hK
  obtain ⟨rfl, hZ, hh⟩ := hP
  have hx := Bd.exec
  have hby := Bd.bytes
  have hml : c.maxLocals = 1 := hml0
  have hown : s.vm.findClass "java/lang/AbstractStringBuilder" = some m.cls := findClass_of_methodNamed Bd.named
  have hnm := (name_of_methodNamed Bd.named Bd.method).1
  have X0 : Stand p l e ({ frames := 0, cells := 0, slots := 0, locals := 0 } : Room) s m #[(.ref bb)] below meth c s₁ [] 0 0 := Stand.of_body Bd
  have e0 : s₁.heap = h0 := by rw [← hh, Bd.state]; rfl
  have N := Fr.nil n0
  have K : Keep h0 h0 [] := Keep.refl _ _
  refine Go.by (T' := s₁) (f' := (mkF m 0 #[.val (.ref bb)] [])) (fun _ k => castTop (ef_alen m bb) k) ?_
  refine Go.by (T' := s₁) (f' := (mkF m 1 #[.val (.ref bb)] [(.ref bb)])) (fun _ k => XS.aloadN X0.here hx rfl (hb hby d_alen_0) rfl rfl k) ?_
  obtain ⟨T1, X1, e1, st1⟩ := getF X0 hx hZ hown (host := "") (Or.inl (hw _ (List.mem_of_getElem? (i := 71) rfl))) Via.refl e0 Fn_b (g := (mkF m 1 #[.val (.ref bb)] [(.ref bb)])) rfl rfl (hb hby d_alen_1)
  refine Go.by (T' := T1) (f' := (mkF m 4 #[.val (.ref bb)] [(.int (Int32.ofNat cb))])) (st1) ?_
  obtain ⟨fs, hr, hrun, hended, hW, hsame⟩ := X1.leave (v := some (.int (Int32.ofNat cb))) (fun h => by rw [Bd.returns] at h; cases h)
  refine ⟨_, _, retOut X1 hx Bd.returns rfl (Or.inl ⟨rfl, Or.inl rfl, _, rfl⟩) (hb hby d_alen_4) hr, hrun, hended, _, _, rfl, ?_, ⟨_, rfl⟩, hW, hsame.mono (by decide) (by decide)⟩
  show Qpure (some (.int (Int32.ofNat cb))) h0 n0 (some (.int (Int32.ofNat cb))) T1.heap _
  rw [e1]
  exact ⟨rfl, N, rfl⟩

theorem d_blen_0 : decode jdk_67_method_93_code 0 = .ok (.aload_n 0, 1) := by decide +kernel
theorem d_blen_1 : decode jdk_67_method_93_code 1 = .ok (.invokespecial 343, 3) := by decide +kernel
theorem d_blen_4 : decode jdk_67_method_93_code 4 = .ok (.ireturn, 1) := by decide +kernel
theorem pn_blen : plainFor (⟨"java/lang/StringBuilder", "length", "()I"⟩ : MethodName) = true := plainFor_of_name (by first | (simp [plainName, overriddenIn]; done) | decide +kernel)
theorem pd_blen_0 : parseMethodDescriptor "()I" = some ⟨[], some .int⟩ := by decide +kernel
theorem ef_blen (m : MethodId) (x0 : Addr) : entryFrame m #[(.ref x0)] 1 = mkF m 0 #[.val (.ref x0)] [] := by first | (simp [entryFrame, mkF, argsToLocals, Value.category]; done) | rfl
set_option maxRecDepth 65536 in
set_option maxHeartbeats 40000000 in
theorem rm_blen (l : Launch) (Z : State) (a0 : Array Value) (hw : ∀ d ∈ tables_1, d.before a0 Z = true) (ws : List Jvm.Cond) (bb tb : Addr) (kt : ClassId) (Lb cb : Nat) (vt : List Value) (h0 : Heap) (n0 : Nat) (O : Old Z n0 h0) (E_b : Exa Z h0 bb "java/lang/StringBuilder") (Fv_b : Fld Z h0 bb "java/lang/AbstractStringBuilder" "value" "[B" (.ref tb)) (Fc_b : Fld Z h0 bb "java/lang/AbstractStringBuilder" "coder" "B" (.int 0)) (Fn_b : Fld Z h0 bb "java/lang/AbstractStringBuilder" "count" "I" (.int (Int32.ofNat cb))) (V_t : Arv Z h0 tb kt .byte (Int32.ofNat Lb) vt (.int 0)) (E_t : Exa Z h0 tb "[B") (g_bb : n0 ≤ bb) (g_tb : n0 ≤ tb) (hLb : Lb ≤ 300) (hLb2 : 16 ≤ Lb) (hcLb : cb ≤ Lb) :
    MetFree l (⟨"java/lang/StringBuilder", "length", "()I"⟩ : MethodName) (head1 (Jvm.Cond.code (⟨"java/lang/StringBuilder", "length", "()I"⟩ : MethodName) jdk_67_method_93_code 1 (some .int) :: ws) ({ frames := 1, cells := 0, slots := 0, locals := 12 } : Room)) (fun as_ U => as_ = #[(.ref bb)] ∧ Z.Warmed39 U.vm ∧ U.heap = h0) (fun _ _ _ _ _ => True) (fun _ U o U' => ∃ v L, o = .returned v ∧ Qpure (some (.int (Int32.ofNat cb))) h0 n0 v U'.heap L ∧ FrameEnd U o U' L ({ frames := 1, cells := 0, slots := 0, locals := 12 } : Room).cells ({ frames := 1, cells := 0, slots := 0, locals := 12 } : Room).slots) := by
  refine MetFree.of_bodySF pn_blen hisR ?_
  intro p e s m args below meth c s₁ Bd hml0 hP hK
  obtain ⟨rfl, hZ, hh⟩ := hP
  have hx := Bd.exec
  have hby := Bd.bytes
  have hml : c.maxLocals = 1 := hml0
  have hown : s.vm.findClass "java/lang/StringBuilder" = some m.cls := findClass_of_methodNamed Bd.named
  have hnm := (name_of_methodNamed Bd.named Bd.method).1
  have X0 : Stand p l e ({ frames := 1, cells := 0, slots := 0, locals := 12 } : Room) s m #[(.ref bb)] below meth c s₁ [] 0 0 := Stand.of_body Bd
  have e0 : s₁.heap = h0 := by rw [← hh, Bd.state]; rfl
  have N := Fr.nil n0
  have K : Keep h0 h0 [] := Keep.refl _ _
  refine Go.by (T' := s₁) (f' := (mkF m 0 #[.val (.ref bb)] [])) (fun _ k => castTop (ef_blen m bb) k) ?_
  refine Go.by (T' := s₁) (f' := (mkF m 1 #[.val (.ref bb)] [(.ref bb)])) (fun _ k => XS.aloadN X0.here hx rfl (hb hby d_blen_0) rfl rfl k) ?_
  have hi1a : Lb ≤ 300 := by omega
  have hi1b : 16 ≤ Lb := by omega
  have hi1c : cb ≤ Lb := by omega
  obtain ⟨v1, _, ⟨T1, L1, k1, n1⟩, -, X1, ⟨Lc1, hQ1, l1, y1, z1⟩, st1⟩ := superBack X0 hx hZ (y := (⟨"java/lang/AbstractStringBuilder", "length", "()I"⟩ : MethodName)) hown (hw _ (List.mem_of_getElem? (i := 148) rfl)) (own_same (y := (⟨"java/lang/AbstractStringBuilder", "length", "()I"⟩ : MethodName)) (hw _ (List.mem_of_getElem? (i := 76) rfl)) rfl (hw _ (List.mem_of_getElem? (i := 144) rfl)) (by decide)) (hw _ (List.mem_of_getElem? (i := 144) rfl)) (hw _ (List.mem_of_getElem? (i := 57) rfl)) (by decide) (backOf (W := 0) (rm_alen l Z a0 hw [] bb tb _ (Lb) (cb) _ h0 n0 O E_b Fv_b Fc_b Fn_b V_t E_t g_bb g_tb hi1a hi1b hi1c) hZ (hw _ (List.mem_of_getElem? (i := 149) rfl)) (hw _ (List.mem_of_getElem? (i := 41) rfl)) (by decide) (by decide)) e0 (Ins.self E_b) (g := (mkF m 1 #[.val (.ref bb)] [(.ref bb)])) rfl (by rw [hml]; rfl) (hw _ (List.mem_of_getElem? (i := 149) rfl)) (argsL := []) (rest := []) (lenOf pd_blen_0 rfl) rfl (by show 2 * 0 + _ ≤ _; exact Nat.le_of_eq rfl) (hb hby d_blen_1) (fun _ _ => ⟨rfl, e0, (by decide : 0 + 0 ≤ _), (by decide : 0 + 0 ≤ _)⟩)
  dsimp only [Pt.U, Pt.locs, Pt.cells, Pt.slots] at X1 l1 y1 z1 st1 hQ1
  subst l1 y1 z1
  obtain ⟨rfl, Nq1, e1⟩ := hQ1
  replace N := Fr.app N Nq1
  refine Go.by (T' := T1) (f' := (mkF m 4 #[.val (.ref bb)] [(.int (Int32.ofNat cb))])) (fun _ k => st1.trans k) ?_
  obtain ⟨fs, hr, hrun, hended, hW, hsame⟩ := X1.leave (v := some (.int (Int32.ofNat cb))) (fun h => by rw [Bd.returns] at h; cases h)
  refine ⟨_, _, retOut X1 hx Bd.returns rfl (Or.inl ⟨rfl, Or.inl rfl, _, rfl⟩) (hb hby d_blen_4) hr, hrun, hended, _, _, rfl, ?_, ⟨_, rfl⟩, hW, hsame.mono (by decide) (by decide)⟩
  show Qpure (some (.int (Int32.ofNat cb))) h0 n0 (some (.int (Int32.ofNat cb))) T1.heap _
  rw [e1]
  exact ⟨rfl, N, rfl⟩

theorem d_siv_0 : decode jdk_42_method_150_code 0 = .ok (.aload_n 0, 1) := by decide +kernel
theorem d_siv_1 : decode jdk_42_method_150_code 1 = .ok (.invokespecial 1, 3) := by decide +kernel
theorem d_siv_4 : decode jdk_42_method_150_code 4 = .ok (.aload_n 1, 1) := by decide +kernel
theorem d_siv_5 : decode jdk_42_method_150_code 5 = .ok (.invokevirtual 552, 3) := by decide +kernel
theorem d_siv_8 : decode jdk_42_method_150_code 8 = .ok (.astore_n 3, 1) := by decide +kernel
theorem d_siv_9 : decode jdk_42_method_150_code 9 = .ok (.aload_n 1, 1) := by decide +kernel
theorem d_siv_10 : decode jdk_42_method_150_code 10 = .ok (.invokevirtual 549, 3) := by decide +kernel
theorem d_siv_13 : decode jdk_42_method_150_code 13 = .ok (.istore 4, 2) := by decide +kernel
theorem d_siv_15 : decode jdk_42_method_150_code 15 = .ok (.aload_n 1, 1) := by decide +kernel
theorem d_siv_16 : decode jdk_42_method_150_code 16 = .ok (.invokevirtual 1047, 3) := by decide +kernel
theorem d_siv_19 : decode jdk_42_method_150_code 19 = .ok (.ifCond .eq 22, 3) := by decide +kernel
theorem d_siv_22 : decode jdk_42_method_150_code 22 = .ok (.aload_n 0, 1) := by decide +kernel
theorem d_siv_23 : decode jdk_42_method_150_code 23 = .ok (.iconst 0, 1) := by decide +kernel
theorem d_siv_24 : decode jdk_42_method_150_code 24 = .ok (.putfield 15, 3) := by decide +kernel
theorem d_siv_27 : decode jdk_42_method_150_code 27 = .ok (.aload_n 0, 1) := by decide +kernel
theorem d_siv_28 : decode jdk_42_method_150_code 28 = .ok (.aload_n 3, 1) := by decide +kernel
theorem d_siv_29 : decode jdk_42_method_150_code 29 = .ok (.iconst 0, 1) := by decide +kernel
theorem d_siv_30 : decode jdk_42_method_150_code 30 = .ok (.iload 4, 2) := by decide +kernel
theorem d_siv_32 : decode jdk_42_method_150_code 32 = .ok (.invokestatic 54, 3) := by decide +kernel
theorem d_siv_35 : decode jdk_42_method_150_code 35 = .ok (.putfield 9, 3) := by decide +kernel
theorem d_siv_38 : decode jdk_42_method_150_code 38 = .ok (.goto 59, 3) := by decide +kernel
theorem d_siv_97 : decode jdk_42_method_150_code 97 = .ok (.return_, 1) := by decide +kernel
theorem pn_siv : plainFor (⟨"java/lang/String", "<init>", "(Ljava/lang/AbstractStringBuilder;Ljava/lang/Void;)V"⟩ : MethodName) = true := plainFor_of_name (by first | (simp [plainName, overriddenIn]; done) | decide +kernel)
theorem pd_siv_0 : parseMethodDescriptor "()[B" = some ⟨[], some (.array .byte)⟩ := by decide +kernel
theorem pd_siv_1 : parseMethodDescriptor "()I" = some ⟨[], some .int⟩ := by decide +kernel
theorem pd_siv_2 : parseMethodDescriptor "()Z" = some ⟨[], some .boolean⟩ := by decide +kernel
theorem pd_siv_3 : parseMethodDescriptor "([BII)[B" = some ⟨[(.array .byte), .int, .int], some (.array .byte)⟩ := by decide +kernel
theorem ef_siv (m : MethodId) (x0 : Addr) (x1 : Addr) : entryFrame m #[(.ref x0), (.ref x1), .null] 5 = mkF m 0 #[.val (.ref x0), .val (.ref x1), .val .null, .unset, .unset] [] := by first | (simp [entryFrame, mkF, argsToLocals, Value.category]; done) | rfl
set_option maxRecDepth 65536 in
set_option maxHeartbeats 40000000 in
theorem rm_siv (l : Launch) (Z : State) (a0 : Array Value) (hw : ∀ d ∈ tables_1, d.before a0 Z = true) (ws : List Jvm.Cond) (bb tb : Addr) (kt : ClassId) (Lb cb : Nat) (vt : List Value) (x : Addr) (zc : Int32) (ls us ss : Addr) (hS0 : Sf Z zc ls us ss) (h0 : Heap) (n0 : Nat) (O : Old Z n0 h0) (E_b : Exa Z h0 bb "java/lang/StringBuilder") (Fv_b : Fld Z h0 bb "java/lang/AbstractStringBuilder" "value" "[B" (.ref tb)) (Fc_b : Fld Z h0 bb "java/lang/AbstractStringBuilder" "coder" "B" (.int 0)) (Fn_b : Fld Z h0 bb "java/lang/AbstractStringBuilder" "count" "I" (.int (Int32.ofNat cb))) (V_t : Arv Z h0 tb kt .byte (Int32.ofNat Lb) vt (.int 0)) (E_t : Exa Z h0 tb "[B") (g_bb : n0 ≤ bb) (g_tb : n0 ≤ tb) (hLb : Lb ≤ 300) (hLb2 : 16 ≤ Lb) (hcLb : cb ≤ Lb) (E_x : Exa Z h0 x "java/lang/String") (Fv_x : Fld Z h0 x "java/lang/String" "value" "[B" .null) (Fc_x : Fld Z h0 x "java/lang/String" "coder" "B" (.int 0)) (g_x : n0 ≤ x) (hcC : cb ≤ 150) :
    MetFree l (⟨"java/lang/String", "<init>", "(Ljava/lang/AbstractStringBuilder;Ljava/lang/Void;)V"⟩ : MethodName) (head1 (Jvm.Cond.code (⟨"java/lang/String", "<init>", "(Ljava/lang/AbstractStringBuilder;Ljava/lang/Void;)V"⟩ : MethodName) jdk_42_method_150_code 5 none :: ws) ({ frames := 3, cells := 1, slots := 150, locals := 49 } : Room)) (fun as_ U => as_ = #[(.ref x), (.ref bb), .null] ∧ Z.Warmed39 U.vm ∧ U.heap = h0) (fun _ _ _ _ _ => True) (fun _ U o U' => ∃ v L, o = .returned v ∧ Qi Z x cb h0 n0 v U'.heap L ∧ FrameEnd U o U' L ({ frames := 3, cells := 1, slots := 150, locals := 49 } : Room).cells ({ frames := 3, cells := 1, slots := 150, locals := 49 } : Room).slots) := by
  refine MetFree.of_bodySF pn_siv hisR ?_
  intro p e s m args below meth c s₁ Bd hml0 hP hK
  obtain ⟨rfl, hZ, hh⟩ := hP
  have hx := Bd.exec
  have hby := Bd.bytes
  have hml : c.maxLocals = 5 := hml0
  have hown : s.vm.findClass "java/lang/String" = some m.cls := findClass_of_methodNamed Bd.named
  have hnm := (name_of_methodNamed Bd.named Bd.method).1
  have X0 : Stand p l e ({ frames := 3, cells := 1, slots := 150, locals := 49 } : Room) s m #[(.ref x), (.ref bb), .null] below meth c s₁ [] 0 0 := Stand.of_body Bd
  have e0 : s₁.heap = h0 := by rw [← hh, Bd.state]; rfl
  have N := Fr.nil n0
  have K : Keep h0 h0 [x] := Keep.refl _ _
  refine Go.by (T' := s₁) (f' := (mkF m 0 #[.val (.ref x), .val (.ref bb), .val .null, .unset, .unset] [])) (fun _ k => castTop (ef_siv m x bb) k) ?_
  refine Go.by (T' := s₁) (f' := (mkF m 1 #[.val (.ref x), .val (.ref bb), .val .null, .unset, .unset] [(.ref x)])) (fun _ k => XS.aloadN X0.here hx rfl (hb hby d_siv_0) rfl rfl k) ?_
  obtain ⟨T1, X1, e1, st1⟩ := initO X0 hx hZ hown (hw _ (List.mem_of_getElem? (i := 11) rfl)) (hw _ (List.mem_of_getElem? (i := 12) rfl)) (hw _ (List.mem_of_getElem? (i := 13) rfl)) e0 (g := (mkF m 1 #[.val (.ref x), .val (.ref bb), .val .null, .unset, .unset] [(.ref x)])) rfl (by rw [hml]; rfl) rfl (hb hby d_siv_1) (by decide) (W := 0) (by show 2 * 0 + _ ≤ _; exact Nat.le_of_eq rfl) (by decide)
  refine Go.by (T' := T1) (f' := (mkF m 4 #[.val (.ref x), .val (.ref bb), .val .null, .unset, .unset] [])) (st1) ?_
  refine Go.by (T' := T1) (f' := (mkF m 5 #[.val (.ref x), .val (.ref bb), .val .null, .unset, .unset] [(.ref bb)])) (fun _ k => XS.aloadN X1.here hx rfl (hb hby d_siv_4) rfl rfl k) ?_
  have hi2a : Lb ≤ 300 := by omega
  have hi2b : 16 ≤ Lb := by omega
  have hi2c : cb ≤ Lb := by omega
  obtain ⟨cq2, kq2, q2a, q2b, q2c⟩ := isOf hZ e1 E_b
  obtain ⟨v2, _, ⟨T2, L2, k2, n2⟩, -, X2, ⟨Lc2, hQ2, l2, y2, z2⟩, st2⟩ := X1.virtualBack hx (y := (⟨"java/lang/AbstractStringBuilder", "getValue", "()[B"⟩ : MethodName)) (z := (⟨"java/lang/AbstractStringBuilder", "getValue", "()[B"⟩ : MethodName)) hown (mvT hZ (hw _ (List.mem_of_getElem? (i := 137) rfl))) (mvT hZ (hw _ (List.mem_of_getElem? (i := 138) rfl))) (notFace_of_selects (args := #[]) (mvT hZ (hw _ (List.mem_of_getElem? (i := 140) rfl)))) (mvT hZ (hw _ (List.mem_of_getElem? (i := 140) rfl))) (mvT hZ (hw _ (List.mem_of_getElem? (i := 139) rfl))) (by decide) (backOf (W := 0) (rm_gv l Z a0 hw [] bb tb _ (Lb) (cb) _ h0 n0 O E_b Fv_b Fc_b Fn_b V_t E_t g_bb g_tb hi2a hi2b hi2c) hZ (hw _ (List.mem_of_getElem? (i := 141) rfl)) (hw _ (List.mem_of_getElem? (i := 41) rfl)) (by decide) (by decide)) q2a q2c (g := (mkF m 5 #[.val (.ref x), .val (.ref bb), .val .null, .unset, .unset] [(.ref bb)])) rfl (by rw [hml]; rfl) (Steps.refl _) (argsL := []) (rest := []) (lenOf pd_siv_0 rfl) rfl (by show 2 * 0 + _ ≤ _; exact Nat.le_of_eq rfl) (hb hby d_siv_5) (fun _ _ => ⟨rfl, e1, (by decide : 0 + 0 ≤ _), (by decide : 0 + 0 ≤ _)⟩)
  dsimp only [Pt.U, Pt.locs, Pt.cells, Pt.slots] at X2 l2 y2 z2 st2 hQ2
  subst l2 y2 z2
  obtain ⟨rfl, Nq2, e2⟩ := hQ2
  replace N := Fr.app N Nq2
  refine Go.by (T' := T2) (f' := (mkF m 8 #[.val (.ref x), .val (.ref bb), .val .null, .unset, .unset] [(.ref tb)])) (fun _ k => st2.trans k) ?_
  refine Go.by (T' := T2) (f' := (mkF m 9 #[.val (.ref x), .val (.ref bb), .val .null, .val (.ref tb), .unset] [])) (fun _ k => XS.astoreN X2.here hx rfl (hb hby d_siv_8) rfl rfl (l' := #[.val (.ref x), .val (.ref bb), .val .null, .val (.ref tb), .unset]) rfl k) ?_
  refine Go.by (T' := T2) (f' := (mkF m 10 #[.val (.ref x), .val (.ref bb), .val .null, .val (.ref tb), .unset] [(.ref bb)])) (fun _ k => XS.aloadN X2.here hx rfl (hb hby d_siv_9) rfl rfl k) ?_
  have hi3a : Lb ≤ 300 := by omega
  have hi3b : 16 ≤ Lb := by omega
  have hi3c : cb ≤ Lb := by omega
  obtain ⟨cq3, kq3, q3a, q3b, q3c⟩ := isOf hZ e2 E_b
  obtain ⟨v3, _, ⟨T3, L3, k3, n3⟩, -, X3, ⟨Lc3, hQ3, l3, y3, z3⟩, st3⟩ := X2.virtualBack hx (y := (⟨"java/lang/AbstractStringBuilder", "length", "()I"⟩ : MethodName)) (z := (⟨"java/lang/StringBuilder", "length", "()I"⟩ : MethodName)) hown (mvT hZ (hw _ (List.mem_of_getElem? (i := 142) rfl))) (mvT hZ (hw _ (List.mem_of_getElem? (i := 143) rfl))) (own_nf (y := (⟨"java/lang/AbstractStringBuilder", "length", "()I"⟩ : MethodName)) (args := #[]) (mvT hZ (hw _ (List.mem_of_getElem? (i := 76) rfl))) rfl) (mvT hZ (hw _ (List.mem_of_getElem? (i := 145) rfl))) (mvT hZ (hw _ (List.mem_of_getElem? (i := 146) rfl))) (by decide) (backOf (W := 0) (rm_blen l Z a0 hw [] bb tb _ (Lb) (cb) _ h0 n0 O E_b Fv_b Fc_b Fn_b V_t E_t g_bb g_tb hi3a hi3b hi3c) hZ (hw _ (List.mem_of_getElem? (i := 147) rfl)) (hw _ (List.mem_of_getElem? (i := 33) rfl)) (by decide) (by decide)) q3a q3c (g := (mkF m 10 #[.val (.ref x), .val (.ref bb), .val .null, .val (.ref tb), .unset] [(.ref bb)])) rfl (by rw [hml]; rfl) (Steps.refl _) (argsL := []) (rest := []) (lenOf pd_siv_1 rfl) rfl (by show 2 * 0 + _ ≤ _; exact Nat.le_of_eq rfl) (hb hby d_siv_10) (fun _ _ => ⟨rfl, e2, (by decide : 0 + 0 ≤ _), (by decide : 0 + 0 ≤ _)⟩)
  dsimp only [Pt.U, Pt.locs, Pt.cells, Pt.slots] at X3 l3 y3 z3 st3 hQ3
  subst l3 y3 z3
  obtain ⟨rfl, Nq3, e3⟩ := hQ3
  replace N := Fr.app N Nq3
  refine Go.by (T' := T3) (f' := (mkF m 13 #[.val (.ref x), .val (.ref bb), .val .null, .val (.ref tb), .unset] [(.int (Int32.ofNat cb))])) (fun _ k => st3.trans k) ?_
  refine Go.by (T' := T3) (f' := (mkF m 15 #[.val (.ref x), .val (.ref bb), .val .null, .val (.ref tb), .val (.int (Int32.ofNat cb))] [])) (fun _ k => XS.istore X3.here hx rfl (hb hby d_siv_13) rfl (l' := #[.val (.ref x), .val (.ref bb), .val .null, .val (.ref tb), .val (.int (Int32.ofNat cb))]) rfl k) ?_
  refine Go.by (T' := T3) (f' := (mkF m 16 #[.val (.ref x), .val (.ref bb), .val .null, .val (.ref tb), .val (.int (Int32.ofNat cb))] [(.ref bb)])) (fun _ k => XS.aloadN X3.here hx rfl (hb hby d_siv_15) rfl rfl k) ?_
  have hi4a : Lb ≤ 300 := by omega
  have hi4b : 16 ≤ Lb := by omega
  have hi4c : cb ≤ Lb := by omega
  obtain ⟨cq4, kq4, q4a, q4b, q4c⟩ := isOf hZ e3 E_b
  obtain ⟨v4, _, ⟨T4, L4, k4, n4⟩, -, X4, ⟨Lc4, hQ4, l4, y4, z4⟩, st4⟩ := X3.virtualBack hx (y := (⟨"java/lang/AbstractStringBuilder", "isLatin1", "()Z"⟩ : MethodName)) (z := (⟨"java/lang/AbstractStringBuilder", "isLatin1", "()Z"⟩ : MethodName)) hown (mvT hZ (hw _ (List.mem_of_getElem? (i := 150) rfl))) (mvT hZ (hw _ (List.mem_of_getElem? (i := 116) rfl))) (notFace_of_selects (args := #[]) (mvT hZ (hw _ (List.mem_of_getElem? (i := 118) rfl)))) (mvT hZ (hw _ (List.mem_of_getElem? (i := 118) rfl))) (mvT hZ (hw _ (List.mem_of_getElem? (i := 117) rfl))) (by decide) (backOf (W := 0) (rm_blat l Z a0 hw [] bb tb _ (Lb) (cb) _ zc ls us ss hS0 h0 n0 O E_b Fv_b Fc_b Fn_b V_t E_t g_bb g_tb hi4a hi4b hi4c) hZ (hw _ (List.mem_of_getElem? (i := 119) rfl)) (hw _ (List.mem_of_getElem? (i := 41) rfl)) (by decide) (by decide)) q4a q4c (g := (mkF m 16 #[.val (.ref x), .val (.ref bb), .val .null, .val (.ref tb), .val (.int (Int32.ofNat cb))] [(.ref bb)])) rfl (by rw [hml]; rfl) (Steps.refl _) (argsL := []) (rest := []) (lenOf pd_siv_2 rfl) rfl (by show 2 * 0 + _ ≤ _; exact Nat.le_of_eq rfl) (hb hby d_siv_16) (fun _ _ => ⟨rfl, e3, (by decide : 0 + 0 ≤ _), (by decide : 0 + 0 ≤ _)⟩)
  dsimp only [Pt.U, Pt.locs, Pt.cells, Pt.slots] at X4 l4 y4 z4 st4 hQ4
  subst l4 y4 z4
  obtain ⟨rfl, Nq4, e4⟩ := hQ4
  replace N := Fr.app N Nq4
  refine Go.by (T' := T4) (f' := (mkF m 19 #[.val (.ref x), .val (.ref bb), .val .null, .val (.ref tb), .val (.int (Int32.ofNat cb))] [(.int (1 : Int32))])) (fun _ k => st4.trans k) ?_
  refine Go.by (T' := T4) (f' := (mkF m 22 #[.val (.ref x), .val (.ref bb), .val .null, .val (.ref tb), .val (.int (Int32.ofNat cb))] [])) (fun _ k => XS.ifNo X4.here hx rfl (hb hby d_siv_19) rfl ((if0 _ _).trans (feq (by decide : ¬ ((1 : Int32) = (0 : Int32)))).1) k) ?_
  refine Go.by (T' := T4) (f' := (mkF m 23 #[.val (.ref x), .val (.ref bb), .val .null, .val (.ref tb), .val (.int (Int32.ofNat cb))] [(.ref x)])) (fun _ k => XS.aloadN X4.here hx rfl (hb hby d_siv_22) rfl rfl k) ?_
  refine Go.by (T' := T4) (f' := (mkF m 24 #[.val (.ref x), .val (.ref bb), .val .null, .val (.ref tb), .val (.int (Int32.ofNat cb))] [(.int (0 : Int32)), (.ref x)])) (fun _ k => XS.iconst X4.here hx rfl (hb hby d_siv_23) k) ?_
  obtain ⟨T6, h6, X6, e6, W6, st6⟩ := putFN X4 hx hZ hown (hw _ (List.mem_of_getElem? (i := 21) rfl)) Via.refl e4 Fc_x E_x (Or.inr ⟨(hw _ (List.mem_of_getElem? (i := 17) rfl)), rfl, hnm⟩) (hw _ (List.mem_of_getElem? (i := 1) rfl)) (ty := .byte) (v' := (.int (0 : Int32))) (by decide) rfl rfl (g := (mkF m 24 #[.val (.ref x), .val (.ref bb), .val .null, .val (.ref tb), .val (.int (Int32.ofNat cb))] [(.int (0 : Int32)), (.ref x)])) rfl rfl (hb hby d_siv_24)
  have nq7 : bb ≠ x := (ne_exa E_b E_x (by decide))
  have nq8 : tb ≠ x := (ne_exa E_t E_x (by decide))
  replace E_b := E_b.wr W6
  replace Fv_b := Fv_b.other W6 (Or.inl nq7)
  replace Fc_b := Fc_b.other W6 (Or.inl nq7)
  replace Fn_b := Fn_b.other W6 (Or.inl nq7)
  replace V_t := V_t.other W6 nq8
  replace E_t := E_t.wr W6
  replace E_x := E_x.wr W6
  replace Fv_x := Fv_x.other W6 (Or.inr (slot_ne (Or.inr (hw _ (List.mem_of_getElem? (i := 16) rfl))) (Or.inr (hw _ (List.mem_of_getElem? (i := 17) rfl))) (by decide) (t := (.array .byte)) (t' := .byte) (by decide) (by decide)))
  replace Fc_x := Fc_x.same W6
  replace O := O.wr W6 g_x
  replace K := K.wr W6 (Or.inl (by simp))
  replace N := Fr.snoc X6 N g_x
  refine Go.by (T' := T6) (f' := (mkF m 27 #[.val (.ref x), .val (.ref bb), .val .null, .val (.ref tb), .val (.int (Int32.ofNat cb))] [])) (st6) ?_
  refine Go.by (T' := T6) (f' := (mkF m 28 #[.val (.ref x), .val (.ref bb), .val .null, .val (.ref tb), .val (.int (Int32.ofNat cb))] [(.ref x)])) (fun _ k => XS.aloadN X6.here hx rfl (hb hby d_siv_27) rfl rfl k) ?_
  refine Go.by (T' := T6) (f' := (mkF m 29 #[.val (.ref x), .val (.ref bb), .val .null, .val (.ref tb), .val (.int (Int32.ofNat cb))] [(.ref tb), (.ref x)])) (fun _ k => XS.aloadN X6.here hx rfl (hb hby d_siv_28) rfl rfl k) ?_
  refine Go.by (T' := T6) (f' := (mkF m 30 #[.val (.ref x), .val (.ref bb), .val .null, .val (.ref tb), .val (.int (Int32.ofNat cb))] [(.int (0 : Int32)), (.ref tb), (.ref x)])) (fun _ k => XS.iconst X6.here hx rfl (hb hby d_siv_29) k) ?_
  refine Go.by (T' := T6) (f' := (mkF m 32 #[.val (.ref x), .val (.ref bb), .val .null, .val (.ref tb), .val (.int (Int32.ofNat cb))] [(.int (Int32.ofNat cb)), (.int (0 : Int32)), (.ref tb), (.ref x)])) (fun _ k => XS.iload X6.here hx rfl (hb hby d_siv_30) rfl k) ?_
  have hr9a : cb ≤ Lb := by omega
  have hr9b : Lb ≤ 300 := by omega
  have hr9c : cb ≤ 150 := by omega
  obtain ⟨v9, _, ⟨T9, L9, k9, n9⟩, -, X9, ⟨Lc9, hQ9, l9, y9, z9⟩, st9⟩ := Jvm.LawKit.callS X6 hx (y := (⟨"java/util/Arrays", "copyOfRange", "([BII)[B"⟩ : MethodName)) hown (mvT hZ (hw _ (List.mem_of_getElem? (i := 151) rfl))) (mvT hZ (hw _ (List.mem_of_getElem? (i := 152) rfl))) (mvT hZ (hw _ (List.mem_of_getElem? (i := 153) rfl))) (mvT hZ (hw _ (List.mem_of_getElem? (i := 154) rfl))) (by decide) (backOf (W := 1) (rm_cor l Z a0 hw [] tb _ (Lb) (cb) _ h6 n0 O V_t E_t hr9a hr9b hr9c) hZ (hw _ (List.mem_of_getElem? (i := 154) rfl)) (hw _ (List.mem_of_getElem? (i := 153) rfl)) (by decide) (by decide)) (g := (mkF m 32 #[.val (.ref x), .val (.ref bb), .val .null, .val (.ref tb), .val (.int (Int32.ofNat cb))] [(.int (Int32.ofNat cb)), (.int (0 : Int32)), (.ref tb), (.ref x)])) rfl (by rw [hml]; rfl) (argsL := [(.ref tb), (.int (0 : Int32)), (.int (Int32.ofNat cb))]) (rest := [(.ref x)]) (lenOf pd_siv_3 rfl) rfl (by show 2 * 0 + _ ≤ _; exact Nat.le_of_eq rfl) (hb hby d_siv_32) (fun _ _ => ⟨rfl, e6, (by decide : 0 + 1 ≤ _), (by decide : 0 + 150 ≤ _)⟩)
  dsimp only [Pt.U, Pt.locs, Pt.cells, Pt.slots] at X9 l9 y9 z9 st9 hQ9
  subst l9 y9 z9
  obtain ⟨r9, k29, vs9, rfl, Nq9, K9, gr9, Vr9, Er9⟩ := hQ9
  replace N := Fr.app N Nq9
  have ne_bb_r9 : bb ≠ r9 := Nat.ne_of_lt (Nat.lt_of_lt_of_le E_b.lt gr9)
  have ne_tb_r9 : tb ≠ r9 := Nat.ne_of_lt (Nat.lt_of_lt_of_le V_t.lt gr9)
  have ne_x_r9 : x ≠ r9 := Nat.ne_of_lt (Nat.lt_of_lt_of_le E_x.lt gr9)
  have g_r9 : n0 ≤ r9 := Nat.le_trans (Old.le O) gr9
  have sz_r9 : h0.size ≤ r9 := Nat.le_trans K.1 gr9
  replace E_b := E_b.keep K9
  replace Fv_b := Fv_b.keep K9 nin0
  replace Fc_b := Fc_b.keep K9 nin0
  replace Fn_b := Fn_b.keep K9 nin0
  replace V_t := V_t.keep K9 nin0
  replace E_t := E_t.keep K9
  replace E_x := E_x.keep K9
  replace Fv_x := Fv_x.keep K9 nin0
  replace Fc_x := Fc_x.keep K9 nin0
  replace O := O.keep K9 all0
  replace K := K.trans K9 all0
  refine Go.by (T' := T9) (f' := (mkF m 35 #[.val (.ref x), .val (.ref bb), .val .null, .val (.ref tb), .val (.int (Int32.ofNat cb))] [(.ref r9), (.ref x)])) (st9) ?_
  obtain ⟨T10, h10, X10, e10, W10, st10⟩ := putF X9 hx hZ hown (host := "") (Or.inl (hw _ (List.mem_of_getElem? (i := 20) rfl))) Via.refl rfl Fv_x E_x (Or.inr ⟨(hw _ (List.mem_of_getElem? (i := 16) rfl)), rfl, hnm⟩) (hw _ (List.mem_of_getElem? (i := 1) rfl)) (ty := (.array .byte)) (by decide) rfl rfl (g := (mkF m 35 #[.val (.ref x), .val (.ref bb), .val .null, .val (.ref tb), .val (.int (Int32.ofNat cb))] [(.ref r9), (.ref x)])) rfl rfl (hb hby d_siv_35)
  replace E_b := E_b.wr W10
  replace Fv_b := Fv_b.other W10 (Or.inl nq7)
  replace Fc_b := Fc_b.other W10 (Or.inl nq7)
  replace Fn_b := Fn_b.other W10 (Or.inl nq7)
  replace V_t := V_t.other W10 nq8
  replace E_t := E_t.wr W10
  replace E_x := E_x.wr W10
  replace Fc_x := Fc_x.other W10 (Or.inr (slot_ne (Or.inr (hw _ (List.mem_of_getElem? (i := 17) rfl))) (Or.inr (hw _ (List.mem_of_getElem? (i := 16) rfl))) (by decide) (t := .byte) (t' := (.array .byte)) (by decide) (by decide)))
  replace Vr9 := Vr9.other W10 (Ne.symm ne_x_r9)
  replace Er9 := Er9.wr W10
  replace Fv_x := Fv_x.same W10
  replace O := O.wr W10 g_x
  replace K := K.wr W10 (Or.inl (by simp))
  replace N := Fr.snoc X10 N g_x
  refine Go.by (T' := T10) (f' := (mkF m 38 #[.val (.ref x), .val (.ref bb), .val .null, .val (.ref tb), .val (.int (Int32.ofNat cb))] [])) (st10) ?_
  refine Go.by (T' := T10) (f' := (mkF m 97 #[.val (.ref x), .val (.ref bb), .val .null, .val (.ref tb), .val (.int (Int32.ofNat cb))] [])) (fun _ k => XS.goto X10.here hx rfl (pc0 := 38) (pc' := 97) rfl (hb hby d_siv_38) (by decide) (by decide) k) ?_
  obtain ⟨fs, hr, hrun, hended, hW, hsame⟩ := X10.leave (v := none) (fun _ => rfl)
  refine ⟨_, _, X10.returnOut hx Bd.returns (hb hby d_siv_97) hr, hrun, hended, _, _, rfl, ?_, ⟨_, rfl⟩, hW, hsame.mono (by decide) (by decide)⟩
  show Qi Z x cb h0 n0 (none) T10.heap _
  rw [e10]
  exact ⟨rfl, N, K, r9, _, _, sz_r9, Fv_x, Fc_x, Vr9⟩

theorem d_sib_0 : decode jdk_42_method_53_code 0 = .ok (.aload_n 0, 1) := by decide +kernel
theorem d_sib_1 : decode jdk_42_method_53_code 1 = .ok (.aload_n 1, 1) := by decide +kernel
theorem d_sib_2 : decode jdk_42_method_53_code 2 = .ok (.aconst_null, 1) := by decide +kernel
theorem d_sib_3 : decode jdk_42_method_53_code 3 = .ok (.invokespecial 489, 3) := by decide +kernel
theorem d_sib_6 : decode jdk_42_method_53_code 6 = .ok (.return_, 1) := by decide +kernel
theorem pn_sib : plainFor (⟨"java/lang/String", "<init>", "(Ljava/lang/StringBuilder;)V"⟩ : MethodName) = true := plainFor_of_name (by first | (simp [plainName, overriddenIn]; done) | decide +kernel)
theorem pd_sib_0 : parseMethodDescriptor "(Ljava/lang/AbstractStringBuilder;Ljava/lang/Void;)V" = some ⟨[(.object "java/lang/AbstractStringBuilder"), (.object "java/lang/Void")], none⟩ := by decide +kernel
theorem ef_sib (m : MethodId) (x0 : Addr) (x1 : Addr) : entryFrame m #[(.ref x0), (.ref x1)] 2 = mkF m 0 #[.val (.ref x0), .val (.ref x1)] [] := by first | (simp [entryFrame, mkF, argsToLocals, Value.category]; done) | rfl
set_option maxRecDepth 65536 in
set_option maxHeartbeats 40000000 in
theorem rm_sib (l : Launch) (Z : State) (a0 : Array Value) (hw : ∀ d ∈ tables_1, d.before a0 Z = true) (ws : List Jvm.Cond) (bb tb : Addr) (kt : ClassId) (Lb cb : Nat) (vt : List Value) (x : Addr) (zc : Int32) (ls us ss : Addr) (hS0 : Sf Z zc ls us ss) (h0 : Heap) (n0 : Nat) (O : Old Z n0 h0) (E_b : Exa Z h0 bb "java/lang/StringBuilder") (Fv_b : Fld Z h0 bb "java/lang/AbstractStringBuilder" "value" "[B" (.ref tb)) (Fc_b : Fld Z h0 bb "java/lang/AbstractStringBuilder" "coder" "B" (.int 0)) (Fn_b : Fld Z h0 bb "java/lang/AbstractStringBuilder" "count" "I" (.int (Int32.ofNat cb))) (V_t : Arv Z h0 tb kt .byte (Int32.ofNat Lb) vt (.int 0)) (E_t : Exa Z h0 tb "[B") (g_bb : n0 ≤ bb) (g_tb : n0 ≤ tb) (hLb : Lb ≤ 300) (hLb2 : 16 ≤ Lb) (hcLb : cb ≤ Lb) (E_x : Exa Z h0 x "java/lang/String") (Fv_x : Fld Z h0 x "java/lang/String" "value" "[B" .null) (Fc_x : Fld Z h0 x "java/lang/String" "coder" "B" (.int 0)) (g_x : n0 ≤ x) (hcC : cb ≤ 150) :
    MetFree l (⟨"java/lang/String", "<init>", "(Ljava/lang/StringBuilder;)V"⟩ : MethodName) (head1 (Jvm.Cond.code (⟨"java/lang/String", "<init>", "(Ljava/lang/StringBuilder;)V"⟩ : MethodName) jdk_42_method_53_code 2 none :: ws) ({ frames := 4, cells := 1, slots := 150, locals := 65 } : Room)) (fun as_ U => as_ = #[(.ref x), (.ref bb)] ∧ Z.Warmed39 U.vm ∧ U.heap = h0) (fun _ _ _ _ _ => True) (fun _ U o U' => ∃ v L, o = .returned v ∧ Qi Z x cb h0 n0 v U'.heap L ∧ FrameEnd U o U' L ({ frames := 4, cells := 1, slots := 150, locals := 65 } : Room).cells ({ frames := 4, cells := 1, slots := 150, locals := 65 } : Room).slots) := by
  refine MetFree.of_bodySF pn_sib hisR ?_
  intro p e s m args below meth c s₁ Bd hml0 hP hK
  obtain ⟨rfl, hZ, hh⟩ := hP
  have hx := Bd.exec
  have hby := Bd.bytes
  have hml : c.maxLocals = 2 := hml0
  have hown : s.vm.findClass "java/lang/String" = some m.cls := findClass_of_methodNamed Bd.named
  have hnm := (name_of_methodNamed Bd.named Bd.method).1
  have X0 : Stand p l e ({ frames := 4, cells := 1, slots := 150, locals := 65 } : Room) s m #[(.ref x), (.ref bb)] below meth c s₁ [] 0 0 := Stand.of_body Bd
  have e0 : s₁.heap = h0 := by rw [← hh, Bd.state]; rfl
  have N := Fr.nil n0
  have K : Keep h0 h0 [x] := Keep.refl _ _
  refine Go.by (T' := s₁) (f' := (mkF m 0 #[.val (.ref x), .val (.ref bb)] [])) (fun _ k => castTop (ef_sib m x bb) k) ?_
  refine Go.by (T' := s₁) (f' := (mkF m 1 #[.val (.ref x), .val (.ref bb)] [(.ref x)])) (fun _ k => XS.aloadN X0.here hx rfl (hb hby d_sib_0) rfl rfl k) ?_
  refine Go.by (T' := s₁) (f' := (mkF m 2 #[.val (.ref x), .val (.ref bb)] [(.ref bb), (.ref x)])) (fun _ k => XS.aloadN X0.here hx rfl (hb hby d_sib_1) rfl rfl k) ?_
  refine Go.by (T' := s₁) (f' := (mkF m 3 #[.val (.ref x), .val (.ref bb)] [.null, (.ref bb), (.ref x)])) (fun _ k => XS.aconstNull X0.here hx rfl (hb hby d_sib_2) k) ?_
  have hi1a : Lb ≤ 300 := by omega
  have hi1b : 16 ≤ Lb := by omega
  have hi1c : cb ≤ Lb := by omega
  have hs1 : cb ≤ 150 := by omega
  obtain ⟨v1, _, ⟨T1, L1, k1, n1⟩, -, X1, ⟨Lc1, hQ1, l1, y1, z1⟩, st1⟩ := X0.specialBack hx (y := (⟨"java/lang/String", "<init>", "(Ljava/lang/AbstractStringBuilder;Ljava/lang/Void;)V"⟩ : MethodName)) rfl hown (mvT hZ (hw _ (List.mem_of_getElem? (i := 134) rfl))) (mvT hZ (hw _ (List.mem_of_getElem? (i := 135) rfl))) (mvT hZ (hw _ (List.mem_of_getElem? (i := 136) rfl))) (by decide) (backOf (W := 0) (rm_siv l Z a0 hw [] bb tb _ (Lb) (cb) _ x zc ls us ss hS0 h0 n0 O E_b Fv_b Fc_b Fn_b V_t E_t g_bb g_tb hi1a hi1b hi1c E_x Fv_x Fc_x g_x hs1) hZ (hw _ (List.mem_of_getElem? (i := 136) rfl)) (hw _ (List.mem_of_getElem? (i := 2) rfl)) (by decide) (by decide)) (g := (mkF m 3 #[.val (.ref x), .val (.ref bb)] [.null, (.ref bb), (.ref x)])) rfl (by rw [hml]; rfl) (Steps.refl _) (a := x) (argsL := [(.ref bb), .null]) (rest := []) (lenOf pd_sib_0 rfl) rfl (by show 2 * 0 + _ ≤ _; exact Nat.le_of_eq rfl) (hb hby d_sib_3) (fun _ _ => ⟨rfl, e0, (by decide : 0 + 1 ≤ _), (by decide : 0 + 150 ≤ _)⟩)
  dsimp only [Pt.U, Pt.locs, Pt.cells, Pt.slots] at X1 l1 y1 z1 st1 hQ1
  subst l1 y1 z1
  obtain ⟨rfl, Nq1, K1, r1, k21, vs1, gr1, Gv1, Gc1, Vr1⟩ := hQ1
  replace N := Fr.app N Nq1
  have ne_bb_r1 : bb ≠ r1 := Nat.ne_of_lt (Nat.lt_of_lt_of_le E_b.lt gr1)
  have ne_tb_r1 : tb ≠ r1 := Nat.ne_of_lt (Nat.lt_of_lt_of_le V_t.lt gr1)
  have ne_x_r1 : x ≠ r1 := Nat.ne_of_lt (Nat.lt_of_lt_of_le E_x.lt gr1)
  have g_r1 : n0 ≤ r1 := Nat.le_trans (Old.le O) gr1
  have sz_r1 : h0.size ≤ r1 := Nat.le_trans K.1 gr1
  have nq2 : bb ≠ x := (ne_exa E_b E_x (by decide))
  have nq3 : tb ≠ x := (ne_exa E_t E_x (by decide))
  replace E_b := E_b.keep K1
  replace Fv_b := Fv_b.keep K1 (ninS nq2 nin0)
  replace Fc_b := Fc_b.keep K1 (ninS nq2 nin0)
  replace Fn_b := Fn_b.keep K1 (ninS nq2 nin0)
  replace V_t := V_t.keep K1 (ninS nq3 nin0)
  replace E_t := E_t.keep K1
  replace E_x := E_x.keep K1
  replace O := O.keep K1 (allS g_x all0)
  replace K := K.trans K1 (allS (Or.inl (by simp)) all0)
  refine Go.by (T' := T1) (f' := (mkF m 6 #[.val (.ref x), .val (.ref bb)] [])) (fun _ k => st1.trans k) ?_
  obtain ⟨fs, hr, hrun, hended, hW, hsame⟩ := X1.leave (v := none) (fun _ => rfl)
  refine ⟨_, _, X1.returnOut hx Bd.returns (hb hby d_sib_6) hr, hrun, hended, _, _, rfl, ?_, ⟨_, rfl⟩, hW, hsame.mono (by decide) (by decide)⟩
  show Qi Z x cb h0 n0 (none) T1.heap _
  exact ⟨rfl, N, K, r1, _, _, sz_r1, Gv1, Gc1, Vr1⟩

theorem d_tos_0 : decode jdk_67_method_42_code 0 = .ok (.new 18, 3) := by decide +kernel
theorem d_tos_3 : decode jdk_67_method_42_code 3 = .ok (.dup, 1) := by decide +kernel
theorem d_tos_4 : decode jdk_67_method_42_code 4 = .ok (.aload_n 0, 1) := by decide +kernel
theorem d_tos_5 : decode jdk_67_method_42_code 5 = .ok (.invokespecial 137, 3) := by decide +kernel
theorem d_tos_8 : decode jdk_67_method_42_code 8 = .ok (.areturn, 1) := by decide +kernel
theorem pn_tos : plainFor (⟨"java/lang/StringBuilder", "toString", "()Ljava/lang/String;"⟩ : MethodName) = true := plainFor_of_name (by first | (simp [plainName, overriddenIn]; done) | decide +kernel)
theorem pd_tos_0 : parseMethodDescriptor "(Ljava/lang/StringBuilder;)V" = some ⟨[(.object "java/lang/StringBuilder")], none⟩ := by decide +kernel
theorem ef_tos (m : MethodId) (x0 : Addr) : entryFrame m #[(.ref x0)] 1 = mkF m 0 #[.val (.ref x0)] [] := by first | (simp [entryFrame, mkF, argsToLocals, Value.category]; done) | rfl
set_option maxRecDepth 65536 in
set_option maxHeartbeats 40000000 in
theorem rm_tos (l : Launch) (Z : State) (a0 : Array Value) (hw : ∀ d ∈ tables_1, d.before a0 Z = true) (ws : List Jvm.Cond) (bb tb : Addr) (kt : ClassId) (Lb cb : Nat) (vt : List Value) (zc : Int32) (ls us ss : Addr) (hS0 : Sf Z zc ls us ss) (h0 : Heap) (n0 : Nat) (O : Old Z n0 h0) (E_b : Exa Z h0 bb "java/lang/StringBuilder") (Fv_b : Fld Z h0 bb "java/lang/AbstractStringBuilder" "value" "[B" (.ref tb)) (Fc_b : Fld Z h0 bb "java/lang/AbstractStringBuilder" "coder" "B" (.int 0)) (Fn_b : Fld Z h0 bb "java/lang/AbstractStringBuilder" "count" "I" (.int (Int32.ofNat cb))) (V_t : Arv Z h0 tb kt .byte (Int32.ofNat Lb) vt (.int 0)) (E_t : Exa Z h0 tb "[B") (g_bb : n0 ≤ bb) (g_tb : n0 ≤ tb) (hLb : Lb ≤ 300) (hLb2 : 16 ≤ Lb) (hcLb : cb ≤ Lb) (hcC : cb ≤ 150) :
    MetFree l (⟨"java/lang/StringBuilder", "toString", "()Ljava/lang/String;"⟩ : MethodName) (head1 (Jvm.Cond.code (⟨"java/lang/StringBuilder", "toString", "()Ljava/lang/String;"⟩ : MethodName) jdk_67_method_42_code 1 (some (.object "java/lang/String")) :: ws) ({ frames := 5, cells := 2, slots := 154, locals := 79 } : Room)) (fun as_ U => as_ = #[(.ref bb)] ∧ Z.Warmed39 U.vm ∧ U.heap = h0) (fun _ _ _ _ _ => True) (fun _ U o U' => ∃ v L, o = .returned v ∧ Qt Z cb h0 n0 v U'.heap L ∧ FrameEnd U o U' L ({ frames := 5, cells := 2, slots := 154, locals := 79 } : Room).cells ({ frames := 5, cells := 2, slots := 154, locals := 79 } : Room).slots) := by
  refine MetFree.of_bodySF pn_tos hisR ?_
  intro p e s m args below meth c s₁ Bd hml0 hP hK
  obtain ⟨rfl, hZ, hh⟩ := hP
  have hx := Bd.exec
  have hby := Bd.bytes
  have hml : c.maxLocals = 1 := hml0
  have hown : s.vm.findClass "java/lang/StringBuilder" = some m.cls := findClass_of_methodNamed Bd.named
  have hnm := (name_of_methodNamed Bd.named Bd.method).1
  have X0 : Stand p l e ({ frames := 5, cells := 2, slots := 154, locals := 79 } : Room) s m #[(.ref bb)] below meth c s₁ [] 0 0 := Stand.of_body Bd
  have e0 : s₁.heap = h0 := by rw [← hh, Bd.state]; rfl
  have N := Fr.nil n0
  have K : Keep h0 h0 [] := Keep.refl _ _
  refine Go.by (T' := s₁) (f' := (mkF m 0 #[.val (.ref bb)] [])) (fun _ k => castTop (ef_tos m bb) k) ?_
  obtain ⟨T1, h1, X1, e1, E1, A1, D1, -, st1⟩ := newO X0 hx hZ hown (hw _ (List.mem_of_getElem? (i := 130) rfl)) (hw _ (List.mem_of_getElem? (i := 1) rfl)) (hw _ (List.mem_of_getElem? (i := 2) rfl)) e0 (g := (mkF m 0 #[.val (.ref bb)] [])) rfl (hb hby d_tos_0) (by decide) (by decide)
  obtain ⟨b1, g1⟩ : ∃ z, z = h0.size := ⟨_, rfl⟩
  rw [← g1] at A1 D1 st1
  have ne_bb_b1 : bb ≠ b1 := Nat.ne_of_lt (Nat.lt_of_lt_of_le E_b.lt (Nat.le_of_eq g1.symm))
  have ne_tb_b1 : tb ≠ b1 := Nat.ne_of_lt (Nat.lt_of_lt_of_le V_t.lt (Nat.le_of_eq g1.symm))
  have g_b1 : n0 ≤ b1 := Nat.le_trans (Old.le O) (Nat.le_of_eq g1.symm)
  have sz_b1 : h0.size ≤ b1 := Nat.le_trans K.1 (Nat.le_of_eq g1.symm)
  replace E_b := E_b.ext E1
  replace Fv_b := Fv_b.ext E1
  replace Fc_b := Fc_b.ext E1
  replace Fn_b := Fn_b.ext E1
  replace V_t := V_t.ext E1
  replace E_t := E_t.ext E1
  replace O := O.ext E1
  replace K := K.ext E1
  have E_b1 := A1
  have F_value_b1 : Fld Z h1 b1 "java/lang/String" "value" "[B" .null := D1 (Or.inr (hw _ (List.mem_of_getElem? (i := 16) rfl))) (ty := (.array .byte)) (by decide)
  have F_coder_b1 : Fld Z h1 b1 "java/lang/String" "coder" "B" (.int (0 : Int32)) := D1 (Or.inr (hw _ (List.mem_of_getElem? (i := 17) rfl))) (ty := .byte) (by decide)
  refine Go.by (T' := T1) (f' := (mkF m 3 #[.val (.ref bb)] [(.ref b1)])) (st1) ?_
  refine Go.by (T' := T1) (f' := (mkF m 4 #[.val (.ref bb)] [(.ref b1), (.ref b1)])) (fun _ k => XS.dup X1.here hx rfl (hb hby d_tos_3) rfl rfl k) ?_
  refine Go.by (T' := T1) (f' := (mkF m 5 #[.val (.ref bb)] [(.ref bb), (.ref b1), (.ref b1)])) (fun _ k => XS.aloadN X1.here hx rfl (hb hby d_tos_4) rfl rfl k) ?_
  have hi2a : Lb ≤ 300 := by omega
  have hi2b : 16 ≤ Lb := by omega
  have hi2c : cb ≤ Lb := by omega
  have hs2 : cb ≤ 150 := by omega
  obtain ⟨v2, _, ⟨T2, L2, k2, n2⟩, -, X2, ⟨Lc2, hQ2, l2, y2, z2⟩, st2⟩ := X1.specialBack hx (y := (⟨"java/lang/String", "<init>", "(Ljava/lang/StringBuilder;)V"⟩ : MethodName)) rfl hown (mvT hZ (hw _ (List.mem_of_getElem? (i := 131) rfl))) (mvT hZ (hw _ (List.mem_of_getElem? (i := 132) rfl))) (mvT hZ (hw _ (List.mem_of_getElem? (i := 133) rfl))) (by decide) (backOf (W := 1) (rm_sib l Z a0 hw [] bb tb _ (Lb) (cb) _ b1 zc ls us ss hS0 h1 n0 O E_b Fv_b Fc_b Fn_b V_t E_t g_bb g_tb hi2a hi2b hi2c E_b1 F_value_b1 F_coder_b1 g_b1 hs2) hZ (hw _ (List.mem_of_getElem? (i := 133) rfl)) (hw _ (List.mem_of_getElem? (i := 2) rfl)) (by decide) (by decide)) (g := (mkF m 5 #[.val (.ref bb)] [(.ref bb), (.ref b1), (.ref b1)])) rfl (by rw [hml]; rfl) (Steps.refl _) (a := b1) (argsL := [(.ref bb)]) (rest := [(.ref b1)]) (lenOf pd_tos_0 rfl) rfl (by show 2 * 0 + _ ≤ _; exact Nat.le_of_eq rfl) (hb hby d_tos_5) (fun _ _ => ⟨rfl, e1, (by decide : 1 + 1 ≤ _), (by decide : 4 + 150 ≤ _)⟩)
  dsimp only [Pt.U, Pt.locs, Pt.cells, Pt.slots] at X2 l2 y2 z2 st2 hQ2
  subst l2 y2 z2
  obtain ⟨rfl, Nq2, K2, r2, k22, vs2, gr2, Gv2, Gc2, Vr2⟩ := hQ2
  replace N := Fr.app N Nq2
  have ne_bb_r2 : bb ≠ r2 := Nat.ne_of_lt (Nat.lt_of_lt_of_le E_b.lt gr2)
  have ne_tb_r2 : tb ≠ r2 := Nat.ne_of_lt (Nat.lt_of_lt_of_le V_t.lt gr2)
  have ne_b1_r2 : b1 ≠ r2 := Nat.ne_of_lt (Nat.lt_of_lt_of_le E_b1.lt gr2)
  have g_r2 : n0 ≤ r2 := Nat.le_trans (Old.le O) gr2
  have sz_r2 : h0.size ≤ r2 := Nat.le_trans K.1 gr2
  replace E_b := E_b.keep K2
  replace Fv_b := Fv_b.keep K2 (ninS ne_bb_b1 nin0)
  replace Fc_b := Fc_b.keep K2 (ninS ne_bb_b1 nin0)
  replace Fn_b := Fn_b.keep K2 (ninS ne_bb_b1 nin0)
  replace V_t := V_t.keep K2 (ninS ne_tb_b1 nin0)
  replace E_t := E_t.keep K2
  replace E_b1 := E_b1.keep K2
  replace O := O.keep K2 (allS g_b1 all0)
  replace K := K.trans K2 (allS (Or.inr sz_b1) all0)
  refine Go.by (T' := T2) (f' := (mkF m 8 #[.val (.ref bb)] [(.ref b1)])) (fun _ k => st2.trans k) ?_
  obtain ⟨fs, hr, hrun, hended, hW, hsame⟩ := X2.leave (v := some (.ref b1)) (fun h => by rw [Bd.returns] at h; cases h)
  refine ⟨_, _, retOut X2 hx Bd.returns rfl (Or.inr (Or.inr (Or.inr (Or.inr ⟨rfl, rfl, rfl⟩)))) (hb hby d_tos_8) hr, hrun, hended, _, _, rfl, ?_, ⟨_, rfl⟩, hW, hsame.mono (by decide) (by decide)⟩
  show Qt Z cb h0 n0 (some (.ref b1)) T2.heap _
  exact ⟨_, _, _, _, rfl, N, K, sz_b1, sz_r2, E_b1, Gv2, Gc2, Vr2⟩

theorem own_safe_null {Z : State} {EL : List (String × Nat)} {vm : Vm} {h : Heap} {x : Addr} {a0 : Array Value} {n : Nat} (hal : Z.vm.Alike vm) (E : Exa Z h x "java/lang/String") (wi : (Cond.instantiable "java/lang/String" n).before a0 Z = true) (F : Fld Z h x "java/lang/String" "value" "[B" .null) : Safe Z EL vm h x := fun B => by
  obtain ⟨cell, k, e1, e2, e3, -, -⟩ := E
  obtain ⟨p, -, u, a, -, q, -, S, rfl | rfl⟩ := B
  · cases (show h[q.sa]? = some q.sC from S.ha).symm.trans e1
    obtain ⟨cS, ⟨⟨s1, s2, s3, ⟨cv, kv, iv, s4, s4'⟩, s5, s6, s7, s8, -⟩, -, -⟩, -⟩ := S
    obtain ⟨cell', cf, kf, i, f, f1, f2, -, -, -, -, f7⟩ := F
    cases e1.symm.trans f1
    obtain ⟨kz, z4⟩ := ff_back (Z := Z) hal s4
    cases f2.symm.trans z4
    cases f7.symm.trans s8
  · cases (show h[q.sd]? = some q.SA from S.hd).symm.trans e1
    obtain ⟨cS, ⟨⟨s1, s2, s3, ⟨cv, kv, iv, s4, s4'⟩, ⟨cc, kc, ic, s5, s5'⟩, s6, s7, s8, s9, s10, s11, s12, -⟩, -, -⟩, -⟩ := S
    obtain ⟨hst, k9, hk9, comp, hkind9⟩ := s11
    obtain ⟨t, kt, g1, g2, g3, -, -⟩ := Cond.instantiable_spec wi
    cases e2.symm.trans g1
    obtain ⟨k', hk', ek⟩ := hal.2.2 _ _ g2
    cases hk9.symm.trans hk'
    rw [ek] at hkind9
    have hq : kt.kind = _ := hkind9
    rw [g3] at hq; cases hq

theorem own_wS : ∀ d ∈ Bundle.stringAtoms, d ∈ tables_1 := by decide +kernel
def Qq (Z : State) (h0 : Heap) (n0 : Nat) (v : Option Value) (h : Heap) (L : List Loc) : Prop := ∃ (x r : Addr) (k' : ClassId) (vs' : List Value) (n : Nat), v = some (.ref x) ∧ Fr n0 L ∧ Keep h0 h [] ∧ Exa Z h x "java/lang/String" ∧ Fld Z h x "java/lang/String" "value" "[B" (.ref r) ∧ Fld Z h x "java/lang/String" "coder" "B" (.int 0) ∧ Arv Z h r k' .byte (Int32.ofNat n) vs' (.int 0) ∧ n ≤ 22 ∧ (h0.size ≤ r ∨ n = 11)
def Qco (Z : State) (a : Addr) (tv : Value) (ls : Addr) (h0 : Heap) (n0 : Nat) (v : Option Value) (h : Heap) (L : List Loc) : Prop := v = none ∧ Fr n0 L ∧ Keep h0 h [a] ∧ Fld Z h a "com/example/swapdeck/swapdeck/swap/CloseOutException" "trade" "Ljava/lang/String;" tv ∧ Fld Z h a "com/example/swapdeck/swapdeck/swap/CloseOutException" "input" "Lcom/example/swapdeck/swapdeck/swap/CloseOutException$Input;" (.ref ls)
def Qnl (Z : State) (tv : Value) (ls : Addr) (h0 : Heap) (n0 : Nat) (v : Option Value) (h : Heap) (L : List Loc) : Prop := ∃ a : Addr, v = some (.ref a) ∧ Fr n0 L ∧ Keep h0 h [] ∧ Exa Z h a "com/example/swapdeck/swapdeck/swap/CloseOutException" ∧ Fld Z h a "com/example/swapdeck/swapdeck/swap/CloseOutException" "trade" "Ljava/lang/String;" tv ∧ Fld Z h a "com/example/swapdeck/swapdeck/swap/CloseOutException" "input" "Lcom/example/swapdeck/swapdeck/swap/CloseOutException$Input;" (.ref ls)
def Qs0 (Z : State) (x : Addr) (h0 : Heap) (n0 : Nat) (v : Option Value) (h : Heap) (L : List Loc) : Prop := v = none ∧ Fr n0 L ∧ Keep h0 h [x] ∧ ∃ (r : Addr) (k' : ClassId) (vs' : List Value), Fld Z h x "java/lang/String" "value" "[B" (.ref r) ∧ Fld Z h x "java/lang/String" "coder" "B" (.int 0) ∧ Arv Z h r k' .byte (Int32.ofNat 0) vs' (.int 0)
def Qtb (Z : State) (h0 : Heap) (n0 : Nat) (v : Option Value) (h : Heap) (L : List Loc) : Prop := ∃ (r : Addr) (k' : ClassId) (vs' : List Value), v = some (.ref r) ∧ Fr n0 L ∧ Keep h0 h [] ∧ h0.size ≤ r ∧ Arv Z h r k' .byte (Int32.ofNat 1) vs' (.int 0)
def Qbb (Z : State) (x r : Addr) (h0 : Heap) (n0 : Nat) (v : Option Value) (h : Heap) (L : List Loc) : Prop := v = none ∧ Fr n0 L ∧ Keep h0 h [x] ∧ Fld Z h x "java/lang/String" "value" "[B" (.ref r) ∧ Fld Z h x "java/lang/String" "coder" "B" (.int 0)
def Q1 (n0 : Nat) (v : Option Value) (h : Heap) (L : List Loc) : Prop := v = some (.int 1) ∧ Fr n0 L
open Jvm.Free.Exc in
/-- what fillInStackTrace() needs of Throwable's tables, from the sheet's words (the place of suppressedExceptions from the subclass's word) -/
theorem own_thr {args : Array Value} {s : State} {pl : Platform} {rc : String} (howns : pl.frameOwnsMonitors = true) (hfin : pl.finalization = false) (hpl : pl.magicAccessors = ({} : Platform).magicAccessors)
    (hrc : rc ≠ tN) (h : ∀ c ∈ excAtoms rc, c ≠ .lays tN tN "suppressedExceptions" listD → c.before args s = true) :
    ∃ T : ThrowableC, T.Links pl s ∧ s.vm.findClass tN = some T.cT ∧ s.methodNamed? tFill = some T.fill ∧ s.methodNamed? tFill0 = some T.fill0 ∧ s.fieldFound? tN "stackTrace" steD = some (T.cT, T.kT, T.i17, T.fStack) ∧
      s.fieldFound? tN "UNASSIGNED_STACK" steD = some (T.cT, T.kT, T.i13, T.fUnassigned) ∧ T.fStack.name = "stackTrace" ∧ T.fStack.type = .array (.object "java/lang/StackTraceElement") ∧ T.kT.kind = .ordinary := by
  have w : ∀ c ∈ excAtoms rc, c ≠ .lays tN tN "suppressedExceptions" listD → c.holds args s none s [] = true := fun c hc hn => h c hc hn
  -- the class
  have wf0 := w (.native tFill0) (by simp [excAtoms, throwableAtoms]) nofun
  obtain ⟨⟨cT, j0⟩, m0, n0, v0, p0, q0, r0, g0⟩ := Cond.native_spec wf0
  have fT : s.vm.findClass tN = some cT := findClass_of_methodNamed n0
  obtain ⟨kT, lT, nT⟩ := Vm.findClass_spec fT
  obtain ⟨_, kT', _, _, lT', _, _, oT, _, iT⟩ := Cond.superclass_spec fT (w (.superclass tN "java/lang/Object") (by simp [excAtoms, throwableAtoms]) nofun)
  cases lT.symm.trans lT'
  have zT := Cond.initialized_spec fT lT (w (.initialized tN) (by simp [excAtoms, throwableAtoms]) nofun)
  -- the three methods
  obtain ⟨jF, mF, nF, vF, aF, sF, bF, -, -⟩ := Cond.ownMethod (x := tFill) fT lT (w (.instanceMethod tFill) (by simp [excAtoms, throwableAtoms]) nofun)
  obtain ⟨mF', cF, vF', eF, tF, lF, rF, kF, -, gF⟩ := Cond.codeSync_spec nF (w (.codeSync tFill LibCode.Throwable.Fill.code 1 (some (.object tN))) (by simp [excAtoms, throwableAtoms]) nofun)
  cases vF.symm.trans vF'
  obtain ⟨j0', m0', n0', v0', a0', s0, b0, nm0, ds0⟩ := Cond.ownMethod (x := tFill0) fT lT (w (.instanceMethod tFill0) (by simp [excAtoms, throwableAtoms]) nofun)
  cases n0.symm.trans n0'
  cases v0.symm.trans v0'
  obtain ⟨mO, mtO, nO, vO, sO, bO⟩ := Cond.instanceMethod_spec (w (.instanceMethod oInit) (by simp [excAtoms, throwableAtoms]) nofun)
  obtain ⟨mtO', cO, vO', eO, tO, lO, -, kO, -, gO⟩ := Cond.code_spec nO (w (.code oInit ⟨#[0xb1]⟩ 1 none) (by simp [excAtoms, throwableAtoms]) nofun)
  cases vO.symm.trans vO'
  obtain ⟨klO, llO, nnO⟩ := Vm.findClass_spec (findClass_of_methodNamed nO)
  obtain ⟨nmO, dsO⟩ := name_of_methodNamed nO vO
  -- the entries
  obtain ⟨x1, y1, cf, e1, g1, f1, u1⟩ := Cond.linkedMethod fT lT nO (w (.methodLink tN 1 oInit) (by simp [excAtoms, throwableAtoms]) nofun) pl hpl
  obtain ⟨x2, y2, cf2, e2, g2, f2, u2⟩ := Cond.linkedMethod fT lT nF (w (.methodLink tN 27 tFill) (by simp [excAtoms, throwableAtoms]) nofun) pl hpl
  obtain ⟨x3, y3, cf3, e3, g3, f3, u3⟩ := Cond.linkedMethod fT lT n0 (w (.methodLink tN 202 tFill0) (by simp [excAtoms, throwableAtoms]) nofun) pl hpl
  cases f1.symm.trans f2
  cases f1.symm.trans f3
  obtain ⟨c7, i7, F7, l7, r7, a7, s7, fi7, n7, t7, ff7⟩ := Cond.ownField (t := .object tN) fT lT (by decide +kernel) (w (.fieldLink tN 7 tN "cause" "Ljava/lang/Throwable;") (by simp [excAtoms, throwableAtoms]) nofun) (w (.lays tN tN "cause" "Ljava/lang/Throwable;") (by simp [excAtoms, throwableAtoms]) (by simp)) pl hpl
  obtain ⟨c17, i17, F17, l17, r17, a17, s17, fi17, n17, t17, ff17⟩ := Cond.ownField (t := .array (.object "java/lang/StackTraceElement")) fT lT (by decide +kernel) (w (.fieldLink tN 17 tN "stackTrace" steD) (by simp [excAtoms, throwableAtoms]) nofun) (w (.lays tN tN "stackTrace" steD) (by simp [excAtoms, throwableAtoms]) (by simp)) pl hpl
  have neS : Cond.lays rc tN "suppressedExceptions" listD ≠ .lays tN tN "suppressedExceptions" listD := fun q => hrc (by injection q)
  have wP := w (.lays rc tN "suppressedExceptions" listD) (by simp [excAtoms]) neS
  have wS := w (.lays rc tN "stackTrace" steD) (by simp [excAtoms]) (by simp)
  obtain ⟨c24, i24, F24, l24, r24, a24, s24, fi24, n24, t24, ff24⟩ := Cond.ownField (t := .object "java/util/List") fT lT (by decide +kernel) (w (.fieldLink tN 24 tN "suppressedExceptions" listD) (by simp [excAtoms, throwableAtoms]) nofun) wP pl hpl
  obtain ⟨c13, i13, F13, aS, cellS, l13, r13, a13, s13, -, -, st13, -, -, -, -, ff13⟩ := Cond.ownStatic (t := .array (.object "java/lang/StackTraceElement")) fT lT (by decide +kernel) (w (.fieldLink tN 13 tN "UNASSIGNED_STACK" steD) (by simp [excAtoms, throwableAtoms]) nofun) (w (.laysStatic tN "UNASSIGNED_STACK" steD) (by simp [excAtoms, throwableAtoms]) nofun) pl hpl
  obtain ⟨c20, i20, F20, _, _, l20, r20, a20, s20, -, -, -, -, -, -, -, ff20⟩ := Cond.ownStatic (t := .object "java/util/List") fT lT (by decide +kernel) (w (.fieldLink tN 20 tN "SUPPRESSED_SENTINEL" listD) (by simp [excAtoms, throwableAtoms]) nofun) (w (.laysStatic tN "SUPPRESSED_SENTINEL" listD) (by simp [excAtoms, throwableAtoms]) nofun) pl hpl
  obtain ⟨_, _, _, _, _, FM, _, _, _, sM, fiM, _⟩ := Cond.lays_spec (w (.lays tN tN "detailMessage" "Ljava/lang/String;") (by simp [excAtoms, throwableAtoms]) (by simp))
  obtain ⟨cR, kR, _, _, _, _, fR, lR, _⟩ := Cond.lays_spec wP
  obtain ⟨-, dS, hdS, hnS⟩ := Cond.laysAt fR lR ff17 wS
  obtain ⟨-, dP, hdP, hnP⟩ := Cond.laysAt fR lR ff24 wP
  have apart := Cond.laysApart hdS hdP hnS hnP (by rw [n17, n24]; decide)
  have pF : mF.sig.parameters = [] := by
    have q : (parseMethodDescriptor tFill.desc).map (·.parameters) = some [] := by decide +kernel
    rw [gF] at q; simpa using q
  have p0' : m0.sig.parameters = [.int] := by
    have q : (parseMethodDescriptor tFill0.desc).map (·.parameters) = some [.int] := by decide +kernel
    rw [g0] at q; simpa using q
  have pO : mtO.sig.parameters = [] := by
    have q : (parseMethodDescriptor oInit.desc).map (·.parameters) = some [] := by decide +kernel
    rw [gO] at q; simpa using q
  refine ⟨{ cT := cT, kT := kT, cO := cT, aS := aS, fillIdx := jF, fill0Idx := j0, initSIdx := jF, obj := mO, kObj := klO, methFill := mF, methFill0 := m0, methInitS := mF, methObj := mtO, codeFill := cF, codeInitS := cF, codeObj := cO, fBack := F7, fDepth := F7, fStack := F17, fCause := F7, fSupp := F24, fMsg := FM, fUnassigned := F13, fSentinel := F20, cfT := cf, ci1 := x1, n1 := y1, ci27 := x2, n27 := y2, ci202 := x3, n202 := y3, ci7 := c7, i7 := i7, ci13 := c13, i13 := i13, ci17 := c17, i17 := i17, ci20 := c20, i20 := i20, ci24 := c24, i24 := i24 }, ?_, fT, nF, n0, ff17, ff13, n17, t17, oT⟩
  exact ⟨howns, hfin, lT, nT, Vm.findClass_boot fT lT, iT, zT, st13, aF, eF, tF, lF, kF, sF, bF, rF, pF, a0', nm0, ds0, p0', s0, p0, q0, r0, b0, s17, fi17, s13, llO, nnO, vO, nmO, sO, bO, by rw [dsO]; exact lookupSpecial_of_named nO vO sO, by rw [pO]; rfl, eO, tO, kO, s7, fi7, s20, s24, fi24, sM, fiM, apart, f1, e1, g1, u1, e2, g2, u2, e3, g3, u3, l7, r7, a7, l13, r13, a13, l17, r17, a17, l20, r20, a20, l24, r24, a24⟩
theorem own_same_keep {s T : State} {locs : List Loc} {cells slots : Nat} {ea : Addr} (h : s.sameButNew (T.setVm s.vm) locs cells slots) (hb : ∀ x ∈ locs, x.base = ea) : Keep s.heap T.heap [ea] := by
  obtain ⟨-, h2, -, -, -, h6⟩ := h
  refine ⟨h2, fun x c q r => ?_, fun x c q => ?_⟩
  · obtain ⟨c', e1, e2, e3, e4⟩ := h6 x c q
    have es : c'.slots = c.slots := Array.ext_getElem? fun i => e4 i fun z => r (by have := hb _ z; simp at this; simp [this])
    have ec : c' = c := by rw [e2, es]
    rw [← ec]; exact e1
  · obtain ⟨c', e1, e2, e3, e4⟩ := h6 x c q
    exact ⟨c', e1, by rw [e2], by rw [e2], e3⟩
def Qfill (ea : Addr) (v : Option Value) (h : Heap) (L : List Loc) : Prop := v = some (.ref ea) ∧ ∀ x ∈ L, x.base = ea
open Jvm.Free.Exc in
set_option maxHeartbeats 4000000 in
theorem own_fill {l : Launch} {R : Room} {p : Program} {e : Env} {below : List Frame} {s Z : State} {args a0 : Array Value} {W len kI n0 : Nat} {h : Heap} {rc : String} (hexec : p.tables.exec = Jvm.exec) (hl : l.stackTraces = true) (hZ : Z.Warmed39 s.vm) (hT0 : ThS Z s.heap) (hrc : rc ≠ tN)
    (hch : ∀ c ∈ excAtoms rc, c ≠ .lays tN tN "suppressedExceptions" listD → c.before a0 Z = true) (wi : (Cond.instantiable rc kI).before a0 Z = true) (O : Old Z n0 h) (hTK : s.vm.MethodsKnown) (hBelow : s.vm.FramesKnown below) {ea us : Addr} (E : Exa Z h ea rc) (U : Unt h ea)
    (FS : Fld Z h ea tN "stackTrace" steD (.ref us)) (FB : Fld Z h ea tN "backtrace" obD .null) (S : Sta Z Z.heap tN "UNASSIGNED_STACK" steD (.ref us)) (ge : n0 ≤ ea) (hf : 2 < R.frames) (hlo : W + 42 ≤ R.locals) :
    Back l R p e below s args tFill len W (fun A a => a = #[.ref ea] ∧ A.U.heap = h ∧ A.cells + 1 ≤ R.cells ∧ A.slots + 2752 ≤ R.slots) (fun A _ v B => ∃ L, Qfill ea v B.U.heap L ∧ B.locs = A.locs ++ L ∧ B.cells = A.cells + 1 ∧ B.slots = A.slots + 2752) := fun m meth c A g ig mk a X hg hs hd hW hk hp => by
  obtain ⟨rfl, hh, h1, h2⟩ := hp
  have htr : e.platform.stackTraces = true := by rw [X.admits.platform]; exact hl
  have w : ∀ c ∈ excAtoms rc, c ≠ .lays tN tN "suppressedExceptions" listD → c.before args s = true := fun c hc hn => mvX hT0 hZ (List.all_eq_true.mp exc_ok c hc) (hch c hc hn)
  have w' : ∀ c ∈ excAtoms rc, c ≠ .lays tN tN "suppressedExceptions" listD → c.holds args s none s [] = true := fun c hc hn => w c hc hn
  have hpl : e.platform.magicAccessors = ({} : Platform).magicAccessors := by rw [X.admits.platform]
  obtain ⟨T, L, fT, nF, n0', ff17, ff13, n17, t17, oT⟩ := own_thr (pl := e.platform) (by rw [X.admits.platform]) (by rw [X.admits.platform]) hpl hrc w
  have hal := hZ.alike
  obtain ⟨cell, k, e1, e2, e3, e4, e5⟩ := E
  obtain ⟨cU, u1, u2, u3⟩ := U
  cases e1.symm.trans u1
  obtain ⟨kX, hkX, ekX⟩ := hal.2.2 _ _ e3
  obtain ⟨t, kt, g1, g2, g3, -, -⟩ := Cond.instantiable_spec wi
  cases e2.symm.trans g1
  cases e3.symm.trans g2
  have hord : kX.kind = .ordinary := by rw [ekX]; exact g3
  have hsz : cell.slots.size = kX.instanceTypes.size := by rw [e5 g3, ekX]
  have hfound : s.vm.findClass rc = some cell.cls := by rw [hal.findClass]; exact e2
  -- the fields
  obtain ⟨c1, cf1, k1, i1, f1, p1, p2, -, -, -, -, p7⟩ := FS
  cases e1.symm.trans p1
  obtain ⟨kz17, z17⟩ := ff_back hal ff17
  cases p2.symm.trans z17
  obtain ⟨x98, i98, fB, l98, r98, a98, s98, -, nB, tB, ffB⟩ := Cond.ownField (t := .object "java/lang/Object") fT L.cls (by decide +kernel) (w' (.fieldLink tN 198 tN "backtrace" obD) (by simp [excAtoms]) nofun) (w' (.lays tN tN "backtrace" obD) (by simp [excAtoms]) (by simp)) e.platform hpl
  obtain ⟨c2, cf2, k2, i2, f2, b1, b2, -, -, -, -, b7⟩ := FB
  cases e1.symm.trans b1
  obtain ⟨kzB, zB⟩ := ff_back hal ffB
  cases b2.symm.trans zB
  obtain ⟨_, _, cD, kD, iD, fD, -, -, ffD, sD, -⟩ := Cond.lays_spec (w' (.lays rc tN "depth" "I") (by simp [excAtoms]) (by simp))
  cases Option.some.inj ((Cond.lays_declared (w' (.lays rc tN "depth" "I") (by simp [excAtoms]) (by simp)) ffD).symm.trans fT)
  obtain ⟨hkD, aD⟩ := State.fieldFound?_spec ffD
  cases Option.some.inj (hkD.symm.trans L.cls)
  obtain ⟨nD, tD⟩ := State.fieldFound?_type ffD (t := .int) (by decide +kernel)
  have hfb := Cond.soleField_find fT L.cls (w' (.soleField tN "backtrace") (by simp [excAtoms]) nofun) a98 nB s98
  have hfd := Cond.soleField_find fT L.cls (w' (.soleField tN "depth") (by simp [excAtoms]) nofun) aD nD sD
  obtain ⟨comp, cO, kO, -, -, hkO, hkindO, hO⟩ := Cond.arrayOver_spec (w (.arrayOver (.object "java/lang/Object")) (by simp [excAtoms]) nofun)
  obtain ⟨tyS, -⟩ := Cond.laysAt hfound hkX ff17 (w' (.lays rc tN "stackTrace" steD) (by simp [excAtoms]) (by simp))
  obtain ⟨tyB, -⟩ := Cond.laysAt hfound hkX ffB (w' (.lays rc tN "backtrace" obD) (by simp [excAtoms]) (by simp))
  obtain ⟨tyD, -⟩ := Cond.laysAt hfound hkX ffD (w' (.lays rc tN "depth" "I") (by simp [excAtoms]) (by simp))
  have tk : ∀ {f : Field} {v : Value}, kX.instanceTypes[f.slot]? = some f.type → fits f.type v = true → Jvm.Takes s cell f v := fun {f v} q1 q2 => by
    obtain ⟨r1, r2⟩ := Takes.of_laid (v := v) hkX hord q1 q2
    exact ⟨by rw [hsz]; simpa using r1, by rw [u2]; exact r2⟩
  -- the statics
  obtain ⟨cf3, i3, k3, f3, st, cellS, s1, -, -, s4, s5, s6, s7⟩ := S
  obtain ⟨kz13, z13⟩ := ff_back hal ff13
  cases s1.symm.trans z13
  obtain ⟨k4, hk4, ek4⟩ := hal.2.2 _ _ (State.fieldFound?_spec z13).1
  cases hk4.symm.trans L.cls
  have est : T.aS = st := Option.some.inj (L.statics.symm.trans (by rw [ek4]; exact s4))
  have hlt : st < ea := Nat.lt_of_lt_of_le (by have q := (Array.getElem?_eq_some_iff.mp s5).1; rw [O.1] at q; exact q) ge
  have hsel : selectMethod e.platform s.vm cell.cls T.fill0 = .method T.fill0 := by
    obtain ⟨d2, r2, m2, q1, q2, q3, q4, -⟩ := Cond.selects_spec (w' (.selects rc tFill0 tFill0) (by simp [excAtoms]) nofun)
    cases Option.some.inj (q1.symm.trans hfound)
    cases Option.some.inj (q2.symm.trans (State.methodFound?_of_named n0' (by decide)))
    cases Option.some.inj (q3.symm.trans n0')
    rw [Launch.admits_selectMethod X.admits]; exact q4
  obtain ⟨v, B, X', ⟨rfl, C, n, hn, hC, -, -, -, -, hL, hc, hsl⟩, stp⟩ := fillPaysAny (l := l) (R := R) (below := below) (sargs := args) (W := W) (len := len) hexec htr T L nF (u0 := ⟨.ref us, rfl⟩) (self := ea) (cell := cell) (cellS := cellS) (fun _ => by rw [u2]; simp) (by rw [u2]; simp) (by rw [u3]) (by rw [u3]) p7 hsel (by rw [est]; exact Nat.ne_of_lt hlt) (fun q => by rw [q] at s6; cases s6) s7 (tk tyS (by rw [t17]; rfl))
    ⟨{ ci198 := x98, i198 := i98, fBack := fB }, ⟨l98, r98, a98, s98⟩, b7⟩ hTK hBelow fT hO hkO hkindO hfb hfd (fun _ => tk tyB (by rw [tB]; rfl)) (fun _ => tk tyD (by rw [tD]; rfl)) hf hlo m meth c A g ig mk _ X hg hs hd hW hk ⟨rfl, h1, h2, by rw [hh]; exact e1, by rw [hh, est]; exact O.2.2 _ _ s5⟩
  obtain ⟨BU, BL, Bc, Bs⟩ := B
  dsimp only [Pt.U, Pt.locs, Pt.cells, Pt.slots] at X' hL hc hsl hC stp
  subst hL hc hsl
  refine ⟨_, ⟨BU, _, _, A.slots + 2752⟩, X'.mono (Nat.le_refl _) (by show A.slots + n ≤ A.slots + 2752; omega), ⟨_, ⟨rfl, fun x hx => ?_⟩, rfl, rfl, rfl⟩, stp⟩
  simp only [List.mem_cons, List.not_mem_nil, or_false] at hx
  rcases hx with rfl | rfl | rfl <;> rfl

def Hch (Z : State) (a0 : Array Value) : Prop := ∀ c ∈ Jvm.Free.Exc.excAtoms "com/example/swapdeck/swapdeck/swap/CloseOutException", c ≠ .lays tN tN "suppressedExceptions" listD → c.before a0 Z = true
theorem own_c2 : ∀ d ∈ Jvm.Free.Exc.excAtoms "com/example/swapdeck/swapdeck/swap/CloseOutException", d ≠ .lays tN tN "suppressedExceptions" listD → d ∈ tables_1 ++ jdkStatics_1 := by decide +kernel
def Qth (ea : Addr) (h0 : Heap) (n0 : Nat) (v : Option Value) (h : Heap) (L : List Loc) : Prop := v = none ∧ Fr n0 L ∧ Keep h0 h [ea]
theorem own_known {h0 h : Heap} {a : Addr} {ws : List Addr} (U : Unt h0 a) (K : Keep h0 h ws) : ∃ cell : Cell, h[a]? = some cell ∧ cell.vm ≠ .unknown := by
  obtain ⟨c0, u1, u2, -⟩ := U
  obtain ⟨c', q1, -, q3, -⟩ := K.2.2 _ _ u1
  exact ⟨c', q1, by rw [q3, u2]; simp⟩
theorem d_thr_0 : decode jdk_78_method_2_code 0 = .ok (.aload_n 0, 1) := by decide +kernel
theorem d_thr_1 : decode jdk_78_method_2_code 1 = .ok (.invokespecial 1, 3) := by decide +kernel
theorem d_thr_4 : decode jdk_78_method_2_code 4 = .ok (.aload_n 0, 1) := by decide +kernel
theorem d_thr_5 : decode jdk_78_method_2_code 5 = .ok (.aload_n 0, 1) := by decide +kernel
theorem d_thr_6 : decode jdk_78_method_2_code 6 = .ok (.putfield 7, 3) := by decide +kernel
theorem d_thr_9 : decode jdk_78_method_2_code 9 = .ok (.aload_n 0, 1) := by decide +kernel
theorem d_thr_10 : decode jdk_78_method_2_code 10 = .ok (.getstatic 13, 3) := by decide +kernel
theorem d_thr_13 : decode jdk_78_method_2_code 13 = .ok (.putfield 17, 3) := by decide +kernel
theorem d_thr_16 : decode jdk_78_method_2_code 16 = .ok (.aload_n 0, 1) := by decide +kernel
theorem d_thr_17 : decode jdk_78_method_2_code 17 = .ok (.getstatic 20, 3) := by decide +kernel
theorem d_thr_20 : decode jdk_78_method_2_code 20 = .ok (.putfield 24, 3) := by decide +kernel
theorem d_thr_23 : decode jdk_78_method_2_code 23 = .ok (.aload_n 0, 1) := by decide +kernel
theorem d_thr_24 : decode jdk_78_method_2_code 24 = .ok (.invokevirtual 27, 3) := by decide +kernel
theorem d_thr_27 : decode jdk_78_method_2_code 27 = .ok (.pop, 1) := by decide +kernel
theorem d_thr_28 : decode jdk_78_method_2_code 28 = .ok (.aload_n 0, 1) := by decide +kernel
theorem d_thr_29 : decode jdk_78_method_2_code 29 = .ok (.aload_n 1, 1) := by decide +kernel
theorem d_thr_30 : decode jdk_78_method_2_code 30 = .ok (.putfield 31, 3) := by decide +kernel
theorem d_thr_33 : decode jdk_78_method_2_code 33 = .ok (.return_, 1) := by decide +kernel
theorem pn_thr : plainFor (⟨"java/lang/Throwable", "<init>", "(Ljava/lang/String;)V"⟩ : MethodName) = true := plainFor_of_name (by first | (simp [plainName, overriddenIn]; done) | decide +kernel)
theorem pd_thr_0 : parseMethodDescriptor "()Ljava/lang/Throwable;" = some ⟨[], some (.object "java/lang/Throwable")⟩ := by decide +kernel
theorem ef_thr (m : MethodId) (x0 : Addr) (x1 : Addr) : entryFrame m #[(.ref x0), (.ref x1)] 2 = mkF m 0 #[.val (.ref x0), .val (.ref x1)] [] := by first | (simp [entryFrame, mkF, argsToLocals, Value.category]; done) | rfl
set_option maxRecDepth 65536 in
set_option maxHeartbeats 40000000 in
theorem rm_thr (l : Launch) (Z : State) (a0 : Array Value) (hw : ∀ d ∈ tables_1, d.before a0 Z = true) (ws : List Jvm.Cond) (hl : l.stackTraces = true) (hch : Hch Z a0) (ea ms : Addr) (zc : Int32) (ls us ss : Addr) (hS0 : Sf Z zc ls us ss) (h0 : Heap) (n0 : Nat) (O : Old Z n0 h0) (E_a : Exa Z h0 ea "com/example/swapdeck/swapdeck/swap/CloseOutException") (U_a : Unt h0 ea) (F_ca : Fld Z h0 ea "java/lang/Throwable" "cause" "Ljava/lang/Throwable;" .null) (F_st : Fld Z h0 ea "java/lang/Throwable" "stackTrace" "[Ljava/lang/StackTraceElement;" .null) (F_su : Fld Z h0 ea "java/lang/Throwable" "suppressedExceptions" "Ljava/util/List;" .null) (F_bt : Fld Z h0 ea "java/lang/Throwable" "backtrace" "Ljava/lang/Object;" .null) (F_dm : Fld Z h0 ea "java/lang/Throwable" "detailMessage" "Ljava/lang/String;" .null) (g_ea : n0 ≤ ea) :
    MetFree l (⟨"java/lang/Throwable", "<init>", "(Ljava/lang/String;)V"⟩ : MethodName) (head1 (Jvm.Cond.code (⟨"java/lang/Throwable", "<init>", "(Ljava/lang/String;)V"⟩ : MethodName) jdk_78_method_2_code 2 none :: ws) ({ frames := 3, cells := 1, slots := 2752, locals := 42 } : Room)) (fun as_ U => as_ = #[(.ref ea), (.ref ms)] ∧ Z.Warmed39 U.vm ∧ U.heap = h0) (fun _ _ bl s _ => s.vm.MethodsKnown ∧ s.vm.FramesKnown bl) (fun _ U o U' => ∃ v L, o = .returned v ∧ Qth ea h0 n0 v U'.heap L ∧ FrameEnd U o U' L ({ frames := 3, cells := 1, slots := 2752, locals := 42 } : Room).cells ({ frames := 3, cells := 1, slots := 2752, locals := 42 } : Room).slots) := by
  refine MetFree.of_bodySF pn_thr hisR ?_
  intro p e s m args below meth c s₁ Bd hml0 hP hK
  obtain ⟨rfl, hZ, hh⟩ := hP
  have hx := Bd.exec
  have hby := Bd.bytes
  have hml : c.maxLocals = 2 := hml0
  have hown : s.vm.findClass "java/lang/Throwable" = some m.cls := findClass_of_methodNamed Bd.named
  have hnm := (name_of_methodNamed Bd.named Bd.method).1
  have X0 : Stand p l e ({ frames := 3, cells := 1, slots := 2752, locals := 42 } : Room) s m #[(.ref ea), (.ref ms)] below meth c s₁ [] 0 0 := Stand.of_body Bd
  have e0 : s₁.heap = h0 := by rw [← hh, Bd.state]; rfl
  have N := Fr.nil n0
  have K : Keep h0 h0 [ea] := Keep.refl _ _
  refine Go.by (T' := s₁) (f' := (mkF m 0 #[.val (.ref ea), .val (.ref ms)] [])) (fun _ k => castTop (ef_thr m ea ms) k) ?_
  have O0 := O
  have E_a0 := E_a
  have U_a0 := U_a
  have hT0 : ThS Z s.heap := by rw [hh]; exact ThS.ext O.2 ThS.start
  refine Go.by (T' := s₁) (f' := (mkF m 1 #[.val (.ref ea), .val (.ref ms)] [(.ref ea)])) (fun _ k => XS.aloadN X0.here hx rfl (hb hby d_thr_0) rfl rfl k) ?_
  obtain ⟨T1, X1, e1, st1⟩ := initO X0 hx hZ hown (hw _ (List.mem_of_getElem? (i := 207) rfl)) (hw _ (List.mem_of_getElem? (i := 12) rfl)) (hw _ (List.mem_of_getElem? (i := 13) rfl)) e0 (g := (mkF m 1 #[.val (.ref ea), .val (.ref ms)] [(.ref ea)])) rfl (by rw [hml]; rfl) rfl (hb hby d_thr_1) (by decide) (W := 0) (by show 2 * 0 + _ ≤ _; exact Nat.le_of_eq rfl) (by decide)
  refine Go.by (T' := T1) (f' := (mkF m 4 #[.val (.ref ea), .val (.ref ms)] [])) (st1) ?_
  refine Go.by (T' := T1) (f' := (mkF m 5 #[.val (.ref ea), .val (.ref ms)] [(.ref ea)])) (fun _ k => XS.aloadN X1.here hx rfl (hb hby d_thr_4) rfl rfl k) ?_
  refine Go.by (T' := T1) (f' := (mkF m 6 #[.val (.ref ea), .val (.ref ms)] [(.ref ea), (.ref ea)])) (fun _ k => XS.aloadN X1.here hx rfl (hb hby d_thr_5) rfl rfl k) ?_
  obtain ⟨T2, h2, X2, e2, W2, st2⟩ := putF X1 hx hZ hown (host := "") (Or.inl (hw _ (List.mem_of_getElem? (i := 208) rfl))) Via.refl e1 F_ca E_a (Or.inl (hw _ (List.mem_of_getElem? (i := 209) rfl))) (hw _ (List.mem_of_getElem? (i := 27) rfl)) (ty := (.object "java/lang/Throwable")) (by decide) rfl rfl (g := (mkF m 6 #[.val (.ref ea), .val (.ref ms)] [(.ref ea), (.ref ea)])) rfl rfl (hb hby d_thr_6)
  replace E_a := E_a.wr W2
  replace F_st := F_st.other W2 (Or.inr (slot_ne (Or.inl (hw _ (List.mem_of_getElem? (i := 212) rfl))) (Or.inl (hw _ (List.mem_of_getElem? (i := 209) rfl))) (by decide) (t := (.array (.object "java/lang/StackTraceElement"))) (t' := (.object "java/lang/Throwable")) (by decide) (by decide)))
  replace F_su := F_su.other W2 (Or.inr (slot_ne (Or.inl (hw _ (List.mem_of_getElem? (i := 215) rfl))) (Or.inl (hw _ (List.mem_of_getElem? (i := 209) rfl))) (by decide) (t := (.object "java/util/List")) (t' := (.object "java/lang/Throwable")) (by decide) (by decide)))
  replace F_bt := F_bt.other W2 (Or.inr (slot_ne (Or.inl (hw _ (List.mem_of_getElem? (i := 240) rfl))) (Or.inl (hw _ (List.mem_of_getElem? (i := 209) rfl))) (by decide) (t := (.object "java/lang/Object")) (t' := (.object "java/lang/Throwable")) (by decide) (by decide)))
  replace F_dm := F_dm.other W2 (Or.inr (slot_ne (Or.inl (hw _ (List.mem_of_getElem? (i := 239) rfl))) (Or.inl (hw _ (List.mem_of_getElem? (i := 209) rfl))) (by decide) (t := (.object "java/lang/String")) (t' := (.object "java/lang/Throwable")) (by decide) (by decide)))
  replace U_a := Unt.wr W2 U_a
  replace F_ca := F_ca.same W2
  replace O := O.wr W2 g_ea
  replace K := K.wr W2 (Or.inl (by simp))
  replace N := Fr.snoc X2 N g_ea
  refine Go.by (T' := T2) (f' := (mkF m 9 #[.val (.ref ea), .val (.ref ms)] [])) (st2) ?_
  refine Go.by (T' := T2) (f' := (mkF m 10 #[.val (.ref ea), .val (.ref ms)] [(.ref ea)])) (fun _ k => XS.aloadN X2.here hx rfl (hb hby d_thr_9) rfl rfl k) ?_
  obtain ⟨T3, X3, e3, st3⟩ := getS2 X2 hx hZ hown (host := "") (Or.inl (hw _ (List.mem_of_getElem? (i := 210) rfl))) Via.refl e2 (Sta.ext O.2 hS0.2.2.2.2.1) (g := (mkF m 10 #[.val (.ref ea), .val (.ref ms)] [(.ref ea)])) rfl (hb hby d_thr_10)
  refine Go.by (T' := T3) (f' := (mkF m 13 #[.val (.ref ea), .val (.ref ms)] [(.ref us), (.ref ea)])) (st3) ?_
  obtain ⟨T4, h4, X4, e4, W4, st4⟩ := putF X3 hx hZ hown (host := "") (Or.inl (hw _ (List.mem_of_getElem? (i := 211) rfl))) Via.refl e3 F_st E_a (Or.inl (hw _ (List.mem_of_getElem? (i := 212) rfl))) (hw _ (List.mem_of_getElem? (i := 27) rfl)) (ty := (.array (.object "java/lang/StackTraceElement"))) (by decide) rfl rfl (g := (mkF m 13 #[.val (.ref ea), .val (.ref ms)] [(.ref us), (.ref ea)])) rfl rfl (hb hby d_thr_13)
  replace E_a := E_a.wr W4
  replace F_ca := F_ca.other W4 (Or.inr (slot_ne (Or.inl (hw _ (List.mem_of_getElem? (i := 209) rfl))) (Or.inl (hw _ (List.mem_of_getElem? (i := 212) rfl))) (by decide) (t := (.object "java/lang/Throwable")) (t' := (.array (.object "java/lang/StackTraceElement"))) (by decide) (by decide)))
  replace F_su := F_su.other W4 (Or.inr (slot_ne (Or.inl (hw _ (List.mem_of_getElem? (i := 215) rfl))) (Or.inl (hw _ (List.mem_of_getElem? (i := 212) rfl))) (by decide) (t := (.object "java/util/List")) (t' := (.array (.object "java/lang/StackTraceElement"))) (by decide) (by decide)))
  replace F_bt := F_bt.other W4 (Or.inr (slot_ne (Or.inl (hw _ (List.mem_of_getElem? (i := 240) rfl))) (Or.inl (hw _ (List.mem_of_getElem? (i := 212) rfl))) (by decide) (t := (.object "java/lang/Object")) (t' := (.array (.object "java/lang/StackTraceElement"))) (by decide) (by decide)))
  replace F_dm := F_dm.other W4 (Or.inr (slot_ne (Or.inl (hw _ (List.mem_of_getElem? (i := 239) rfl))) (Or.inl (hw _ (List.mem_of_getElem? (i := 212) rfl))) (by decide) (t := (.object "java/lang/String")) (t' := (.array (.object "java/lang/StackTraceElement"))) (by decide) (by decide)))
  replace U_a := Unt.wr W4 U_a
  replace F_st := F_st.same W4
  replace O := O.wr W4 g_ea
  replace K := K.wr W4 (Or.inl (by simp))
  replace N := Fr.snoc X4 N g_ea
  refine Go.by (T' := T4) (f' := (mkF m 16 #[.val (.ref ea), .val (.ref ms)] [])) (st4) ?_
  refine Go.by (T' := T4) (f' := (mkF m 17 #[.val (.ref ea), .val (.ref ms)] [(.ref ea)])) (fun _ k => XS.aloadN X4.here hx rfl (hb hby d_thr_16) rfl rfl k) ?_
  obtain ⟨T5, X5, e5, st5⟩ := getS2 X4 hx hZ hown (host := "") (Or.inl (hw _ (List.mem_of_getElem? (i := 213) rfl))) Via.refl e4 (Sta.ext O.2 hS0.2.2.2.2.2.1) (g := (mkF m 17 #[.val (.ref ea), .val (.ref ms)] [(.ref ea)])) rfl (hb hby d_thr_17)
  refine Go.by (T' := T5) (f' := (mkF m 20 #[.val (.ref ea), .val (.ref ms)] [(.ref ss), (.ref ea)])) (st5) ?_
  obtain ⟨T6, h6, X6, e6, W6, st6⟩ := putF X5 hx hZ hown (host := "") (Or.inl (hw _ (List.mem_of_getElem? (i := 214) rfl))) Via.refl e5 F_su E_a (Or.inl (hw _ (List.mem_of_getElem? (i := 215) rfl))) (hw _ (List.mem_of_getElem? (i := 27) rfl)) (ty := (.object "java/util/List")) (by decide) rfl rfl (g := (mkF m 20 #[.val (.ref ea), .val (.ref ms)] [(.ref ss), (.ref ea)])) rfl rfl (hb hby d_thr_20)
  replace E_a := E_a.wr W6
  replace F_ca := F_ca.other W6 (Or.inr (slot_ne (Or.inl (hw _ (List.mem_of_getElem? (i := 209) rfl))) (Or.inl (hw _ (List.mem_of_getElem? (i := 215) rfl))) (by decide) (t := (.object "java/lang/Throwable")) (t' := (.object "java/util/List")) (by decide) (by decide)))
  replace F_st := F_st.other W6 (Or.inr (slot_ne (Or.inl (hw _ (List.mem_of_getElem? (i := 212) rfl))) (Or.inl (hw _ (List.mem_of_getElem? (i := 215) rfl))) (by decide) (t := (.array (.object "java/lang/StackTraceElement"))) (t' := (.object "java/util/List")) (by decide) (by decide)))
  replace F_bt := F_bt.other W6 (Or.inr (slot_ne (Or.inl (hw _ (List.mem_of_getElem? (i := 240) rfl))) (Or.inl (hw _ (List.mem_of_getElem? (i := 215) rfl))) (by decide) (t := (.object "java/lang/Object")) (t' := (.object "java/util/List")) (by decide) (by decide)))
  replace F_dm := F_dm.other W6 (Or.inr (slot_ne (Or.inl (hw _ (List.mem_of_getElem? (i := 239) rfl))) (Or.inl (hw _ (List.mem_of_getElem? (i := 215) rfl))) (by decide) (t := (.object "java/lang/String")) (t' := (.object "java/util/List")) (by decide) (by decide)))
  replace U_a := Unt.wr W6 U_a
  replace F_su := F_su.same W6
  replace O := O.wr W6 g_ea
  replace K := K.wr W6 (Or.inl (by simp))
  replace N := Fr.snoc X6 N g_ea
  refine Go.by (T' := T6) (f' := (mkF m 23 #[.val (.ref ea), .val (.ref ms)] [])) (st6) ?_
  refine Go.by (T' := T6) (f' := (mkF m 24 #[.val (.ref ea), .val (.ref ms)] [(.ref ea)])) (fun _ k => XS.aloadN X6.here hx rfl (hb hby d_thr_23) rfl rfl k) ?_
  obtain ⟨cq7, kq7, q7a, q7b, q7c⟩ := isOf hZ e6 E_a
  obtain ⟨v7, _, ⟨T7, L7, k7, n7⟩, -, X7, ⟨Lc7, hQ7, l7, y7, z7⟩, st7⟩ := X6.virtualBack hx (y := (⟨"java/lang/Throwable", "fillInStackTrace", "()Ljava/lang/Throwable;"⟩ : MethodName)) (z := (⟨"java/lang/Throwable", "fillInStackTrace", "()Ljava/lang/Throwable;"⟩ : MethodName)) hown (mvT hZ (hw _ (List.mem_of_getElem? (i := 216) rfl))) (mvT hZ (hw _ (List.mem_of_getElem? (i := 217) rfl))) (notFace_of_selects (args := #[]) (mvT hZ (hw _ (List.mem_of_getElem? (i := 219) rfl)))) (mvT hZ (hw _ (List.mem_of_getElem? (i := 219) rfl))) (mvT hZ (hw _ (List.mem_of_getElem? (i := 218) rfl))) (by decide) (own_fill (W := 0) (len := 3) hx hl hZ hT0 (by decide) hch (hw _ (List.mem_of_getElem? (i := 27) rfl)) O hK.1 hK.2 E_a U_a F_st F_bt hS0.2.2.2.2.1 g_ea (by decide) (by decide)) q7a q7c (g := (mkF m 24 #[.val (.ref ea), .val (.ref ms)] [(.ref ea)])) rfl (by rw [hml]; rfl) (Steps.refl _) (argsL := []) (rest := []) (lenOf pd_thr_0 rfl) rfl (by show 2 * 0 + _ ≤ _; exact Nat.le_of_eq rfl) (hb hby d_thr_24) (fun _ _ => ⟨rfl, e6, (by decide : 0 + 1 ≤ _), (by decide : 0 + 2752 ≤ _)⟩)
  dsimp only [Pt.U, Pt.locs, Pt.cells, Pt.slots] at X7 l7 y7 z7 st7 hQ7
  subst l7 y7 z7
  obtain ⟨rfl, hb7⟩ := hQ7
  have K7 : Keep s.heap T7.heap [ea] := own_same_keep X7.same (fun x hx => by
    simp only [List.nil_append, List.mem_append, List.mem_cons, List.not_mem_nil, or_false] at hx
    rcases hx with ((rfl | rfl) | rfl) | hx
    · rfl
    · rfl
    · rfl
    · exact hb7 _ hx)
  rw [hh] at K7
  replace N := Fr.app N (fun y hy => by rw [hb7 y hy]; exact g_ea)
  replace K := K7
  replace O := O0.keep K7 (allS g_ea all0)
  replace E_a := E_a0.keep K7
  obtain ⟨v_dm, F_d7⟩ := fld_laid (O := "java/lang/Throwable") (n := "detailMessage") (d := "Ljava/lang/String;") E_a (own_known U_a0 K7) (hw _ (List.mem_of_getElem? (i := 27) rfl)) (Or.inl (hw _ (List.mem_of_getElem? (i := 239) rfl)))
  refine Go.by (T' := T7) (f' := (mkF m 27 #[.val (.ref ea), .val (.ref ms)] [(.ref ea)])) (fun _ k => st7.trans k) ?_
  refine Go.by (T' := T7) (f' := (mkF m 28 #[.val (.ref ea), .val (.ref ms)] [])) (fun _ k => XS.pop X7.here hx rfl (hb hby d_thr_27) rfl rfl k) ?_
  refine Go.by (T' := T7) (f' := (mkF m 29 #[.val (.ref ea), .val (.ref ms)] [(.ref ea)])) (fun _ k => XS.aloadN X7.here hx rfl (hb hby d_thr_28) rfl rfl k) ?_
  refine Go.by (T' := T7) (f' := (mkF m 30 #[.val (.ref ea), .val (.ref ms)] [(.ref ms), (.ref ea)])) (fun _ k => XS.aloadN X7.here hx rfl (hb hby d_thr_29) rfl rfl k) ?_
  obtain ⟨T8, h8, X8, e8, W8, st8⟩ := putF X7 hx hZ hown (host := "") (Or.inl (hw _ (List.mem_of_getElem? (i := 243) rfl))) Via.refl rfl F_d7 E_a (Or.inl (hw _ (List.mem_of_getElem? (i := 239) rfl))) (hw _ (List.mem_of_getElem? (i := 27) rfl)) (ty := (.object "java/lang/String")) (by decide) rfl rfl (g := (mkF m 30 #[.val (.ref ea), .val (.ref ms)] [(.ref ms), (.ref ea)])) rfl rfl (hb hby d_thr_30)
  replace E_a := E_a.wr W8
  replace F_d7 := F_d7.same W8
  replace O := O.wr W8 g_ea
  replace K := K.wr W8 (Or.inl (by simp))
  replace N := Fr.snoc X8 N g_ea
  refine Go.by (T' := T8) (f' := (mkF m 33 #[.val (.ref ea), .val (.ref ms)] [])) (st8) ?_
  obtain ⟨fs, hr, hrun, hended, hW, hsame⟩ := X8.leave (v := none) (fun _ => rfl)
  refine ⟨_, _, X8.returnOut hx Bd.returns (hb hby d_thr_33) hr, hrun, hended, _, _, rfl, ?_, ⟨_, rfl⟩, hW, hsame.mono (by decide) (by decide)⟩
  show Qth ea h0 n0 (none) T8.heap _
  rw [e8]
  exact ⟨rfl, N, K⟩

theorem d_exc_0 : decode jdk_59_method_2_code 0 = .ok (.aload_n 0, 1) := by decide +kernel
theorem d_exc_1 : decode jdk_59_method_2_code 1 = .ok (.aload_n 1, 1) := by decide +kernel
theorem d_exc_2 : decode jdk_59_method_2_code 2 = .ok (.invokespecial 7, 3) := by decide +kernel
theorem d_exc_5 : decode jdk_59_method_2_code 5 = .ok (.return_, 1) := by decide +kernel
theorem pn_exc : plainFor (⟨"java/lang/Exception", "<init>", "(Ljava/lang/String;)V"⟩ : MethodName) = true := plainFor_of_name (by first | (simp [plainName, overriddenIn]; done) | decide +kernel)
theorem pd_exc_0 : parseMethodDescriptor "(Ljava/lang/String;)V" = some ⟨[(.object "java/lang/String")], none⟩ := by decide +kernel
theorem ef_exc (m : MethodId) (x0 : Addr) (x1 : Addr) : entryFrame m #[(.ref x0), (.ref x1)] 2 = mkF m 0 #[.val (.ref x0), .val (.ref x1)] [] := by first | (simp [entryFrame, mkF, argsToLocals, Value.category]; done) | rfl
set_option maxRecDepth 65536 in
set_option maxHeartbeats 40000000 in
theorem rm_exc (l : Launch) (Z : State) (a0 : Array Value) (hw : ∀ d ∈ tables_1, d.before a0 Z = true) (ws : List Jvm.Cond) (hl : l.stackTraces = true) (hch : Hch Z a0) (ea ms : Addr) (zc : Int32) (ls us ss : Addr) (hS0 : Sf Z zc ls us ss) (h0 : Heap) (n0 : Nat) (O : Old Z n0 h0) (E_a : Exa Z h0 ea "com/example/swapdeck/swapdeck/swap/CloseOutException") (U_a : Unt h0 ea) (F_ca : Fld Z h0 ea "java/lang/Throwable" "cause" "Ljava/lang/Throwable;" .null) (F_st : Fld Z h0 ea "java/lang/Throwable" "stackTrace" "[Ljava/lang/StackTraceElement;" .null) (F_su : Fld Z h0 ea "java/lang/Throwable" "suppressedExceptions" "Ljava/util/List;" .null) (F_bt : Fld Z h0 ea "java/lang/Throwable" "backtrace" "Ljava/lang/Object;" .null) (F_dm : Fld Z h0 ea "java/lang/Throwable" "detailMessage" "Ljava/lang/String;" .null) (g_ea : n0 ≤ ea) :
    MetFree l (⟨"java/lang/Exception", "<init>", "(Ljava/lang/String;)V"⟩ : MethodName) (head1 (Jvm.Cond.code (⟨"java/lang/Exception", "<init>", "(Ljava/lang/String;)V"⟩ : MethodName) jdk_59_method_2_code 2 none :: ws) ({ frames := 4, cells := 1, slots := 2752, locals := 55 } : Room)) (fun as_ U => as_ = #[(.ref ea), (.ref ms)] ∧ Z.Warmed39 U.vm ∧ U.heap = h0) (fun _ _ bl s _ => s.vm.MethodsKnown ∧ s.vm.FramesKnown bl) (fun _ U o U' => ∃ v L, o = .returned v ∧ Qth ea h0 n0 v U'.heap L ∧ FrameEnd U o U' L ({ frames := 4, cells := 1, slots := 2752, locals := 55 } : Room).cells ({ frames := 4, cells := 1, slots := 2752, locals := 55 } : Room).slots) := by
  refine MetFree.of_bodySF pn_exc hisR ?_
  intro p e s m args below meth c s₁ Bd hml0 hP hK
  obtain ⟨rfl, hZ, hh⟩ := hP
  have hx := Bd.exec
  have hby := Bd.bytes
  have hml : c.maxLocals = 2 := hml0
  have hown : s.vm.findClass "java/lang/Exception" = some m.cls := findClass_of_methodNamed Bd.named
  have hnm := (name_of_methodNamed Bd.named Bd.method).1
  have X0 : Stand p l e ({ frames := 4, cells := 1, slots := 2752, locals := 55 } : Room) s m #[(.ref ea), (.ref ms)] below meth c s₁ [] 0 0 := Stand.of_body Bd
  have e0 : s₁.heap = h0 := by rw [← hh, Bd.state]; rfl
  have N := Fr.nil n0
  have K : Keep h0 h0 [ea] := Keep.refl _ _
  refine Go.by (T' := s₁) (f' := (mkF m 0 #[.val (.ref ea), .val (.ref ms)] [])) (fun _ k => castTop (ef_exc m ea ms) k) ?_
  have O0 := O
  have E_a0 := E_a
  have U_a0 := U_a
  have hT0 : ThS Z s.heap := by rw [hh]; exact ThS.ext O.2 ThS.start
  refine Go.by (T' := s₁) (f' := (mkF m 1 #[.val (.ref ea), .val (.ref ms)] [(.ref ea)])) (fun _ k => XS.aloadN X0.here hx rfl (hb hby d_exc_0) rfl rfl k) ?_
  refine Go.by (T' := s₁) (f' := (mkF m 2 #[.val (.ref ea), .val (.ref ms)] [(.ref ms), (.ref ea)])) (fun _ k => XS.aloadN X0.here hx rfl (hb hby d_exc_1) rfl rfl k) ?_
  obtain ⟨v1, _, ⟨T1, L1, k1, n1⟩, -, X1, ⟨Lc1, hQ1, l1, y1, z1⟩, st1⟩ := X0.specialBack hx (y := (⟨"java/lang/Throwable", "<init>", "(Ljava/lang/String;)V"⟩ : MethodName)) rfl hown (mvT hZ (hw _ (List.mem_of_getElem? (i := 201) rfl))) (mvT hZ (hw _ (List.mem_of_getElem? (i := 202) rfl))) (mvT hZ (hw _ (List.mem_of_getElem? (i := 206) rfl))) (by decide) (backOfKL (W := 0) (rm_thr l Z a0 hw [] hl hch ea ms zc ls us ss hS0 h0 n0 O E_a U_a F_ca F_st F_su F_bt F_dm g_ea) hZ (hw _ (List.mem_of_getElem? (i := 206) rfl)) (hw _ (List.mem_of_getElem? (i := 205) rfl)) (by decide) (by decide) hK.1 hK.2) (g := (mkF m 2 #[.val (.ref ea), .val (.ref ms)] [(.ref ms), (.ref ea)])) rfl (by rw [hml]; rfl) (Steps.refl _) (a := ea) (argsL := [(.ref ms)]) (rest := []) (lenOf pd_exc_0 rfl) rfl (by show 2 * 0 + _ ≤ _; exact Nat.le_of_eq rfl) (hb hby d_exc_2) (fun _ _ => ⟨rfl, e0, (by decide : 0 + 1 ≤ _), (by decide : 0 + 2752 ≤ _)⟩)
  dsimp only [Pt.U, Pt.locs, Pt.cells, Pt.slots] at X1 l1 y1 z1 st1 hQ1
  subst l1 y1 z1
  obtain ⟨rfl, Nq1, K1⟩ := hQ1
  replace N := Fr.app N Nq1
  have kn1 := own_known U_a K1
  replace E_a := E_a.keep K1
  replace O := O.keep K1 (allS g_ea all0)
  replace K := K.trans K1 (allS (Or.inl (by simp)) all0)
  obtain ⟨v_trade, F_trade⟩ := fld_laid (O := "com/example/swapdeck/swapdeck/swap/CloseOutException") (n := "trade") (d := "Ljava/lang/String;") E_a kn1 (hw _ (List.mem_of_getElem? (i := 27) rfl)) (Or.inr (hw _ (List.mem_of_getElem? (i := 245) rfl)))
  obtain ⟨v_input, F_input⟩ := fld_laid (O := "com/example/swapdeck/swapdeck/swap/CloseOutException") (n := "input") (d := "Lcom/example/swapdeck/swapdeck/swap/CloseOutException$Input;") E_a kn1 (hw _ (List.mem_of_getElem? (i := 27) rfl)) (Or.inr (hw _ (List.mem_of_getElem? (i := 247) rfl)))
  refine Go.by (T' := T1) (f' := (mkF m 5 #[.val (.ref ea), .val (.ref ms)] [])) (fun _ k => st1.trans k) ?_
  obtain ⟨fs, hr, hrun, hended, hW, hsame⟩ := X1.leave (v := none) (fun _ => rfl)
  refine ⟨_, _, X1.returnOut hx Bd.returns (hb hby d_exc_5) hr, hrun, hended, _, _, rfl, ?_, ⟨_, rfl⟩, hW, hsame.mono (by decide) (by decide)⟩
  show Qth ea h0 n0 (none) T1.heap _
  exact ⟨rfl, N, K⟩

theorem d_quot_0 : decode prog_72_method_6_code 0 = .ok (.iload_n 0, 1) := by decide +kernel
theorem d_quot_1 : decode prog_72_method_6_code 1 = .ok (.iconst 1, 1) := by decide +kernel
theorem d_quot_2 : decode prog_72_method_6_code 2 = .ok (.if_icmp .ne 8, 3) := by decide +kernel
theorem d_quot_5 : decode prog_72_method_6_code 5 = .ok (.ldc 53, 2) := by decide +kernel
theorem d_quot_7 : decode prog_72_method_6_code 7 = .ok (.goto 22, 3) := by decide +kernel
theorem d_quot_10 : decode prog_72_method_6_code 10 = .ok (.new 22, 3) := by decide +kernel
theorem d_quot_13 : decode prog_72_method_6_code 13 = .ok (.dup, 1) := by decide +kernel
theorem d_quot_14 : decode prog_72_method_6_code 14 = .ok (.invokespecial 24, 3) := by decide +kernel
theorem d_quot_17 : decode prog_72_method_6_code 17 = .ok (.iload_n 0, 1) := by decide +kernel
theorem d_quot_18 : decode prog_72_method_6_code 18 = .ok (.invokevirtual 55, 3) := by decide +kernel
theorem d_quot_21 : decode prog_72_method_6_code 21 = .ok (.ldc 58, 2) := by decide +kernel
theorem d_quot_23 : decode prog_72_method_6_code 23 = .ok (.invokevirtual 29, 3) := by decide +kernel
theorem d_quot_26 : decode prog_72_method_6_code 26 = .ok (.invokevirtual 41, 3) := by decide +kernel
theorem d_quot_29 : decode prog_72_method_6_code 29 = .ok (.areturn, 1) := by decide +kernel
theorem pn_quot : plainFor (⟨"com/example/swapdeck/swapdeck/swap/CloseOutException", "quotations", "(I)Ljava/lang/String;"⟩ : MethodName) = true := plainFor_of_name (by first | (simp [plainName, overriddenIn]; done) | decide +kernel)
theorem pd_quot_0 : parseMethodDescriptor "()V" = some ⟨[], none⟩ := by decide +kernel
theorem pd_quot_1 : parseMethodDescriptor "(I)Ljava/lang/StringBuilder;" = some ⟨[.int], some (.object "java/lang/StringBuilder")⟩ := by decide +kernel
theorem pd_quot_2 : parseMethodDescriptor "(Ljava/lang/String;)Ljava/lang/StringBuilder;" = some ⟨[(.object "java/lang/String")], some (.object "java/lang/StringBuilder")⟩ := by decide +kernel
theorem pd_quot_3 : parseMethodDescriptor "()Ljava/lang/String;" = some ⟨[], some (.object "java/lang/String")⟩ := by decide +kernel
theorem ef_quot (m : MethodId) (x0 : Int32) : entryFrame m #[(.int x0)] 1 = mkF m 0 #[.val (.int x0)] [] := by first | (simp [entryFrame, mkF, argsToLocals, Value.category]; done) | rfl
set_option maxRecDepth 65536 in
set_option maxHeartbeats 40000000 in
theorem rm_quot (l : Launch) (Z : State) (a0 : Array Value) (hw : ∀ d ∈ tables_1, d.before a0 Z = true) (ws : List Jvm.Cond) (hl : l.stackTraces = true) (hch : Hch Z a0) (hEL : EW Z a0 consts_1) (vi : Int32) (zc : Int32) (ls us ss : Addr) (hS0 : Sf Z zc ls us ss) (h0 : Heap) (n0 : Nat) (O : Old Z n0 h0)  :
    MetFree l (⟨"com/example/swapdeck/swapdeck/swap/CloseOutException", "quotations", "(I)Ljava/lang/String;"⟩ : MethodName) (head1 (Jvm.Cond.code (⟨"com/example/swapdeck/swapdeck/swap/CloseOutException", "quotations", "(I)Ljava/lang/String;"⟩ : MethodName) prog_72_method_6_code 1 (some (.object "java/lang/String")) :: ws) ({ frames := 6, cells := 8, slots := 822, locals := 106 } : Room)) (fun as_ U => as_ = #[(.int vi)] ∧ Z.Warmed39 U.vm ∧ U.heap = h0 ∧ CHv Z consts_1 U.vm h0) (fun _ _ _ _ _ => True) (fun _ U o U' => ∃ v L, o = .returned v ∧ Qq Z h0 n0 v U'.heap L ∧ CHr Z consts_1 U.vm U.heap U'.vm U'.heap ∧ ReturnedEndW U o U' L ({ frames := 6, cells := 8, slots := 822, locals := 106 } : Room).cells ({ frames := 6, cells := 8, slots := 822, locals := 106 } : Room).slots) := by
  refine MetFree.of_bodySF pn_quot hisR ?_
  intro p e s m args below meth c s₁ Bd hml0 hP hK
  obtain ⟨rfl, hZ, hh, H0⟩ := hP
  have hx := Bd.exec
  have hby := Bd.bytes
  have hml : c.maxLocals = 1 := hml0
  have hown : s.vm.findClass "com/example/swapdeck/swapdeck/swap/CloseOutException" = some m.cls := findClass_of_methodNamed Bd.named
  have hnm := (name_of_methodNamed Bd.named Bd.method).1
  have X0 : Stand p l e ({ frames := 6, cells := 8, slots := 822, locals := 106 } : Room) (s.setVm s.vm) m #[(.int vi)] below meth c s₁ [] 0 0 := Stand.of_body Bd
  have e0 : s₁.heap = h0 := by rw [← hh, Bd.state]; rfl
  replace hZ : Z.Warmed39 (s.setVm s.vm).vm := hZ
  replace hown : (s.setVm s.vm).vm.findClass "com/example/swapdeck/swapdeck/swap/CloseOutException" = some m.cls := hown
  have N := Fr.nil n0
  have hS : s.Since s.vm s.heap.size := (State.WarmedH.refl s).since _
  have hk : s.heap.size ≤ h0.size := Nat.le_of_eq (by rw [hh])
  have C : CHr Z consts_1 s.vm h0 s.vm h0 := CHr.refl H0
  have K : Keep h0 h0 [] := Keep.refl _ _
  refine Go.by (T' := s₁) (f' := (mkF m 0 #[.val (.int vi)] [])) (fun _ k => castTop (ef_quot m vi) k) ?_
  obtain ⟨ni, hni, hvi⟩ := Jvm.Free.SBG.negI_of vi
  obtain ⟨sti, d1, d2, D1, D2, Tb1, Tb2⟩ := hS0.2.2.2.2.2.2
  obtain ⟨dg, hdg⟩ : ∃ d, d = Jvm.Free.SBG.digits ni + Jvm.Free.SBG.GetChars.sgn vi := ⟨_, rfl⟩
  have hdg2 : 1 ≤ dg ∧ dg ≤ 11 := by
    have q := Jvm.Free.SBG.digits_pos ni
    have q2 : Jvm.Free.SBG.GetChars.sgn vi ≤ 1 := by unfold Jvm.Free.SBG.GetChars.sgn; split <;> omega
    omega
  refine Go.by (T' := s₁) (f' := (mkF m 1 #[.val (.int vi)] [(.int vi)])) (fun _ k => XS.iloadN X0.here hx rfl (hb hby d_quot_0) rfl k) ?_
  refine Go.by (T' := s₁) (f' := (mkF m 2 #[.val (.int vi)] [(.int (1 : Int32)), (.int vi)])) (fun _ k => XS.iconst X0.here hx rfl (hb hby d_quot_1) k) ?_
  by_cases hc2_1 : vi = (1 : Int32)
  · skip
    refine Go.by (T' := s₁) (f' := (mkF m 5 #[.val (.int vi)] [])) (fun _ k => XS.icmpNo X0.here hx rfl (hb hby d_quot_2) rfl (teq hc2_1).2 k) ?_
    obtain ⟨sa2, T2, h2, k12, sb2, kc2, X2, e2, E2, hS2, hk2, hZ2, hown2, Es2, Fc2, Fv2, Va2, -, -, C2, -, ne2, st2⟩ := ldcCH X0 hx hZ hown (hw _ (List.mem_of_getElem? (i := 289) rfl)) (fun d hd => hw d (own_wS d hd)) e0 hS hk hEL (by decide +kernel) C.1 (text := "1 quotation") (z := Int32.ofNat 11) ⟨by decide +kernel, rfl⟩ (by decide) (by decide +kernel) (g := (mkF m 5 #[.val (.int vi)] [])) rfl (hb hby d_quot_5) (n := 44) (by decide +kernel) (by decide) (by decide) (by decide)
    replace O := O.ext E2
    replace K := K.ext E2
    replace C := C.trans C2
    replace hk := hk2
    replace hS := hS2
    replace hZ := hZ2
    replace hown := hown2
    refine Go.by (T' := T2) (f' := (mkF m 7 #[.val (.int vi)] [(.ref sa2)])) (st2) ?_
    refine Go.by (T' := T2) (f' := (mkF m 29 #[.val (.int vi)] [(.ref sa2)])) (fun _ k => XS.goto X2.here hx rfl (pc0 := 7) (pc' := 29) rfl (hb hby d_quot_7) (by decide) (by decide) k) ?_
    obtain ⟨fs, hr, hrun, hended, q1, q2, q3, q4⟩ := X2.leaveW hS (by rw [e2]; exact hk) (v := some (.ref sa2)) (fun h => by rw [Bd.returns] at h; cases h)
    refine ⟨_, _, retOut X2 hx Bd.returns rfl (Or.inr (Or.inr (Or.inr (Or.inr ⟨rfl, rfl, rfl⟩)))) (hb hby d_quot_29) hr, hrun, hended, _, _, rfl, ?_, ?_, q1, q2, q3, q4.mono (by decide) (by decide)⟩
    · show Qq Z h0 n0 (some (.ref sa2)) T2.heap _
      rw [e2]
      exact ⟨sa2, sb2, _, _, _, rfl, N, K, Es2, Fv2, Fc2, Va2, by omega, Or.inr rfl⟩
    · show CHr Z consts_1 s.vm s.heap T2.vm T2.heap
      rw [e2, hh]
      exact C.trans (CHv.at X2 hZ hEL C.1)
  · skip
    refine Go.by (T' := s₁) (f' := (mkF m 10 #[.val (.int vi)] [])) (fun _ k => XS.icmpYes X0.here hx rfl (pc0 := 2) (pc' := 10) rfl (hb hby d_quot_2) rfl (feq hc2_1).2 (by decide) (by decide) k) ?_
    obtain ⟨T3, h3, X3, e3, E3, A3, D3, -, st3⟩ := newO X0 hx hZ hown (hw _ (List.mem_of_getElem? (i := 31) rfl)) (hw _ (List.mem_of_getElem? (i := 32) rfl)) (hw _ (List.mem_of_getElem? (i := 33) rfl)) e0 (g := (mkF m 10 #[.val (.int vi)] [])) rfl (hb hby d_quot_10) (by decide) (by decide)
    obtain ⟨b3, g3⟩ : ∃ z, z = h0.size := ⟨_, rfl⟩
    rw [← g3] at A3 D3 st3
    have g_b3 : n0 ≤ b3 := Nat.le_trans (Old.le O) (Nat.le_of_eq g3.symm)
    have sz_b3 : h0.size ≤ b3 := Nat.le_trans K.1 (Nat.le_of_eq g3.symm)
    have Sf_b3 : Safe Z consts_1 s.vm h0 b3 := Safe.new (Nat.le_of_eq g3.symm)
    replace Sf_b3 := Safe.ext E3 C.1 Sf_b3
    replace O := O.ext E3
    replace K := K.ext E3
    replace C := C.trans (CHr.ext E3 C.1)
    replace hk := Nat.le_trans hk E3.1
    have E_b3 := A3
    have F_value_b3 : Fld Z h3 b3 "java/lang/AbstractStringBuilder" "value" "[B" .null := D3 (Or.inl (hw _ (List.mem_of_getElem? (i := 46) rfl))) (ty := (.array .byte)) (by decide)
    have F_coder_b3 : Fld Z h3 b3 "java/lang/AbstractStringBuilder" "coder" "B" (.int (0 : Int32)) := D3 (Or.inl (hw _ (List.mem_of_getElem? (i := 48) rfl))) (ty := .byte) (by decide)
    have F_count_b3 : Fld Z h3 b3 "java/lang/AbstractStringBuilder" "count" "I" (.int (0 : Int32)) := D3 (Or.inl (hw _ (List.mem_of_getElem? (i := 72) rfl))) (ty := .int) (by decide)
    refine Go.by (T' := T3) (f' := (mkF m 13 #[.val (.int vi)] [(.ref b3)])) (st3) ?_
    refine Go.by (T' := T3) (f' := (mkF m 14 #[.val (.int vi)] [(.ref b3), (.ref b3)])) (fun _ k => XS.dup X3.here hx rfl (hb hby d_quot_13) rfl rfl k) ?_
    obtain ⟨v4, _, ⟨T4, L4, k4, n4⟩, -, X4, ⟨Lc4, hQ4, l4, y4, z4⟩, st4⟩ := X3.specialBack hx (y := (⟨"java/lang/StringBuilder", "<init>", "()V"⟩ : MethodName)) rfl hown (mvT hZ (hw _ (List.mem_of_getElem? (i := 34) rfl))) (mvT hZ (hw _ (List.mem_of_getElem? (i := 35) rfl))) (mvT hZ (hw _ (List.mem_of_getElem? (i := 36) rfl))) (by decide) (backOf (W := 1) (rm_sbi l Z a0 hw [] b3 zc ls us ss hS0 h3 n0 O E_b3 F_value_b3 F_coder_b3 F_count_b3 g_b3) hZ (hw _ (List.mem_of_getElem? (i := 36) rfl)) (hw _ (List.mem_of_getElem? (i := 33) rfl)) (by decide) (by decide)) (g := (mkF m 14 #[.val (.int vi)] [(.ref b3), (.ref b3)])) rfl (by rw [hml]; rfl) (Steps.refl _) (a := b3) (argsL := []) (rest := [(.ref b3)]) (lenOf pd_quot_0 rfl) rfl (by show 2 * 0 + _ ≤ _; exact Nat.le_of_eq rfl) (hb hby d_quot_14) (fun _ _ => ⟨rfl, e3, (by decide : 1 + 1 ≤ _), (by decide : 4 + 16 ≤ _)⟩)
    dsimp only [Pt.U, Pt.locs, Pt.cells, Pt.slots] at X4 l4 y4 z4 st4 hQ4
    subst l4 y4 z4
    obtain ⟨rfl, Nq4, K4, t4, k24, vs4, gt4, Gv4, Gc4, Gn4, Vt4, Et4⟩ := hQ4
    replace N := Fr.app N Nq4
    have ne_b3_t4 : b3 ≠ t4 := Nat.ne_of_lt (Nat.lt_of_lt_of_le E_b3.lt gt4)
    have g_t4 : n0 ≤ t4 := Nat.le_trans (Old.le O) gt4
    have sz_t4 : h0.size ≤ t4 := Nat.le_trans K.1 gt4
    have Sf_t4 : Safe Z consts_1 s.vm h3 t4 := Safe.new gt4
    have hs_K4 : ∀ x ∈ ([b3] : List Addr), Safe Z consts_1 s.vm h3 x := (sfS Sf_b3 sf0)
    have Sk_K4 := CHr.keep (Z := Z) (EL := consts_1) (vm := s.vm) K4 hs_K4 C.1
    replace Sf_b3 := Safe.keep K4 hs_K4 C.1 Sf_b3
    replace Sf_t4 := Safe.keep K4 hs_K4 C.1 Sf_t4
    replace E_b3 := E_b3.keep K4
    replace C := C.trans Sk_K4
    replace hk := Nat.le_trans hk K4.1
    replace O := O.keep K4 (allS g_b3 all0)
    replace K := K.trans K4 (allS (Or.inr sz_b3) all0)
    refine Go.by (T' := T4) (f' := (mkF m 17 #[.val (.int vi)] [(.ref b3)])) (fun _ k => st4.trans k) ?_
    refine Go.by (T' := T4) (f' := (mkF m 18 #[.val (.int vi)] [(.int vi), (.ref b3)])) (fun _ k => XS.iloadN X4.here hx rfl (hb hby d_quot_17) rfl k) ?_
    have hi5a : 16 ≤ 300 := by omega
    have hi5b : 16 ≤ 16 := by omega
    have hi5c : 0 ≤ 16 := by omega
    have hv5 : 0 + 11 ≤ 150 := by omega
    obtain ⟨cq5, kq5, q5a, q5b, q5c⟩ := isOf hZ rfl E_b3
    obtain ⟨v5, _, ⟨T5, L5, k5, n5⟩, -, X5, ⟨Lc5, hQ5, l5, y5, z5⟩, st5⟩ := X4.virtualBack hx (y := (⟨"java/lang/StringBuilder", "append", "(I)Ljava/lang/StringBuilder;"⟩ : MethodName)) (z := (⟨"java/lang/StringBuilder", "append", "(I)Ljava/lang/StringBuilder;"⟩ : MethodName)) hown (mvT hZ (hw _ (List.mem_of_getElem? (i := 102) rfl))) (mvT hZ (hw _ (List.mem_of_getElem? (i := 103) rfl))) (notFace_of_selects (args := #[]) (mvT hZ (hw _ (List.mem_of_getElem? (i := 105) rfl)))) (mvT hZ (hw _ (List.mem_of_getElem? (i := 105) rfl))) (mvT hZ (hw _ (List.mem_of_getElem? (i := 104) rfl))) (by decide) (backOf (W := 0) (rm_sai l Z a0 hw [] b3 t4 _ (16) (0) _ vi ni sti d1 d2 D1 D2 zc ls us ss hS0 T4.heap n0 O E_b3 Gv4 Gc4 Gn4 Vt4 Et4 g_b3 g_t4 hi5a hi5b hi5c hni hvi Tb1 Tb2 hv5) hZ (hw _ (List.mem_of_getElem? (i := 106) rfl)) (hw _ (List.mem_of_getElem? (i := 33) rfl)) (by decide) (by decide)) q5a q5c (g := (mkF m 18 #[.val (.int vi)] [(.int vi), (.ref b3)])) rfl (by rw [hml]; rfl) (Steps.refl _) (argsL := [(.int vi)]) (rest := []) (lenOf pd_quot_1 rfl) rfl (by show 2 * 0 + _ ≤ _; exact Nat.le_of_eq rfl) (hb hby d_quot_18) (fun _ _ => ⟨rfl, rfl, (by decide : 2 + 1 ≤ _), (by decide : 20 + 300 ≤ _)⟩)
    dsimp only [Pt.U, Pt.locs, Pt.cells, Pt.slots] at X5 l5 y5 z5 st5 hQ5
    subst l5 y5 z5
    rw [← hdg] at hQ5
    obtain ⟨rfl, Nq5, K5, t5, k25, L2_5, vs5, or5, hb51, hb52, hb53, Gv5, Gc5, Gn5, Vt5, Et5⟩ := hQ5
    replace N := Fr.app N Nq5
    have g_t5 : n0 ≤ t5 := own_or or5 g_t4 (Old.le O)
    have io_t5 : t5 ∈ ([] : List Addr) ∨ h0.size ≤ t5 := own_orin or5 (Or.inr sz_t4) K.1
    have Sf_t5 : Safe Z consts_1 s.vm T4.heap t5 := by
      rcases or5 with q | q
      · rw [q]; exact Sf_t4
      · exact Safe.new q
    have hs_K5 : ∀ x ∈ ([b3, t4] : List Addr), Safe Z consts_1 s.vm T4.heap x := (sfS Sf_b3 (sfS Sf_t4 sf0))
    have Sk_K5 := CHr.keep (Z := Z) (EL := consts_1) (vm := s.vm) K5 hs_K5 C.1
    replace Sf_b3 := Safe.keep K5 hs_K5 C.1 Sf_b3
    replace Sf_t4 := Safe.keep K5 hs_K5 C.1 Sf_t4
    replace Sf_t5 := Safe.keep K5 hs_K5 C.1 Sf_t5
    replace E_b3 := E_b3.keep K5
    replace Et4 := Et4.keep K5
    replace C := C.trans Sk_K5
    replace hk := Nat.le_trans hk K5.1
    replace O := O.keep K5 (allS g_b3 (allS g_t4 all0))
    replace K := K.trans K5 (allS (Or.inr sz_b3) (allS (Or.inr sz_t4) all0))
    refine Go.by (T' := T5) (f' := (mkF m 21 #[.val (.int vi)] [(.ref b3)])) (fun _ k => st5.trans k) ?_
    obtain ⟨sa6, T6, h6, k16, sb6, kc6, X6, e6, E6, hS6, hk6, hZ6, hown6, Es6, Fc6, Fv6, Va6, -, -, C6, -, ne6, st6⟩ := ldcCH X5 hx hZ hown (hw _ (List.mem_of_getElem? (i := 124) rfl)) (fun d hd => hw d (own_wS d hd)) rfl hS hk hEL (by decide +kernel) C.1 (text := " quotations") (z := Int32.ofNat 11) ⟨by decide +kernel, rfl⟩ (by decide) (by decide +kernel) (g := (mkF m 21 #[.val (.int vi)] [(.ref b3)])) rfl (hb hby d_quot_21) (n := 44) (by decide +kernel) (by decide) (by decide) (by decide)
    replace Sf_b3 := CHr.safe C6 E_b3.lt Sf_b3
    have nx6_b3 := ne6 _ Sf_b3
    replace Sf_t5 := CHr.safe C6 Vt5.lt Sf_t5
    have nx6_t5 := ne6 _ Sf_t5
    replace E_b3 := E_b3.ext E6
    replace Gv5 := Gv5.ext E6
    replace Gc5 := Gc5.ext E6
    replace Gn5 := Gn5.ext E6
    replace Vt5 := Vt5.ext E6
    replace Et5 := Et5.ext E6
    replace O := O.ext E6
    replace K := K.ext E6
    replace C := C.trans C6
    replace hk := hk6
    replace hS := hS6
    replace hZ := hZ6
    replace hown := hown6
    refine Go.by (T' := T6) (f' := (mkF m 23 #[.val (.int vi)] [(.ref sa6), (.ref b3)])) (st6) ?_
    have hi7a : L2_5 ≤ 300 := by omega
    have hi7b : 16 ≤ L2_5 := by omega
    have hi7c : (0 + dg) ≤ L2_5 := by omega
    have hv7 : (0 + dg) + 11 ≤ 150 := by omega
    obtain ⟨cq7, kq7, q7a, q7b, q7c⟩ := isOf hZ e6 E_b3
    obtain ⟨v7, _, ⟨T7, L7, k7, n7⟩, -, X7, ⟨Lc7, hQ7, l7, y7, z7⟩, st7⟩ := X6.virtualBack hx (y := (⟨"java/lang/StringBuilder", "append", "(Ljava/lang/String;)Ljava/lang/StringBuilder;"⟩ : MethodName)) (z := (⟨"java/lang/StringBuilder", "append", "(Ljava/lang/String;)Ljava/lang/StringBuilder;"⟩ : MethodName)) hown (mvT hZ (hw _ (List.mem_of_getElem? (i := 50) rfl))) (mvT hZ (hw _ (List.mem_of_getElem? (i := 51) rfl))) (notFace_of_selects (args := #[]) (mvT hZ (hw _ (List.mem_of_getElem? (i := 53) rfl)))) (mvT hZ (hw _ (List.mem_of_getElem? (i := 53) rfl))) (mvT hZ (hw _ (List.mem_of_getElem? (i := 52) rfl))) (by decide) (backOf (W := 0) (rm_sas l Z a0 hw [] b3 t5 _ (L2_5) ((0 + dg)) _ sa6 sb6 _ (11) _ zc ls us ss hS0 h6 n0 O E_b3 Gv5 Gc5 Gn5 Vt5 Et5 g_b3 g_t5 hi7a hi7b hi7c Es6 Fv6 Fc6 Va6 (Ne.symm nx6_t5.2) hv7) hZ (hw _ (List.mem_of_getElem? (i := 54) rfl)) (hw _ (List.mem_of_getElem? (i := 33) rfl)) (by decide) (by decide)) q7a q7c (g := (mkF m 23 #[.val (.int vi)] [(.ref sa6), (.ref b3)])) rfl (by rw [hml]; rfl) (Steps.refl _) (argsL := [(.ref sa6)]) (rest := []) (lenOf pd_quot_2 rfl) rfl (by show 2 * 0 + _ ≤ _; exact Nat.le_of_eq rfl) (hb hby d_quot_23) (fun _ _ => ⟨rfl, e6, (by decide : 5 + 1 ≤ _), (by decide : 368 + 300 ≤ _)⟩)
    dsimp only [Pt.U, Pt.locs, Pt.cells, Pt.slots] at X7 l7 y7 z7 st7 hQ7
    subst l7 y7 z7
    obtain ⟨rfl, Nq7, K7, t7, k27, L2_7, vs7, or7, hb71, hb72, hb73, Gv7, Gc7, Gn7, Vt7, Et7⟩ := hQ7
    replace N := Fr.app N Nq7
    have nt7_sb6 : sb6 ≠ t7 := own_orne or7 (Ne.symm nx6_t5.2) Va6.lt
    have g_t7 : n0 ≤ t7 := own_or or7 g_t5 (Old.le O)
    have io_t7 : t7 ∈ ([] : List Addr) ∨ h0.size ≤ t7 := own_orin or7 (io_t5) K.1
    have Sf_t7 : Safe Z consts_1 T6.vm h6 t7 := by
      rcases or7 with q | q
      · rw [q]; exact Sf_t5
      · exact Safe.new q
    have hs_K7 : ∀ x ∈ ([b3, t5] : List Addr), Safe Z consts_1 T6.vm h6 x := (sfS Sf_b3 (sfS Sf_t5 sf0))
    have Sk_K7 := CHr.keep (Z := Z) (EL := consts_1) (vm := T6.vm) K7 hs_K7 C.1
    replace Sf_b3 := Safe.keep K7 hs_K7 C.1 Sf_b3
    replace Sf_t5 := Safe.keep K7 hs_K7 C.1 Sf_t5
    replace Sf_t7 := Safe.keep K7 hs_K7 C.1 Sf_t7
    replace E_b3 := E_b3.keep K7
    replace Et5 := Et5.keep K7
    replace Es6 := Es6.keep K7
    replace Fc6 := Fc6.keep K7 (ninS (Ne.symm nx6_b3.1) (ninS (Ne.symm nx6_t5.1) nin0))
    replace Fv6 := Fv6.keep K7 (ninS (Ne.symm nx6_b3.1) (ninS (Ne.symm nx6_t5.1) nin0))
    replace Va6 := Va6.keep K7 (ninS (Ne.symm nx6_b3.2) (ninS (Ne.symm nx6_t5.2) nin0))
    replace C := C.trans Sk_K7
    replace hk := Nat.le_trans hk K7.1
    replace O := O.keep K7 (allS g_b3 (allS g_t5 all0))
    replace K := K.trans K7 (allS (Or.inr sz_b3) (allS (io_t5) all0))
    refine Go.by (T' := T7) (f' := (mkF m 26 #[.val (.int vi)] [(.ref b3)])) (fun _ k => st7.trans k) ?_
    have hi8a : L2_7 ≤ 300 := by omega
    have hi8b : 16 ≤ L2_7 := by omega
    have hi8c : ((0 + dg) + 11) ≤ L2_7 := by omega
    have hs8 : ((0 + dg) + 11) ≤ 150 := by omega
    obtain ⟨cq8, kq8, q8a, q8b, q8c⟩ := isOf hZ rfl E_b3
    obtain ⟨v8, _, ⟨T8, L8, k8, n8⟩, -, X8, ⟨Lc8, hQ8, l8, y8, z8⟩, st8⟩ := X7.virtualBack hx (y := (⟨"java/lang/StringBuilder", "toString", "()Ljava/lang/String;"⟩ : MethodName)) (z := (⟨"java/lang/StringBuilder", "toString", "()Ljava/lang/String;"⟩ : MethodName)) hown (mvT hZ (hw _ (List.mem_of_getElem? (i := 125) rfl))) (mvT hZ (hw _ (List.mem_of_getElem? (i := 126) rfl))) (notFace_of_selects (args := #[]) (mvT hZ (hw _ (List.mem_of_getElem? (i := 128) rfl)))) (mvT hZ (hw _ (List.mem_of_getElem? (i := 128) rfl))) (mvT hZ (hw _ (List.mem_of_getElem? (i := 127) rfl))) (by decide) (backOf (W := 0) (rm_tos l Z a0 hw [] b3 t7 _ (L2_7) (((0 + dg) + 11)) _ zc ls us ss hS0 T7.heap n0 O E_b3 Gv7 Gc7 Gn7 Vt7 Et7 g_b3 g_t7 hi8a hi8b hi8c hs8) hZ (hw _ (List.mem_of_getElem? (i := 129) rfl)) (hw _ (List.mem_of_getElem? (i := 33) rfl)) (by decide) (by decide)) q8a q8c (g := (mkF m 26 #[.val (.int vi)] [(.ref b3)])) rfl (by rw [hml]; rfl) (Steps.refl _) (argsL := []) (rest := []) (lenOf pd_quot_3 rfl) rfl (by show 2 * 0 + _ ≤ _; exact Nat.le_of_eq rfl) (hb hby d_quot_26) (fun _ _ => ⟨rfl, rfl, (by decide : 6 + 2 ≤ _), (by decide : 668 + 154 ≤ _)⟩)
    dsimp only [Pt.U, Pt.locs, Pt.cells, Pt.slots] at X8 l8 y8 z8 st8 hQ8
    subst l8 y8 z8
    obtain ⟨x8, r8, k28, vs8, rfl, Nq8, K8, gx8, gr8, Ex8, Gv8, Gc8, Vr8⟩ := hQ8
    replace N := Fr.app N Nq8
    have ne_b3_x8 : b3 ≠ x8 := Nat.ne_of_lt (Nat.lt_of_lt_of_le E_b3.lt gx8)
    have ne_sa6_x8 : sa6 ≠ x8 := Nat.ne_of_lt (Nat.lt_of_lt_of_le Es6.lt gx8)
    have ne_sb6_x8 : sb6 ≠ x8 := Nat.ne_of_lt (Nat.lt_of_lt_of_le Va6.lt gx8)
    have ne_t7_x8 : t7 ≠ x8 := Nat.ne_of_lt (Nat.lt_of_lt_of_le Vt7.lt gx8)
    have g_x8 : n0 ≤ x8 := Nat.le_trans (Old.le O) gx8
    have sz_x8 : h0.size ≤ x8 := Nat.le_trans K.1 gx8
    have ne_b3_r8 : b3 ≠ r8 := Nat.ne_of_lt (Nat.lt_of_lt_of_le E_b3.lt gr8)
    have ne_sa6_r8 : sa6 ≠ r8 := Nat.ne_of_lt (Nat.lt_of_lt_of_le Es6.lt gr8)
    have ne_sb6_r8 : sb6 ≠ r8 := Nat.ne_of_lt (Nat.lt_of_lt_of_le Va6.lt gr8)
    have ne_t7_r8 : t7 ≠ r8 := Nat.ne_of_lt (Nat.lt_of_lt_of_le Vt7.lt gr8)
    have g_r8 : n0 ≤ r8 := Nat.le_trans (Old.le O) gr8
    have sz_r8 : h0.size ≤ r8 := Nat.le_trans K.1 gr8
    have hs_K8 : ∀ x ∈ ([] : List Addr), Safe Z consts_1 T6.vm T7.heap x := sf0
    have Sk_K8 := CHr.keep (Z := Z) (EL := consts_1) (vm := T6.vm) K8 hs_K8 C.1
    replace Sf_b3 := Safe.keep K8 hs_K8 C.1 Sf_b3
    replace Sf_t5 := Safe.keep K8 hs_K8 C.1 Sf_t5
    replace Sf_t7 := Safe.keep K8 hs_K8 C.1 Sf_t7
    replace E_b3 := E_b3.keep K8
    replace Es6 := Es6.keep K8
    replace Fc6 := Fc6.keep K8 nin0
    replace Fv6 := Fv6.keep K8 nin0
    replace Va6 := Va6.keep K8 nin0
    replace Gv7 := Gv7.keep K8 nin0
    replace Gc7 := Gc7.keep K8 nin0
    replace Gn7 := Gn7.keep K8 nin0
    replace Vt7 := Vt7.keep K8 nin0
    replace Et7 := Et7.keep K8
    replace C := C.trans Sk_K8
    replace hk := Nat.le_trans hk K8.1
    replace O := O.keep K8 all0
    replace K := K.trans K8 all0
    refine Go.by (T' := T8) (f' := (mkF m 29 #[.val (.int vi)] [(.ref x8)])) (fun _ k => st8.trans k) ?_
    obtain ⟨fs, hr, hrun, hended, q1, q2, q3, q4⟩ := X8.leaveW hS hk (v := some (.ref x8)) (fun h => by rw [Bd.returns] at h; cases h)
    refine ⟨_, _, retOut X8 hx Bd.returns rfl (Or.inr (Or.inr (Or.inr (Or.inr ⟨rfl, rfl, rfl⟩)))) (hb hby d_quot_29) hr, hrun, hended, _, _, rfl, ?_, ?_, q1, q2, q3, q4.mono (by decide) (by decide)⟩
    · show Qq Z h0 n0 (some (.ref x8)) T8.heap _
      exact ⟨x8, r8, _, _, _, rfl, N, K, Ex8, Gv8, Gc8, Vr8, by omega, Or.inl sz_r8⟩
    · show CHr Z consts_1 s.vm s.heap T8.vm T8.heap
      rw [hh]
      exact C.trans (CHv.at X8 hZ hEL C.1)

theorem d_coe0_0 : decode prog_72_method_1_code 0 = .ok (.aload_n 0, 1) := by decide +kernel
theorem d_coe0_1 : decode prog_72_method_1_code 1 = .ok (.aload_n 3, 1) := by decide +kernel
theorem d_coe0_2 : decode prog_72_method_1_code 2 = .ok (.invokespecial 1, 3) := by decide +kernel
theorem d_coe0_5 : decode prog_72_method_1_code 5 = .ok (.aload_n 0, 1) := by decide +kernel
theorem d_coe0_6 : decode prog_72_method_1_code 6 = .ok (.aload_n 1, 1) := by decide +kernel
theorem d_coe0_7 : decode prog_72_method_1_code 7 = .ok (.putfield 7, 3) := by decide +kernel
theorem d_coe0_10 : decode prog_72_method_1_code 10 = .ok (.aload_n 0, 1) := by decide +kernel
theorem d_coe0_11 : decode prog_72_method_1_code 11 = .ok (.aload_n 2, 1) := by decide +kernel
theorem d_coe0_12 : decode prog_72_method_1_code 12 = .ok (.putfield 13, 3) := by decide +kernel
theorem d_coe0_15 : decode prog_72_method_1_code 15 = .ok (.return_, 1) := by decide +kernel
theorem pn_coe0 : plainFor (⟨"com/example/swapdeck/swapdeck/swap/CloseOutException", "<init>", "(Ljava/lang/String;Lcom/example/swapdeck/swapdeck/swap/CloseOutException$Input;Ljava/lang/String;)V"⟩ : MethodName) = true := plainFor_of_name (by first | (simp [plainName, overriddenIn]; done) | decide +kernel)
theorem pd_coe0_0 : parseMethodDescriptor "(Ljava/lang/String;)V" = some ⟨[(.object "java/lang/String")], none⟩ := by decide +kernel
theorem ef_coe0 (m : MethodId) (x0 : Addr) (x2 : Addr) (x3 : Addr) : entryFrame m #[(.ref x0), .null, (.ref x2), (.ref x3)] 4 = mkF m 0 #[.val (.ref x0), .val .null, .val (.ref x2), .val (.ref x3)] [] := by first | (simp [entryFrame, mkF, argsToLocals, Value.category]; done) | rfl
set_option maxRecDepth 65536 in
set_option maxHeartbeats 40000000 in
theorem rm_coe0 (l : Launch) (Z : State) (a0 : Array Value) (hw : ∀ d ∈ tables_1, d.before a0 Z = true) (ws : List Jvm.Cond) (hl : l.stackTraces = true) (hch : Hch Z a0) (ea ms : Addr) (zc : Int32) (ls us ss : Addr) (hS0 : Sf Z zc ls us ss) (h0 : Heap) (n0 : Nat) (O : Old Z n0 h0) (E_a : Exa Z h0 ea "com/example/swapdeck/swapdeck/swap/CloseOutException") (U_a : Unt h0 ea) (F_ca : Fld Z h0 ea "java/lang/Throwable" "cause" "Ljava/lang/Throwable;" .null) (F_st : Fld Z h0 ea "java/lang/Throwable" "stackTrace" "[Ljava/lang/StackTraceElement;" .null) (F_su : Fld Z h0 ea "java/lang/Throwable" "suppressedExceptions" "Ljava/util/List;" .null) (F_bt : Fld Z h0 ea "java/lang/Throwable" "backtrace" "Ljava/lang/Object;" .null) (F_dm : Fld Z h0 ea "java/lang/Throwable" "detailMessage" "Ljava/lang/String;" .null) (g_ea : n0 ≤ ea) :
    MetFree l (⟨"com/example/swapdeck/swapdeck/swap/CloseOutException", "<init>", "(Ljava/lang/String;Lcom/example/swapdeck/swapdeck/swap/CloseOutException$Input;Ljava/lang/String;)V"⟩ : MethodName) (head1 (Jvm.Cond.code (⟨"com/example/swapdeck/swapdeck/swap/CloseOutException", "<init>", "(Ljava/lang/String;Lcom/example/swapdeck/swapdeck/swap/CloseOutException$Input;Ljava/lang/String;)V"⟩ : MethodName) prog_72_method_1_code 4 none :: ws) ({ frames := 5, cells := 1, slots := 2752, locals := 68 } : Room)) (fun as_ U => as_ = #[(.ref ea), .null, (.ref ls), (.ref ms)] ∧ Z.Warmed39 U.vm ∧ U.heap = h0) (fun _ _ bl s _ => s.vm.MethodsKnown ∧ s.vm.FramesKnown bl) (fun _ U o U' => ∃ v L, o = .returned v ∧ Qco Z ea .null ls h0 n0 v U'.heap L ∧ FrameEnd U o U' L ({ frames := 5, cells := 1, slots := 2752, locals := 68 } : Room).cells ({ frames := 5, cells := 1, slots := 2752, locals := 68 } : Room).slots) := by
  refine MetFree.of_bodySF pn_coe0 hisR ?_
  intro p e s m args below meth c s₁ Bd hml0 hP hK
  obtain ⟨rfl, hZ, hh⟩ := hP
  have hx := Bd.exec
  have hby := Bd.bytes
  have hml : c.maxLocals = 4 := hml0
  have hown : s.vm.findClass "com/example/swapdeck/swapdeck/swap/CloseOutException" = some m.cls := findClass_of_methodNamed Bd.named
  have hnm := (name_of_methodNamed Bd.named Bd.method).1
  have X0 : Stand p l e ({ frames := 5, cells := 1, slots := 2752, locals := 68 } : Room) s m #[(.ref ea), .null, (.ref ls), (.ref ms)] below meth c s₁ [] 0 0 := Stand.of_body Bd
  have e0 : s₁.heap = h0 := by rw [← hh, Bd.state]; rfl
  have N := Fr.nil n0
  have K : Keep h0 h0 [ea] := Keep.refl _ _
  refine Go.by (T' := s₁) (f' := (mkF m 0 #[.val (.ref ea), .val .null, .val (.ref ls), .val (.ref ms)] [])) (fun _ k => castTop (ef_coe0 m ea ls ms) k) ?_
  have O0 := O
  have E_a0 := E_a
  have U_a0 := U_a
  have hT0 : ThS Z s.heap := by rw [hh]; exact ThS.ext O.2 ThS.start
  refine Go.by (T' := s₁) (f' := (mkF m 1 #[.val (.ref ea), .val .null, .val (.ref ls), .val (.ref ms)] [(.ref ea)])) (fun _ k => XS.aloadN X0.here hx rfl (hb hby d_coe0_0) rfl rfl k) ?_
  refine Go.by (T' := s₁) (f' := (mkF m 2 #[.val (.ref ea), .val .null, .val (.ref ls), .val (.ref ms)] [(.ref ms), (.ref ea)])) (fun _ k => XS.aloadN X0.here hx rfl (hb hby d_coe0_1) rfl rfl k) ?_
  obtain ⟨v1, _, ⟨T1, L1, k1, n1⟩, -, X1, ⟨Lc1, hQ1, l1, y1, z1⟩, st1⟩ := X0.specialBack hx (y := (⟨"java/lang/Exception", "<init>", "(Ljava/lang/String;)V"⟩ : MethodName)) rfl hown (mvT hZ (hw _ (List.mem_of_getElem? (i := 196) rfl))) (mvT hZ (hw _ (List.mem_of_getElem? (i := 197) rfl))) (mvT hZ (hw _ (List.mem_of_getElem? (i := 200) rfl))) (by decide) (backOfKL (W := 0) (rm_exc l Z a0 hw [] hl hch ea ms zc ls us ss hS0 h0 n0 O E_a U_a F_ca F_st F_su F_bt F_dm g_ea) hZ (hw _ (List.mem_of_getElem? (i := 200) rfl)) (hw _ (List.mem_of_getElem? (i := 199) rfl)) (by decide) (by decide) hK.1 hK.2) (g := (mkF m 2 #[.val (.ref ea), .val .null, .val (.ref ls), .val (.ref ms)] [(.ref ms), (.ref ea)])) rfl (by rw [hml]; rfl) (Steps.refl _) (a := ea) (argsL := [(.ref ms)]) (rest := []) (lenOf pd_coe0_0 rfl) rfl (by show 2 * 0 + _ ≤ _; exact Nat.le_of_eq rfl) (hb hby d_coe0_2) (fun _ _ => ⟨rfl, e0, (by decide : 0 + 1 ≤ _), (by decide : 0 + 2752 ≤ _)⟩)
  dsimp only [Pt.U, Pt.locs, Pt.cells, Pt.slots] at X1 l1 y1 z1 st1 hQ1
  subst l1 y1 z1
  obtain ⟨rfl, Nq1, K1⟩ := hQ1
  replace N := Fr.app N Nq1
  have kn1 := own_known U_a K1
  replace E_a := E_a.keep K1
  replace O := O.keep K1 (allS g_ea all0)
  replace K := K.trans K1 (allS (Or.inl (by simp)) all0)
  obtain ⟨v_trade, F_trade⟩ := fld_laid (O := "com/example/swapdeck/swapdeck/swap/CloseOutException") (n := "trade") (d := "Ljava/lang/String;") E_a kn1 (hw _ (List.mem_of_getElem? (i := 27) rfl)) (Or.inr (hw _ (List.mem_of_getElem? (i := 245) rfl)))
  obtain ⟨v_input, F_input⟩ := fld_laid (O := "com/example/swapdeck/swapdeck/swap/CloseOutException") (n := "input") (d := "Lcom/example/swapdeck/swapdeck/swap/CloseOutException$Input;") E_a kn1 (hw _ (List.mem_of_getElem? (i := 27) rfl)) (Or.inr (hw _ (List.mem_of_getElem? (i := 247) rfl)))
  refine Go.by (T' := T1) (f' := (mkF m 5 #[.val (.ref ea), .val .null, .val (.ref ls), .val (.ref ms)] [])) (fun _ k => st1.trans k) ?_
  refine Go.by (T' := T1) (f' := (mkF m 6 #[.val (.ref ea), .val .null, .val (.ref ls), .val (.ref ms)] [(.ref ea)])) (fun _ k => XS.aloadN X1.here hx rfl (hb hby d_coe0_5) rfl rfl k) ?_
  refine Go.by (T' := T1) (f' := (mkF m 7 #[.val (.ref ea), .val .null, .val (.ref ls), .val (.ref ms)] [.null, (.ref ea)])) (fun _ k => XS.aloadN X1.here hx rfl (hb hby d_coe0_6) rfl rfl k) ?_
  obtain ⟨T2, h2, X2, e2, W2, st2⟩ := putF X1 hx hZ hown (host := "") (Or.inl (hw _ (List.mem_of_getElem? (i := 244) rfl))) Via.refl rfl F_trade E_a (Or.inr ⟨(hw _ (List.mem_of_getElem? (i := 245) rfl)), rfl, hnm⟩) (hw _ (List.mem_of_getElem? (i := 27) rfl)) (ty := (.object "java/lang/String")) (by decide) rfl rfl (g := (mkF m 7 #[.val (.ref ea), .val .null, .val (.ref ls), .val (.ref ms)] [.null, (.ref ea)])) rfl rfl (hb hby d_coe0_7)
  replace E_a := E_a.wr W2
  replace F_input := F_input.other W2 (Or.inr (slot_ne (Or.inr (hw _ (List.mem_of_getElem? (i := 247) rfl))) (Or.inr (hw _ (List.mem_of_getElem? (i := 245) rfl))) (by decide) (t := (.object "com/example/swapdeck/swapdeck/swap/CloseOutException$Input")) (t' := (.object "java/lang/String")) (by decide) (by decide)))
  replace F_trade := F_trade.same W2
  replace O := O.wr W2 g_ea
  replace K := K.wr W2 (Or.inl (by simp))
  replace N := Fr.snoc X2 N g_ea
  refine Go.by (T' := T2) (f' := (mkF m 10 #[.val (.ref ea), .val .null, .val (.ref ls), .val (.ref ms)] [])) (st2) ?_
  refine Go.by (T' := T2) (f' := (mkF m 11 #[.val (.ref ea), .val .null, .val (.ref ls), .val (.ref ms)] [(.ref ea)])) (fun _ k => XS.aloadN X2.here hx rfl (hb hby d_coe0_10) rfl rfl k) ?_
  refine Go.by (T' := T2) (f' := (mkF m 12 #[.val (.ref ea), .val .null, .val (.ref ls), .val (.ref ms)] [(.ref ls), (.ref ea)])) (fun _ k => XS.aloadN X2.here hx rfl (hb hby d_coe0_11) rfl rfl k) ?_
  obtain ⟨T3, h3, X3, e3, W3, st3⟩ := putF X2 hx hZ hown (host := "") (Or.inl (hw _ (List.mem_of_getElem? (i := 246) rfl))) Via.refl e2 F_input E_a (Or.inr ⟨(hw _ (List.mem_of_getElem? (i := 247) rfl)), rfl, hnm⟩) (hw _ (List.mem_of_getElem? (i := 27) rfl)) (ty := (.object "com/example/swapdeck/swapdeck/swap/CloseOutException$Input")) (by decide) rfl rfl (g := (mkF m 12 #[.val (.ref ea), .val .null, .val (.ref ls), .val (.ref ms)] [(.ref ls), (.ref ea)])) rfl rfl (hb hby d_coe0_12)
  replace E_a := E_a.wr W3
  replace F_trade := F_trade.other W3 (Or.inr (slot_ne (Or.inr (hw _ (List.mem_of_getElem? (i := 245) rfl))) (Or.inr (hw _ (List.mem_of_getElem? (i := 247) rfl))) (by decide) (t := (.object "java/lang/String")) (t' := (.object "com/example/swapdeck/swapdeck/swap/CloseOutException$Input")) (by decide) (by decide)))
  replace F_input := F_input.same W3
  replace O := O.wr W3 g_ea
  replace K := K.wr W3 (Or.inl (by simp))
  replace N := Fr.snoc X3 N g_ea
  refine Go.by (T' := T3) (f' := (mkF m 15 #[.val (.ref ea), .val .null, .val (.ref ls), .val (.ref ms)] [])) (st3) ?_
  obtain ⟨fs, hr, hrun, hended, hW, hsame⟩ := X3.leave (v := none) (fun _ => rfl)
  refine ⟨_, _, X3.returnOut hx Bd.returns (hb hby d_coe0_15) hr, hrun, hended, _, _, rfl, ?_, ⟨_, rfl⟩, hW, hsame.mono (by decide) (by decide)⟩
  show Qco Z ea .null ls h0 n0 (none) T3.heap _
  rw [e3]
  exact ⟨rfl, N, K, F_trade, F_input⟩

theorem d_coe1_0 : decode prog_72_method_1_code 0 = .ok (.aload_n 0, 1) := by decide +kernel
theorem d_coe1_1 : decode prog_72_method_1_code 1 = .ok (.aload_n 3, 1) := by decide +kernel
theorem d_coe1_2 : decode prog_72_method_1_code 2 = .ok (.invokespecial 1, 3) := by decide +kernel
theorem d_coe1_5 : decode prog_72_method_1_code 5 = .ok (.aload_n 0, 1) := by decide +kernel
theorem d_coe1_6 : decode prog_72_method_1_code 6 = .ok (.aload_n 1, 1) := by decide +kernel
theorem d_coe1_7 : decode prog_72_method_1_code 7 = .ok (.putfield 7, 3) := by decide +kernel
theorem d_coe1_10 : decode prog_72_method_1_code 10 = .ok (.aload_n 0, 1) := by decide +kernel
theorem d_coe1_11 : decode prog_72_method_1_code 11 = .ok (.aload_n 2, 1) := by decide +kernel
theorem d_coe1_12 : decode prog_72_method_1_code 12 = .ok (.putfield 13, 3) := by decide +kernel
theorem d_coe1_15 : decode prog_72_method_1_code 15 = .ok (.return_, 1) := by decide +kernel
theorem pn_coe1 : plainFor (⟨"com/example/swapdeck/swapdeck/swap/CloseOutException", "<init>", "(Ljava/lang/String;Lcom/example/swapdeck/swapdeck/swap/CloseOutException$Input;Ljava/lang/String;)V"⟩ : MethodName) = true := plainFor_of_name (by first | (simp [plainName, overriddenIn]; done) | decide +kernel)
theorem pd_coe1_0 : parseMethodDescriptor "(Ljava/lang/String;)V" = some ⟨[(.object "java/lang/String")], none⟩ := by decide +kernel
theorem ef_coe1 (m : MethodId) (x0 : Addr) (x1 : Addr) (x2 : Addr) (x3 : Addr) : entryFrame m #[(.ref x0), (.ref x1), (.ref x2), (.ref x3)] 4 = mkF m 0 #[.val (.ref x0), .val (.ref x1), .val (.ref x2), .val (.ref x3)] [] := by first | (simp [entryFrame, mkF, argsToLocals, Value.category]; done) | rfl
set_option maxRecDepth 65536 in
set_option maxHeartbeats 40000000 in
theorem rm_coe1 (l : Launch) (Z : State) (a0 : Array Value) (hw : ∀ d ∈ tables_1, d.before a0 Z = true) (ws : List Jvm.Cond) (hl : l.stackTraces = true) (hch : Hch Z a0) (ea x ms : Addr) (zc : Int32) (ls us ss : Addr) (hS0 : Sf Z zc ls us ss) (h0 : Heap) (n0 : Nat) (O : Old Z n0 h0) (E_a : Exa Z h0 ea "com/example/swapdeck/swapdeck/swap/CloseOutException") (U_a : Unt h0 ea) (F_ca : Fld Z h0 ea "java/lang/Throwable" "cause" "Ljava/lang/Throwable;" .null) (F_st : Fld Z h0 ea "java/lang/Throwable" "stackTrace" "[Ljava/lang/StackTraceElement;" .null) (F_su : Fld Z h0 ea "java/lang/Throwable" "suppressedExceptions" "Ljava/util/List;" .null) (F_bt : Fld Z h0 ea "java/lang/Throwable" "backtrace" "Ljava/lang/Object;" .null) (F_dm : Fld Z h0 ea "java/lang/Throwable" "detailMessage" "Ljava/lang/String;" .null) (g_ea : n0 ≤ ea) :
    MetFree l (⟨"com/example/swapdeck/swapdeck/swap/CloseOutException", "<init>", "(Ljava/lang/String;Lcom/example/swapdeck/swapdeck/swap/CloseOutException$Input;Ljava/lang/String;)V"⟩ : MethodName) (head1 (Jvm.Cond.code (⟨"com/example/swapdeck/swapdeck/swap/CloseOutException", "<init>", "(Ljava/lang/String;Lcom/example/swapdeck/swapdeck/swap/CloseOutException$Input;Ljava/lang/String;)V"⟩ : MethodName) prog_72_method_1_code 4 none :: ws) ({ frames := 5, cells := 1, slots := 2752, locals := 68 } : Room)) (fun as_ U => as_ = #[(.ref ea), (.ref x), (.ref ls), (.ref ms)] ∧ Z.Warmed39 U.vm ∧ U.heap = h0) (fun _ _ bl s _ => s.vm.MethodsKnown ∧ s.vm.FramesKnown bl) (fun _ U o U' => ∃ v L, o = .returned v ∧ Qco Z ea (.ref x) ls h0 n0 v U'.heap L ∧ FrameEnd U o U' L ({ frames := 5, cells := 1, slots := 2752, locals := 68 } : Room).cells ({ frames := 5, cells := 1, slots := 2752, locals := 68 } : Room).slots) := by
  refine MetFree.of_bodySF pn_coe1 hisR ?_
  intro p e s m args below meth c s₁ Bd hml0 hP hK
  obtain ⟨rfl, hZ, hh⟩ := hP
  have hx := Bd.exec
  have hby := Bd.bytes
  have hml : c.maxLocals = 4 := hml0
  have hown : s.vm.findClass "com/example/swapdeck/swapdeck/swap/CloseOutException" = some m.cls := findClass_of_methodNamed Bd.named
  have hnm := (name_of_methodNamed Bd.named Bd.method).1
  have X0 : Stand p l e ({ frames := 5, cells := 1, slots := 2752, locals := 68 } : Room) s m #[(.ref ea), (.ref x), (.ref ls), (.ref ms)] below meth c s₁ [] 0 0 := Stand.of_body Bd
  have e0 : s₁.heap = h0 := by rw [← hh, Bd.state]; rfl
  have N := Fr.nil n0
  have K : Keep h0 h0 [ea] := Keep.refl _ _
  refine Go.by (T' := s₁) (f' := (mkF m 0 #[.val (.ref ea), .val (.ref x), .val (.ref ls), .val (.ref ms)] [])) (fun _ k => castTop (ef_coe1 m ea x ls ms) k) ?_
  have O0 := O
  have E_a0 := E_a
  have U_a0 := U_a
  have hT0 : ThS Z s.heap := by rw [hh]; exact ThS.ext O.2 ThS.start
  refine Go.by (T' := s₁) (f' := (mkF m 1 #[.val (.ref ea), .val (.ref x), .val (.ref ls), .val (.ref ms)] [(.ref ea)])) (fun _ k => XS.aloadN X0.here hx rfl (hb hby d_coe1_0) rfl rfl k) ?_
  refine Go.by (T' := s₁) (f' := (mkF m 2 #[.val (.ref ea), .val (.ref x), .val (.ref ls), .val (.ref ms)] [(.ref ms), (.ref ea)])) (fun _ k => XS.aloadN X0.here hx rfl (hb hby d_coe1_1) rfl rfl k) ?_
  obtain ⟨v1, _, ⟨T1, L1, k1, n1⟩, -, X1, ⟨Lc1, hQ1, l1, y1, z1⟩, st1⟩ := X0.specialBack hx (y := (⟨"java/lang/Exception", "<init>", "(Ljava/lang/String;)V"⟩ : MethodName)) rfl hown (mvT hZ (hw _ (List.mem_of_getElem? (i := 196) rfl))) (mvT hZ (hw _ (List.mem_of_getElem? (i := 197) rfl))) (mvT hZ (hw _ (List.mem_of_getElem? (i := 200) rfl))) (by decide) (backOfKL (W := 0) (rm_exc l Z a0 hw [] hl hch ea ms zc ls us ss hS0 h0 n0 O E_a U_a F_ca F_st F_su F_bt F_dm g_ea) hZ (hw _ (List.mem_of_getElem? (i := 200) rfl)) (hw _ (List.mem_of_getElem? (i := 199) rfl)) (by decide) (by decide) hK.1 hK.2) (g := (mkF m 2 #[.val (.ref ea), .val (.ref x), .val (.ref ls), .val (.ref ms)] [(.ref ms), (.ref ea)])) rfl (by rw [hml]; rfl) (Steps.refl _) (a := ea) (argsL := [(.ref ms)]) (rest := []) (lenOf pd_coe1_0 rfl) rfl (by show 2 * 0 + _ ≤ _; exact Nat.le_of_eq rfl) (hb hby d_coe1_2) (fun _ _ => ⟨rfl, e0, (by decide : 0 + 1 ≤ _), (by decide : 0 + 2752 ≤ _)⟩)
  dsimp only [Pt.U, Pt.locs, Pt.cells, Pt.slots] at X1 l1 y1 z1 st1 hQ1
  subst l1 y1 z1
  obtain ⟨rfl, Nq1, K1⟩ := hQ1
  replace N := Fr.app N Nq1
  have kn1 := own_known U_a K1
  replace E_a := E_a.keep K1
  replace O := O.keep K1 (allS g_ea all0)
  replace K := K.trans K1 (allS (Or.inl (by simp)) all0)
  obtain ⟨v_trade, F_trade⟩ := fld_laid (O := "com/example/swapdeck/swapdeck/swap/CloseOutException") (n := "trade") (d := "Ljava/lang/String;") E_a kn1 (hw _ (List.mem_of_getElem? (i := 27) rfl)) (Or.inr (hw _ (List.mem_of_getElem? (i := 245) rfl)))
  obtain ⟨v_input, F_input⟩ := fld_laid (O := "com/example/swapdeck/swapdeck/swap/CloseOutException") (n := "input") (d := "Lcom/example/swapdeck/swapdeck/swap/CloseOutException$Input;") E_a kn1 (hw _ (List.mem_of_getElem? (i := 27) rfl)) (Or.inr (hw _ (List.mem_of_getElem? (i := 247) rfl)))
  refine Go.by (T' := T1) (f' := (mkF m 5 #[.val (.ref ea), .val (.ref x), .val (.ref ls), .val (.ref ms)] [])) (fun _ k => st1.trans k) ?_
  refine Go.by (T' := T1) (f' := (mkF m 6 #[.val (.ref ea), .val (.ref x), .val (.ref ls), .val (.ref ms)] [(.ref ea)])) (fun _ k => XS.aloadN X1.here hx rfl (hb hby d_coe1_5) rfl rfl k) ?_
  refine Go.by (T' := T1) (f' := (mkF m 7 #[.val (.ref ea), .val (.ref x), .val (.ref ls), .val (.ref ms)] [(.ref x), (.ref ea)])) (fun _ k => XS.aloadN X1.here hx rfl (hb hby d_coe1_6) rfl rfl k) ?_
  obtain ⟨T2, h2, X2, e2, W2, st2⟩ := putF X1 hx hZ hown (host := "") (Or.inl (hw _ (List.mem_of_getElem? (i := 244) rfl))) Via.refl rfl F_trade E_a (Or.inr ⟨(hw _ (List.mem_of_getElem? (i := 245) rfl)), rfl, hnm⟩) (hw _ (List.mem_of_getElem? (i := 27) rfl)) (ty := (.object "java/lang/String")) (by decide) rfl rfl (g := (mkF m 7 #[.val (.ref ea), .val (.ref x), .val (.ref ls), .val (.ref ms)] [(.ref x), (.ref ea)])) rfl rfl (hb hby d_coe1_7)
  replace E_a := E_a.wr W2
  replace F_input := F_input.other W2 (Or.inr (slot_ne (Or.inr (hw _ (List.mem_of_getElem? (i := 247) rfl))) (Or.inr (hw _ (List.mem_of_getElem? (i := 245) rfl))) (by decide) (t := (.object "com/example/swapdeck/swapdeck/swap/CloseOutException$Input")) (t' := (.object "java/lang/String")) (by decide) (by decide)))
  replace F_trade := F_trade.same W2
  replace O := O.wr W2 g_ea
  replace K := K.wr W2 (Or.inl (by simp))
  replace N := Fr.snoc X2 N g_ea
  refine Go.by (T' := T2) (f' := (mkF m 10 #[.val (.ref ea), .val (.ref x), .val (.ref ls), .val (.ref ms)] [])) (st2) ?_
  refine Go.by (T' := T2) (f' := (mkF m 11 #[.val (.ref ea), .val (.ref x), .val (.ref ls), .val (.ref ms)] [(.ref ea)])) (fun _ k => XS.aloadN X2.here hx rfl (hb hby d_coe1_10) rfl rfl k) ?_
  refine Go.by (T' := T2) (f' := (mkF m 12 #[.val (.ref ea), .val (.ref x), .val (.ref ls), .val (.ref ms)] [(.ref ls), (.ref ea)])) (fun _ k => XS.aloadN X2.here hx rfl (hb hby d_coe1_11) rfl rfl k) ?_
  obtain ⟨T3, h3, X3, e3, W3, st3⟩ := putF X2 hx hZ hown (host := "") (Or.inl (hw _ (List.mem_of_getElem? (i := 246) rfl))) Via.refl e2 F_input E_a (Or.inr ⟨(hw _ (List.mem_of_getElem? (i := 247) rfl)), rfl, hnm⟩) (hw _ (List.mem_of_getElem? (i := 27) rfl)) (ty := (.object "com/example/swapdeck/swapdeck/swap/CloseOutException$Input")) (by decide) rfl rfl (g := (mkF m 12 #[.val (.ref ea), .val (.ref x), .val (.ref ls), .val (.ref ms)] [(.ref ls), (.ref ea)])) rfl rfl (hb hby d_coe1_12)
  replace E_a := E_a.wr W3
  replace F_trade := F_trade.other W3 (Or.inr (slot_ne (Or.inr (hw _ (List.mem_of_getElem? (i := 245) rfl))) (Or.inr (hw _ (List.mem_of_getElem? (i := 247) rfl))) (by decide) (t := (.object "java/lang/String")) (t' := (.object "com/example/swapdeck/swapdeck/swap/CloseOutException$Input")) (by decide) (by decide)))
  replace F_input := F_input.same W3
  replace O := O.wr W3 g_ea
  replace K := K.wr W3 (Or.inl (by simp))
  replace N := Fr.snoc X3 N g_ea
  refine Go.by (T' := T3) (f' := (mkF m 15 #[.val (.ref ea), .val (.ref x), .val (.ref ls), .val (.ref ms)] [])) (st3) ?_
  obtain ⟨fs, hr, hrun, hended, hW, hsame⟩ := X3.leave (v := none) (fun _ => rfl)
  refine ⟨_, _, X3.returnOut hx Bd.returns (hb hby d_coe1_15) hr, hrun, hended, _, _, rfl, ?_, ⟨_, rfl⟩, hW, hsame.mono (by decide) (by decide)⟩
  show Qco Z ea (.ref x) ls h0 n0 (none) T3.heap _
  rw [e3]
  exact ⟨rfl, N, K, F_trade, F_input⟩

theorem d_nl0_0 : decode prog_72_method_2_code 0 = .ok (.new 8, 3) := by decide +kernel
theorem d_nl0_3 : decode prog_72_method_2_code 3 = .ok (.dup, 1) := by decide +kernel
theorem d_nl0_4 : decode prog_72_method_2_code 4 = .ok (.aload_n 0, 1) := by decide +kernel
theorem d_nl0_5 : decode prog_72_method_2_code 5 = .ok (.getstatic 17, 3) := by decide +kernel
theorem d_nl0_8 : decode prog_72_method_2_code 8 = .ok (.new 22, 3) := by decide +kernel
theorem d_nl0_11 : decode prog_72_method_2_code 11 = .ok (.dup, 1) := by decide +kernel
theorem d_nl0_12 : decode prog_72_method_2_code 12 = .ok (.invokespecial 24, 3) := by decide +kernel
theorem d_nl0_15 : decode prog_72_method_2_code 15 = .ok (.ldc 27, 2) := by decide +kernel
theorem d_nl0_17 : decode prog_72_method_2_code 17 = .ok (.invokevirtual 29, 3) := by decide +kernel
theorem d_nl0_20 : decode prog_72_method_2_code 20 = .ok (.aload_n 0, 1) := by decide +kernel
theorem d_nl0_21 : decode prog_72_method_2_code 21 = .ok (.invokevirtual 29, 3) := by decide +kernel
theorem d_nl0_24 : decode prog_72_method_2_code 24 = .ok (.ldc 33, 2) := by decide +kernel
theorem d_nl0_26 : decode prog_72_method_2_code 26 = .ok (.invokevirtual 29, 3) := by decide +kernel
theorem d_nl0_29 : decode prog_72_method_2_code 29 = .ok (.iload_n 1, 1) := by decide +kernel
theorem d_nl0_30 : decode prog_72_method_2_code 30 = .ok (.invokestatic 35, 3) := by decide +kernel
theorem d_nl0_33 : decode prog_72_method_2_code 33 = .ok (.invokevirtual 29, 3) := by decide +kernel
theorem d_nl0_36 : decode prog_72_method_2_code 36 = .ok (.ldc 39, 2) := by decide +kernel
theorem d_nl0_38 : decode prog_72_method_2_code 38 = .ok (.invokevirtual 29, 3) := by decide +kernel
theorem d_nl0_41 : decode prog_72_method_2_code 41 = .ok (.invokevirtual 41, 3) := by decide +kernel
theorem d_nl0_44 : decode prog_72_method_2_code 44 = .ok (.invokespecial 45, 3) := by decide +kernel
theorem d_nl0_47 : decode prog_72_method_2_code 47 = .ok (.areturn, 1) := by decide +kernel
theorem pn_nl0 : plainFor (⟨"com/example/swapdeck/swapdeck/swap/CloseOutException", "noLoss", "(Ljava/lang/String;I)Lcom/example/swapdeck/swapdeck/swap/CloseOutException;"⟩ : MethodName) = true := plainFor_of_name (by first | (simp [plainName, overriddenIn]; done) | decide +kernel)
theorem pd_nl0_0 : parseMethodDescriptor "()V" = some ⟨[], none⟩ := by decide +kernel
theorem pd_nl0_1 : parseMethodDescriptor "(Ljava/lang/String;)Ljava/lang/StringBuilder;" = some ⟨[(.object "java/lang/String")], some (.object "java/lang/StringBuilder")⟩ := by decide +kernel
theorem pd_nl0_2 : parseMethodDescriptor "(I)Ljava/lang/String;" = some ⟨[.int], some (.object "java/lang/String")⟩ := by decide +kernel
theorem pd_nl0_3 : parseMethodDescriptor "()Ljava/lang/String;" = some ⟨[], some (.object "java/lang/String")⟩ := by decide +kernel
theorem pd_nl0_4 : parseMethodDescriptor "(Ljava/lang/String;Lcom/example/swapdeck/swapdeck/swap/CloseOutException$Input;Ljava/lang/String;)V" = some ⟨[(.object "java/lang/String"), (.object "com/example/swapdeck/swapdeck/swap/CloseOutException$Input"), (.object "java/lang/String")], none⟩ := by decide +kernel
theorem ef_nl0 (m : MethodId) (x1 : Int32) : entryFrame m #[.null, (.int x1)] 2 = mkF m 0 #[.val .null, .val (.int x1)] [] := by first | (simp [entryFrame, mkF, argsToLocals, Value.category]; done) | rfl
set_option maxRecDepth 65536 in
set_option maxHeartbeats 40000000 in
theorem rm_nl0 (l : Launch) (Z : State) (a0 : Array Value) (hw : ∀ d ∈ tables_1, d.before a0 Z = true) (ws : List Jvm.Cond) (hl : l.stackTraces = true) (hch : Hch Z a0) (hEL : EW Z a0 consts_1) (vi : Int32) (zc : Int32) (ls us ss : Addr) (hS0 : Sf Z zc ls us ss) (h0 : Heap) (n0 : Nat) (O : Old Z n0 h0)  :
    MetFree l (⟨"com/example/swapdeck/swapdeck/swap/CloseOutException", "noLoss", "(Ljava/lang/String;I)Lcom/example/swapdeck/swapdeck/swap/CloseOutException;"⟩ : MethodName) (head1 (Jvm.Cond.code (⟨"com/example/swapdeck/swapdeck/swap/CloseOutException", "noLoss", "(Ljava/lang/String;I)Lcom/example/swapdeck/swapdeck/swap/CloseOutException;"⟩ : MethodName) prog_72_method_2_code 2 (some (.object "com/example/swapdeck/swapdeck/swap/CloseOutException")) :: ws) ({ frames := 7, cells := 25, slots := 5728, locals := 123 } : Room)) (fun as_ U => as_ = #[.null, (.int vi)] ∧ Z.Warmed39 U.vm ∧ U.heap = h0 ∧ CHv Z consts_1 U.vm h0) (fun _ _ bl s _ => s.vm.MethodsKnown ∧ s.vm.FramesKnown bl) (fun _ U o U' => ∃ v L, o = .returned v ∧ Qnl Z .null ls h0 n0 v U'.heap L ∧ CHr Z consts_1 U.vm U.heap U'.vm U'.heap ∧ ReturnedEndW U o U' L ({ frames := 7, cells := 25, slots := 5728, locals := 123 } : Room).cells ({ frames := 7, cells := 25, slots := 5728, locals := 123 } : Room).slots) := by
  refine MetFree.of_bodySF pn_nl0 hisR ?_
  intro p e s m args below meth c s₁ Bd hml0 hP hK
  obtain ⟨rfl, hZ, hh, H0⟩ := hP
  have hx := Bd.exec
  have hby := Bd.bytes
  have hml : c.maxLocals = 2 := hml0
  have hown : s.vm.findClass "com/example/swapdeck/swapdeck/swap/CloseOutException" = some m.cls := findClass_of_methodNamed Bd.named
  have hnm := (name_of_methodNamed Bd.named Bd.method).1
  have X0 : Stand p l e ({ frames := 7, cells := 25, slots := 5728, locals := 123 } : Room) (s.setVm s.vm) m #[.null, (.int vi)] below meth c s₁ [] 0 0 := Stand.of_body Bd
  have e0 : s₁.heap = h0 := by rw [← hh, Bd.state]; rfl
  replace hZ : Z.Warmed39 (s.setVm s.vm).vm := hZ
  replace hown : (s.setVm s.vm).vm.findClass "com/example/swapdeck/swapdeck/swap/CloseOutException" = some m.cls := hown
  have N := Fr.nil n0
  have hS : s.Since s.vm s.heap.size := (State.WarmedH.refl s).since _
  have hk : s.heap.size ≤ h0.size := Nat.le_of_eq (by rw [hh])
  have C : CHr Z consts_1 s.vm h0 s.vm h0 := CHr.refl H0
  have K : Keep h0 h0 [] := Keep.refl _ _
  refine Go.by (T' := s₁) (f' := (mkF m 0 #[.val .null, .val (.int vi)] [])) (fun _ k => castTop (ef_nl0 m vi) k) ?_
  obtain ⟨T1, h1, X1, e1, E1, A1, D1, U1, st1⟩ := newO X0 hx hZ hown (hw _ (List.mem_of_getElem? (i := 26) rfl)) (hw _ (List.mem_of_getElem? (i := 27) rfl)) (hw _ (List.mem_of_getElem? (i := 24) rfl)) e0 (g := (mkF m 0 #[.val .null, .val (.int vi)] [])) rfl (hb hby d_nl0_0) (by decide) (by decide)
  obtain ⟨b1, g1⟩ : ∃ z, z = h0.size := ⟨_, rfl⟩
  rw [← g1] at A1 D1 U1 st1
  have g_b1 : n0 ≤ b1 := Nat.le_trans (Old.le O) (Nat.le_of_eq g1.symm)
  have sz_b1 : h0.size ≤ b1 := Nat.le_trans K.1 (Nat.le_of_eq g1.symm)
  have Sf_b1 : Safe Z consts_1 s.vm h0 b1 := Safe.new (Nat.le_of_eq g1.symm)
  replace Sf_b1 := Safe.ext E1 C.1 Sf_b1
  replace O := O.ext E1
  replace K := K.ext E1
  replace C := C.trans (CHr.ext E1 C.1)
  replace hk := Nat.le_trans hk E1.1
  have E_b1 := A1
  have F_cause_b1 : Fld Z h1 b1 "java/lang/Throwable" "cause" "Ljava/lang/Throwable;" .null := D1 (Or.inl (hw _ (List.mem_of_getElem? (i := 209) rfl))) (ty := (.object "java/lang/Throwable")) (by decide)
  have F_stackTrace_b1 : Fld Z h1 b1 "java/lang/Throwable" "stackTrace" "[Ljava/lang/StackTraceElement;" .null := D1 (Or.inl (hw _ (List.mem_of_getElem? (i := 212) rfl))) (ty := (.array (.object "java/lang/StackTraceElement"))) (by decide)
  have F_suppressedExceptions_b1 : Fld Z h1 b1 "java/lang/Throwable" "suppressedExceptions" "Ljava/util/List;" .null := D1 (Or.inl (hw _ (List.mem_of_getElem? (i := 215) rfl))) (ty := (.object "java/util/List")) (by decide)
  have F_detailMessage_b1 : Fld Z h1 b1 "java/lang/Throwable" "detailMessage" "Ljava/lang/String;" .null := D1 (Or.inl (hw _ (List.mem_of_getElem? (i := 239) rfl))) (ty := (.object "java/lang/String")) (by decide)
  have F_backtrace_b1 : Fld Z h1 b1 "java/lang/Throwable" "backtrace" "Ljava/lang/Object;" .null := D1 (Or.inl (hw _ (List.mem_of_getElem? (i := 240) rfl))) (ty := (.object "java/lang/Object")) (by decide)
  have F_depth_b1 : Fld Z h1 b1 "java/lang/Throwable" "depth" "I" (.int (0 : Int32)) := D1 (Or.inl (hw _ (List.mem_of_getElem? (i := 241) rfl))) (ty := .int) (by decide)
  have F_trade_b1 : Fld Z h1 b1 "com/example/swapdeck/swapdeck/swap/CloseOutException" "trade" "Ljava/lang/String;" .null := D1 (Or.inr (hw _ (List.mem_of_getElem? (i := 245) rfl))) (ty := (.object "java/lang/String")) (by decide)
  have F_input_b1 : Fld Z h1 b1 "com/example/swapdeck/swapdeck/swap/CloseOutException" "input" "Lcom/example/swapdeck/swapdeck/swap/CloseOutException$Input;" .null := D1 (Or.inr (hw _ (List.mem_of_getElem? (i := 247) rfl))) (ty := (.object "com/example/swapdeck/swapdeck/swap/CloseOutException$Input")) (by decide)
  have U_b1 : Unt h1 b1 := U1
  refine Go.by (T' := T1) (f' := (mkF m 3 #[.val .null, .val (.int vi)] [(.ref b1)])) (st1) ?_
  refine Go.by (T' := T1) (f' := (mkF m 4 #[.val .null, .val (.int vi)] [(.ref b1), (.ref b1)])) (fun _ k => XS.dup X1.here hx rfl (hb hby d_nl0_3) rfl rfl k) ?_
  refine Go.by (T' := T1) (f' := (mkF m 5 #[.val .null, .val (.int vi)] [.null, (.ref b1), (.ref b1)])) (fun _ k => XS.aloadN X1.here hx rfl (hb hby d_nl0_4) rfl rfl k) ?_
  obtain ⟨T2, X2, e2, st2⟩ := getS2 X1 hx hZ hown (host := "") (Or.inl (hw _ (List.mem_of_getElem? (i := 28) rfl))) Via.refl e1 (Sta.ext O.2 hS0.2.2.1) (g := (mkF m 5 #[.val .null, .val (.int vi)] [.null, (.ref b1), (.ref b1)])) rfl (hb hby d_nl0_5)
  refine Go.by (T' := T2) (f' := (mkF m 8 #[.val .null, .val (.int vi)] [(.ref ls), .null, (.ref b1), (.ref b1)])) (st2) ?_
  obtain ⟨T3, h3, X3, e3, E3, A3, D3, -, st3⟩ := newO X2 hx hZ hown (hw _ (List.mem_of_getElem? (i := 31) rfl)) (hw _ (List.mem_of_getElem? (i := 32) rfl)) (hw _ (List.mem_of_getElem? (i := 33) rfl)) e2 (g := (mkF m 8 #[.val .null, .val (.int vi)] [(.ref ls), .null, (.ref b1), (.ref b1)])) rfl (hb hby d_nl0_8) (by decide) (by decide)
  obtain ⟨b3, g3⟩ : ∃ z, z = h1.size := ⟨_, rfl⟩
  rw [← g3] at A3 D3 st3
  have ne_b1_b3 : b1 ≠ b3 := Nat.ne_of_lt (Nat.lt_of_lt_of_le E_b1.lt (Nat.le_of_eq g3.symm))
  have g_b3 : n0 ≤ b3 := Nat.le_trans (Old.le O) (Nat.le_of_eq g3.symm)
  have sz_b3 : h0.size ≤ b3 := Nat.le_trans K.1 (Nat.le_of_eq g3.symm)
  have Sf_b3 : Safe Z consts_1 s.vm h1 b3 := Safe.new (Nat.le_of_eq g3.symm)
  replace Sf_b1 := Safe.ext E3 C.1 Sf_b1
  replace E_b1 := E_b1.ext E3
  replace F_cause_b1 := F_cause_b1.ext E3
  replace F_stackTrace_b1 := F_stackTrace_b1.ext E3
  replace F_suppressedExceptions_b1 := F_suppressedExceptions_b1.ext E3
  replace F_detailMessage_b1 := F_detailMessage_b1.ext E3
  replace F_backtrace_b1 := F_backtrace_b1.ext E3
  replace U_b1 := U_b1.ext E3
  replace Sf_b3 := Safe.ext E3 C.1 Sf_b3
  replace O := O.ext E3
  replace K := K.ext E3
  replace C := C.trans (CHr.ext E3 C.1)
  replace hk := Nat.le_trans hk E3.1
  have E_b3 := A3
  have F_value_b3 : Fld Z h3 b3 "java/lang/AbstractStringBuilder" "value" "[B" .null := D3 (Or.inl (hw _ (List.mem_of_getElem? (i := 46) rfl))) (ty := (.array .byte)) (by decide)
  have F_coder_b3 : Fld Z h3 b3 "java/lang/AbstractStringBuilder" "coder" "B" (.int (0 : Int32)) := D3 (Or.inl (hw _ (List.mem_of_getElem? (i := 48) rfl))) (ty := .byte) (by decide)
  have F_count_b3 : Fld Z h3 b3 "java/lang/AbstractStringBuilder" "count" "I" (.int (0 : Int32)) := D3 (Or.inl (hw _ (List.mem_of_getElem? (i := 72) rfl))) (ty := .int) (by decide)
  refine Go.by (T' := T3) (f' := (mkF m 11 #[.val .null, .val (.int vi)] [(.ref b3), (.ref ls), .null, (.ref b1), (.ref b1)])) (st3) ?_
  refine Go.by (T' := T3) (f' := (mkF m 12 #[.val .null, .val (.int vi)] [(.ref b3), (.ref b3), (.ref ls), .null, (.ref b1), (.ref b1)])) (fun _ k => XS.dup X3.here hx rfl (hb hby d_nl0_11) rfl rfl k) ?_
  obtain ⟨v4, _, ⟨T4, L4, k4, n4⟩, -, X4, ⟨Lc4, hQ4, l4, y4, z4⟩, st4⟩ := X3.specialBack hx (y := (⟨"java/lang/StringBuilder", "<init>", "()V"⟩ : MethodName)) rfl hown (mvT hZ (hw _ (List.mem_of_getElem? (i := 34) rfl))) (mvT hZ (hw _ (List.mem_of_getElem? (i := 35) rfl))) (mvT hZ (hw _ (List.mem_of_getElem? (i := 36) rfl))) (by decide) (backOf (W := 5) (rm_sbi l Z a0 hw [] b3 zc ls us ss hS0 h3 n0 O E_b3 F_value_b3 F_coder_b3 F_count_b3 g_b3) hZ (hw _ (List.mem_of_getElem? (i := 36) rfl)) (hw _ (List.mem_of_getElem? (i := 33) rfl)) (by decide) (by decide)) (g := (mkF m 12 #[.val .null, .val (.int vi)] [(.ref b3), (.ref b3), (.ref ls), .null, (.ref b1), (.ref b1)])) rfl (by rw [hml]; rfl) (Steps.refl _) (a := b3) (argsL := []) (rest := [(.ref b3), (.ref ls), .null, (.ref b1), (.ref b1)]) (lenOf pd_nl0_0 rfl) rfl (by show 2 * 0 + _ ≤ _; exact Nat.le_of_eq rfl) (hb hby d_nl0_12) (fun _ _ => ⟨rfl, e3, (by decide : 2 + 1 ≤ _), (by decide : 12 + 16 ≤ _)⟩)
  dsimp only [Pt.U, Pt.locs, Pt.cells, Pt.slots] at X4 l4 y4 z4 st4 hQ4
  subst l4 y4 z4
  obtain ⟨rfl, Nq4, K4, t4, k24, vs4, gt4, Gv4, Gc4, Gn4, Vt4, Et4⟩ := hQ4
  replace N := Fr.app N Nq4
  have ne_b1_t4 : b1 ≠ t4 := Nat.ne_of_lt (Nat.lt_of_lt_of_le E_b1.lt gt4)
  have ne_b3_t4 : b3 ≠ t4 := Nat.ne_of_lt (Nat.lt_of_lt_of_le E_b3.lt gt4)
  have g_t4 : n0 ≤ t4 := Nat.le_trans (Old.le O) gt4
  have sz_t4 : h0.size ≤ t4 := Nat.le_trans K.1 gt4
  have Sf_t4 : Safe Z consts_1 s.vm h3 t4 := Safe.new gt4
  have hs_K4 : ∀ x ∈ ([b3] : List Addr), Safe Z consts_1 s.vm h3 x := (sfS Sf_b3 sf0)
  have Sk_K4 := CHr.keep (Z := Z) (EL := consts_1) (vm := s.vm) K4 hs_K4 C.1
  replace Sf_b1 := Safe.keep K4 hs_K4 C.1 Sf_b1
  replace Sf_b3 := Safe.keep K4 hs_K4 C.1 Sf_b3
  replace Sf_t4 := Safe.keep K4 hs_K4 C.1 Sf_t4
  replace E_b1 := E_b1.keep K4
  replace F_cause_b1 := F_cause_b1.keep K4 (ninS ne_b1_b3 nin0)
  replace F_stackTrace_b1 := F_stackTrace_b1.keep K4 (ninS ne_b1_b3 nin0)
  replace F_suppressedExceptions_b1 := F_suppressedExceptions_b1.keep K4 (ninS ne_b1_b3 nin0)
  replace F_detailMessage_b1 := F_detailMessage_b1.keep K4 (ninS ne_b1_b3 nin0)
  replace F_backtrace_b1 := F_backtrace_b1.keep K4 (ninS ne_b1_b3 nin0)
  replace U_b1 := Unt.keep K4 (ninS ne_b1_b3 nin0) U_b1
  replace E_b3 := E_b3.keep K4
  replace C := C.trans Sk_K4
  replace hk := Nat.le_trans hk K4.1
  replace O := O.keep K4 (allS g_b3 all0)
  replace K := K.trans K4 (allS (Or.inr sz_b3) all0)
  refine Go.by (T' := T4) (f' := (mkF m 15 #[.val .null, .val (.int vi)] [(.ref b3), (.ref ls), .null, (.ref b1), (.ref b1)])) (fun _ k => st4.trans k) ?_
  obtain ⟨sa5, T5, h5, k15, sb5, kc5, X5, e5, E5, hS5, hk5, hZ5, hown5, Es5, Fc5, Fv5, Va5, -, -, C5, -, ne5, st5⟩ := ldcCH X4 hx hZ hown (hw _ (List.mem_of_getElem? (i := 49) rfl)) (fun d hd => hw d (own_wS d hd)) rfl hS hk hEL (by decide +kernel) C.1 (text := "trade ") (z := Int32.ofNat 6) ⟨by decide +kernel, rfl⟩ (by decide) (by decide +kernel) (g := (mkF m 15 #[.val .null, .val (.int vi)] [(.ref b3), (.ref ls), .null, (.ref b1), (.ref b1)])) rfl (hb hby d_nl0_15) (n := 24) (by decide +kernel) (by decide) (by decide) (by decide)
  replace Sf_b1 := CHr.safe C5 E_b1.lt Sf_b1
  have nx5_b1 := ne5 _ Sf_b1
  replace Sf_b3 := CHr.safe C5 E_b3.lt Sf_b3
  have nx5_b3 := ne5 _ Sf_b3
  replace Sf_t4 := CHr.safe C5 Vt4.lt Sf_t4
  have nx5_t4 := ne5 _ Sf_t4
  replace E_b1 := E_b1.ext E5
  replace F_cause_b1 := F_cause_b1.ext E5
  replace F_stackTrace_b1 := F_stackTrace_b1.ext E5
  replace F_suppressedExceptions_b1 := F_suppressedExceptions_b1.ext E5
  replace F_detailMessage_b1 := F_detailMessage_b1.ext E5
  replace F_backtrace_b1 := F_backtrace_b1.ext E5
  replace U_b1 := U_b1.ext E5
  replace E_b3 := E_b3.ext E5
  replace Gv4 := Gv4.ext E5
  replace Gc4 := Gc4.ext E5
  replace Gn4 := Gn4.ext E5
  replace Vt4 := Vt4.ext E5
  replace Et4 := Et4.ext E5
  replace O := O.ext E5
  replace K := K.ext E5
  replace C := C.trans C5
  replace hk := hk5
  replace hS := hS5
  replace hZ := hZ5
  replace hown := hown5
  refine Go.by (T' := T5) (f' := (mkF m 17 #[.val .null, .val (.int vi)] [(.ref sa5), (.ref b3), (.ref ls), .null, (.ref b1), (.ref b1)])) (st5) ?_
  have hi6a : 16 ≤ 300 := by omega
  have hi6b : 16 ≤ 16 := by omega
  have hi6c : 0 ≤ 16 := by omega
  have hv6 : 0 + 6 ≤ 150 := by omega
  obtain ⟨cq6, kq6, q6a, q6b, q6c⟩ := isOf hZ e5 E_b3
  obtain ⟨v6, _, ⟨T6, L6, k6, n6⟩, -, X6, ⟨Lc6, hQ6, l6, y6, z6⟩, st6⟩ := X5.virtualBack hx (y := (⟨"java/lang/StringBuilder", "append", "(Ljava/lang/String;)Ljava/lang/StringBuilder;"⟩ : MethodName)) (z := (⟨"java/lang/StringBuilder", "append", "(Ljava/lang/String;)Ljava/lang/StringBuilder;"⟩ : MethodName)) hown (mvT hZ (hw _ (List.mem_of_getElem? (i := 50) rfl))) (mvT hZ (hw _ (List.mem_of_getElem? (i := 51) rfl))) (notFace_of_selects (args := #[]) (mvT hZ (hw _ (List.mem_of_getElem? (i := 53) rfl)))) (mvT hZ (hw _ (List.mem_of_getElem? (i := 53) rfl))) (mvT hZ (hw _ (List.mem_of_getElem? (i := 52) rfl))) (by decide) (backOf (W := 4) (rm_sas l Z a0 hw [] b3 t4 _ (16) (0) _ sa5 sb5 _ (6) _ zc ls us ss hS0 h5 n0 O E_b3 Gv4 Gc4 Gn4 Vt4 Et4 g_b3 g_t4 hi6a hi6b hi6c Es5 Fv5 Fc5 Va5 (Ne.symm nx5_t4.2) hv6) hZ (hw _ (List.mem_of_getElem? (i := 54) rfl)) (hw _ (List.mem_of_getElem? (i := 33) rfl)) (by decide) (by decide)) q6a q6c (g := (mkF m 17 #[.val .null, .val (.int vi)] [(.ref sa5), (.ref b3), (.ref ls), .null, (.ref b1), (.ref b1)])) rfl (by rw [hml]; rfl) (Steps.refl _) (argsL := [(.ref sa5)]) (rest := [(.ref ls), .null, (.ref b1), (.ref b1)]) (lenOf pd_nl0_1 rfl) rfl (by show 2 * 0 + _ ≤ _; exact Nat.le_of_eq rfl) (hb hby d_nl0_17) (fun _ _ => ⟨rfl, e5, (by decide : 5 + 1 ≤ _), (by decide : 56 + 300 ≤ _)⟩)
  dsimp only [Pt.U, Pt.locs, Pt.cells, Pt.slots] at X6 l6 y6 z6 st6 hQ6
  subst l6 y6 z6
  obtain ⟨rfl, Nq6, K6, t6, k26, L2_6, vs6, or6, hb61, hb62, hb63, Gv6, Gc6, Gn6, Vt6, Et6⟩ := hQ6
  replace N := Fr.app N Nq6
  have nt6_b1 : b1 ≠ t6 := own_orne or6 ne_b1_t4 E_b1.lt
  have nt6_sb5 : sb5 ≠ t6 := own_orne or6 (Ne.symm nx5_t4.2) Va5.lt
  have g_t6 : n0 ≤ t6 := own_or or6 g_t4 (Old.le O)
  have io_t6 : t6 ∈ ([] : List Addr) ∨ h0.size ≤ t6 := own_orin or6 (Or.inr sz_t4) K.1
  have Sf_t6 : Safe Z consts_1 T5.vm h5 t6 := by
    rcases or6 with q | q
    · rw [q]; exact Sf_t4
    · exact Safe.new q
  have hs_K6 : ∀ x ∈ ([b3, t4] : List Addr), Safe Z consts_1 T5.vm h5 x := (sfS Sf_b3 (sfS Sf_t4 sf0))
  have Sk_K6 := CHr.keep (Z := Z) (EL := consts_1) (vm := T5.vm) K6 hs_K6 C.1
  replace Sf_b1 := Safe.keep K6 hs_K6 C.1 Sf_b1
  replace Sf_b3 := Safe.keep K6 hs_K6 C.1 Sf_b3
  replace Sf_t4 := Safe.keep K6 hs_K6 C.1 Sf_t4
  replace Sf_t6 := Safe.keep K6 hs_K6 C.1 Sf_t6
  replace E_b1 := E_b1.keep K6
  replace F_cause_b1 := F_cause_b1.keep K6 (ninS ne_b1_b3 (ninS ne_b1_t4 nin0))
  replace F_stackTrace_b1 := F_stackTrace_b1.keep K6 (ninS ne_b1_b3 (ninS ne_b1_t4 nin0))
  replace F_suppressedExceptions_b1 := F_suppressedExceptions_b1.keep K6 (ninS ne_b1_b3 (ninS ne_b1_t4 nin0))
  replace F_detailMessage_b1 := F_detailMessage_b1.keep K6 (ninS ne_b1_b3 (ninS ne_b1_t4 nin0))
  replace F_backtrace_b1 := F_backtrace_b1.keep K6 (ninS ne_b1_b3 (ninS ne_b1_t4 nin0))
  replace U_b1 := Unt.keep K6 (ninS ne_b1_b3 (ninS ne_b1_t4 nin0)) U_b1
  replace E_b3 := E_b3.keep K6
  replace Et4 := Et4.keep K6
  replace Es5 := Es5.keep K6
  replace Fc5 := Fc5.keep K6 (ninS (Ne.symm nx5_b3.1) (ninS (Ne.symm nx5_t4.1) nin0))
  replace Fv5 := Fv5.keep K6 (ninS (Ne.symm nx5_b3.1) (ninS (Ne.symm nx5_t4.1) nin0))
  replace Va5 := Va5.keep K6 (ninS (Ne.symm nx5_b3.2) (ninS (Ne.symm nx5_t4.2) nin0))
  replace C := C.trans Sk_K6
  replace hk := Nat.le_trans hk K6.1
  replace O := O.keep K6 (allS g_b3 (allS g_t4 all0))
  replace K := K.trans K6 (allS (Or.inr sz_b3) (allS (Or.inr sz_t4) all0))
  refine Go.by (T' := T6) (f' := (mkF m 20 #[.val .null, .val (.int vi)] [(.ref b3), (.ref ls), .null, (.ref b1), (.ref b1)])) (fun _ k => st6.trans k) ?_
  refine Go.by (T' := T6) (f' := (mkF m 21 #[.val .null, .val (.int vi)] [.null, (.ref b3), (.ref ls), .null, (.ref b1), (.ref b1)])) (fun _ k => XS.aloadN X6.here hx rfl (hb hby d_nl0_20) rfl rfl k) ?_
  have hi7a : L2_6 ≤ 300 := by omega
  have hi7b : 16 ≤ L2_6 := by omega
  have hi7c : (0 + 6) ≤ L2_6 := by omega
  have hv7 : (0 + 6) + 4 ≤ 150 := by omega
  obtain ⟨cq7, kq7, q7a, q7b, q7c⟩ := isOf hZ rfl E_b3
  obtain ⟨v7, _, ⟨T7, L7, k7, n7⟩, -, X7, ⟨Lc7, hQ7, l7, y7, z7⟩, st7⟩ := X6.virtualBack hx (y := (⟨"java/lang/StringBuilder", "append", "(Ljava/lang/String;)Ljava/lang/StringBuilder;"⟩ : MethodName)) (z := (⟨"java/lang/StringBuilder", "append", "(Ljava/lang/String;)Ljava/lang/StringBuilder;"⟩ : MethodName)) hown (mvT hZ (hw _ (List.mem_of_getElem? (i := 50) rfl))) (mvT hZ (hw _ (List.mem_of_getElem? (i := 51) rfl))) (notFace_of_selects (args := #[]) (mvT hZ (hw _ (List.mem_of_getElem? (i := 53) rfl)))) (mvT hZ (hw _ (List.mem_of_getElem? (i := 53) rfl))) (mvT hZ (hw _ (List.mem_of_getElem? (i := 52) rfl))) (by decide) (backOf (W := 4) (rm_san l Z a0 hw [] b3 t6 _ (L2_6) ((0 + 6)) _ zc ls us ss hS0 T6.heap n0 O E_b3 Gv6 Gc6 Gn6 Vt6 Et6 g_b3 g_t6 hi7a hi7b hi7c hv7) hZ (hw _ (List.mem_of_getElem? (i := 54) rfl)) (hw _ (List.mem_of_getElem? (i := 33) rfl)) (by decide) (by decide)) q7a q7c (g := (mkF m 21 #[.val .null, .val (.int vi)] [.null, (.ref b3), (.ref ls), .null, (.ref b1), (.ref b1)])) rfl (by rw [hml]; rfl) (Steps.refl _) (argsL := [.null]) (rest := [(.ref ls), .null, (.ref b1), (.ref b1)]) (lenOf pd_nl0_1 rfl) rfl (by show 2 * 0 + _ ≤ _; exact Nat.le_of_eq rfl) (hb hby d_nl0_21) (fun _ _ => ⟨rfl, rfl, (by decide : 6 + 1 ≤ _), (by decide : 356 + 300 ≤ _)⟩)
  dsimp only [Pt.U, Pt.locs, Pt.cells, Pt.slots] at X7 l7 y7 z7 st7 hQ7
  subst l7 y7 z7
  obtain ⟨rfl, Nq7, K7, t7, k27, L2_7, vs7, or7, hb71, hb72, hb73, Gv7, Gc7, Gn7, Vt7, Et7⟩ := hQ7
  replace N := Fr.app N Nq7
  have nt7_b1 : b1 ≠ t7 := own_orne or7 nt6_b1 E_b1.lt
  have nt7_sb5 : sb5 ≠ t7 := own_orne or7 nt6_sb5 Va5.lt
  have g_t7 : n0 ≤ t7 := own_or or7 g_t6 (Old.le O)
  have io_t7 : t7 ∈ ([] : List Addr) ∨ h0.size ≤ t7 := own_orin or7 (io_t6) K.1
  have Sf_t7 : Safe Z consts_1 T5.vm T6.heap t7 := by
    rcases or7 with q | q
    · rw [q]; exact Sf_t6
    · exact Safe.new q
  have hs_K7 : ∀ x ∈ ([b3, t6] : List Addr), Safe Z consts_1 T5.vm T6.heap x := (sfS Sf_b3 (sfS Sf_t6 sf0))
  have Sk_K7 := CHr.keep (Z := Z) (EL := consts_1) (vm := T5.vm) K7 hs_K7 C.1
  replace Sf_b1 := Safe.keep K7 hs_K7 C.1 Sf_b1
  replace Sf_b3 := Safe.keep K7 hs_K7 C.1 Sf_b3
  replace Sf_t4 := Safe.keep K7 hs_K7 C.1 Sf_t4
  replace Sf_t6 := Safe.keep K7 hs_K7 C.1 Sf_t6
  replace Sf_t7 := Safe.keep K7 hs_K7 C.1 Sf_t7
  have nq8 : sa5 ≠ t6 := (ne_exa Es5 Et6 (by decide))
  replace E_b1 := E_b1.keep K7
  replace F_cause_b1 := F_cause_b1.keep K7 (ninS ne_b1_b3 (ninS nt6_b1 nin0))
  replace F_stackTrace_b1 := F_stackTrace_b1.keep K7 (ninS ne_b1_b3 (ninS nt6_b1 nin0))
  replace F_suppressedExceptions_b1 := F_suppressedExceptions_b1.keep K7 (ninS ne_b1_b3 (ninS nt6_b1 nin0))
  replace F_detailMessage_b1 := F_detailMessage_b1.keep K7 (ninS ne_b1_b3 (ninS nt6_b1 nin0))
  replace F_backtrace_b1 := F_backtrace_b1.keep K7 (ninS ne_b1_b3 (ninS nt6_b1 nin0))
  replace U_b1 := Unt.keep K7 (ninS ne_b1_b3 (ninS nt6_b1 nin0)) U_b1
  replace E_b3 := E_b3.keep K7
  replace Es5 := Es5.keep K7
  replace Fc5 := Fc5.keep K7 (ninS (Ne.symm nx5_b3.1) (ninS nq8 nin0))
  replace Fv5 := Fv5.keep K7 (ninS (Ne.symm nx5_b3.1) (ninS nq8 nin0))
  replace Va5 := Va5.keep K7 (ninS (Ne.symm nx5_b3.2) (ninS nt6_sb5 nin0))
  replace Et6 := Et6.keep K7
  replace C := C.trans Sk_K7
  replace hk := Nat.le_trans hk K7.1
  replace O := O.keep K7 (allS g_b3 (allS g_t6 all0))
  replace K := K.trans K7 (allS (Or.inr sz_b3) (allS (io_t6) all0))
  refine Go.by (T' := T7) (f' := (mkF m 24 #[.val .null, .val (.int vi)] [(.ref b3), (.ref ls), .null, (.ref b1), (.ref b1)])) (fun _ k => st7.trans k) ?_
  obtain ⟨sa9, T9, h9, k19, sb9, kc9, X9, e9, E9, hS9, hk9, hZ9, hown9, Es9, Fc9, Fv9, Va9, -, -, C9, -, ne9, st9⟩ := ldcCH X7 hx hZ hown (hw _ (List.mem_of_getElem? (i := 98) rfl)) (fun d hd => hw d (own_wS d hd)) rfl hS hk hEL (by decide +kernel) C.1 (text := " has ") (z := Int32.ofNat 5) ⟨by decide +kernel, rfl⟩ (by decide) (by decide +kernel) (g := (mkF m 24 #[.val .null, .val (.int vi)] [(.ref b3), (.ref ls), .null, (.ref b1), (.ref b1)])) rfl (hb hby d_nl0_24) (n := 20) (by decide +kernel) (by decide) (by decide) (by decide)
  replace Sf_b1 := CHr.safe C9 E_b1.lt Sf_b1
  have nx9_b1 := ne9 _ Sf_b1
  replace Sf_b3 := CHr.safe C9 E_b3.lt Sf_b3
  have nx9_b3 := ne9 _ Sf_b3
  replace Sf_t7 := CHr.safe C9 Vt7.lt Sf_t7
  have nx9_t7 := ne9 _ Sf_t7
  replace E_b1 := E_b1.ext E9
  replace F_cause_b1 := F_cause_b1.ext E9
  replace F_stackTrace_b1 := F_stackTrace_b1.ext E9
  replace F_suppressedExceptions_b1 := F_suppressedExceptions_b1.ext E9
  replace F_detailMessage_b1 := F_detailMessage_b1.ext E9
  replace F_backtrace_b1 := F_backtrace_b1.ext E9
  replace U_b1 := U_b1.ext E9
  replace E_b3 := E_b3.ext E9
  replace Es5 := Es5.ext E9
  replace Fc5 := Fc5.ext E9
  replace Fv5 := Fv5.ext E9
  replace Va5 := Va5.ext E9
  replace Gv7 := Gv7.ext E9
  replace Gc7 := Gc7.ext E9
  replace Gn7 := Gn7.ext E9
  replace Vt7 := Vt7.ext E9
  replace Et7 := Et7.ext E9
  replace O := O.ext E9
  replace K := K.ext E9
  replace C := C.trans C9
  replace hk := hk9
  replace hS := hS9
  replace hZ := hZ9
  replace hown := hown9
  refine Go.by (T' := T9) (f' := (mkF m 26 #[.val .null, .val (.int vi)] [(.ref sa9), (.ref b3), (.ref ls), .null, (.ref b1), (.ref b1)])) (st9) ?_
  have hi10a : L2_7 ≤ 300 := by omega
  have hi10b : 16 ≤ L2_7 := by omega
  have hi10c : ((0 + 6) + 4) ≤ L2_7 := by omega
  have hv10 : ((0 + 6) + 4) + 5 ≤ 150 := by omega
  obtain ⟨cq10, kq10, q10a, q10b, q10c⟩ := isOf hZ e9 E_b3
  obtain ⟨v10, _, ⟨T10, L10, k10, n10⟩, -, X10, ⟨Lc10, hQ10, l10, y10, z10⟩, st10⟩ := X9.virtualBack hx (y := (⟨"java/lang/StringBuilder", "append", "(Ljava/lang/String;)Ljava/lang/StringBuilder;"⟩ : MethodName)) (z := (⟨"java/lang/StringBuilder", "append", "(Ljava/lang/String;)Ljava/lang/StringBuilder;"⟩ : MethodName)) hown (mvT hZ (hw _ (List.mem_of_getElem? (i := 50) rfl))) (mvT hZ (hw _ (List.mem_of_getElem? (i := 51) rfl))) (notFace_of_selects (args := #[]) (mvT hZ (hw _ (List.mem_of_getElem? (i := 53) rfl)))) (mvT hZ (hw _ (List.mem_of_getElem? (i := 53) rfl))) (mvT hZ (hw _ (List.mem_of_getElem? (i := 52) rfl))) (by decide) (backOf (W := 4) (rm_sas l Z a0 hw [] b3 t7 _ (L2_7) (((0 + 6) + 4)) _ sa9 sb9 _ (5) _ zc ls us ss hS0 h9 n0 O E_b3 Gv7 Gc7 Gn7 Vt7 Et7 g_b3 g_t7 hi10a hi10b hi10c Es9 Fv9 Fc9 Va9 (Ne.symm nx9_t7.2) hv10) hZ (hw _ (List.mem_of_getElem? (i := 54) rfl)) (hw _ (List.mem_of_getElem? (i := 33) rfl)) (by decide) (by decide)) q10a q10c (g := (mkF m 26 #[.val .null, .val (.int vi)] [(.ref sa9), (.ref b3), (.ref ls), .null, (.ref b1), (.ref b1)])) rfl (by rw [hml]; rfl) (Steps.refl _) (argsL := [(.ref sa9)]) (rest := [(.ref ls), .null, (.ref b1), (.ref b1)]) (lenOf pd_nl0_1 rfl) rfl (by show 2 * 0 + _ ≤ _; exact Nat.le_of_eq rfl) (hb hby d_nl0_26) (fun _ _ => ⟨rfl, e9, (by decide : 9 + 1 ≤ _), (by decide : 680 + 300 ≤ _)⟩)
  dsimp only [Pt.U, Pt.locs, Pt.cells, Pt.slots] at X10 l10 y10 z10 st10 hQ10
  subst l10 y10 z10
  obtain ⟨rfl, Nq10, K10, t10, k210, L2_10, vs10, or10, hb101, hb102, hb103, Gv10, Gc10, Gn10, Vt10, Et10⟩ := hQ10
  replace N := Fr.app N Nq10
  have nt10_b1 : b1 ≠ t10 := own_orne or10 nt7_b1 E_b1.lt
  have nt10_sb5 : sb5 ≠ t10 := own_orne or10 nt7_sb5 Va5.lt
  have nt10_sb9 : sb9 ≠ t10 := own_orne or10 (Ne.symm nx9_t7.2) Va9.lt
  have g_t10 : n0 ≤ t10 := own_or or10 g_t7 (Old.le O)
  have io_t10 : t10 ∈ ([] : List Addr) ∨ h0.size ≤ t10 := own_orin or10 (io_t7) K.1
  have Sf_t10 : Safe Z consts_1 T9.vm h9 t10 := by
    rcases or10 with q | q
    · rw [q]; exact Sf_t7
    · exact Safe.new q
  have hs_K10 : ∀ x ∈ ([b3, t7] : List Addr), Safe Z consts_1 T9.vm h9 x := (sfS Sf_b3 (sfS Sf_t7 sf0))
  have Sk_K10 := CHr.keep (Z := Z) (EL := consts_1) (vm := T9.vm) K10 hs_K10 C.1
  replace Sf_b1 := Safe.keep K10 hs_K10 C.1 Sf_b1
  replace Sf_b3 := Safe.keep K10 hs_K10 C.1 Sf_b3
  replace Sf_t7 := Safe.keep K10 hs_K10 C.1 Sf_t7
  replace Sf_t10 := Safe.keep K10 hs_K10 C.1 Sf_t10
  have nq11 : sa5 ≠ t7 := (ne_exa Es5 Et7 (by decide))
  replace E_b1 := E_b1.keep K10
  replace F_cause_b1 := F_cause_b1.keep K10 (ninS ne_b1_b3 (ninS nt7_b1 nin0))
  replace F_stackTrace_b1 := F_stackTrace_b1.keep K10 (ninS ne_b1_b3 (ninS nt7_b1 nin0))
  replace F_suppressedExceptions_b1 := F_suppressedExceptions_b1.keep K10 (ninS ne_b1_b3 (ninS nt7_b1 nin0))
  replace F_detailMessage_b1 := F_detailMessage_b1.keep K10 (ninS ne_b1_b3 (ninS nt7_b1 nin0))
  replace F_backtrace_b1 := F_backtrace_b1.keep K10 (ninS ne_b1_b3 (ninS nt7_b1 nin0))
  replace U_b1 := Unt.keep K10 (ninS ne_b1_b3 (ninS nt7_b1 nin0)) U_b1
  replace E_b3 := E_b3.keep K10
  replace Es5 := Es5.keep K10
  replace Fc5 := Fc5.keep K10 (ninS (Ne.symm nx5_b3.1) (ninS nq11 nin0))
  replace Fv5 := Fv5.keep K10 (ninS (Ne.symm nx5_b3.1) (ninS nq11 nin0))
  replace Va5 := Va5.keep K10 (ninS (Ne.symm nx5_b3.2) (ninS nt7_sb5 nin0))
  replace Et7 := Et7.keep K10
  replace Es9 := Es9.keep K10
  replace Fc9 := Fc9.keep K10 (ninS (Ne.symm nx9_b3.1) (ninS (Ne.symm nx9_t7.1) nin0))
  replace Fv9 := Fv9.keep K10 (ninS (Ne.symm nx9_b3.1) (ninS (Ne.symm nx9_t7.1) nin0))
  replace Va9 := Va9.keep K10 (ninS (Ne.symm nx9_b3.2) (ninS (Ne.symm nx9_t7.2) nin0))
  replace C := C.trans Sk_K10
  replace hk := Nat.le_trans hk K10.1
  replace O := O.keep K10 (allS g_b3 (allS g_t7 all0))
  replace K := K.trans K10 (allS (Or.inr sz_b3) (allS (io_t7) all0))
  refine Go.by (T' := T10) (f' := (mkF m 29 #[.val .null, .val (.int vi)] [(.ref b3), (.ref ls), .null, (.ref b1), (.ref b1)])) (fun _ k => st10.trans k) ?_
  refine Go.by (T' := T10) (f' := (mkF m 30 #[.val .null, .val (.int vi)] [(.int vi), (.ref b3), (.ref ls), .null, (.ref b1), (.ref b1)])) (fun _ k => XS.iloadN X10.here hx rfl (hb hby d_nl0_29) rfl k) ?_
  obtain ⟨v12, _, ⟨T12, L12, k12, n12⟩, -, X12, hS12, hg12, ⟨Lc12, hQ12, l12, y12, z12, C12⟩, st12⟩ := callSS X10 hx (y := (⟨"com/example/swapdeck/swapdeck/swap/CloseOutException", "quotations", "(I)Ljava/lang/String;"⟩ : MethodName)) hown (mvT hZ (hw _ (List.mem_of_getElem? (i := 99) rfl))) (mvT hZ (hw _ (List.mem_of_getElem? (i := 100) rfl))) (mvT hZ (hw _ (List.mem_of_getElem? (i := 24) rfl))) (mvT hZ (hw _ (List.mem_of_getElem? (i := 101) rfl))) (by decide) (backOfSH (W := 5) (s := s) (EL := consts_1) (rm_quot l Z a0 hw [] hl hch hEL vi zc ls us ss hS0 T10.heap n0 O) hZ (hw _ (List.mem_of_getElem? (i := 101) rfl)) (hw _ (List.mem_of_getElem? (i := 24) rfl)) (by decide) (by decide) hEL C.1) (g := (mkF m 30 #[.val .null, .val (.int vi)] [(.int vi), (.ref b3), (.ref ls), .null, (.ref b1), (.ref b1)])) rfl (by rw [hml]; rfl) (argsL := [(.int vi)]) (rest := [(.ref b3), (.ref ls), .null, (.ref b1), (.ref b1)]) (lenOf pd_nl0_2 rfl) rfl (by show 2 * 0 + _ ≤ _; exact Nat.le_of_eq rfl) (hb hby d_nl0_30) (fun _ _ => ⟨rfl, rfl, (by decide : 10 + 8 ≤ _), (by decide : 980 + 822 ≤ _)⟩)
  dsimp only [Pt.U, Pt.locs, Pt.cells, Pt.slots] at X12 l12 y12 z12 st12 hQ12 hS12 hg12 C12
  subst l12 y12 z12
  have hown12 : (s.setVm T12.vm).vm.findClass "com/example/swapdeck/swapdeck/swap/CloseOutException" = some m.cls := by rw [show (s.setVm T12.vm).vm = T12.vm from rfl, hS12.1.alike.findClass]; exact hown
  have hZ12 : Z.Warmed39 (s.setVm T12.vm).vm := State.Warmed39.trans (t := s.setVm T9.vm) hZ hS12.1
  have ag12 := Stand.againW (s := s) X12 hS hS12 (Nat.le_trans hk hg12)
  replace X12 := ag12.1
  replace hS := ag12.2
  replace Sf_b1 := CHr.safe C12 E_b1.lt Sf_b1
  replace Sf_b3 := CHr.safe C12 E_b3.lt Sf_b3
  replace Sf_t10 := CHr.safe C12 Vt10.lt Sf_t10
  obtain ⟨x12, r12, k212, vs12, nq12, rfl, Nq12, K12, Ex12, Gv12, Gc12, Vr12, hb12, or12⟩ := hQ12
  replace N := Fr.app N Nq12
  have nr12 : t10 ≠ r12 := by
    intro q
    rcases or12 with z | z
    · exact absurd (q ▸ Vt10.lt) (Nat.not_lt.mpr z)
    · exact absurd q (arv_ne (Vt10.keep K12 nin0) Vr12 (Or.inl (by rw [own_nat (by omega), own_nat (by omega)]; omega)))
  replace E_b1 := E_b1.keep K12
  replace F_cause_b1 := F_cause_b1.keep K12 nin0
  replace F_stackTrace_b1 := F_stackTrace_b1.keep K12 nin0
  replace F_suppressedExceptions_b1 := F_suppressedExceptions_b1.keep K12 nin0
  replace F_detailMessage_b1 := F_detailMessage_b1.keep K12 nin0
  replace F_backtrace_b1 := F_backtrace_b1.keep K12 nin0
  replace U_b1 := Unt.keep K12 nin0 U_b1
  replace E_b3 := E_b3.keep K12
  replace Es5 := Es5.keep K12
  replace Fc5 := Fc5.keep K12 nin0
  replace Fv5 := Fv5.keep K12 nin0
  replace Va5 := Va5.keep K12 nin0
  replace Es9 := Es9.keep K12
  replace Fc9 := Fc9.keep K12 nin0
  replace Fv9 := Fv9.keep K12 nin0
  replace Va9 := Va9.keep K12 nin0
  replace Gv10 := Gv10.keep K12 nin0
  replace Gc10 := Gc10.keep K12 nin0
  replace Gn10 := Gn10.keep K12 nin0
  replace Vt10 := Vt10.keep K12 nin0
  replace Et10 := Et10.keep K12
  replace O := O.keep K12 all0
  replace K := K.trans K12 all0
  replace C := C.trans C12
  replace hZ := hZ12
  replace hown := hown12
  replace hk := Nat.le_refl T12.heap.size
  refine Go.by (T' := T12) (f' := (mkF m 33 #[.val .null, .val (.int vi)] [(.ref x12), (.ref b3), (.ref ls), .null, (.ref b1), (.ref b1)])) (fun _ k => st12.trans k) ?_
  have hi13a : L2_10 ≤ 300 := by omega
  have hi13b : 16 ≤ L2_10 := by omega
  have hi13c : (((0 + 6) + 4) + 5) ≤ L2_10 := by omega
  have hv13 : (((0 + 6) + 4) + 5) + nq12 ≤ 150 := by omega
  obtain ⟨cq13, kq13, q13a, q13b, q13c⟩ := isOf hZ rfl E_b3
  obtain ⟨v13, _, ⟨T13, L13, k13, n13⟩, -, X13, ⟨Lc13, hQ13, l13, y13, z13⟩, st13⟩ := X12.virtualBack hx (y := (⟨"java/lang/StringBuilder", "append", "(Ljava/lang/String;)Ljava/lang/StringBuilder;"⟩ : MethodName)) (z := (⟨"java/lang/StringBuilder", "append", "(Ljava/lang/String;)Ljava/lang/StringBuilder;"⟩ : MethodName)) hown (mvT hZ (hw _ (List.mem_of_getElem? (i := 50) rfl))) (mvT hZ (hw _ (List.mem_of_getElem? (i := 51) rfl))) (notFace_of_selects (args := #[]) (mvT hZ (hw _ (List.mem_of_getElem? (i := 53) rfl)))) (mvT hZ (hw _ (List.mem_of_getElem? (i := 53) rfl))) (mvT hZ (hw _ (List.mem_of_getElem? (i := 52) rfl))) (by decide) (backOf (W := 4) (rm_sas l Z a0 hw [] b3 t10 _ (L2_10) ((((0 + 6) + 4) + 5)) _ x12 r12 _ (nq12) _ zc ls us ss hS0 T12.heap n0 O E_b3 Gv10 Gc10 Gn10 Vt10 Et10 g_b3 g_t10 hi13a hi13b hi13c Ex12 Gv12 Gc12 Vr12 (Ne.symm nr12) hv13) hZ (hw _ (List.mem_of_getElem? (i := 54) rfl)) (hw _ (List.mem_of_getElem? (i := 33) rfl)) (by decide) (by decide)) q13a q13c (g := (mkF m 33 #[.val .null, .val (.int vi)] [(.ref x12), (.ref b3), (.ref ls), .null, (.ref b1), (.ref b1)])) rfl (by rw [hml]; rfl) (Steps.refl _) (argsL := [(.ref x12)]) (rest := [(.ref ls), .null, (.ref b1), (.ref b1)]) (lenOf pd_nl0_1 rfl) rfl (by show 2 * 0 + _ ≤ _; exact Nat.le_of_eq rfl) (hb hby d_nl0_33) (fun _ _ => ⟨rfl, rfl, (by decide : 18 + 1 ≤ _), (by decide : 1802 + 300 ≤ _)⟩)
  dsimp only [Pt.U, Pt.locs, Pt.cells, Pt.slots] at X13 l13 y13 z13 st13 hQ13
  subst l13 y13 z13
  obtain ⟨rfl, Nq13, K13, t13, k213, L2_13, vs13, or13, hb131, hb132, hb133, Gv13, Gc13, Gn13, Vt13, Et13⟩ := hQ13
  replace N := Fr.app N Nq13
  have nt13_b1 : b1 ≠ t13 := own_orne or13 nt10_b1 E_b1.lt
  have nt13_sb5 : sb5 ≠ t13 := own_orne or13 nt10_sb5 Va5.lt
  have nt13_sb9 : sb9 ≠ t13 := own_orne or13 nt10_sb9 Va9.lt
  have nt13_r12 : r12 ≠ t13 := own_orne or13 (Ne.symm nr12) Vr12.lt
  have g_t13 : n0 ≤ t13 := own_or or13 g_t10 (Old.le O)
  have io_t13 : t13 ∈ ([] : List Addr) ∨ h0.size ≤ t13 := own_orin or13 (io_t10) K.1
  have Sf_t13 : Safe Z consts_1 T12.vm T12.heap t13 := by
    rcases or13 with q | q
    · rw [q]; exact Sf_t10
    · exact Safe.new q
  have hs_K13 : ∀ x ∈ ([b3, t10] : List Addr), Safe Z consts_1 T12.vm T12.heap x := (sfS Sf_b3 (sfS Sf_t10 sf0))
  have Sk_K13 := CHr.keep (Z := Z) (EL := consts_1) (vm := T12.vm) K13 hs_K13 C.1
  replace Sf_b1 := Safe.keep K13 hs_K13 C.1 Sf_b1
  replace Sf_b3 := Safe.keep K13 hs_K13 C.1 Sf_b3
  replace Sf_t10 := Safe.keep K13 hs_K13 C.1 Sf_t10
  replace Sf_t13 := Safe.keep K13 hs_K13 C.1 Sf_t13
  have nq14 : sa5 ≠ t10 := (ne_exa Es5 Et10 (by decide))
  have nq15 : sa9 ≠ t10 := (ne_exa Es9 Et10 (by decide))
  have nq16 : x12 ≠ b3 := (ne_exa Ex12 E_b3 (by decide))
  have nq17 : x12 ≠ t10 := (ne_exa Ex12 Et10 (by decide))
  have nq18 : r12 ≠ b3 := (Ne.symm (own_nev E_b3 (hw _ (List.mem_of_getElem? (i := 32) rfl)) Vr12))
  replace E_b1 := E_b1.keep K13
  replace F_cause_b1 := F_cause_b1.keep K13 (ninS ne_b1_b3 (ninS nt10_b1 nin0))
  replace F_stackTrace_b1 := F_stackTrace_b1.keep K13 (ninS ne_b1_b3 (ninS nt10_b1 nin0))
  replace F_suppressedExceptions_b1 := F_suppressedExceptions_b1.keep K13 (ninS ne_b1_b3 (ninS nt10_b1 nin0))
  replace F_detailMessage_b1 := F_detailMessage_b1.keep K13 (ninS ne_b1_b3 (ninS nt10_b1 nin0))
  replace F_backtrace_b1 := F_backtrace_b1.keep K13 (ninS ne_b1_b3 (ninS nt10_b1 nin0))
  replace U_b1 := Unt.keep K13 (ninS ne_b1_b3 (ninS nt10_b1 nin0)) U_b1
  replace E_b3 := E_b3.keep K13
  replace Es5 := Es5.keep K13
  replace Fc5 := Fc5.keep K13 (ninS (Ne.symm nx5_b3.1) (ninS nq14 nin0))
  replace Fv5 := Fv5.keep K13 (ninS (Ne.symm nx5_b3.1) (ninS nq14 nin0))
  replace Va5 := Va5.keep K13 (ninS (Ne.symm nx5_b3.2) (ninS nt10_sb5 nin0))
  replace Es9 := Es9.keep K13
  replace Fc9 := Fc9.keep K13 (ninS (Ne.symm nx9_b3.1) (ninS nq15 nin0))
  replace Fv9 := Fv9.keep K13 (ninS (Ne.symm nx9_b3.1) (ninS nq15 nin0))
  replace Va9 := Va9.keep K13 (ninS (Ne.symm nx9_b3.2) (ninS nt10_sb9 nin0))
  replace Et10 := Et10.keep K13
  replace Ex12 := Ex12.keep K13
  replace Gv12 := Gv12.keep K13 (ninS nq16 (ninS nq17 nin0))
  replace Gc12 := Gc12.keep K13 (ninS nq16 (ninS nq17 nin0))
  replace Vr12 := Vr12.keep K13 (ninS nq18 (ninS (Ne.symm nr12) nin0))
  replace C := C.trans Sk_K13
  replace hk := Nat.le_trans hk K13.1
  replace O := O.keep K13 (allS g_b3 (allS g_t10 all0))
  replace K := K.trans K13 (allS (Or.inr sz_b3) (allS (io_t10) all0))
  refine Go.by (T' := T13) (f' := (mkF m 36 #[.val .null, .val (.int vi)] [(.ref b3), (.ref ls), .null, (.ref b1), (.ref b1)])) (fun _ k => st13.trans k) ?_
  obtain ⟨sa19, T19, h19, k119, sb19, kc19, X19, e19, E19, hS19, hk19, hZ19, hown19, Es19, Fc19, Fv19, Va19, -, -, C19, -, ne19, st19⟩ := ldcCH X13 hx hZ hown (hw _ (List.mem_of_getElem? (i := 183) rfl)) (fun d hd => hw d (own_wS d hd)) rfl hS hk hEL (by decide +kernel) C.1 (text := ", fewer than three, so its Market Quotation cannot be determined and its Loss is used, but none is given") (z := Int32.ofNat 104) ⟨by decide +kernel, rfl⟩ (by decide) (by decide +kernel) (g := (mkF m 36 #[.val .null, .val (.int vi)] [(.ref b3), (.ref ls), .null, (.ref b1), (.ref b1)])) rfl (hb hby d_nl0_36) (n := 416) (by decide +kernel) (by decide) (by decide) (by decide)
  replace Sf_b1 := CHr.safe C19 E_b1.lt Sf_b1
  have nx19_b1 := ne19 _ Sf_b1
  replace Sf_b3 := CHr.safe C19 E_b3.lt Sf_b3
  have nx19_b3 := ne19 _ Sf_b3
  replace Sf_t13 := CHr.safe C19 Vt13.lt Sf_t13
  have nx19_t13 := ne19 _ Sf_t13
  replace E_b1 := E_b1.ext E19
  replace F_cause_b1 := F_cause_b1.ext E19
  replace F_stackTrace_b1 := F_stackTrace_b1.ext E19
  replace F_suppressedExceptions_b1 := F_suppressedExceptions_b1.ext E19
  replace F_detailMessage_b1 := F_detailMessage_b1.ext E19
  replace F_backtrace_b1 := F_backtrace_b1.ext E19
  replace U_b1 := U_b1.ext E19
  replace E_b3 := E_b3.ext E19
  replace Es5 := Es5.ext E19
  replace Fc5 := Fc5.ext E19
  replace Fv5 := Fv5.ext E19
  replace Va5 := Va5.ext E19
  replace Es9 := Es9.ext E19
  replace Fc9 := Fc9.ext E19
  replace Fv9 := Fv9.ext E19
  replace Va9 := Va9.ext E19
  replace Ex12 := Ex12.ext E19
  replace Gv12 := Gv12.ext E19
  replace Gc12 := Gc12.ext E19
  replace Vr12 := Vr12.ext E19
  replace Gv13 := Gv13.ext E19
  replace Gc13 := Gc13.ext E19
  replace Gn13 := Gn13.ext E19
  replace Vt13 := Vt13.ext E19
  replace Et13 := Et13.ext E19
  replace O := O.ext E19
  replace K := K.ext E19
  replace C := C.trans C19
  replace hk := hk19
  replace hS := hS19
  replace hZ := hZ19
  replace hown := hown19
  refine Go.by (T' := T19) (f' := (mkF m 38 #[.val .null, .val (.int vi)] [(.ref sa19), (.ref b3), (.ref ls), .null, (.ref b1), (.ref b1)])) (st19) ?_
  have hi20a : L2_13 ≤ 300 := by omega
  have hi20b : 16 ≤ L2_13 := by omega
  have hi20c : ((((0 + 6) + 4) + 5) + nq12) ≤ L2_13 := by omega
  have hv20 : ((((0 + 6) + 4) + 5) + nq12) + 104 ≤ 150 := by omega
  obtain ⟨cq20, kq20, q20a, q20b, q20c⟩ := isOf hZ e19 E_b3
  obtain ⟨v20, _, ⟨T20, L20, k20, n20⟩, -, X20, ⟨Lc20, hQ20, l20, y20, z20⟩, st20⟩ := X19.virtualBack hx (y := (⟨"java/lang/StringBuilder", "append", "(Ljava/lang/String;)Ljava/lang/StringBuilder;"⟩ : MethodName)) (z := (⟨"java/lang/StringBuilder", "append", "(Ljava/lang/String;)Ljava/lang/StringBuilder;"⟩ : MethodName)) hown (mvT hZ (hw _ (List.mem_of_getElem? (i := 50) rfl))) (mvT hZ (hw _ (List.mem_of_getElem? (i := 51) rfl))) (notFace_of_selects (args := #[]) (mvT hZ (hw _ (List.mem_of_getElem? (i := 53) rfl)))) (mvT hZ (hw _ (List.mem_of_getElem? (i := 53) rfl))) (mvT hZ (hw _ (List.mem_of_getElem? (i := 52) rfl))) (by decide) (backOf (W := 4) (rm_sas l Z a0 hw [] b3 t13 _ (L2_13) (((((0 + 6) + 4) + 5) + nq12)) _ sa19 sb19 _ (104) _ zc ls us ss hS0 h19 n0 O E_b3 Gv13 Gc13 Gn13 Vt13 Et13 g_b3 g_t13 hi20a hi20b hi20c Es19 Fv19 Fc19 Va19 (Ne.symm nx19_t13.2) hv20) hZ (hw _ (List.mem_of_getElem? (i := 54) rfl)) (hw _ (List.mem_of_getElem? (i := 33) rfl)) (by decide) (by decide)) q20a q20c (g := (mkF m 38 #[.val .null, .val (.int vi)] [(.ref sa19), (.ref b3), (.ref ls), .null, (.ref b1), (.ref b1)])) rfl (by rw [hml]; rfl) (Steps.refl _) (argsL := [(.ref sa19)]) (rest := [(.ref ls), .null, (.ref b1), (.ref b1)]) (lenOf pd_nl0_1 rfl) rfl (by show 2 * 0 + _ ≤ _; exact Nat.le_of_eq rfl) (hb hby d_nl0_38) (fun _ _ => ⟨rfl, e19, (by decide : 21 + 1 ≤ _), (by decide : 2522 + 300 ≤ _)⟩)
  dsimp only [Pt.U, Pt.locs, Pt.cells, Pt.slots] at X20 l20 y20 z20 st20 hQ20
  subst l20 y20 z20
  obtain ⟨rfl, Nq20, K20, t20, k220, L2_20, vs20, or20, hb201, hb202, hb203, Gv20, Gc20, Gn20, Vt20, Et20⟩ := hQ20
  replace N := Fr.app N Nq20
  have nt20_b1 : b1 ≠ t20 := own_orne or20 nt13_b1 E_b1.lt
  have nt20_sb5 : sb5 ≠ t20 := own_orne or20 nt13_sb5 Va5.lt
  have nt20_sb9 : sb9 ≠ t20 := own_orne or20 nt13_sb9 Va9.lt
  have nt20_r12 : r12 ≠ t20 := own_orne or20 nt13_r12 Vr12.lt
  have nt20_sb19 : sb19 ≠ t20 := own_orne or20 (Ne.symm nx19_t13.2) Va19.lt
  have g_t20 : n0 ≤ t20 := own_or or20 g_t13 (Old.le O)
  have io_t20 : t20 ∈ ([] : List Addr) ∨ h0.size ≤ t20 := own_orin or20 (io_t13) K.1
  have Sf_t20 : Safe Z consts_1 T19.vm h19 t20 := by
    rcases or20 with q | q
    · rw [q]; exact Sf_t13
    · exact Safe.new q
  have hs_K20 : ∀ x ∈ ([b3, t13] : List Addr), Safe Z consts_1 T19.vm h19 x := (sfS Sf_b3 (sfS Sf_t13 sf0))
  have Sk_K20 := CHr.keep (Z := Z) (EL := consts_1) (vm := T19.vm) K20 hs_K20 C.1
  replace Sf_b1 := Safe.keep K20 hs_K20 C.1 Sf_b1
  replace Sf_b3 := Safe.keep K20 hs_K20 C.1 Sf_b3
  replace Sf_t13 := Safe.keep K20 hs_K20 C.1 Sf_t13
  replace Sf_t20 := Safe.keep K20 hs_K20 C.1 Sf_t20
  have nq21 : sa5 ≠ t13 := (ne_exa Es5 Et13 (by decide))
  have nq22 : sa9 ≠ t13 := (ne_exa Es9 Et13 (by decide))
  have nq23 : x12 ≠ t13 := (ne_exa Ex12 Et13 (by decide))
  replace E_b1 := E_b1.keep K20
  replace F_cause_b1 := F_cause_b1.keep K20 (ninS ne_b1_b3 (ninS nt13_b1 nin0))
  replace F_stackTrace_b1 := F_stackTrace_b1.keep K20 (ninS ne_b1_b3 (ninS nt13_b1 nin0))
  replace F_suppressedExceptions_b1 := F_suppressedExceptions_b1.keep K20 (ninS ne_b1_b3 (ninS nt13_b1 nin0))
  replace F_detailMessage_b1 := F_detailMessage_b1.keep K20 (ninS ne_b1_b3 (ninS nt13_b1 nin0))
  replace F_backtrace_b1 := F_backtrace_b1.keep K20 (ninS ne_b1_b3 (ninS nt13_b1 nin0))
  replace U_b1 := Unt.keep K20 (ninS ne_b1_b3 (ninS nt13_b1 nin0)) U_b1
  replace E_b3 := E_b3.keep K20
  replace Es5 := Es5.keep K20
  replace Fc5 := Fc5.keep K20 (ninS (Ne.symm nx5_b3.1) (ninS nq21 nin0))
  replace Fv5 := Fv5.keep K20 (ninS (Ne.symm nx5_b3.1) (ninS nq21 nin0))
  replace Va5 := Va5.keep K20 (ninS (Ne.symm nx5_b3.2) (ninS nt13_sb5 nin0))
  replace Es9 := Es9.keep K20
  replace Fc9 := Fc9.keep K20 (ninS (Ne.symm nx9_b3.1) (ninS nq22 nin0))
  replace Fv9 := Fv9.keep K20 (ninS (Ne.symm nx9_b3.1) (ninS nq22 nin0))
  replace Va9 := Va9.keep K20 (ninS (Ne.symm nx9_b3.2) (ninS nt13_sb9 nin0))
  replace Ex12 := Ex12.keep K20
  replace Gv12 := Gv12.keep K20 (ninS nq16 (ninS nq23 nin0))
  replace Gc12 := Gc12.keep K20 (ninS nq16 (ninS nq23 nin0))
  replace Vr12 := Vr12.keep K20 (ninS nq18 (ninS nt13_r12 nin0))
  replace Et13 := Et13.keep K20
  replace Es19 := Es19.keep K20
  replace Fc19 := Fc19.keep K20 (ninS (Ne.symm nx19_b3.1) (ninS (Ne.symm nx19_t13.1) nin0))
  replace Fv19 := Fv19.keep K20 (ninS (Ne.symm nx19_b3.1) (ninS (Ne.symm nx19_t13.1) nin0))
  replace Va19 := Va19.keep K20 (ninS (Ne.symm nx19_b3.2) (ninS (Ne.symm nx19_t13.2) nin0))
  replace C := C.trans Sk_K20
  replace hk := Nat.le_trans hk K20.1
  replace O := O.keep K20 (allS g_b3 (allS g_t13 all0))
  replace K := K.trans K20 (allS (Or.inr sz_b3) (allS (io_t13) all0))
  refine Go.by (T' := T20) (f' := (mkF m 41 #[.val .null, .val (.int vi)] [(.ref b3), (.ref ls), .null, (.ref b1), (.ref b1)])) (fun _ k => st20.trans k) ?_
  have hi24a : L2_20 ≤ 300 := by omega
  have hi24b : 16 ≤ L2_20 := by omega
  have hi24c : (((((0 + 6) + 4) + 5) + nq12) + 104) ≤ L2_20 := by omega
  have hs24 : (((((0 + 6) + 4) + 5) + nq12) + 104) ≤ 150 := by omega
  obtain ⟨cq24, kq24, q24a, q24b, q24c⟩ := isOf hZ rfl E_b3
  obtain ⟨v24, _, ⟨T24, L24, k24, n24⟩, -, X24, ⟨Lc24, hQ24, l24, y24, z24⟩, st24⟩ := X20.virtualBack hx (y := (⟨"java/lang/StringBuilder", "toString", "()Ljava/lang/String;"⟩ : MethodName)) (z := (⟨"java/lang/StringBuilder", "toString", "()Ljava/lang/String;"⟩ : MethodName)) hown (mvT hZ (hw _ (List.mem_of_getElem? (i := 125) rfl))) (mvT hZ (hw _ (List.mem_of_getElem? (i := 126) rfl))) (notFace_of_selects (args := #[]) (mvT hZ (hw _ (List.mem_of_getElem? (i := 128) rfl)))) (mvT hZ (hw _ (List.mem_of_getElem? (i := 128) rfl))) (mvT hZ (hw _ (List.mem_of_getElem? (i := 127) rfl))) (by decide) (backOf (W := 4) (rm_tos l Z a0 hw [] b3 t20 _ (L2_20) ((((((0 + 6) + 4) + 5) + nq12) + 104)) _ zc ls us ss hS0 T20.heap n0 O E_b3 Gv20 Gc20 Gn20 Vt20 Et20 g_b3 g_t20 hi24a hi24b hi24c hs24) hZ (hw _ (List.mem_of_getElem? (i := 129) rfl)) (hw _ (List.mem_of_getElem? (i := 33) rfl)) (by decide) (by decide)) q24a q24c (g := (mkF m 41 #[.val .null, .val (.int vi)] [(.ref b3), (.ref ls), .null, (.ref b1), (.ref b1)])) rfl (by rw [hml]; rfl) (Steps.refl _) (argsL := []) (rest := [(.ref ls), .null, (.ref b1), (.ref b1)]) (lenOf pd_nl0_3 rfl) rfl (by show 2 * 0 + _ ≤ _; exact Nat.le_of_eq rfl) (hb hby d_nl0_41) (fun _ _ => ⟨rfl, rfl, (by decide : 22 + 2 ≤ _), (by decide : 2822 + 154 ≤ _)⟩)
  dsimp only [Pt.U, Pt.locs, Pt.cells, Pt.slots] at X24 l24 y24 z24 st24 hQ24
  subst l24 y24 z24
  obtain ⟨x24, r24, k224, vs24, rfl, Nq24, K24, gx24, gr24, Ex24, Gv24, Gc24, Vr24⟩ := hQ24
  replace N := Fr.app N Nq24
  have ne_b1_x24 : b1 ≠ x24 := Nat.ne_of_lt (Nat.lt_of_lt_of_le E_b1.lt gx24)
  have ne_b3_x24 : b3 ≠ x24 := Nat.ne_of_lt (Nat.lt_of_lt_of_le E_b3.lt gx24)
  have ne_sa5_x24 : sa5 ≠ x24 := Nat.ne_of_lt (Nat.lt_of_lt_of_le Es5.lt gx24)
  have ne_sb5_x24 : sb5 ≠ x24 := Nat.ne_of_lt (Nat.lt_of_lt_of_le Va5.lt gx24)
  have ne_sa9_x24 : sa9 ≠ x24 := Nat.ne_of_lt (Nat.lt_of_lt_of_le Es9.lt gx24)
  have ne_sb9_x24 : sb9 ≠ x24 := Nat.ne_of_lt (Nat.lt_of_lt_of_le Va9.lt gx24)
  have ne_x12_x24 : x12 ≠ x24 := Nat.ne_of_lt (Nat.lt_of_lt_of_le Ex12.lt gx24)
  have ne_r12_x24 : r12 ≠ x24 := Nat.ne_of_lt (Nat.lt_of_lt_of_le Vr12.lt gx24)
  have ne_sa19_x24 : sa19 ≠ x24 := Nat.ne_of_lt (Nat.lt_of_lt_of_le Es19.lt gx24)
  have ne_sb19_x24 : sb19 ≠ x24 := Nat.ne_of_lt (Nat.lt_of_lt_of_le Va19.lt gx24)
  have ne_t20_x24 : t20 ≠ x24 := Nat.ne_of_lt (Nat.lt_of_lt_of_le Vt20.lt gx24)
  have g_x24 : n0 ≤ x24 := Nat.le_trans (Old.le O) gx24
  have sz_x24 : h0.size ≤ x24 := Nat.le_trans K.1 gx24
  have ne_b1_r24 : b1 ≠ r24 := Nat.ne_of_lt (Nat.lt_of_lt_of_le E_b1.lt gr24)
  have ne_b3_r24 : b3 ≠ r24 := Nat.ne_of_lt (Nat.lt_of_lt_of_le E_b3.lt gr24)
  have ne_sa5_r24 : sa5 ≠ r24 := Nat.ne_of_lt (Nat.lt_of_lt_of_le Es5.lt gr24)
  have ne_sb5_r24 : sb5 ≠ r24 := Nat.ne_of_lt (Nat.lt_of_lt_of_le Va5.lt gr24)
  have ne_sa9_r24 : sa9 ≠ r24 := Nat.ne_of_lt (Nat.lt_of_lt_of_le Es9.lt gr24)
  have ne_sb9_r24 : sb9 ≠ r24 := Nat.ne_of_lt (Nat.lt_of_lt_of_le Va9.lt gr24)
  have ne_x12_r24 : x12 ≠ r24 := Nat.ne_of_lt (Nat.lt_of_lt_of_le Ex12.lt gr24)
  have ne_r12_r24 : r12 ≠ r24 := Nat.ne_of_lt (Nat.lt_of_lt_of_le Vr12.lt gr24)
  have ne_sa19_r24 : sa19 ≠ r24 := Nat.ne_of_lt (Nat.lt_of_lt_of_le Es19.lt gr24)
  have ne_sb19_r24 : sb19 ≠ r24 := Nat.ne_of_lt (Nat.lt_of_lt_of_le Va19.lt gr24)
  have ne_t20_r24 : t20 ≠ r24 := Nat.ne_of_lt (Nat.lt_of_lt_of_le Vt20.lt gr24)
  have g_r24 : n0 ≤ r24 := Nat.le_trans (Old.le O) gr24
  have sz_r24 : h0.size ≤ r24 := Nat.le_trans K.1 gr24
  have hs_K24 : ∀ x ∈ ([] : List Addr), Safe Z consts_1 T19.vm T20.heap x := sf0
  have Sk_K24 := CHr.keep (Z := Z) (EL := consts_1) (vm := T19.vm) K24 hs_K24 C.1
  replace Sf_b1 := Safe.keep K24 hs_K24 C.1 Sf_b1
  replace Sf_b3 := Safe.keep K24 hs_K24 C.1 Sf_b3
  replace Sf_t13 := Safe.keep K24 hs_K24 C.1 Sf_t13
  replace Sf_t20 := Safe.keep K24 hs_K24 C.1 Sf_t20
  replace E_b1 := E_b1.keep K24
  replace F_cause_b1 := F_cause_b1.keep K24 nin0
  replace F_stackTrace_b1 := F_stackTrace_b1.keep K24 nin0
  replace F_suppressedExceptions_b1 := F_suppressedExceptions_b1.keep K24 nin0
  replace F_detailMessage_b1 := F_detailMessage_b1.keep K24 nin0
  replace F_backtrace_b1 := F_backtrace_b1.keep K24 nin0
  replace U_b1 := Unt.keep K24 nin0 U_b1
  replace E_b3 := E_b3.keep K24
  replace Es5 := Es5.keep K24
  replace Fc5 := Fc5.keep K24 nin0
  replace Fv5 := Fv5.keep K24 nin0
  replace Va5 := Va5.keep K24 nin0
  replace Es9 := Es9.keep K24
  replace Fc9 := Fc9.keep K24 nin0
  replace Fv9 := Fv9.keep K24 nin0
  replace Va9 := Va9.keep K24 nin0
  replace Ex12 := Ex12.keep K24
  replace Gv12 := Gv12.keep K24 nin0
  replace Gc12 := Gc12.keep K24 nin0
  replace Vr12 := Vr12.keep K24 nin0
  replace Es19 := Es19.keep K24
  replace Fc19 := Fc19.keep K24 nin0
  replace Fv19 := Fv19.keep K24 nin0
  replace Va19 := Va19.keep K24 nin0
  replace Gv20 := Gv20.keep K24 nin0
  replace Gc20 := Gc20.keep K24 nin0
  replace Gn20 := Gn20.keep K24 nin0
  replace Vt20 := Vt20.keep K24 nin0
  replace Et20 := Et20.keep K24
  replace C := C.trans Sk_K24
  replace hk := Nat.le_trans hk K24.1
  replace O := O.keep K24 all0
  replace K := K.trans K24 all0
  refine Go.by (T' := T24) (f' := (mkF m 44 #[.val .null, .val (.int vi)] [(.ref x24), (.ref ls), .null, (.ref b1), (.ref b1)])) (fun _ k => st24.trans k) ?_
  obtain ⟨v25, _, ⟨T25, L25, k25, n25⟩, -, X25, ⟨Lc25, hQ25, l25, y25, z25⟩, st25⟩ := X24.specialBack hx (y := (⟨"com/example/swapdeck/swapdeck/swap/CloseOutException", "<init>", "(Ljava/lang/String;Lcom/example/swapdeck/swapdeck/swap/CloseOutException$Input;Ljava/lang/String;)V"⟩ : MethodName)) rfl hown (mvT hZ (hw _ (List.mem_of_getElem? (i := 193) rfl))) (mvT hZ (hw _ (List.mem_of_getElem? (i := 194) rfl))) (mvT hZ (hw _ (List.mem_of_getElem? (i := 195) rfl))) (by decide) (backOfKL (W := 1) (rm_coe0 l Z a0 hw [] hl hch b1 x24 zc ls us ss hS0 T24.heap n0 O E_b1 U_b1 F_cause_b1 F_stackTrace_b1 F_suppressedExceptions_b1 F_backtrace_b1 F_detailMessage_b1 g_b1) hZ (hw _ (List.mem_of_getElem? (i := 195) rfl)) (hw _ (List.mem_of_getElem? (i := 24) rfl)) (by decide) (by decide) (Vm.MethodsKnown.alikeC hS.1.alike hK.1) (Vm.FramesKnown.alikeC hS.1.alike hK.2)) (g := (mkF m 44 #[.val .null, .val (.int vi)] [(.ref x24), (.ref ls), .null, (.ref b1), (.ref b1)])) rfl (by rw [hml]; rfl) (Steps.refl _) (a := b1) (argsL := [.null, (.ref ls), (.ref x24)]) (rest := [(.ref b1)]) (lenOf pd_nl0_4 rfl) rfl (by show 2 * 0 + _ ≤ _; exact Nat.le_of_eq rfl) (hb hby d_nl0_44) (fun _ _ => ⟨rfl, rfl, (by decide : 24 + 1 ≤ _), (by decide : 2976 + 2752 ≤ _)⟩)
  dsimp only [Pt.U, Pt.locs, Pt.cells, Pt.slots] at X25 l25 y25 z25 st25 hQ25
  subst l25 y25 z25
  obtain ⟨rfl, Nq25, K25, Ft25, Fi25⟩ := hQ25
  replace N := Fr.app N Nq25
  have hs_K25 : ∀ x ∈ ([b1] : List Addr), Safe Z consts_1 T19.vm T24.heap x := (sfS Sf_b1 sf0)
  have Sk_K25 := CHr.keep (Z := Z) (EL := consts_1) (vm := T19.vm) K25 hs_K25 C.1
  replace Sf_b1 := Safe.keep K25 hs_K25 C.1 Sf_b1
  replace Sf_b3 := Safe.keep K25 hs_K25 C.1 Sf_b3
  replace Sf_t13 := Safe.keep K25 hs_K25 C.1 Sf_t13
  replace Sf_t20 := Safe.keep K25 hs_K25 C.1 Sf_t20
  have nq26 : x12 ≠ b1 := (ne_exa Ex12 E_b1 (by decide))
  have nq27 : r12 ≠ b1 := (Ne.symm (own_nev E_b1 (hw _ (List.mem_of_getElem? (i := 27) rfl)) Vr12))
  replace E_b1 := E_b1.keep K25
  replace E_b3 := E_b3.keep K25
  replace Es5 := Es5.keep K25
  replace Fc5 := Fc5.keep K25 (ninS (Ne.symm nx5_b1.1) nin0)
  replace Fv5 := Fv5.keep K25 (ninS (Ne.symm nx5_b1.1) nin0)
  replace Va5 := Va5.keep K25 (ninS (Ne.symm nx5_b1.2) nin0)
  replace Es9 := Es9.keep K25
  replace Fc9 := Fc9.keep K25 (ninS (Ne.symm nx9_b1.1) nin0)
  replace Fv9 := Fv9.keep K25 (ninS (Ne.symm nx9_b1.1) nin0)
  replace Va9 := Va9.keep K25 (ninS (Ne.symm nx9_b1.2) nin0)
  replace Ex12 := Ex12.keep K25
  replace Gv12 := Gv12.keep K25 (ninS nq26 nin0)
  replace Gc12 := Gc12.keep K25 (ninS nq26 nin0)
  replace Vr12 := Vr12.keep K25 (ninS nq27 nin0)
  replace Es19 := Es19.keep K25
  replace Fc19 := Fc19.keep K25 (ninS (Ne.symm nx19_b1.1) nin0)
  replace Fv19 := Fv19.keep K25 (ninS (Ne.symm nx19_b1.1) nin0)
  replace Va19 := Va19.keep K25 (ninS (Ne.symm nx19_b1.2) nin0)
  replace Gv20 := Gv20.keep K25 (ninS (Ne.symm ne_b1_b3) nin0)
  replace Gc20 := Gc20.keep K25 (ninS (Ne.symm ne_b1_b3) nin0)
  replace Gn20 := Gn20.keep K25 (ninS (Ne.symm ne_b1_b3) nin0)
  replace Vt20 := Vt20.keep K25 (ninS (Ne.symm nt20_b1) nin0)
  replace Et20 := Et20.keep K25
  replace Ex24 := Ex24.keep K25
  replace Gv24 := Gv24.keep K25 (ninS (Ne.symm ne_b1_x24) nin0)
  replace Gc24 := Gc24.keep K25 (ninS (Ne.symm ne_b1_x24) nin0)
  replace Vr24 := Vr24.keep K25 (ninS (Ne.symm ne_b1_r24) nin0)
  replace C := C.trans Sk_K25
  replace hk := Nat.le_trans hk K25.1
  replace O := O.keep K25 (allS g_b1 all0)
  replace K := K.trans K25 (allS (Or.inr sz_b1) all0)
  refine Go.by (T' := T25) (f' := (mkF m 47 #[.val .null, .val (.int vi)] [(.ref b1)])) (fun _ k => st25.trans k) ?_
  obtain ⟨fs, hr, hrun, hended, q1, q2, q3, q4⟩ := X25.leaveW hS hk (v := some (.ref b1)) (fun h => by rw [Bd.returns] at h; cases h)
  refine ⟨_, _, retOut X25 hx Bd.returns rfl (Or.inr (Or.inr (Or.inr (Or.inr ⟨rfl, rfl, rfl⟩)))) (hb hby d_nl0_47) hr, hrun, hended, _, _, rfl, ?_, ?_, q1, q2, q3, q4.mono (by decide) (by decide)⟩
  · show Qnl Z .null ls h0 n0 (some (.ref b1)) T25.heap _
    exact ⟨_, rfl, N, K, E_b1, Ft25, Fi25⟩
  · show CHr Z consts_1 s.vm s.heap T25.vm T25.heap
    rw [hh]
    exact C.trans (CHv.at X25 hZ hEL C.1)

theorem d_nl1_0 : decode prog_72_method_2_code 0 = .ok (.new 8, 3) := by decide +kernel
theorem d_nl1_3 : decode prog_72_method_2_code 3 = .ok (.dup, 1) := by decide +kernel
theorem d_nl1_4 : decode prog_72_method_2_code 4 = .ok (.aload_n 0, 1) := by decide +kernel
theorem d_nl1_5 : decode prog_72_method_2_code 5 = .ok (.getstatic 17, 3) := by decide +kernel
theorem d_nl1_8 : decode prog_72_method_2_code 8 = .ok (.new 22, 3) := by decide +kernel
theorem d_nl1_11 : decode prog_72_method_2_code 11 = .ok (.dup, 1) := by decide +kernel
theorem d_nl1_12 : decode prog_72_method_2_code 12 = .ok (.invokespecial 24, 3) := by decide +kernel
theorem d_nl1_15 : decode prog_72_method_2_code 15 = .ok (.ldc 27, 2) := by decide +kernel
theorem d_nl1_17 : decode prog_72_method_2_code 17 = .ok (.invokevirtual 29, 3) := by decide +kernel
theorem d_nl1_20 : decode prog_72_method_2_code 20 = .ok (.aload_n 0, 1) := by decide +kernel
theorem d_nl1_21 : decode prog_72_method_2_code 21 = .ok (.invokevirtual 29, 3) := by decide +kernel
theorem d_nl1_24 : decode prog_72_method_2_code 24 = .ok (.ldc 33, 2) := by decide +kernel
theorem d_nl1_26 : decode prog_72_method_2_code 26 = .ok (.invokevirtual 29, 3) := by decide +kernel
theorem d_nl1_29 : decode prog_72_method_2_code 29 = .ok (.iload_n 1, 1) := by decide +kernel
theorem d_nl1_30 : decode prog_72_method_2_code 30 = .ok (.invokestatic 35, 3) := by decide +kernel
theorem d_nl1_33 : decode prog_72_method_2_code 33 = .ok (.invokevirtual 29, 3) := by decide +kernel
theorem d_nl1_36 : decode prog_72_method_2_code 36 = .ok (.ldc 39, 2) := by decide +kernel
theorem d_nl1_38 : decode prog_72_method_2_code 38 = .ok (.invokevirtual 29, 3) := by decide +kernel
theorem d_nl1_41 : decode prog_72_method_2_code 41 = .ok (.invokevirtual 41, 3) := by decide +kernel
theorem d_nl1_44 : decode prog_72_method_2_code 44 = .ok (.invokespecial 45, 3) := by decide +kernel
theorem d_nl1_47 : decode prog_72_method_2_code 47 = .ok (.areturn, 1) := by decide +kernel
theorem pn_nl1 : plainFor (⟨"com/example/swapdeck/swapdeck/swap/CloseOutException", "noLoss", "(Ljava/lang/String;I)Lcom/example/swapdeck/swapdeck/swap/CloseOutException;"⟩ : MethodName) = true := plainFor_of_name (by first | (simp [plainName, overriddenIn]; done) | decide +kernel)
theorem pd_nl1_0 : parseMethodDescriptor "()V" = some ⟨[], none⟩ := by decide +kernel
theorem pd_nl1_1 : parseMethodDescriptor "(Ljava/lang/String;)Ljava/lang/StringBuilder;" = some ⟨[(.object "java/lang/String")], some (.object "java/lang/StringBuilder")⟩ := by decide +kernel
theorem pd_nl1_2 : parseMethodDescriptor "(I)Ljava/lang/String;" = some ⟨[.int], some (.object "java/lang/String")⟩ := by decide +kernel
theorem pd_nl1_3 : parseMethodDescriptor "()Ljava/lang/String;" = some ⟨[], some (.object "java/lang/String")⟩ := by decide +kernel
theorem pd_nl1_4 : parseMethodDescriptor "(Ljava/lang/String;Lcom/example/swapdeck/swapdeck/swap/CloseOutException$Input;Ljava/lang/String;)V" = some ⟨[(.object "java/lang/String"), (.object "com/example/swapdeck/swapdeck/swap/CloseOutException$Input"), (.object "java/lang/String")], none⟩ := by decide +kernel
theorem ef_nl1 (m : MethodId) (x0 : Addr) (x1 : Int32) : entryFrame m #[(.ref x0), (.int x1)] 2 = mkF m 0 #[.val (.ref x0), .val (.int x1)] [] := by first | (simp [entryFrame, mkF, argsToLocals, Value.category]; done) | rfl
set_option maxRecDepth 65536 in
set_option maxHeartbeats 40000000 in
theorem rm_nl1 (l : Launch) (Z : State) (a0 : Array Value) (hw : ∀ d ∈ tables_1, d.before a0 Z = true) (ws : List Jvm.Cond) (hl : l.stackTraces = true) (hch : Hch Z a0) (hEL : EW Z a0 consts_1) (x tx : Addr) (kx : ClassId) (lx : Nat) (vx : List Value) (vi : Int32) (zc : Int32) (ls us ss : Addr) (hS0 : Sf Z zc ls us ss) (h0 : Heap) (n0 : Nat) (O : Old Z n0 h0) (E_x : Exa Z h0 x "java/lang/String") (Fv_x : Fld Z h0 x "java/lang/String" "value" "[B" (.ref tx)) (Fc_x : Fld Z h0 x "java/lang/String" "coder" "B" (.int 0)) (V_tx : Arv Z h0 tx kx .byte (Int32.ofNat lx) vx (.int 0)) (hlx : lx ≤ 2) :
    MetFree l (⟨"com/example/swapdeck/swapdeck/swap/CloseOutException", "noLoss", "(Ljava/lang/String;I)Lcom/example/swapdeck/swapdeck/swap/CloseOutException;"⟩ : MethodName) (head1 (Jvm.Cond.code (⟨"com/example/swapdeck/swapdeck/swap/CloseOutException", "noLoss", "(Ljava/lang/String;I)Lcom/example/swapdeck/swapdeck/swap/CloseOutException;"⟩ : MethodName) prog_72_method_2_code 2 (some (.object "com/example/swapdeck/swapdeck/swap/CloseOutException")) :: ws) ({ frames := 7, cells := 25, slots := 5728, locals := 123 } : Room)) (fun as_ U => as_ = #[(.ref x), (.int vi)] ∧ Z.Warmed39 U.vm ∧ U.heap = h0 ∧ CHv Z consts_1 U.vm h0) (fun _ _ bl s _ => s.vm.MethodsKnown ∧ s.vm.FramesKnown bl) (fun _ U o U' => ∃ v L, o = .returned v ∧ Qnl Z (.ref x) ls h0 n0 v U'.heap L ∧ CHr Z consts_1 U.vm U.heap U'.vm U'.heap ∧ ReturnedEndW U o U' L ({ frames := 7, cells := 25, slots := 5728, locals := 123 } : Room).cells ({ frames := 7, cells := 25, slots := 5728, locals := 123 } : Room).slots) := by
  refine MetFree.of_bodySF pn_nl1 hisR ?_
  intro p e s m args below meth c s₁ Bd hml0 hP hK
  obtain ⟨rfl, hZ, hh, H0⟩ := hP
  have hx := Bd.exec
  have hby := Bd.bytes
  have hml : c.maxLocals = 2 := hml0
  have hown : s.vm.findClass "com/example/swapdeck/swapdeck/swap/CloseOutException" = some m.cls := findClass_of_methodNamed Bd.named
  have hnm := (name_of_methodNamed Bd.named Bd.method).1
  have X0 : Stand p l e ({ frames := 7, cells := 25, slots := 5728, locals := 123 } : Room) (s.setVm s.vm) m #[(.ref x), (.int vi)] below meth c s₁ [] 0 0 := Stand.of_body Bd
  have e0 : s₁.heap = h0 := by rw [← hh, Bd.state]; rfl
  replace hZ : Z.Warmed39 (s.setVm s.vm).vm := hZ
  replace hown : (s.setVm s.vm).vm.findClass "com/example/swapdeck/swapdeck/swap/CloseOutException" = some m.cls := hown
  have N := Fr.nil n0
  have hS : s.Since s.vm s.heap.size := (State.WarmedH.refl s).since _
  have hk : s.heap.size ≤ h0.size := Nat.le_of_eq (by rw [hh])
  have C : CHr Z consts_1 s.vm h0 s.vm h0 := CHr.refl H0
  have K : Keep h0 h0 [] := Keep.refl _ _
  refine Go.by (T' := s₁) (f' := (mkF m 0 #[.val (.ref x), .val (.int vi)] [])) (fun _ k => castTop (ef_nl1 m x vi) k) ?_
  obtain ⟨T1, h1, X1, e1, E1, A1, D1, U1, st1⟩ := newO X0 hx hZ hown (hw _ (List.mem_of_getElem? (i := 26) rfl)) (hw _ (List.mem_of_getElem? (i := 27) rfl)) (hw _ (List.mem_of_getElem? (i := 24) rfl)) e0 (g := (mkF m 0 #[.val (.ref x), .val (.int vi)] [])) rfl (hb hby d_nl1_0) (by decide) (by decide)
  obtain ⟨b1, g1⟩ : ∃ z, z = h0.size := ⟨_, rfl⟩
  rw [← g1] at A1 D1 U1 st1
  have ne_x_b1 : x ≠ b1 := Nat.ne_of_lt (Nat.lt_of_lt_of_le E_x.lt (Nat.le_of_eq g1.symm))
  have ne_tx_b1 : tx ≠ b1 := Nat.ne_of_lt (Nat.lt_of_lt_of_le V_tx.lt (Nat.le_of_eq g1.symm))
  have g_b1 : n0 ≤ b1 := Nat.le_trans (Old.le O) (Nat.le_of_eq g1.symm)
  have sz_b1 : h0.size ≤ b1 := Nat.le_trans K.1 (Nat.le_of_eq g1.symm)
  have Sf_b1 : Safe Z consts_1 s.vm h0 b1 := Safe.new (Nat.le_of_eq g1.symm)
  replace E_x := E_x.ext E1
  replace Fv_x := Fv_x.ext E1
  replace Fc_x := Fc_x.ext E1
  replace V_tx := V_tx.ext E1
  replace Sf_b1 := Safe.ext E1 C.1 Sf_b1
  replace O := O.ext E1
  replace K := K.ext E1
  replace C := C.trans (CHr.ext E1 C.1)
  replace hk := Nat.le_trans hk E1.1
  have E_b1 := A1
  have F_cause_b1 : Fld Z h1 b1 "java/lang/Throwable" "cause" "Ljava/lang/Throwable;" .null := D1 (Or.inl (hw _ (List.mem_of_getElem? (i := 209) rfl))) (ty := (.object "java/lang/Throwable")) (by decide)
  have F_stackTrace_b1 : Fld Z h1 b1 "java/lang/Throwable" "stackTrace" "[Ljava/lang/StackTraceElement;" .null := D1 (Or.inl (hw _ (List.mem_of_getElem? (i := 212) rfl))) (ty := (.array (.object "java/lang/StackTraceElement"))) (by decide)
  have F_suppressedExceptions_b1 : Fld Z h1 b1 "java/lang/Throwable" "suppressedExceptions" "Ljava/util/List;" .null := D1 (Or.inl (hw _ (List.mem_of_getElem? (i := 215) rfl))) (ty := (.object "java/util/List")) (by decide)
  have F_detailMessage_b1 : Fld Z h1 b1 "java/lang/Throwable" "detailMessage" "Ljava/lang/String;" .null := D1 (Or.inl (hw _ (List.mem_of_getElem? (i := 239) rfl))) (ty := (.object "java/lang/String")) (by decide)
  have F_backtrace_b1 : Fld Z h1 b1 "java/lang/Throwable" "backtrace" "Ljava/lang/Object;" .null := D1 (Or.inl (hw _ (List.mem_of_getElem? (i := 240) rfl))) (ty := (.object "java/lang/Object")) (by decide)
  have F_depth_b1 : Fld Z h1 b1 "java/lang/Throwable" "depth" "I" (.int (0 : Int32)) := D1 (Or.inl (hw _ (List.mem_of_getElem? (i := 241) rfl))) (ty := .int) (by decide)
  have F_trade_b1 : Fld Z h1 b1 "com/example/swapdeck/swapdeck/swap/CloseOutException" "trade" "Ljava/lang/String;" .null := D1 (Or.inr (hw _ (List.mem_of_getElem? (i := 245) rfl))) (ty := (.object "java/lang/String")) (by decide)
  have F_input_b1 : Fld Z h1 b1 "com/example/swapdeck/swapdeck/swap/CloseOutException" "input" "Lcom/example/swapdeck/swapdeck/swap/CloseOutException$Input;" .null := D1 (Or.inr (hw _ (List.mem_of_getElem? (i := 247) rfl))) (ty := (.object "com/example/swapdeck/swapdeck/swap/CloseOutException$Input")) (by decide)
  have U_b1 : Unt h1 b1 := U1
  refine Go.by (T' := T1) (f' := (mkF m 3 #[.val (.ref x), .val (.int vi)] [(.ref b1)])) (st1) ?_
  refine Go.by (T' := T1) (f' := (mkF m 4 #[.val (.ref x), .val (.int vi)] [(.ref b1), (.ref b1)])) (fun _ k => XS.dup X1.here hx rfl (hb hby d_nl1_3) rfl rfl k) ?_
  refine Go.by (T' := T1) (f' := (mkF m 5 #[.val (.ref x), .val (.int vi)] [(.ref x), (.ref b1), (.ref b1)])) (fun _ k => XS.aloadN X1.here hx rfl (hb hby d_nl1_4) rfl rfl k) ?_
  obtain ⟨T2, X2, e2, st2⟩ := getS2 X1 hx hZ hown (host := "") (Or.inl (hw _ (List.mem_of_getElem? (i := 28) rfl))) Via.refl e1 (Sta.ext O.2 hS0.2.2.1) (g := (mkF m 5 #[.val (.ref x), .val (.int vi)] [(.ref x), (.ref b1), (.ref b1)])) rfl (hb hby d_nl1_5)
  refine Go.by (T' := T2) (f' := (mkF m 8 #[.val (.ref x), .val (.int vi)] [(.ref ls), (.ref x), (.ref b1), (.ref b1)])) (st2) ?_
  obtain ⟨T3, h3, X3, e3, E3, A3, D3, -, st3⟩ := newO X2 hx hZ hown (hw _ (List.mem_of_getElem? (i := 31) rfl)) (hw _ (List.mem_of_getElem? (i := 32) rfl)) (hw _ (List.mem_of_getElem? (i := 33) rfl)) e2 (g := (mkF m 8 #[.val (.ref x), .val (.int vi)] [(.ref ls), (.ref x), (.ref b1), (.ref b1)])) rfl (hb hby d_nl1_8) (by decide) (by decide)
  obtain ⟨b3, g3⟩ : ∃ z, z = h1.size := ⟨_, rfl⟩
  rw [← g3] at A3 D3 st3
  have ne_x_b3 : x ≠ b3 := Nat.ne_of_lt (Nat.lt_of_lt_of_le E_x.lt (Nat.le_of_eq g3.symm))
  have ne_tx_b3 : tx ≠ b3 := Nat.ne_of_lt (Nat.lt_of_lt_of_le V_tx.lt (Nat.le_of_eq g3.symm))
  have ne_b1_b3 : b1 ≠ b3 := Nat.ne_of_lt (Nat.lt_of_lt_of_le E_b1.lt (Nat.le_of_eq g3.symm))
  have g_b3 : n0 ≤ b3 := Nat.le_trans (Old.le O) (Nat.le_of_eq g3.symm)
  have sz_b3 : h0.size ≤ b3 := Nat.le_trans K.1 (Nat.le_of_eq g3.symm)
  have Sf_b3 : Safe Z consts_1 s.vm h1 b3 := Safe.new (Nat.le_of_eq g3.symm)
  replace E_x := E_x.ext E3
  replace Fv_x := Fv_x.ext E3
  replace Fc_x := Fc_x.ext E3
  replace V_tx := V_tx.ext E3
  replace Sf_b1 := Safe.ext E3 C.1 Sf_b1
  replace E_b1 := E_b1.ext E3
  replace F_cause_b1 := F_cause_b1.ext E3
  replace F_stackTrace_b1 := F_stackTrace_b1.ext E3
  replace F_suppressedExceptions_b1 := F_suppressedExceptions_b1.ext E3
  replace F_detailMessage_b1 := F_detailMessage_b1.ext E3
  replace F_backtrace_b1 := F_backtrace_b1.ext E3
  replace U_b1 := U_b1.ext E3
  replace Sf_b3 := Safe.ext E3 C.1 Sf_b3
  replace O := O.ext E3
  replace K := K.ext E3
  replace C := C.trans (CHr.ext E3 C.1)
  replace hk := Nat.le_trans hk E3.1
  have E_b3 := A3
  have F_value_b3 : Fld Z h3 b3 "java/lang/AbstractStringBuilder" "value" "[B" .null := D3 (Or.inl (hw _ (List.mem_of_getElem? (i := 46) rfl))) (ty := (.array .byte)) (by decide)
  have F_coder_b3 : Fld Z h3 b3 "java/lang/AbstractStringBuilder" "coder" "B" (.int (0 : Int32)) := D3 (Or.inl (hw _ (List.mem_of_getElem? (i := 48) rfl))) (ty := .byte) (by decide)
  have F_count_b3 : Fld Z h3 b3 "java/lang/AbstractStringBuilder" "count" "I" (.int (0 : Int32)) := D3 (Or.inl (hw _ (List.mem_of_getElem? (i := 72) rfl))) (ty := .int) (by decide)
  refine Go.by (T' := T3) (f' := (mkF m 11 #[.val (.ref x), .val (.int vi)] [(.ref b3), (.ref ls), (.ref x), (.ref b1), (.ref b1)])) (st3) ?_
  refine Go.by (T' := T3) (f' := (mkF m 12 #[.val (.ref x), .val (.int vi)] [(.ref b3), (.ref b3), (.ref ls), (.ref x), (.ref b1), (.ref b1)])) (fun _ k => XS.dup X3.here hx rfl (hb hby d_nl1_11) rfl rfl k) ?_
  obtain ⟨v4, _, ⟨T4, L4, k4, n4⟩, -, X4, ⟨Lc4, hQ4, l4, y4, z4⟩, st4⟩ := X3.specialBack hx (y := (⟨"java/lang/StringBuilder", "<init>", "()V"⟩ : MethodName)) rfl hown (mvT hZ (hw _ (List.mem_of_getElem? (i := 34) rfl))) (mvT hZ (hw _ (List.mem_of_getElem? (i := 35) rfl))) (mvT hZ (hw _ (List.mem_of_getElem? (i := 36) rfl))) (by decide) (backOf (W := 5) (rm_sbi l Z a0 hw [] b3 zc ls us ss hS0 h3 n0 O E_b3 F_value_b3 F_coder_b3 F_count_b3 g_b3) hZ (hw _ (List.mem_of_getElem? (i := 36) rfl)) (hw _ (List.mem_of_getElem? (i := 33) rfl)) (by decide) (by decide)) (g := (mkF m 12 #[.val (.ref x), .val (.int vi)] [(.ref b3), (.ref b3), (.ref ls), (.ref x), (.ref b1), (.ref b1)])) rfl (by rw [hml]; rfl) (Steps.refl _) (a := b3) (argsL := []) (rest := [(.ref b3), (.ref ls), (.ref x), (.ref b1), (.ref b1)]) (lenOf pd_nl1_0 rfl) rfl (by show 2 * 0 + _ ≤ _; exact Nat.le_of_eq rfl) (hb hby d_nl1_12) (fun _ _ => ⟨rfl, e3, (by decide : 2 + 1 ≤ _), (by decide : 12 + 16 ≤ _)⟩)
  dsimp only [Pt.U, Pt.locs, Pt.cells, Pt.slots] at X4 l4 y4 z4 st4 hQ4
  subst l4 y4 z4
  obtain ⟨rfl, Nq4, K4, t4, k24, vs4, gt4, Gv4, Gc4, Gn4, Vt4, Et4⟩ := hQ4
  replace N := Fr.app N Nq4
  have ne_x_t4 : x ≠ t4 := Nat.ne_of_lt (Nat.lt_of_lt_of_le E_x.lt gt4)
  have ne_tx_t4 : tx ≠ t4 := Nat.ne_of_lt (Nat.lt_of_lt_of_le V_tx.lt gt4)
  have ne_b1_t4 : b1 ≠ t4 := Nat.ne_of_lt (Nat.lt_of_lt_of_le E_b1.lt gt4)
  have ne_b3_t4 : b3 ≠ t4 := Nat.ne_of_lt (Nat.lt_of_lt_of_le E_b3.lt gt4)
  have g_t4 : n0 ≤ t4 := Nat.le_trans (Old.le O) gt4
  have sz_t4 : h0.size ≤ t4 := Nat.le_trans K.1 gt4
  have Sf_t4 : Safe Z consts_1 s.vm h3 t4 := Safe.new gt4
  have hs_K4 : ∀ x ∈ ([b3] : List Addr), Safe Z consts_1 s.vm h3 x := (sfS Sf_b3 sf0)
  have Sk_K4 := CHr.keep (Z := Z) (EL := consts_1) (vm := s.vm) K4 hs_K4 C.1
  replace Sf_b1 := Safe.keep K4 hs_K4 C.1 Sf_b1
  replace Sf_b3 := Safe.keep K4 hs_K4 C.1 Sf_b3
  replace Sf_t4 := Safe.keep K4 hs_K4 C.1 Sf_t4
  replace E_x := E_x.keep K4
  replace Fv_x := Fv_x.keep K4 (ninS ne_x_b3 nin0)
  replace Fc_x := Fc_x.keep K4 (ninS ne_x_b3 nin0)
  replace V_tx := V_tx.keep K4 (ninS ne_tx_b3 nin0)
  replace E_b1 := E_b1.keep K4
  replace F_cause_b1 := F_cause_b1.keep K4 (ninS ne_b1_b3 nin0)
  replace F_stackTrace_b1 := F_stackTrace_b1.keep K4 (ninS ne_b1_b3 nin0)
  replace F_suppressedExceptions_b1 := F_suppressedExceptions_b1.keep K4 (ninS ne_b1_b3 nin0)
  replace F_detailMessage_b1 := F_detailMessage_b1.keep K4 (ninS ne_b1_b3 nin0)
  replace F_backtrace_b1 := F_backtrace_b1.keep K4 (ninS ne_b1_b3 nin0)
  replace U_b1 := Unt.keep K4 (ninS ne_b1_b3 nin0) U_b1
  replace E_b3 := E_b3.keep K4
  replace C := C.trans Sk_K4
  replace hk := Nat.le_trans hk K4.1
  replace O := O.keep K4 (allS g_b3 all0)
  replace K := K.trans K4 (allS (Or.inr sz_b3) all0)
  refine Go.by (T' := T4) (f' := (mkF m 15 #[.val (.ref x), .val (.int vi)] [(.ref b3), (.ref ls), (.ref x), (.ref b1), (.ref b1)])) (fun _ k => st4.trans k) ?_
  obtain ⟨sa5, T5, h5, k15, sb5, kc5, X5, e5, E5, hS5, hk5, hZ5, hown5, Es5, Fc5, Fv5, Va5, -, -, C5, -, ne5, st5⟩ := ldcCH X4 hx hZ hown (hw _ (List.mem_of_getElem? (i := 49) rfl)) (fun d hd => hw d (own_wS d hd)) rfl hS hk hEL (by decide +kernel) C.1 (text := "trade ") (z := Int32.ofNat 6) ⟨by decide +kernel, rfl⟩ (by decide) (by decide +kernel) (g := (mkF m 15 #[.val (.ref x), .val (.int vi)] [(.ref b3), (.ref ls), (.ref x), (.ref b1), (.ref b1)])) rfl (hb hby d_nl1_15) (n := 24) (by decide +kernel) (by decide) (by decide) (by decide)
  replace Sf_b1 := CHr.safe C5 E_b1.lt Sf_b1
  have nx5_b1 := ne5 _ Sf_b1
  replace Sf_b3 := CHr.safe C5 E_b3.lt Sf_b3
  have nx5_b3 := ne5 _ Sf_b3
  replace Sf_t4 := CHr.safe C5 Vt4.lt Sf_t4
  have nx5_t4 := ne5 _ Sf_t4
  replace E_x := E_x.ext E5
  replace Fv_x := Fv_x.ext E5
  replace Fc_x := Fc_x.ext E5
  replace V_tx := V_tx.ext E5
  replace E_b1 := E_b1.ext E5
  replace F_cause_b1 := F_cause_b1.ext E5
  replace F_stackTrace_b1 := F_stackTrace_b1.ext E5
  replace F_suppressedExceptions_b1 := F_suppressedExceptions_b1.ext E5
  replace F_detailMessage_b1 := F_detailMessage_b1.ext E5
  replace F_backtrace_b1 := F_backtrace_b1.ext E5
  replace U_b1 := U_b1.ext E5
  replace E_b3 := E_b3.ext E5
  replace Gv4 := Gv4.ext E5
  replace Gc4 := Gc4.ext E5
  replace Gn4 := Gn4.ext E5
  replace Vt4 := Vt4.ext E5
  replace Et4 := Et4.ext E5
  replace O := O.ext E5
  replace K := K.ext E5
  replace C := C.trans C5
  replace hk := hk5
  replace hS := hS5
  replace hZ := hZ5
  replace hown := hown5
  refine Go.by (T' := T5) (f' := (mkF m 17 #[.val (.ref x), .val (.int vi)] [(.ref sa5), (.ref b3), (.ref ls), (.ref x), (.ref b1), (.ref b1)])) (st5) ?_
  have hi6a : 16 ≤ 300 := by omega
  have hi6b : 16 ≤ 16 := by omega
  have hi6c : 0 ≤ 16 := by omega
  have hv6 : 0 + 6 ≤ 150 := by omega
  obtain ⟨cq6, kq6, q6a, q6b, q6c⟩ := isOf hZ e5 E_b3
  obtain ⟨v6, _, ⟨T6, L6, k6, n6⟩, -, X6, ⟨Lc6, hQ6, l6, y6, z6⟩, st6⟩ := X5.virtualBack hx (y := (⟨"java/lang/StringBuilder", "append", "(Ljava/lang/String;)Ljava/lang/StringBuilder;"⟩ : MethodName)) (z := (⟨"java/lang/StringBuilder", "append", "(Ljava/lang/String;)Ljava/lang/StringBuilder;"⟩ : MethodName)) hown (mvT hZ (hw _ (List.mem_of_getElem? (i := 50) rfl))) (mvT hZ (hw _ (List.mem_of_getElem? (i := 51) rfl))) (notFace_of_selects (args := #[]) (mvT hZ (hw _ (List.mem_of_getElem? (i := 53) rfl)))) (mvT hZ (hw _ (List.mem_of_getElem? (i := 53) rfl))) (mvT hZ (hw _ (List.mem_of_getElem? (i := 52) rfl))) (by decide) (backOf (W := 4) (rm_sas l Z a0 hw [] b3 t4 _ (16) (0) _ sa5 sb5 _ (6) _ zc ls us ss hS0 h5 n0 O E_b3 Gv4 Gc4 Gn4 Vt4 Et4 g_b3 g_t4 hi6a hi6b hi6c Es5 Fv5 Fc5 Va5 (Ne.symm nx5_t4.2) hv6) hZ (hw _ (List.mem_of_getElem? (i := 54) rfl)) (hw _ (List.mem_of_getElem? (i := 33) rfl)) (by decide) (by decide)) q6a q6c (g := (mkF m 17 #[.val (.ref x), .val (.int vi)] [(.ref sa5), (.ref b3), (.ref ls), (.ref x), (.ref b1), (.ref b1)])) rfl (by rw [hml]; rfl) (Steps.refl _) (argsL := [(.ref sa5)]) (rest := [(.ref ls), (.ref x), (.ref b1), (.ref b1)]) (lenOf pd_nl1_1 rfl) rfl (by show 2 * 0 + _ ≤ _; exact Nat.le_of_eq rfl) (hb hby d_nl1_17) (fun _ _ => ⟨rfl, e5, (by decide : 5 + 1 ≤ _), (by decide : 56 + 300 ≤ _)⟩)
  dsimp only [Pt.U, Pt.locs, Pt.cells, Pt.slots] at X6 l6 y6 z6 st6 hQ6
  subst l6 y6 z6
  obtain ⟨rfl, Nq6, K6, t6, k26, L2_6, vs6, or6, hb61, hb62, hb63, Gv6, Gc6, Gn6, Vt6, Et6⟩ := hQ6
  replace N := Fr.app N Nq6
  have nt6_x : x ≠ t6 := own_orne or6 ne_x_t4 E_x.lt
  have nt6_tx : tx ≠ t6 := own_orne or6 ne_tx_t4 V_tx.lt
  have nt6_b1 : b1 ≠ t6 := own_orne or6 ne_b1_t4 E_b1.lt
  have nt6_sb5 : sb5 ≠ t6 := own_orne or6 (Ne.symm nx5_t4.2) Va5.lt
  have g_t6 : n0 ≤ t6 := own_or or6 g_t4 (Old.le O)
  have io_t6 : t6 ∈ ([] : List Addr) ∨ h0.size ≤ t6 := own_orin or6 (Or.inr sz_t4) K.1
  have Sf_t6 : Safe Z consts_1 T5.vm h5 t6 := by
    rcases or6 with q | q
    · rw [q]; exact Sf_t4
    · exact Safe.new q
  have hs_K6 : ∀ x ∈ ([b3, t4] : List Addr), Safe Z consts_1 T5.vm h5 x := (sfS Sf_b3 (sfS Sf_t4 sf0))
  have Sk_K6 := CHr.keep (Z := Z) (EL := consts_1) (vm := T5.vm) K6 hs_K6 C.1
  replace Sf_b1 := Safe.keep K6 hs_K6 C.1 Sf_b1
  replace Sf_b3 := Safe.keep K6 hs_K6 C.1 Sf_b3
  replace Sf_t4 := Safe.keep K6 hs_K6 C.1 Sf_t4
  replace Sf_t6 := Safe.keep K6 hs_K6 C.1 Sf_t6
  replace E_x := E_x.keep K6
  replace Fv_x := Fv_x.keep K6 (ninS ne_x_b3 (ninS ne_x_t4 nin0))
  replace Fc_x := Fc_x.keep K6 (ninS ne_x_b3 (ninS ne_x_t4 nin0))
  replace V_tx := V_tx.keep K6 (ninS ne_tx_b3 (ninS ne_tx_t4 nin0))
  replace E_b1 := E_b1.keep K6
  replace F_cause_b1 := F_cause_b1.keep K6 (ninS ne_b1_b3 (ninS ne_b1_t4 nin0))
  replace F_stackTrace_b1 := F_stackTrace_b1.keep K6 (ninS ne_b1_b3 (ninS ne_b1_t4 nin0))
  replace F_suppressedExceptions_b1 := F_suppressedExceptions_b1.keep K6 (ninS ne_b1_b3 (ninS ne_b1_t4 nin0))
  replace F_detailMessage_b1 := F_detailMessage_b1.keep K6 (ninS ne_b1_b3 (ninS ne_b1_t4 nin0))
  replace F_backtrace_b1 := F_backtrace_b1.keep K6 (ninS ne_b1_b3 (ninS ne_b1_t4 nin0))
  replace U_b1 := Unt.keep K6 (ninS ne_b1_b3 (ninS ne_b1_t4 nin0)) U_b1
  replace E_b3 := E_b3.keep K6
  replace Et4 := Et4.keep K6
  replace Es5 := Es5.keep K6
  replace Fc5 := Fc5.keep K6 (ninS (Ne.symm nx5_b3.1) (ninS (Ne.symm nx5_t4.1) nin0))
  replace Fv5 := Fv5.keep K6 (ninS (Ne.symm nx5_b3.1) (ninS (Ne.symm nx5_t4.1) nin0))
  replace Va5 := Va5.keep K6 (ninS (Ne.symm nx5_b3.2) (ninS (Ne.symm nx5_t4.2) nin0))
  replace C := C.trans Sk_K6
  replace hk := Nat.le_trans hk K6.1
  replace O := O.keep K6 (allS g_b3 (allS g_t4 all0))
  replace K := K.trans K6 (allS (Or.inr sz_b3) (allS (Or.inr sz_t4) all0))
  refine Go.by (T' := T6) (f' := (mkF m 20 #[.val (.ref x), .val (.int vi)] [(.ref b3), (.ref ls), (.ref x), (.ref b1), (.ref b1)])) (fun _ k => st6.trans k) ?_
  refine Go.by (T' := T6) (f' := (mkF m 21 #[.val (.ref x), .val (.int vi)] [(.ref x), (.ref b3), (.ref ls), (.ref x), (.ref b1), (.ref b1)])) (fun _ k => XS.aloadN X6.here hx rfl (hb hby d_nl1_20) rfl rfl k) ?_
  have hi7a : L2_6 ≤ 300 := by omega
  have hi7b : 16 ≤ L2_6 := by omega
  have hi7c : (0 + 6) ≤ L2_6 := by omega
  have hv7 : (0 + 6) + lx ≤ 150 := by omega
  obtain ⟨cq7, kq7, q7a, q7b, q7c⟩ := isOf hZ rfl E_b3
  obtain ⟨v7, _, ⟨T7, L7, k7, n7⟩, -, X7, ⟨Lc7, hQ7, l7, y7, z7⟩, st7⟩ := X6.virtualBack hx (y := (⟨"java/lang/StringBuilder", "append", "(Ljava/lang/String;)Ljava/lang/StringBuilder;"⟩ : MethodName)) (z := (⟨"java/lang/StringBuilder", "append", "(Ljava/lang/String;)Ljava/lang/StringBuilder;"⟩ : MethodName)) hown (mvT hZ (hw _ (List.mem_of_getElem? (i := 50) rfl))) (mvT hZ (hw _ (List.mem_of_getElem? (i := 51) rfl))) (notFace_of_selects (args := #[]) (mvT hZ (hw _ (List.mem_of_getElem? (i := 53) rfl)))) (mvT hZ (hw _ (List.mem_of_getElem? (i := 53) rfl))) (mvT hZ (hw _ (List.mem_of_getElem? (i := 52) rfl))) (by decide) (backOf (W := 4) (rm_sas l Z a0 hw [] b3 t6 _ (L2_6) ((0 + 6)) _ x tx _ (lx) _ zc ls us ss hS0 T6.heap n0 O E_b3 Gv6 Gc6 Gn6 Vt6 Et6 g_b3 g_t6 hi7a hi7b hi7c E_x Fv_x Fc_x V_tx nt6_tx hv7) hZ (hw _ (List.mem_of_getElem? (i := 54) rfl)) (hw _ (List.mem_of_getElem? (i := 33) rfl)) (by decide) (by decide)) q7a q7c (g := (mkF m 21 #[.val (.ref x), .val (.int vi)] [(.ref x), (.ref b3), (.ref ls), (.ref x), (.ref b1), (.ref b1)])) rfl (by rw [hml]; rfl) (Steps.refl _) (argsL := [(.ref x)]) (rest := [(.ref ls), (.ref x), (.ref b1), (.ref b1)]) (lenOf pd_nl1_1 rfl) rfl (by show 2 * 0 + _ ≤ _; exact Nat.le_of_eq rfl) (hb hby d_nl1_21) (fun _ _ => ⟨rfl, rfl, (by decide : 6 + 1 ≤ _), (by decide : 356 + 300 ≤ _)⟩)
  dsimp only [Pt.U, Pt.locs, Pt.cells, Pt.slots] at X7 l7 y7 z7 st7 hQ7
  subst l7 y7 z7
  obtain ⟨rfl, Nq7, K7, t7, k27, L2_7, vs7, or7, hb71, hb72, hb73, Gv7, Gc7, Gn7, Vt7, Et7⟩ := hQ7
  replace N := Fr.app N Nq7
  have nt7_x : x ≠ t7 := own_orne or7 nt6_x E_x.lt
  have nt7_tx : tx ≠ t7 := own_orne or7 nt6_tx V_tx.lt
  have nt7_b1 : b1 ≠ t7 := own_orne or7 nt6_b1 E_b1.lt
  have nt7_sb5 : sb5 ≠ t7 := own_orne or7 nt6_sb5 Va5.lt
  have g_t7 : n0 ≤ t7 := own_or or7 g_t6 (Old.le O)
  have io_t7 : t7 ∈ ([] : List Addr) ∨ h0.size ≤ t7 := own_orin or7 (io_t6) K.1
  have Sf_t7 : Safe Z consts_1 T5.vm T6.heap t7 := by
    rcases or7 with q | q
    · rw [q]; exact Sf_t6
    · exact Safe.new q
  have hs_K7 : ∀ x ∈ ([b3, t6] : List Addr), Safe Z consts_1 T5.vm T6.heap x := (sfS Sf_b3 (sfS Sf_t6 sf0))
  have Sk_K7 := CHr.keep (Z := Z) (EL := consts_1) (vm := T5.vm) K7 hs_K7 C.1
  replace Sf_b1 := Safe.keep K7 hs_K7 C.1 Sf_b1
  replace Sf_b3 := Safe.keep K7 hs_K7 C.1 Sf_b3
  replace Sf_t4 := Safe.keep K7 hs_K7 C.1 Sf_t4
  replace Sf_t6 := Safe.keep K7 hs_K7 C.1 Sf_t6
  replace Sf_t7 := Safe.keep K7 hs_K7 C.1 Sf_t7
  have nq8 : sa5 ≠ t6 := (ne_exa Es5 Et6 (by decide))
  replace E_x := E_x.keep K7
  replace Fv_x := Fv_x.keep K7 (ninS ne_x_b3 (ninS nt6_x nin0))
  replace Fc_x := Fc_x.keep K7 (ninS ne_x_b3 (ninS nt6_x nin0))
  replace V_tx := V_tx.keep K7 (ninS ne_tx_b3 (ninS nt6_tx nin0))
  replace E_b1 := E_b1.keep K7
  replace F_cause_b1 := F_cause_b1.keep K7 (ninS ne_b1_b3 (ninS nt6_b1 nin0))
  replace F_stackTrace_b1 := F_stackTrace_b1.keep K7 (ninS ne_b1_b3 (ninS nt6_b1 nin0))
  replace F_suppressedExceptions_b1 := F_suppressedExceptions_b1.keep K7 (ninS ne_b1_b3 (ninS nt6_b1 nin0))
  replace F_detailMessage_b1 := F_detailMessage_b1.keep K7 (ninS ne_b1_b3 (ninS nt6_b1 nin0))
  replace F_backtrace_b1 := F_backtrace_b1.keep K7 (ninS ne_b1_b3 (ninS nt6_b1 nin0))
  replace U_b1 := Unt.keep K7 (ninS ne_b1_b3 (ninS nt6_b1 nin0)) U_b1
  replace E_b3 := E_b3.keep K7
  replace Es5 := Es5.keep K7
  replace Fc5 := Fc5.keep K7 (ninS (Ne.symm nx5_b3.1) (ninS nq8 nin0))
  replace Fv5 := Fv5.keep K7 (ninS (Ne.symm nx5_b3.1) (ninS nq8 nin0))
  replace Va5 := Va5.keep K7 (ninS (Ne.symm nx5_b3.2) (ninS nt6_sb5 nin0))
  replace Et6 := Et6.keep K7
  replace C := C.trans Sk_K7
  replace hk := Nat.le_trans hk K7.1
  replace O := O.keep K7 (allS g_b3 (allS g_t6 all0))
  replace K := K.trans K7 (allS (Or.inr sz_b3) (allS (io_t6) all0))
  refine Go.by (T' := T7) (f' := (mkF m 24 #[.val (.ref x), .val (.int vi)] [(.ref b3), (.ref ls), (.ref x), (.ref b1), (.ref b1)])) (fun _ k => st7.trans k) ?_
  obtain ⟨sa9, T9, h9, k19, sb9, kc9, X9, e9, E9, hS9, hk9, hZ9, hown9, Es9, Fc9, Fv9, Va9, -, -, C9, -, ne9, st9⟩ := ldcCH X7 hx hZ hown (hw _ (List.mem_of_getElem? (i := 98) rfl)) (fun d hd => hw d (own_wS d hd)) rfl hS hk hEL (by decide +kernel) C.1 (text := " has ") (z := Int32.ofNat 5) ⟨by decide +kernel, rfl⟩ (by decide) (by decide +kernel) (g := (mkF m 24 #[.val (.ref x), .val (.int vi)] [(.ref b3), (.ref ls), (.ref x), (.ref b1), (.ref b1)])) rfl (hb hby d_nl1_24) (n := 20) (by decide +kernel) (by decide) (by decide) (by decide)
  replace Sf_b1 := CHr.safe C9 E_b1.lt Sf_b1
  have nx9_b1 := ne9 _ Sf_b1
  replace Sf_b3 := CHr.safe C9 E_b3.lt Sf_b3
  have nx9_b3 := ne9 _ Sf_b3
  replace Sf_t7 := CHr.safe C9 Vt7.lt Sf_t7
  have nx9_t7 := ne9 _ Sf_t7
  replace E_x := E_x.ext E9
  replace Fv_x := Fv_x.ext E9
  replace Fc_x := Fc_x.ext E9
  replace V_tx := V_tx.ext E9
  replace E_b1 := E_b1.ext E9
  replace F_cause_b1 := F_cause_b1.ext E9
  replace F_stackTrace_b1 := F_stackTrace_b1.ext E9
  replace F_suppressedExceptions_b1 := F_suppressedExceptions_b1.ext E9
  replace F_detailMessage_b1 := F_detailMessage_b1.ext E9
  replace F_backtrace_b1 := F_backtrace_b1.ext E9
  replace U_b1 := U_b1.ext E9
  replace E_b3 := E_b3.ext E9
  replace Es5 := Es5.ext E9
  replace Fc5 := Fc5.ext E9
  replace Fv5 := Fv5.ext E9
  replace Va5 := Va5.ext E9
  replace Gv7 := Gv7.ext E9
  replace Gc7 := Gc7.ext E9
  replace Gn7 := Gn7.ext E9
  replace Vt7 := Vt7.ext E9
  replace Et7 := Et7.ext E9
  replace O := O.ext E9
  replace K := K.ext E9
  replace C := C.trans C9
  replace hk := hk9
  replace hS := hS9
  replace hZ := hZ9
  replace hown := hown9
  refine Go.by (T' := T9) (f' := (mkF m 26 #[.val (.ref x), .val (.int vi)] [(.ref sa9), (.ref b3), (.ref ls), (.ref x), (.ref b1), (.ref b1)])) (st9) ?_
  have hi10a : L2_7 ≤ 300 := by omega
  have hi10b : 16 ≤ L2_7 := by omega
  have hi10c : ((0 + 6) + lx) ≤ L2_7 := by omega
  have hv10 : ((0 + 6) + lx) + 5 ≤ 150 := by omega
  obtain ⟨cq10, kq10, q10a, q10b, q10c⟩ := isOf hZ e9 E_b3
  obtain ⟨v10, _, ⟨T10, L10, k10, n10⟩, -, X10, ⟨Lc10, hQ10, l10, y10, z10⟩, st10⟩ := X9.virtualBack hx (y := (⟨"java/lang/StringBuilder", "append", "(Ljava/lang/String;)Ljava/lang/StringBuilder;"⟩ : MethodName)) (z := (⟨"java/lang/StringBuilder", "append", "(Ljava/lang/String;)Ljava/lang/StringBuilder;"⟩ : MethodName)) hown (mvT hZ (hw _ (List.mem_of_getElem? (i := 50) rfl))) (mvT hZ (hw _ (List.mem_of_getElem? (i := 51) rfl))) (notFace_of_selects (args := #[]) (mvT hZ (hw _ (List.mem_of_getElem? (i := 53) rfl)))) (mvT hZ (hw _ (List.mem_of_getElem? (i := 53) rfl))) (mvT hZ (hw _ (List.mem_of_getElem? (i := 52) rfl))) (by decide) (backOf (W := 4) (rm_sas l Z a0 hw [] b3 t7 _ (L2_7) (((0 + 6) + lx)) _ sa9 sb9 _ (5) _ zc ls us ss hS0 h9 n0 O E_b3 Gv7 Gc7 Gn7 Vt7 Et7 g_b3 g_t7 hi10a hi10b hi10c Es9 Fv9 Fc9 Va9 (Ne.symm nx9_t7.2) hv10) hZ (hw _ (List.mem_of_getElem? (i := 54) rfl)) (hw _ (List.mem_of_getElem? (i := 33) rfl)) (by decide) (by decide)) q10a q10c (g := (mkF m 26 #[.val (.ref x), .val (.int vi)] [(.ref sa9), (.ref b3), (.ref ls), (.ref x), (.ref b1), (.ref b1)])) rfl (by rw [hml]; rfl) (Steps.refl _) (argsL := [(.ref sa9)]) (rest := [(.ref ls), (.ref x), (.ref b1), (.ref b1)]) (lenOf pd_nl1_1 rfl) rfl (by show 2 * 0 + _ ≤ _; exact Nat.le_of_eq rfl) (hb hby d_nl1_26) (fun _ _ => ⟨rfl, e9, (by decide : 9 + 1 ≤ _), (by decide : 680 + 300 ≤ _)⟩)
  dsimp only [Pt.U, Pt.locs, Pt.cells, Pt.slots] at X10 l10 y10 z10 st10 hQ10
  subst l10 y10 z10
  obtain ⟨rfl, Nq10, K10, t10, k210, L2_10, vs10, or10, hb101, hb102, hb103, Gv10, Gc10, Gn10, Vt10, Et10⟩ := hQ10
  replace N := Fr.app N Nq10
  have nt10_x : x ≠ t10 := own_orne or10 nt7_x E_x.lt
  have nt10_tx : tx ≠ t10 := own_orne or10 nt7_tx V_tx.lt
  have nt10_b1 : b1 ≠ t10 := own_orne or10 nt7_b1 E_b1.lt
  have nt10_sb5 : sb5 ≠ t10 := own_orne or10 nt7_sb5 Va5.lt
  have nt10_sb9 : sb9 ≠ t10 := own_orne or10 (Ne.symm nx9_t7.2) Va9.lt
  have g_t10 : n0 ≤ t10 := own_or or10 g_t7 (Old.le O)
  have io_t10 : t10 ∈ ([] : List Addr) ∨ h0.size ≤ t10 := own_orin or10 (io_t7) K.1
  have Sf_t10 : Safe Z consts_1 T9.vm h9 t10 := by
    rcases or10 with q | q
    · rw [q]; exact Sf_t7
    · exact Safe.new q
  have hs_K10 : ∀ x ∈ ([b3, t7] : List Addr), Safe Z consts_1 T9.vm h9 x := (sfS Sf_b3 (sfS Sf_t7 sf0))
  have Sk_K10 := CHr.keep (Z := Z) (EL := consts_1) (vm := T9.vm) K10 hs_K10 C.1
  replace Sf_b1 := Safe.keep K10 hs_K10 C.1 Sf_b1
  replace Sf_b3 := Safe.keep K10 hs_K10 C.1 Sf_b3
  replace Sf_t7 := Safe.keep K10 hs_K10 C.1 Sf_t7
  replace Sf_t10 := Safe.keep K10 hs_K10 C.1 Sf_t10
  have nq11 : sa5 ≠ t7 := (ne_exa Es5 Et7 (by decide))
  replace E_x := E_x.keep K10
  replace Fv_x := Fv_x.keep K10 (ninS ne_x_b3 (ninS nt7_x nin0))
  replace Fc_x := Fc_x.keep K10 (ninS ne_x_b3 (ninS nt7_x nin0))
  replace V_tx := V_tx.keep K10 (ninS ne_tx_b3 (ninS nt7_tx nin0))
  replace E_b1 := E_b1.keep K10
  replace F_cause_b1 := F_cause_b1.keep K10 (ninS ne_b1_b3 (ninS nt7_b1 nin0))
  replace F_stackTrace_b1 := F_stackTrace_b1.keep K10 (ninS ne_b1_b3 (ninS nt7_b1 nin0))
  replace F_suppressedExceptions_b1 := F_suppressedExceptions_b1.keep K10 (ninS ne_b1_b3 (ninS nt7_b1 nin0))
  replace F_detailMessage_b1 := F_detailMessage_b1.keep K10 (ninS ne_b1_b3 (ninS nt7_b1 nin0))
  replace F_backtrace_b1 := F_backtrace_b1.keep K10 (ninS ne_b1_b3 (ninS nt7_b1 nin0))
  replace U_b1 := Unt.keep K10 (ninS ne_b1_b3 (ninS nt7_b1 nin0)) U_b1
  replace E_b3 := E_b3.keep K10
  replace Es5 := Es5.keep K10
  replace Fc5 := Fc5.keep K10 (ninS (Ne.symm nx5_b3.1) (ninS nq11 nin0))
  replace Fv5 := Fv5.keep K10 (ninS (Ne.symm nx5_b3.1) (ninS nq11 nin0))
  replace Va5 := Va5.keep K10 (ninS (Ne.symm nx5_b3.2) (ninS nt7_sb5 nin0))
  replace Et7 := Et7.keep K10
  replace Es9 := Es9.keep K10
  replace Fc9 := Fc9.keep K10 (ninS (Ne.symm nx9_b3.1) (ninS (Ne.symm nx9_t7.1) nin0))
  replace Fv9 := Fv9.keep K10 (ninS (Ne.symm nx9_b3.1) (ninS (Ne.symm nx9_t7.1) nin0))
  replace Va9 := Va9.keep K10 (ninS (Ne.symm nx9_b3.2) (ninS (Ne.symm nx9_t7.2) nin0))
  replace C := C.trans Sk_K10
  replace hk := Nat.le_trans hk K10.1
  replace O := O.keep K10 (allS g_b3 (allS g_t7 all0))
  replace K := K.trans K10 (allS (Or.inr sz_b3) (allS (io_t7) all0))
  refine Go.by (T' := T10) (f' := (mkF m 29 #[.val (.ref x), .val (.int vi)] [(.ref b3), (.ref ls), (.ref x), (.ref b1), (.ref b1)])) (fun _ k => st10.trans k) ?_
  refine Go.by (T' := T10) (f' := (mkF m 30 #[.val (.ref x), .val (.int vi)] [(.int vi), (.ref b3), (.ref ls), (.ref x), (.ref b1), (.ref b1)])) (fun _ k => XS.iloadN X10.here hx rfl (hb hby d_nl1_29) rfl k) ?_
  obtain ⟨v12, _, ⟨T12, L12, k12, n12⟩, -, X12, hS12, hg12, ⟨Lc12, hQ12, l12, y12, z12, C12⟩, st12⟩ := callSS X10 hx (y := (⟨"com/example/swapdeck/swapdeck/swap/CloseOutException", "quotations", "(I)Ljava/lang/String;"⟩ : MethodName)) hown (mvT hZ (hw _ (List.mem_of_getElem? (i := 99) rfl))) (mvT hZ (hw _ (List.mem_of_getElem? (i := 100) rfl))) (mvT hZ (hw _ (List.mem_of_getElem? (i := 24) rfl))) (mvT hZ (hw _ (List.mem_of_getElem? (i := 101) rfl))) (by decide) (backOfSH (W := 5) (s := s) (EL := consts_1) (rm_quot l Z a0 hw [] hl hch hEL vi zc ls us ss hS0 T10.heap n0 O) hZ (hw _ (List.mem_of_getElem? (i := 101) rfl)) (hw _ (List.mem_of_getElem? (i := 24) rfl)) (by decide) (by decide) hEL C.1) (g := (mkF m 30 #[.val (.ref x), .val (.int vi)] [(.int vi), (.ref b3), (.ref ls), (.ref x), (.ref b1), (.ref b1)])) rfl (by rw [hml]; rfl) (argsL := [(.int vi)]) (rest := [(.ref b3), (.ref ls), (.ref x), (.ref b1), (.ref b1)]) (lenOf pd_nl1_2 rfl) rfl (by show 2 * 0 + _ ≤ _; exact Nat.le_of_eq rfl) (hb hby d_nl1_30) (fun _ _ => ⟨rfl, rfl, (by decide : 10 + 8 ≤ _), (by decide : 980 + 822 ≤ _)⟩)
  dsimp only [Pt.U, Pt.locs, Pt.cells, Pt.slots] at X12 l12 y12 z12 st12 hQ12 hS12 hg12 C12
  subst l12 y12 z12
  have hown12 : (s.setVm T12.vm).vm.findClass "com/example/swapdeck/swapdeck/swap/CloseOutException" = some m.cls := by rw [show (s.setVm T12.vm).vm = T12.vm from rfl, hS12.1.alike.findClass]; exact hown
  have hZ12 : Z.Warmed39 (s.setVm T12.vm).vm := State.Warmed39.trans (t := s.setVm T9.vm) hZ hS12.1
  have ag12 := Stand.againW (s := s) X12 hS hS12 (Nat.le_trans hk hg12)
  replace X12 := ag12.1
  replace hS := ag12.2
  replace Sf_b1 := CHr.safe C12 E_b1.lt Sf_b1
  replace Sf_b3 := CHr.safe C12 E_b3.lt Sf_b3
  replace Sf_t10 := CHr.safe C12 Vt10.lt Sf_t10
  obtain ⟨x12, r12, k212, vs12, nq12, rfl, Nq12, K12, Ex12, Gv12, Gc12, Vr12, hb12, or12⟩ := hQ12
  replace N := Fr.app N Nq12
  have nr12 : t10 ≠ r12 := by
    intro q
    rcases or12 with z | z
    · exact absurd (q ▸ Vt10.lt) (Nat.not_lt.mpr z)
    · exact absurd q (arv_ne (Vt10.keep K12 nin0) Vr12 (Or.inl (by rw [own_nat (by omega), own_nat (by omega)]; omega)))
  replace E_x := E_x.keep K12
  replace Fv_x := Fv_x.keep K12 nin0
  replace Fc_x := Fc_x.keep K12 nin0
  replace V_tx := V_tx.keep K12 nin0
  replace E_b1 := E_b1.keep K12
  replace F_cause_b1 := F_cause_b1.keep K12 nin0
  replace F_stackTrace_b1 := F_stackTrace_b1.keep K12 nin0
  replace F_suppressedExceptions_b1 := F_suppressedExceptions_b1.keep K12 nin0
  replace F_detailMessage_b1 := F_detailMessage_b1.keep K12 nin0
  replace F_backtrace_b1 := F_backtrace_b1.keep K12 nin0
  replace U_b1 := Unt.keep K12 nin0 U_b1
  replace E_b3 := E_b3.keep K12
  replace Es5 := Es5.keep K12
  replace Fc5 := Fc5.keep K12 nin0
  replace Fv5 := Fv5.keep K12 nin0
  replace Va5 := Va5.keep K12 nin0
  replace Es9 := Es9.keep K12
  replace Fc9 := Fc9.keep K12 nin0
  replace Fv9 := Fv9.keep K12 nin0
  replace Va9 := Va9.keep K12 nin0
  replace Gv10 := Gv10.keep K12 nin0
  replace Gc10 := Gc10.keep K12 nin0
  replace Gn10 := Gn10.keep K12 nin0
  replace Vt10 := Vt10.keep K12 nin0
  replace Et10 := Et10.keep K12
  replace O := O.keep K12 all0
  replace K := K.trans K12 all0
  replace C := C.trans C12
  replace hZ := hZ12
  replace hown := hown12
  replace hk := Nat.le_refl T12.heap.size
  refine Go.by (T' := T12) (f' := (mkF m 33 #[.val (.ref x), .val (.int vi)] [(.ref x12), (.ref b3), (.ref ls), (.ref x), (.ref b1), (.ref b1)])) (fun _ k => st12.trans k) ?_
  have hi13a : L2_10 ≤ 300 := by omega
  have hi13b : 16 ≤ L2_10 := by omega
  have hi13c : (((0 + 6) + lx) + 5) ≤ L2_10 := by omega
  have hv13 : (((0 + 6) + lx) + 5) + nq12 ≤ 150 := by omega
  obtain ⟨cq13, kq13, q13a, q13b, q13c⟩ := isOf hZ rfl E_b3
  obtain ⟨v13, _, ⟨T13, L13, k13, n13⟩, -, X13, ⟨Lc13, hQ13, l13, y13, z13⟩, st13⟩ := X12.virtualBack hx (y := (⟨"java/lang/StringBuilder", "append", "(Ljava/lang/String;)Ljava/lang/StringBuilder;"⟩ : MethodName)) (z := (⟨"java/lang/StringBuilder", "append", "(Ljava/lang/String;)Ljava/lang/StringBuilder;"⟩ : MethodName)) hown (mvT hZ (hw _ (List.mem_of_getElem? (i := 50) rfl))) (mvT hZ (hw _ (List.mem_of_getElem? (i := 51) rfl))) (notFace_of_selects (args := #[]) (mvT hZ (hw _ (List.mem_of_getElem? (i := 53) rfl)))) (mvT hZ (hw _ (List.mem_of_getElem? (i := 53) rfl))) (mvT hZ (hw _ (List.mem_of_getElem? (i := 52) rfl))) (by decide) (backOf (W := 4) (rm_sas l Z a0 hw [] b3 t10 _ (L2_10) ((((0 + 6) + lx) + 5)) _ x12 r12 _ (nq12) _ zc ls us ss hS0 T12.heap n0 O E_b3 Gv10 Gc10 Gn10 Vt10 Et10 g_b3 g_t10 hi13a hi13b hi13c Ex12 Gv12 Gc12 Vr12 (Ne.symm nr12) hv13) hZ (hw _ (List.mem_of_getElem? (i := 54) rfl)) (hw _ (List.mem_of_getElem? (i := 33) rfl)) (by decide) (by decide)) q13a q13c (g := (mkF m 33 #[.val (.ref x), .val (.int vi)] [(.ref x12), (.ref b3), (.ref ls), (.ref x), (.ref b1), (.ref b1)])) rfl (by rw [hml]; rfl) (Steps.refl _) (argsL := [(.ref x12)]) (rest := [(.ref ls), (.ref x), (.ref b1), (.ref b1)]) (lenOf pd_nl1_1 rfl) rfl (by show 2 * 0 + _ ≤ _; exact Nat.le_of_eq rfl) (hb hby d_nl1_33) (fun _ _ => ⟨rfl, rfl, (by decide : 18 + 1 ≤ _), (by decide : 1802 + 300 ≤ _)⟩)
  dsimp only [Pt.U, Pt.locs, Pt.cells, Pt.slots] at X13 l13 y13 z13 st13 hQ13
  subst l13 y13 z13
  obtain ⟨rfl, Nq13, K13, t13, k213, L2_13, vs13, or13, hb131, hb132, hb133, Gv13, Gc13, Gn13, Vt13, Et13⟩ := hQ13
  replace N := Fr.app N Nq13
  have nt13_x : x ≠ t13 := own_orne or13 nt10_x E_x.lt
  have nt13_tx : tx ≠ t13 := own_orne or13 nt10_tx V_tx.lt
  have nt13_b1 : b1 ≠ t13 := own_orne or13 nt10_b1 E_b1.lt
  have nt13_sb5 : sb5 ≠ t13 := own_orne or13 nt10_sb5 Va5.lt
  have nt13_sb9 : sb9 ≠ t13 := own_orne or13 nt10_sb9 Va9.lt
  have nt13_r12 : r12 ≠ t13 := own_orne or13 (Ne.symm nr12) Vr12.lt
  have g_t13 : n0 ≤ t13 := own_or or13 g_t10 (Old.le O)
  have io_t13 : t13 ∈ ([] : List Addr) ∨ h0.size ≤ t13 := own_orin or13 (io_t10) K.1
  have Sf_t13 : Safe Z consts_1 T12.vm T12.heap t13 := by
    rcases or13 with q | q
    · rw [q]; exact Sf_t10
    · exact Safe.new q
  have hs_K13 : ∀ x ∈ ([b3, t10] : List Addr), Safe Z consts_1 T12.vm T12.heap x := (sfS Sf_b3 (sfS Sf_t10 sf0))
  have Sk_K13 := CHr.keep (Z := Z) (EL := consts_1) (vm := T12.vm) K13 hs_K13 C.1
  replace Sf_b1 := Safe.keep K13 hs_K13 C.1 Sf_b1
  replace Sf_b3 := Safe.keep K13 hs_K13 C.1 Sf_b3
  replace Sf_t10 := Safe.keep K13 hs_K13 C.1 Sf_t10
  replace Sf_t13 := Safe.keep K13 hs_K13 C.1 Sf_t13
  have nq14 : sa5 ≠ t10 := (ne_exa Es5 Et10 (by decide))
  have nq15 : sa9 ≠ t10 := (ne_exa Es9 Et10 (by decide))
  have nq16 : x12 ≠ b3 := (ne_exa Ex12 E_b3 (by decide))
  have nq17 : x12 ≠ t10 := (ne_exa Ex12 Et10 (by decide))
  have nq18 : r12 ≠ b3 := (Ne.symm (own_nev E_b3 (hw _ (List.mem_of_getElem? (i := 32) rfl)) Vr12))
  replace E_x := E_x.keep K13
  replace Fv_x := Fv_x.keep K13 (ninS ne_x_b3 (ninS nt10_x nin0))
  replace Fc_x := Fc_x.keep K13 (ninS ne_x_b3 (ninS nt10_x nin0))
  replace V_tx := V_tx.keep K13 (ninS ne_tx_b3 (ninS nt10_tx nin0))
  replace E_b1 := E_b1.keep K13
  replace F_cause_b1 := F_cause_b1.keep K13 (ninS ne_b1_b3 (ninS nt10_b1 nin0))
  replace F_stackTrace_b1 := F_stackTrace_b1.keep K13 (ninS ne_b1_b3 (ninS nt10_b1 nin0))
  replace F_suppressedExceptions_b1 := F_suppressedExceptions_b1.keep K13 (ninS ne_b1_b3 (ninS nt10_b1 nin0))
  replace F_detailMessage_b1 := F_detailMessage_b1.keep K13 (ninS ne_b1_b3 (ninS nt10_b1 nin0))
  replace F_backtrace_b1 := F_backtrace_b1.keep K13 (ninS ne_b1_b3 (ninS nt10_b1 nin0))
  replace U_b1 := Unt.keep K13 (ninS ne_b1_b3 (ninS nt10_b1 nin0)) U_b1
  replace E_b3 := E_b3.keep K13
  replace Es5 := Es5.keep K13
  replace Fc5 := Fc5.keep K13 (ninS (Ne.symm nx5_b3.1) (ninS nq14 nin0))
  replace Fv5 := Fv5.keep K13 (ninS (Ne.symm nx5_b3.1) (ninS nq14 nin0))
  replace Va5 := Va5.keep K13 (ninS (Ne.symm nx5_b3.2) (ninS nt10_sb5 nin0))
  replace Es9 := Es9.keep K13
  replace Fc9 := Fc9.keep K13 (ninS (Ne.symm nx9_b3.1) (ninS nq15 nin0))
  replace Fv9 := Fv9.keep K13 (ninS (Ne.symm nx9_b3.1) (ninS nq15 nin0))
  replace Va9 := Va9.keep K13 (ninS (Ne.symm nx9_b3.2) (ninS nt10_sb9 nin0))
  replace Et10 := Et10.keep K13
  replace Ex12 := Ex12.keep K13
  replace Gv12 := Gv12.keep K13 (ninS nq16 (ninS nq17 nin0))
  replace Gc12 := Gc12.keep K13 (ninS nq16 (ninS nq17 nin0))
  replace Vr12 := Vr12.keep K13 (ninS nq18 (ninS (Ne.symm nr12) nin0))
  replace C := C.trans Sk_K13
  replace hk := Nat.le_trans hk K13.1
  replace O := O.keep K13 (allS g_b3 (allS g_t10 all0))
  replace K := K.trans K13 (allS (Or.inr sz_b3) (allS (io_t10) all0))
  refine Go.by (T' := T13) (f' := (mkF m 36 #[.val (.ref x), .val (.int vi)] [(.ref b3), (.ref ls), (.ref x), (.ref b1), (.ref b1)])) (fun _ k => st13.trans k) ?_
  obtain ⟨sa19, T19, h19, k119, sb19, kc19, X19, e19, E19, hS19, hk19, hZ19, hown19, Es19, Fc19, Fv19, Va19, -, -, C19, -, ne19, st19⟩ := ldcCH X13 hx hZ hown (hw _ (List.mem_of_getElem? (i := 183) rfl)) (fun d hd => hw d (own_wS d hd)) rfl hS hk hEL (by decide +kernel) C.1 (text := ", fewer than three, so its Market Quotation cannot be determined and its Loss is used, but none is given") (z := Int32.ofNat 104) ⟨by decide +kernel, rfl⟩ (by decide) (by decide +kernel) (g := (mkF m 36 #[.val (.ref x), .val (.int vi)] [(.ref b3), (.ref ls), (.ref x), (.ref b1), (.ref b1)])) rfl (hb hby d_nl1_36) (n := 416) (by decide +kernel) (by decide) (by decide) (by decide)
  replace Sf_b1 := CHr.safe C19 E_b1.lt Sf_b1
  have nx19_b1 := ne19 _ Sf_b1
  replace Sf_b3 := CHr.safe C19 E_b3.lt Sf_b3
  have nx19_b3 := ne19 _ Sf_b3
  replace Sf_t13 := CHr.safe C19 Vt13.lt Sf_t13
  have nx19_t13 := ne19 _ Sf_t13
  replace E_x := E_x.ext E19
  replace Fv_x := Fv_x.ext E19
  replace Fc_x := Fc_x.ext E19
  replace V_tx := V_tx.ext E19
  replace E_b1 := E_b1.ext E19
  replace F_cause_b1 := F_cause_b1.ext E19
  replace F_stackTrace_b1 := F_stackTrace_b1.ext E19
  replace F_suppressedExceptions_b1 := F_suppressedExceptions_b1.ext E19
  replace F_detailMessage_b1 := F_detailMessage_b1.ext E19
  replace F_backtrace_b1 := F_backtrace_b1.ext E19
  replace U_b1 := U_b1.ext E19
  replace E_b3 := E_b3.ext E19
  replace Es5 := Es5.ext E19
  replace Fc5 := Fc5.ext E19
  replace Fv5 := Fv5.ext E19
  replace Va5 := Va5.ext E19
  replace Es9 := Es9.ext E19
  replace Fc9 := Fc9.ext E19
  replace Fv9 := Fv9.ext E19
  replace Va9 := Va9.ext E19
  replace Ex12 := Ex12.ext E19
  replace Gv12 := Gv12.ext E19
  replace Gc12 := Gc12.ext E19
  replace Vr12 := Vr12.ext E19
  replace Gv13 := Gv13.ext E19
  replace Gc13 := Gc13.ext E19
  replace Gn13 := Gn13.ext E19
  replace Vt13 := Vt13.ext E19
  replace Et13 := Et13.ext E19
  replace O := O.ext E19
  replace K := K.ext E19
  replace C := C.trans C19
  replace hk := hk19
  replace hS := hS19
  replace hZ := hZ19
  replace hown := hown19
  refine Go.by (T' := T19) (f' := (mkF m 38 #[.val (.ref x), .val (.int vi)] [(.ref sa19), (.ref b3), (.ref ls), (.ref x), (.ref b1), (.ref b1)])) (st19) ?_
  have hi20a : L2_13 ≤ 300 := by omega
  have hi20b : 16 ≤ L2_13 := by omega
  have hi20c : ((((0 + 6) + lx) + 5) + nq12) ≤ L2_13 := by omega
  have hv20 : ((((0 + 6) + lx) + 5) + nq12) + 104 ≤ 150 := by omega
  obtain ⟨cq20, kq20, q20a, q20b, q20c⟩ := isOf hZ e19 E_b3
  obtain ⟨v20, _, ⟨T20, L20, k20, n20⟩, -, X20, ⟨Lc20, hQ20, l20, y20, z20⟩, st20⟩ := X19.virtualBack hx (y := (⟨"java/lang/StringBuilder", "append", "(Ljava/lang/String;)Ljava/lang/StringBuilder;"⟩ : MethodName)) (z := (⟨"java/lang/StringBuilder", "append", "(Ljava/lang/String;)Ljava/lang/StringBuilder;"⟩ : MethodName)) hown (mvT hZ (hw _ (List.mem_of_getElem? (i := 50) rfl))) (mvT hZ (hw _ (List.mem_of_getElem? (i := 51) rfl))) (notFace_of_selects (args := #[]) (mvT hZ (hw _ (List.mem_of_getElem? (i := 53) rfl)))) (mvT hZ (hw _ (List.mem_of_getElem? (i := 53) rfl))) (mvT hZ (hw _ (List.mem_of_getElem? (i := 52) rfl))) (by decide) (backOf (W := 4) (rm_sas l Z a0 hw [] b3 t13 _ (L2_13) (((((0 + 6) + lx) + 5) + nq12)) _ sa19 sb19 _ (104) _ zc ls us ss hS0 h19 n0 O E_b3 Gv13 Gc13 Gn13 Vt13 Et13 g_b3 g_t13 hi20a hi20b hi20c Es19 Fv19 Fc19 Va19 (Ne.symm nx19_t13.2) hv20) hZ (hw _ (List.mem_of_getElem? (i := 54) rfl)) (hw _ (List.mem_of_getElem? (i := 33) rfl)) (by decide) (by decide)) q20a q20c (g := (mkF m 38 #[.val (.ref x), .val (.int vi)] [(.ref sa19), (.ref b3), (.ref ls), (.ref x), (.ref b1), (.ref b1)])) rfl (by rw [hml]; rfl) (Steps.refl _) (argsL := [(.ref sa19)]) (rest := [(.ref ls), (.ref x), (.ref b1), (.ref b1)]) (lenOf pd_nl1_1 rfl) rfl (by show 2 * 0 + _ ≤ _; exact Nat.le_of_eq rfl) (hb hby d_nl1_38) (fun _ _ => ⟨rfl, e19, (by decide : 21 + 1 ≤ _), (by decide : 2522 + 300 ≤ _)⟩)
  dsimp only [Pt.U, Pt.locs, Pt.cells, Pt.slots] at X20 l20 y20 z20 st20 hQ20
  subst l20 y20 z20
  obtain ⟨rfl, Nq20, K20, t20, k220, L2_20, vs20, or20, hb201, hb202, hb203, Gv20, Gc20, Gn20, Vt20, Et20⟩ := hQ20
  replace N := Fr.app N Nq20
  have nt20_x : x ≠ t20 := own_orne or20 nt13_x E_x.lt
  have nt20_tx : tx ≠ t20 := own_orne or20 nt13_tx V_tx.lt
  have nt20_b1 : b1 ≠ t20 := own_orne or20 nt13_b1 E_b1.lt
  have nt20_sb5 : sb5 ≠ t20 := own_orne or20 nt13_sb5 Va5.lt
  have nt20_sb9 : sb9 ≠ t20 := own_orne or20 nt13_sb9 Va9.lt
  have nt20_r12 : r12 ≠ t20 := own_orne or20 nt13_r12 Vr12.lt
  have nt20_sb19 : sb19 ≠ t20 := own_orne or20 (Ne.symm nx19_t13.2) Va19.lt
  have g_t20 : n0 ≤ t20 := own_or or20 g_t13 (Old.le O)
  have io_t20 : t20 ∈ ([] : List Addr) ∨ h0.size ≤ t20 := own_orin or20 (io_t13) K.1
  have Sf_t20 : Safe Z consts_1 T19.vm h19 t20 := by
    rcases or20 with q | q
    · rw [q]; exact Sf_t13
    · exact Safe.new q
  have hs_K20 : ∀ x ∈ ([b3, t13] : List Addr), Safe Z consts_1 T19.vm h19 x := (sfS Sf_b3 (sfS Sf_t13 sf0))
  have Sk_K20 := CHr.keep (Z := Z) (EL := consts_1) (vm := T19.vm) K20 hs_K20 C.1
  replace Sf_b1 := Safe.keep K20 hs_K20 C.1 Sf_b1
  replace Sf_b3 := Safe.keep K20 hs_K20 C.1 Sf_b3
  replace Sf_t13 := Safe.keep K20 hs_K20 C.1 Sf_t13
  replace Sf_t20 := Safe.keep K20 hs_K20 C.1 Sf_t20
  have nq21 : sa5 ≠ t13 := (ne_exa Es5 Et13 (by decide))
  have nq22 : sa9 ≠ t13 := (ne_exa Es9 Et13 (by decide))
  have nq23 : x12 ≠ t13 := (ne_exa Ex12 Et13 (by decide))
  replace E_x := E_x.keep K20
  replace Fv_x := Fv_x.keep K20 (ninS ne_x_b3 (ninS nt13_x nin0))
  replace Fc_x := Fc_x.keep K20 (ninS ne_x_b3 (ninS nt13_x nin0))
  replace V_tx := V_tx.keep K20 (ninS ne_tx_b3 (ninS nt13_tx nin0))
  replace E_b1 := E_b1.keep K20
  replace F_cause_b1 := F_cause_b1.keep K20 (ninS ne_b1_b3 (ninS nt13_b1 nin0))
  replace F_stackTrace_b1 := F_stackTrace_b1.keep K20 (ninS ne_b1_b3 (ninS nt13_b1 nin0))
  replace F_suppressedExceptions_b1 := F_suppressedExceptions_b1.keep K20 (ninS ne_b1_b3 (ninS nt13_b1 nin0))
  replace F_detailMessage_b1 := F_detailMessage_b1.keep K20 (ninS ne_b1_b3 (ninS nt13_b1 nin0))
  replace F_backtrace_b1 := F_backtrace_b1.keep K20 (ninS ne_b1_b3 (ninS nt13_b1 nin0))
  replace U_b1 := Unt.keep K20 (ninS ne_b1_b3 (ninS nt13_b1 nin0)) U_b1
  replace E_b3 := E_b3.keep K20
  replace Es5 := Es5.keep K20
  replace Fc5 := Fc5.keep K20 (ninS (Ne.symm nx5_b3.1) (ninS nq21 nin0))
  replace Fv5 := Fv5.keep K20 (ninS (Ne.symm nx5_b3.1) (ninS nq21 nin0))
  replace Va5 := Va5.keep K20 (ninS (Ne.symm nx5_b3.2) (ninS nt13_sb5 nin0))
  replace Es9 := Es9.keep K20
  replace Fc9 := Fc9.keep K20 (ninS (Ne.symm nx9_b3.1) (ninS nq22 nin0))
  replace Fv9 := Fv9.keep K20 (ninS (Ne.symm nx9_b3.1) (ninS nq22 nin0))
  replace Va9 := Va9.keep K20 (ninS (Ne.symm nx9_b3.2) (ninS nt13_sb9 nin0))
  replace Ex12 := Ex12.keep K20
  replace Gv12 := Gv12.keep K20 (ninS nq16 (ninS nq23 nin0))
  replace Gc12 := Gc12.keep K20 (ninS nq16 (ninS nq23 nin0))
  replace Vr12 := Vr12.keep K20 (ninS nq18 (ninS nt13_r12 nin0))
  replace Et13 := Et13.keep K20
  replace Es19 := Es19.keep K20
  replace Fc19 := Fc19.keep K20 (ninS (Ne.symm nx19_b3.1) (ninS (Ne.symm nx19_t13.1) nin0))
  replace Fv19 := Fv19.keep K20 (ninS (Ne.symm nx19_b3.1) (ninS (Ne.symm nx19_t13.1) nin0))
  replace Va19 := Va19.keep K20 (ninS (Ne.symm nx19_b3.2) (ninS (Ne.symm nx19_t13.2) nin0))
  replace C := C.trans Sk_K20
  replace hk := Nat.le_trans hk K20.1
  replace O := O.keep K20 (allS g_b3 (allS g_t13 all0))
  replace K := K.trans K20 (allS (Or.inr sz_b3) (allS (io_t13) all0))
  refine Go.by (T' := T20) (f' := (mkF m 41 #[.val (.ref x), .val (.int vi)] [(.ref b3), (.ref ls), (.ref x), (.ref b1), (.ref b1)])) (fun _ k => st20.trans k) ?_
  have hi24a : L2_20 ≤ 300 := by omega
  have hi24b : 16 ≤ L2_20 := by omega
  have hi24c : (((((0 + 6) + lx) + 5) + nq12) + 104) ≤ L2_20 := by omega
  have hs24 : (((((0 + 6) + lx) + 5) + nq12) + 104) ≤ 150 := by omega
  obtain ⟨cq24, kq24, q24a, q24b, q24c⟩ := isOf hZ rfl E_b3
  obtain ⟨v24, _, ⟨T24, L24, k24, n24⟩, -, X24, ⟨Lc24, hQ24, l24, y24, z24⟩, st24⟩ := X20.virtualBack hx (y := (⟨"java/lang/StringBuilder", "toString", "()Ljava/lang/String;"⟩ : MethodName)) (z := (⟨"java/lang/StringBuilder", "toString", "()Ljava/lang/String;"⟩ : MethodName)) hown (mvT hZ (hw _ (List.mem_of_getElem? (i := 125) rfl))) (mvT hZ (hw _ (List.mem_of_getElem? (i := 126) rfl))) (notFace_of_selects (args := #[]) (mvT hZ (hw _ (List.mem_of_getElem? (i := 128) rfl)))) (mvT hZ (hw _ (List.mem_of_getElem? (i := 128) rfl))) (mvT hZ (hw _ (List.mem_of_getElem? (i := 127) rfl))) (by decide) (backOf (W := 4) (rm_tos l Z a0 hw [] b3 t20 _ (L2_20) ((((((0 + 6) + lx) + 5) + nq12) + 104)) _ zc ls us ss hS0 T20.heap n0 O E_b3 Gv20 Gc20 Gn20 Vt20 Et20 g_b3 g_t20 hi24a hi24b hi24c hs24) hZ (hw _ (List.mem_of_getElem? (i := 129) rfl)) (hw _ (List.mem_of_getElem? (i := 33) rfl)) (by decide) (by decide)) q24a q24c (g := (mkF m 41 #[.val (.ref x), .val (.int vi)] [(.ref b3), (.ref ls), (.ref x), (.ref b1), (.ref b1)])) rfl (by rw [hml]; rfl) (Steps.refl _) (argsL := []) (rest := [(.ref ls), (.ref x), (.ref b1), (.ref b1)]) (lenOf pd_nl1_3 rfl) rfl (by show 2 * 0 + _ ≤ _; exact Nat.le_of_eq rfl) (hb hby d_nl1_41) (fun _ _ => ⟨rfl, rfl, (by decide : 22 + 2 ≤ _), (by decide : 2822 + 154 ≤ _)⟩)
  dsimp only [Pt.U, Pt.locs, Pt.cells, Pt.slots] at X24 l24 y24 z24 st24 hQ24
  subst l24 y24 z24
  obtain ⟨x24, r24, k224, vs24, rfl, Nq24, K24, gx24, gr24, Ex24, Gv24, Gc24, Vr24⟩ := hQ24
  replace N := Fr.app N Nq24
  have ne_x_x24 : x ≠ x24 := Nat.ne_of_lt (Nat.lt_of_lt_of_le E_x.lt gx24)
  have ne_tx_x24 : tx ≠ x24 := Nat.ne_of_lt (Nat.lt_of_lt_of_le V_tx.lt gx24)
  have ne_b1_x24 : b1 ≠ x24 := Nat.ne_of_lt (Nat.lt_of_lt_of_le E_b1.lt gx24)
  have ne_b3_x24 : b3 ≠ x24 := Nat.ne_of_lt (Nat.lt_of_lt_of_le E_b3.lt gx24)
  have ne_sa5_x24 : sa5 ≠ x24 := Nat.ne_of_lt (Nat.lt_of_lt_of_le Es5.lt gx24)
  have ne_sb5_x24 : sb5 ≠ x24 := Nat.ne_of_lt (Nat.lt_of_lt_of_le Va5.lt gx24)
  have ne_sa9_x24 : sa9 ≠ x24 := Nat.ne_of_lt (Nat.lt_of_lt_of_le Es9.lt gx24)
  have ne_sb9_x24 : sb9 ≠ x24 := Nat.ne_of_lt (Nat.lt_of_lt_of_le Va9.lt gx24)
  have ne_x12_x24 : x12 ≠ x24 := Nat.ne_of_lt (Nat.lt_of_lt_of_le Ex12.lt gx24)
  have ne_r12_x24 : r12 ≠ x24 := Nat.ne_of_lt (Nat.lt_of_lt_of_le Vr12.lt gx24)
  have ne_sa19_x24 : sa19 ≠ x24 := Nat.ne_of_lt (Nat.lt_of_lt_of_le Es19.lt gx24)
  have ne_sb19_x24 : sb19 ≠ x24 := Nat.ne_of_lt (Nat.lt_of_lt_of_le Va19.lt gx24)
  have ne_t20_x24 : t20 ≠ x24 := Nat.ne_of_lt (Nat.lt_of_lt_of_le Vt20.lt gx24)
  have g_x24 : n0 ≤ x24 := Nat.le_trans (Old.le O) gx24
  have sz_x24 : h0.size ≤ x24 := Nat.le_trans K.1 gx24
  have ne_x_r24 : x ≠ r24 := Nat.ne_of_lt (Nat.lt_of_lt_of_le E_x.lt gr24)
  have ne_tx_r24 : tx ≠ r24 := Nat.ne_of_lt (Nat.lt_of_lt_of_le V_tx.lt gr24)
  have ne_b1_r24 : b1 ≠ r24 := Nat.ne_of_lt (Nat.lt_of_lt_of_le E_b1.lt gr24)
  have ne_b3_r24 : b3 ≠ r24 := Nat.ne_of_lt (Nat.lt_of_lt_of_le E_b3.lt gr24)
  have ne_sa5_r24 : sa5 ≠ r24 := Nat.ne_of_lt (Nat.lt_of_lt_of_le Es5.lt gr24)
  have ne_sb5_r24 : sb5 ≠ r24 := Nat.ne_of_lt (Nat.lt_of_lt_of_le Va5.lt gr24)
  have ne_sa9_r24 : sa9 ≠ r24 := Nat.ne_of_lt (Nat.lt_of_lt_of_le Es9.lt gr24)
  have ne_sb9_r24 : sb9 ≠ r24 := Nat.ne_of_lt (Nat.lt_of_lt_of_le Va9.lt gr24)
  have ne_x12_r24 : x12 ≠ r24 := Nat.ne_of_lt (Nat.lt_of_lt_of_le Ex12.lt gr24)
  have ne_r12_r24 : r12 ≠ r24 := Nat.ne_of_lt (Nat.lt_of_lt_of_le Vr12.lt gr24)
  have ne_sa19_r24 : sa19 ≠ r24 := Nat.ne_of_lt (Nat.lt_of_lt_of_le Es19.lt gr24)
  have ne_sb19_r24 : sb19 ≠ r24 := Nat.ne_of_lt (Nat.lt_of_lt_of_le Va19.lt gr24)
  have ne_t20_r24 : t20 ≠ r24 := Nat.ne_of_lt (Nat.lt_of_lt_of_le Vt20.lt gr24)
  have g_r24 : n0 ≤ r24 := Nat.le_trans (Old.le O) gr24
  have sz_r24 : h0.size ≤ r24 := Nat.le_trans K.1 gr24
  have hs_K24 : ∀ x ∈ ([] : List Addr), Safe Z consts_1 T19.vm T20.heap x := sf0
  have Sk_K24 := CHr.keep (Z := Z) (EL := consts_1) (vm := T19.vm) K24 hs_K24 C.1
  replace Sf_b1 := Safe.keep K24 hs_K24 C.1 Sf_b1
  replace Sf_b3 := Safe.keep K24 hs_K24 C.1 Sf_b3
  replace Sf_t13 := Safe.keep K24 hs_K24 C.1 Sf_t13
  replace Sf_t20 := Safe.keep K24 hs_K24 C.1 Sf_t20
  replace E_x := E_x.keep K24
  replace Fv_x := Fv_x.keep K24 nin0
  replace Fc_x := Fc_x.keep K24 nin0
  replace V_tx := V_tx.keep K24 nin0
  replace E_b1 := E_b1.keep K24
  replace F_cause_b1 := F_cause_b1.keep K24 nin0
  replace F_stackTrace_b1 := F_stackTrace_b1.keep K24 nin0
  replace F_suppressedExceptions_b1 := F_suppressedExceptions_b1.keep K24 nin0
  replace F_detailMessage_b1 := F_detailMessage_b1.keep K24 nin0
  replace F_backtrace_b1 := F_backtrace_b1.keep K24 nin0
  replace U_b1 := Unt.keep K24 nin0 U_b1
  replace E_b3 := E_b3.keep K24
  replace Es5 := Es5.keep K24
  replace Fc5 := Fc5.keep K24 nin0
  replace Fv5 := Fv5.keep K24 nin0
  replace Va5 := Va5.keep K24 nin0
  replace Es9 := Es9.keep K24
  replace Fc9 := Fc9.keep K24 nin0
  replace Fv9 := Fv9.keep K24 nin0
  replace Va9 := Va9.keep K24 nin0
  replace Ex12 := Ex12.keep K24
  replace Gv12 := Gv12.keep K24 nin0
  replace Gc12 := Gc12.keep K24 nin0
  replace Vr12 := Vr12.keep K24 nin0
  replace Es19 := Es19.keep K24
  replace Fc19 := Fc19.keep K24 nin0
  replace Fv19 := Fv19.keep K24 nin0
  replace Va19 := Va19.keep K24 nin0
  replace Gv20 := Gv20.keep K24 nin0
  replace Gc20 := Gc20.keep K24 nin0
  replace Gn20 := Gn20.keep K24 nin0
  replace Vt20 := Vt20.keep K24 nin0
  replace Et20 := Et20.keep K24
  replace C := C.trans Sk_K24
  replace hk := Nat.le_trans hk K24.1
  replace O := O.keep K24 all0
  replace K := K.trans K24 all0
  refine Go.by (T' := T24) (f' := (mkF m 44 #[.val (.ref x), .val (.int vi)] [(.ref x24), (.ref ls), (.ref x), (.ref b1), (.ref b1)])) (fun _ k => st24.trans k) ?_
  obtain ⟨v25, _, ⟨T25, L25, k25, n25⟩, -, X25, ⟨Lc25, hQ25, l25, y25, z25⟩, st25⟩ := X24.specialBack hx (y := (⟨"com/example/swapdeck/swapdeck/swap/CloseOutException", "<init>", "(Ljava/lang/String;Lcom/example/swapdeck/swapdeck/swap/CloseOutException$Input;Ljava/lang/String;)V"⟩ : MethodName)) rfl hown (mvT hZ (hw _ (List.mem_of_getElem? (i := 193) rfl))) (mvT hZ (hw _ (List.mem_of_getElem? (i := 194) rfl))) (mvT hZ (hw _ (List.mem_of_getElem? (i := 195) rfl))) (by decide) (backOfKL (W := 1) (rm_coe1 l Z a0 hw [] hl hch b1 x x24 zc ls us ss hS0 T24.heap n0 O E_b1 U_b1 F_cause_b1 F_stackTrace_b1 F_suppressedExceptions_b1 F_backtrace_b1 F_detailMessage_b1 g_b1) hZ (hw _ (List.mem_of_getElem? (i := 195) rfl)) (hw _ (List.mem_of_getElem? (i := 24) rfl)) (by decide) (by decide) (Vm.MethodsKnown.alikeC hS.1.alike hK.1) (Vm.FramesKnown.alikeC hS.1.alike hK.2)) (g := (mkF m 44 #[.val (.ref x), .val (.int vi)] [(.ref x24), (.ref ls), (.ref x), (.ref b1), (.ref b1)])) rfl (by rw [hml]; rfl) (Steps.refl _) (a := b1) (argsL := [(.ref x), (.ref ls), (.ref x24)]) (rest := [(.ref b1)]) (lenOf pd_nl1_4 rfl) rfl (by show 2 * 0 + _ ≤ _; exact Nat.le_of_eq rfl) (hb hby d_nl1_44) (fun _ _ => ⟨rfl, rfl, (by decide : 24 + 1 ≤ _), (by decide : 2976 + 2752 ≤ _)⟩)
  dsimp only [Pt.U, Pt.locs, Pt.cells, Pt.slots] at X25 l25 y25 z25 st25 hQ25
  subst l25 y25 z25
  obtain ⟨rfl, Nq25, K25, Ft25, Fi25⟩ := hQ25
  replace N := Fr.app N Nq25
  have hs_K25 : ∀ x ∈ ([b1] : List Addr), Safe Z consts_1 T19.vm T24.heap x := (sfS Sf_b1 sf0)
  have Sk_K25 := CHr.keep (Z := Z) (EL := consts_1) (vm := T19.vm) K25 hs_K25 C.1
  replace Sf_b1 := Safe.keep K25 hs_K25 C.1 Sf_b1
  replace Sf_b3 := Safe.keep K25 hs_K25 C.1 Sf_b3
  replace Sf_t13 := Safe.keep K25 hs_K25 C.1 Sf_t13
  replace Sf_t20 := Safe.keep K25 hs_K25 C.1 Sf_t20
  have nq26 : x12 ≠ b1 := (ne_exa Ex12 E_b1 (by decide))
  have nq27 : r12 ≠ b1 := (Ne.symm (own_nev E_b1 (hw _ (List.mem_of_getElem? (i := 27) rfl)) Vr12))
  replace E_x := E_x.keep K25
  replace Fv_x := Fv_x.keep K25 (ninS ne_x_b1 nin0)
  replace Fc_x := Fc_x.keep K25 (ninS ne_x_b1 nin0)
  replace V_tx := V_tx.keep K25 (ninS ne_tx_b1 nin0)
  replace E_b1 := E_b1.keep K25
  replace E_b3 := E_b3.keep K25
  replace Es5 := Es5.keep K25
  replace Fc5 := Fc5.keep K25 (ninS (Ne.symm nx5_b1.1) nin0)
  replace Fv5 := Fv5.keep K25 (ninS (Ne.symm nx5_b1.1) nin0)
  replace Va5 := Va5.keep K25 (ninS (Ne.symm nx5_b1.2) nin0)
  replace Es9 := Es9.keep K25
  replace Fc9 := Fc9.keep K25 (ninS (Ne.symm nx9_b1.1) nin0)
  replace Fv9 := Fv9.keep K25 (ninS (Ne.symm nx9_b1.1) nin0)
  replace Va9 := Va9.keep K25 (ninS (Ne.symm nx9_b1.2) nin0)
  replace Ex12 := Ex12.keep K25
  replace Gv12 := Gv12.keep K25 (ninS nq26 nin0)
  replace Gc12 := Gc12.keep K25 (ninS nq26 nin0)
  replace Vr12 := Vr12.keep K25 (ninS nq27 nin0)
  replace Es19 := Es19.keep K25
  replace Fc19 := Fc19.keep K25 (ninS (Ne.symm nx19_b1.1) nin0)
  replace Fv19 := Fv19.keep K25 (ninS (Ne.symm nx19_b1.1) nin0)
  replace Va19 := Va19.keep K25 (ninS (Ne.symm nx19_b1.2) nin0)
  replace Gv20 := Gv20.keep K25 (ninS (Ne.symm ne_b1_b3) nin0)
  replace Gc20 := Gc20.keep K25 (ninS (Ne.symm ne_b1_b3) nin0)
  replace Gn20 := Gn20.keep K25 (ninS (Ne.symm ne_b1_b3) nin0)
  replace Vt20 := Vt20.keep K25 (ninS (Ne.symm nt20_b1) nin0)
  replace Et20 := Et20.keep K25
  replace Ex24 := Ex24.keep K25
  replace Gv24 := Gv24.keep K25 (ninS (Ne.symm ne_b1_x24) nin0)
  replace Gc24 := Gc24.keep K25 (ninS (Ne.symm ne_b1_x24) nin0)
  replace Vr24 := Vr24.keep K25 (ninS (Ne.symm ne_b1_r24) nin0)
  replace C := C.trans Sk_K25
  replace hk := Nat.le_trans hk K25.1
  replace O := O.keep K25 (allS g_b1 all0)
  replace K := K.trans K25 (allS (Or.inr sz_b1) all0)
  refine Go.by (T' := T25) (f' := (mkF m 47 #[.val (.ref x), .val (.int vi)] [(.ref b1)])) (fun _ k => st25.trans k) ?_
  obtain ⟨fs, hr, hrun, hended, q1, q2, q3, q4⟩ := X25.leaveW hS hk (v := some (.ref b1)) (fun h => by rw [Bd.returns] at h; cases h)
  refine ⟨_, _, retOut X25 hx Bd.returns rfl (Or.inr (Or.inr (Or.inr (Or.inr ⟨rfl, rfl, rfl⟩)))) (hb hby d_nl1_47) hr, hrun, hended, _, _, rfl, ?_, ?_, q1, q2, q3, q4.mono (by decide) (by decide)⟩
  · show Qnl Z (.ref x) ls h0 n0 (some (.ref b1)) T25.heap _
    exact ⟨_, rfl, N, K, E_b1, Ft25, Fi25⟩
  · show CHr Z consts_1 s.vm s.heap T25.vm T25.heap
    rw [hh]
    exact C.trans (CHv.at X25 hZ hEL C.1)

theorem d_rm_tr0_0 : decode prog_72_method_4_code 0 = .ok (.aload_n 0, 1) := by decide +kernel
theorem d_rm_tr0_1 : decode prog_72_method_4_code 1 = .ok (.getfield 7, 3) := by decide +kernel
theorem d_rm_tr0_4 : decode prog_72_method_4_code 4 = .ok (.areturn, 1) := by decide +kernel
theorem pn_rm_tr0 : plainFor (⟨"com/example/swapdeck/swapdeck/swap/CloseOutException", "trade", "()Ljava/lang/String;"⟩ : MethodName) = true := plainFor_of_name (by first | (simp [plainName, overriddenIn]; done) | decide +kernel)
theorem ef_rm_tr0 (m : MethodId) (x0 : Addr) : entryFrame m #[(.ref x0)] 1 = mkF m 0 #[.val (.ref x0)] [] := by first | (simp [entryFrame, mkF, argsToLocals, Value.category]; done) | rfl
set_option maxRecDepth 65536 in
set_option maxHeartbeats 40000000 in
theorem rm_tr0 (l : Launch) (Z : State) (a0 : Array Value) (hw : ∀ d ∈ tables_1, d.before a0 Z = true) (ws : List Jvm.Cond) (ea : Addr) (h0 : Heap) (n0 : Nat) (O : Old Z n0 h0) (F : Fld Z h0 ea "com/example/swapdeck/swapdeck/swap/CloseOutException" "trade" "Ljava/lang/String;" .null) :
    MetFree l (⟨"com/example/swapdeck/swapdeck/swap/CloseOutException", "trade", "()Ljava/lang/String;"⟩ : MethodName) (head1 (Jvm.Cond.code (⟨"com/example/swapdeck/swapdeck/swap/CloseOutException", "trade", "()Ljava/lang/String;"⟩ : MethodName) prog_72_method_4_code 1 (some (.object "java/lang/String")) :: ws) ({ frames := 0, cells := 0, slots := 0, locals := 0 } : Room)) (fun as_ U => as_ = #[(.ref ea)] ∧ Z.Warmed39 U.vm ∧ U.heap = h0) (fun _ _ _ _ _ => True) (fun _ U o U' => ∃ v L, o = .returned v ∧ Qpure (some .null) h0 n0 v U'.heap L ∧ FrameEnd U o U' L ({ frames := 0, cells := 0, slots := 0, locals := 0 } : Room).cells ({ frames := 0, cells := 0, slots := 0, locals := 0 } : Room).slots) := by
  refine MetFree.of_bodySF pn_rm_tr0 hisR ?_
  intro p e s m args below meth c s₁ Bd hml0 hP hK
  obtain ⟨rfl, hZ, hh⟩ := hP
  have hx := Bd.exec
  have hby := Bd.bytes
  have hml : c.maxLocals = 1 := hml0
  have hown : s.vm.findClass "com/example/swapdeck/swapdeck/swap/CloseOutException" = some m.cls := findClass_of_methodNamed Bd.named
  have hnm := (name_of_methodNamed Bd.named Bd.method).1
  have X0 : Stand p l e ({ frames := 0, cells := 0, slots := 0, locals := 0 } : Room) s m #[(.ref ea)] below meth c s₁ [] 0 0 := Stand.of_body Bd
  have e0 : s₁.heap = h0 := by rw [← hh, Bd.state]; rfl
  have N := Fr.nil n0
  have K : Keep h0 h0 [] := Keep.refl _ _
  refine Go.by (T' := s₁) (f' := (mkF m 0 #[.val (.ref ea)] [])) (fun _ k => castTop (ef_rm_tr0 m ea) k) ?_
  refine Go.by (T' := s₁) (f' := (mkF m 1 #[.val (.ref ea)] [(.ref ea)])) (fun _ k => XS.aloadN X0.here hx rfl (hb hby d_rm_tr0_0) rfl rfl k) ?_
  obtain ⟨T1, X1, e1, st1⟩ := getF X0 hx hZ hown (host := "") (Or.inl (hw _ (List.mem_of_getElem? (i := 244) rfl))) Via.refl e0 F (g := (mkF m 1 #[.val (.ref ea)] [(.ref ea)])) rfl rfl (hb hby d_rm_tr0_1)
  refine Go.by (T' := T1) (f' := (mkF m 4 #[.val (.ref ea)] [.null])) (st1) ?_
  obtain ⟨fs, hr, hrun, hended, hW, hsame⟩ := X1.leave (v := some .null) (fun h => by rw [Bd.returns] at h; cases h)
  refine ⟨_, _, retOut X1 hx Bd.returns rfl (Or.inr (Or.inr (Or.inr (Or.inr ⟨rfl, rfl, rfl⟩)))) (hb hby d_rm_tr0_4) hr, hrun, hended, _, _, rfl, ?_, ⟨_, rfl⟩, hW, hsame.mono (by decide) (by decide)⟩
  show Qpure (some .null) h0 n0 (some .null) T1.heap _
  rw [e1]
  exact ⟨rfl, N, rfl⟩

theorem d_rm_tr1_0 : decode prog_72_method_4_code 0 = .ok (.aload_n 0, 1) := by decide +kernel
theorem d_rm_tr1_1 : decode prog_72_method_4_code 1 = .ok (.getfield 7, 3) := by decide +kernel
theorem d_rm_tr1_4 : decode prog_72_method_4_code 4 = .ok (.areturn, 1) := by decide +kernel
theorem pn_rm_tr1 : plainFor (⟨"com/example/swapdeck/swapdeck/swap/CloseOutException", "trade", "()Ljava/lang/String;"⟩ : MethodName) = true := plainFor_of_name (by first | (simp [plainName, overriddenIn]; done) | decide +kernel)
theorem ef_rm_tr1 (m : MethodId) (x0 : Addr) : entryFrame m #[(.ref x0)] 1 = mkF m 0 #[.val (.ref x0)] [] := by first | (simp [entryFrame, mkF, argsToLocals, Value.category]; done) | rfl
set_option maxRecDepth 65536 in
set_option maxHeartbeats 40000000 in
theorem rm_tr1 (l : Launch) (Z : State) (a0 : Array Value) (hw : ∀ d ∈ tables_1, d.before a0 Z = true) (ws : List Jvm.Cond) (ea vv : Addr) (h0 : Heap) (n0 : Nat) (O : Old Z n0 h0) (F : Fld Z h0 ea "com/example/swapdeck/swapdeck/swap/CloseOutException" "trade" "Ljava/lang/String;" (.ref vv)) :
    MetFree l (⟨"com/example/swapdeck/swapdeck/swap/CloseOutException", "trade", "()Ljava/lang/String;"⟩ : MethodName) (head1 (Jvm.Cond.code (⟨"com/example/swapdeck/swapdeck/swap/CloseOutException", "trade", "()Ljava/lang/String;"⟩ : MethodName) prog_72_method_4_code 1 (some (.object "java/lang/String")) :: ws) ({ frames := 0, cells := 0, slots := 0, locals := 0 } : Room)) (fun as_ U => as_ = #[(.ref ea)] ∧ Z.Warmed39 U.vm ∧ U.heap = h0) (fun _ _ _ _ _ => True) (fun _ U o U' => ∃ v L, o = .returned v ∧ Qpure (some (.ref vv)) h0 n0 v U'.heap L ∧ FrameEnd U o U' L ({ frames := 0, cells := 0, slots := 0, locals := 0 } : Room).cells ({ frames := 0, cells := 0, slots := 0, locals := 0 } : Room).slots) := by
  refine MetFree.of_bodySF pn_rm_tr1 hisR ?_
  intro p e s m args below meth c s₁ Bd hml0 hP hK
  obtain ⟨rfl, hZ, hh⟩ := hP
  have hx := Bd.exec
  have hby := Bd.bytes
  have hml : c.maxLocals = 1 := hml0
  have hown : s.vm.findClass "com/example/swapdeck/swapdeck/swap/CloseOutException" = some m.cls := findClass_of_methodNamed Bd.named
  have hnm := (name_of_methodNamed Bd.named Bd.method).1
  have X0 : Stand p l e ({ frames := 0, cells := 0, slots := 0, locals := 0 } : Room) s m #[(.ref ea)] below meth c s₁ [] 0 0 := Stand.of_body Bd
  have e0 : s₁.heap = h0 := by rw [← hh, Bd.state]; rfl
  have N := Fr.nil n0
  have K : Keep h0 h0 [] := Keep.refl _ _
  refine Go.by (T' := s₁) (f' := (mkF m 0 #[.val (.ref ea)] [])) (fun _ k => castTop (ef_rm_tr1 m ea) k) ?_
  refine Go.by (T' := s₁) (f' := (mkF m 1 #[.val (.ref ea)] [(.ref ea)])) (fun _ k => XS.aloadN X0.here hx rfl (hb hby d_rm_tr1_0) rfl rfl k) ?_
  obtain ⟨T1, X1, e1, st1⟩ := getF X0 hx hZ hown (host := "") (Or.inl (hw _ (List.mem_of_getElem? (i := 244) rfl))) Via.refl e0 F (g := (mkF m 1 #[.val (.ref ea)] [(.ref ea)])) rfl rfl (hb hby d_rm_tr1_1)
  refine Go.by (T' := T1) (f' := (mkF m 4 #[.val (.ref ea)] [(.ref vv)])) (st1) ?_
  obtain ⟨fs, hr, hrun, hended, hW, hsame⟩ := X1.leave (v := some (.ref vv)) (fun h => by rw [Bd.returns] at h; cases h)
  refine ⟨_, _, retOut X1 hx Bd.returns rfl (Or.inr (Or.inr (Or.inr (Or.inr ⟨rfl, rfl, rfl⟩)))) (hb hby d_rm_tr1_4) hr, hrun, hended, _, _, rfl, ?_, ⟨_, rfl⟩, hW, hsame.mono (by decide) (by decide)⟩
  show Qpure (some (.ref vv)) h0 n0 (some (.ref vv)) T1.heap _
  rw [e1]
  exact ⟨rfl, N, rfl⟩

theorem d_rm_inp_0 : decode prog_72_method_5_code 0 = .ok (.aload_n 0, 1) := by decide +kernel
theorem d_rm_inp_1 : decode prog_72_method_5_code 1 = .ok (.getfield 13, 3) := by decide +kernel
theorem d_rm_inp_4 : decode prog_72_method_5_code 4 = .ok (.areturn, 1) := by decide +kernel
theorem pn_rm_inp : plainFor (⟨"com/example/swapdeck/swapdeck/swap/CloseOutException", "input", "()Lcom/example/swapdeck/swapdeck/swap/CloseOutException$Input;"⟩ : MethodName) = true := plainFor_of_name (by first | (simp [plainName, overriddenIn]; done) | decide +kernel)
theorem ef_rm_inp (m : MethodId) (x0 : Addr) : entryFrame m #[(.ref x0)] 1 = mkF m 0 #[.val (.ref x0)] [] := by first | (simp [entryFrame, mkF, argsToLocals, Value.category]; done) | rfl
set_option maxRecDepth 65536 in
set_option maxHeartbeats 40000000 in
theorem rm_inp (l : Launch) (Z : State) (a0 : Array Value) (hw : ∀ d ∈ tables_1, d.before a0 Z = true) (ws : List Jvm.Cond) (ea vv : Addr) (h0 : Heap) (n0 : Nat) (O : Old Z n0 h0) (F : Fld Z h0 ea "com/example/swapdeck/swapdeck/swap/CloseOutException" "input" "Lcom/example/swapdeck/swapdeck/swap/CloseOutException$Input;" (.ref vv)) :
    MetFree l (⟨"com/example/swapdeck/swapdeck/swap/CloseOutException", "input", "()Lcom/example/swapdeck/swapdeck/swap/CloseOutException$Input;"⟩ : MethodName) (head1 (Jvm.Cond.code (⟨"com/example/swapdeck/swapdeck/swap/CloseOutException", "input", "()Lcom/example/swapdeck/swapdeck/swap/CloseOutException$Input;"⟩ : MethodName) prog_72_method_5_code 1 (some (.object "com/example/swapdeck/swapdeck/swap/CloseOutException$Input")) :: ws) ({ frames := 0, cells := 0, slots := 0, locals := 0 } : Room)) (fun as_ U => as_ = #[(.ref ea)] ∧ Z.Warmed39 U.vm ∧ U.heap = h0) (fun _ _ _ _ _ => True) (fun _ U o U' => ∃ v L, o = .returned v ∧ Qpure (some (.ref vv)) h0 n0 v U'.heap L ∧ FrameEnd U o U' L ({ frames := 0, cells := 0, slots := 0, locals := 0 } : Room).cells ({ frames := 0, cells := 0, slots := 0, locals := 0 } : Room).slots) := by
  refine MetFree.of_bodySF pn_rm_inp hisR ?_
  intro p e s m args below meth c s₁ Bd hml0 hP hK
  obtain ⟨rfl, hZ, hh⟩ := hP
  have hx := Bd.exec
  have hby := Bd.bytes
  have hml : c.maxLocals = 1 := hml0
  have hown : s.vm.findClass "com/example/swapdeck/swapdeck/swap/CloseOutException" = some m.cls := findClass_of_methodNamed Bd.named
  have hnm := (name_of_methodNamed Bd.named Bd.method).1
  have X0 : Stand p l e ({ frames := 0, cells := 0, slots := 0, locals := 0 } : Room) s m #[(.ref ea)] below meth c s₁ [] 0 0 := Stand.of_body Bd
  have e0 : s₁.heap = h0 := by rw [← hh, Bd.state]; rfl
  have N := Fr.nil n0
  have K : Keep h0 h0 [] := Keep.refl _ _
  refine Go.by (T' := s₁) (f' := (mkF m 0 #[.val (.ref ea)] [])) (fun _ k => castTop (ef_rm_inp m ea) k) ?_
  refine Go.by (T' := s₁) (f' := (mkF m 1 #[.val (.ref ea)] [(.ref ea)])) (fun _ k => XS.aloadN X0.here hx rfl (hb hby d_rm_inp_0) rfl rfl k) ?_
  obtain ⟨T1, X1, e1, st1⟩ := getF X0 hx hZ hown (host := "") (Or.inl (hw _ (List.mem_of_getElem? (i := 246) rfl))) Via.refl e0 F (g := (mkF m 1 #[.val (.ref ea)] [(.ref ea)])) rfl rfl (hb hby d_rm_inp_1)
  refine Go.by (T' := T1) (f' := (mkF m 4 #[.val (.ref ea)] [(.ref vv)])) (st1) ?_
  obtain ⟨fs, hr, hrun, hended, hW, hsame⟩ := X1.leave (v := some (.ref vv)) (fun h => by rw [Bd.returns] at h; cases h)
  refine ⟨_, _, retOut X1 hx Bd.returns rfl (Or.inr (Or.inr (Or.inr (Or.inr ⟨rfl, rfl, rfl⟩)))) (hb hby d_rm_inp_4) hr, hrun, hended, _, _, rfl, ?_, ⟨_, rfl⟩, hW, hsame.mono (by decide) (by decide)⟩
  show Qpure (some (.ref vv)) h0 n0 (some (.ref vv)) T1.heap _
  rw [e1]
  exact ⟨rfl, N, rfl⟩

theorem d_cenc_0 : decode jdk_43_method_3_code 0 = .ok (.iload_n 0, 1) := by decide +kernel
theorem d_cenc_1 : decode jdk_43_method_3_code 1 = .ok (.sipush 255, 3) := by decide +kernel
theorem d_cenc_4 : decode jdk_43_method_3_code 4 = .ok (.if_icmp .gt 7, 3) := by decide +kernel
theorem d_cenc_7 : decode jdk_43_method_3_code 7 = .ok (.iconst 1, 1) := by decide +kernel
theorem d_cenc_8 : decode jdk_43_method_3_code 8 = .ok (.goto 4, 3) := by decide +kernel
theorem d_cenc_12 : decode jdk_43_method_3_code 12 = .ok (.ireturn, 1) := by decide +kernel
theorem pn_cenc : plainFor (⟨"java/lang/StringLatin1", "canEncode", "(C)Z"⟩ : MethodName) = true := plainFor_of_name (by first | (simp [plainName, overriddenIn]; done) | decide +kernel)
theorem ef_cenc (m : MethodId) (x0 : Int32) : entryFrame m #[(.int x0)] 1 = mkF m 0 #[.val (.int x0)] [] := by first | (simp [entryFrame, mkF, argsToLocals, Value.category]; done) | rfl
set_option maxRecDepth 65536 in
set_option maxHeartbeats 40000000 in
theorem rm_cenc (l : Launch) (Z : State) (a0 : Array Value) (hw : ∀ d ∈ tables_1, d.before a0 Z = true) (ws : List Jvm.Cond) (cc : Int32) (h0 : Heap) (n0 : Nat) (O : Old Z n0 h0) (hcc : ¬ (255 : Int32) < cc) :
    MetFree l (⟨"java/lang/StringLatin1", "canEncode", "(C)Z"⟩ : MethodName) (head1 (Jvm.Cond.code (⟨"java/lang/StringLatin1", "canEncode", "(C)Z"⟩ : MethodName) jdk_43_method_3_code 1 (some .boolean) :: ws) ({ frames := 0, cells := 0, slots := 0, locals := 0 } : Room)) (fun as_ U => as_ = #[(.int cc)] ∧ Z.Warmed39 U.vm ∧ U.heap = h0) (fun _ _ _ _ _ => True) (fun _ U o U' => ∃ v L, o = .returned v ∧ Qpure (some (.int 1)) h0 n0 v U'.heap L ∧ FrameEnd U o U' L ({ frames := 0, cells := 0, slots := 0, locals := 0 } : Room).cells ({ frames := 0, cells := 0, slots := 0, locals := 0 } : Room).slots) := by
  refine MetFree.of_bodySF pn_cenc hisR ?_
  intro p e s m args below meth c s₁ Bd hml0 hP hK
  obtain ⟨rfl, hZ, hh⟩ := hP
  have hx := Bd.exec
  have hby := Bd.bytes
  have hml : c.maxLocals = 1 := hml0
  have hown : s.vm.findClass "java/lang/StringLatin1" = some m.cls := findClass_of_methodNamed Bd.named
  have hnm := (name_of_methodNamed Bd.named Bd.method).1
  have X0 : Stand p l e ({ frames := 0, cells := 0, slots := 0, locals := 0 } : Room) s m #[(.int cc)] below meth c s₁ [] 0 0 := Stand.of_body Bd
  have e0 : s₁.heap = h0 := by rw [← hh, Bd.state]; rfl
  have N := Fr.nil n0
  have K : Keep h0 h0 [] := Keep.refl _ _
  refine Go.by (T' := s₁) (f' := (mkF m 0 #[.val (.int cc)] [])) (fun _ k => castTop (ef_cenc m cc) k) ?_
  refine Go.by (T' := s₁) (f' := (mkF m 1 #[.val (.int cc)] [(.int cc)])) (fun _ k => XS.iloadN X0.here hx rfl (hb hby d_cenc_0) rfl k) ?_
  refine Go.by (T' := s₁) (f' := (mkF m 4 #[.val (.int cc)] [(.int (255 : Int32)), (.int cc)])) (fun _ k => XS.sipush X0.here hx rfl (hb hby d_cenc_1) k) ?_
  refine Go.by (T' := s₁) (f' := (mkF m 7 #[.val (.int cc)] [])) (fun _ k => XS.icmpNo X0.here hx rfl (hb hby d_cenc_4) rfl (flt hcc).2.2.1 k) ?_
  refine Go.by (T' := s₁) (f' := (mkF m 8 #[.val (.int cc)] [(.int (1 : Int32))])) (fun _ k => XS.iconst X0.here hx rfl (hb hby d_cenc_7) k) ?_
  refine Go.by (T' := s₁) (f' := (mkF m 12 #[.val (.int cc)] [(.int (1 : Int32))])) (fun _ k => XS.goto X0.here hx rfl (pc0 := 8) (pc' := 12) rfl (hb hby d_cenc_8) (by decide) (by decide) k) ?_
  obtain ⟨fs, hr, hrun, hended, hW, hsame⟩ := X0.leave (v := some (.int (1 : Int32))) (fun h => by rw [Bd.returns] at h; cases h)
  refine ⟨_, _, retN X0 hx (t := .boolean) Bd.returns (by simp) (hb hby d_cenc_12) hr, hrun, hended, _, _, rfl, ?_, ⟨_, rfl⟩, hW, hsame.mono (by decide) (by decide)⟩
  show Qpure (some (.int 1)) h0 n0 (some (.int (1 : Int32))) s₁.heap _
  rw [e0]
  exact ⟨rfl, N, rfl⟩

theorem d_tob_0 : decode jdk_43_method_46_code 0 = .ok (.iconst 1, 1) := by decide +kernel
theorem d_tob_1 : decode jdk_43_method_46_code 1 = .ok (.newarray .byte, 2) := by decide +kernel
theorem d_tob_3 : decode jdk_43_method_46_code 3 = .ok (.dup, 1) := by decide +kernel
theorem d_tob_4 : decode jdk_43_method_46_code 4 = .ok (.iconst 0, 1) := by decide +kernel
theorem d_tob_5 : decode jdk_43_method_46_code 5 = .ok (.iload_n 0, 1) := by decide +kernel
theorem d_tob_6 : decode jdk_43_method_46_code 6 = .ok (.i2b, 1) := by decide +kernel
theorem d_tob_7 : decode jdk_43_method_46_code 7 = .ok (.bastore, 1) := by decide +kernel
theorem d_tob_8 : decode jdk_43_method_46_code 8 = .ok (.areturn, 1) := by decide +kernel
theorem pn_tob : plainFor (⟨"java/lang/StringLatin1", "toBytes", "(C)[B"⟩ : MethodName) = true := plainFor_of_name (by first | (simp [plainName, overriddenIn]; done) | decide +kernel)
theorem ef_tob (m : MethodId) (x0 : Int32) : entryFrame m #[(.int x0)] 1 = mkF m 0 #[.val (.int x0)] [] := by first | (simp [entryFrame, mkF, argsToLocals, Value.category]; done) | rfl
set_option maxRecDepth 65536 in
set_option maxHeartbeats 40000000 in
theorem rm_tob (l : Launch) (Z : State) (a0 : Array Value) (hw : ∀ d ∈ tables_1, d.before a0 Z = true) (ws : List Jvm.Cond) (cc : Int32) (h0 : Heap) (n0 : Nat) (O : Old Z n0 h0)  :
    MetFree l (⟨"java/lang/StringLatin1", "toBytes", "(C)[B"⟩ : MethodName) (head1 (Jvm.Cond.code (⟨"java/lang/StringLatin1", "toBytes", "(C)[B"⟩ : MethodName) jdk_43_method_46_code 1 (some (.array .byte)) :: ws) ({ frames := 0, cells := 1, slots := 1, locals := 0 } : Room)) (fun as_ U => as_ = #[(.int cc)] ∧ Z.Warmed39 U.vm ∧ U.heap = h0) (fun _ _ _ _ _ => True) (fun _ U o U' => ∃ v L, o = .returned v ∧ Qtb Z h0 n0 v U'.heap L ∧ FrameEnd U o U' L ({ frames := 0, cells := 1, slots := 1, locals := 0 } : Room).cells ({ frames := 0, cells := 1, slots := 1, locals := 0 } : Room).slots) := by
  refine MetFree.of_bodySF pn_tob hisR ?_
  intro p e s m args below meth c s₁ Bd hml0 hP hK
  obtain ⟨rfl, hZ, hh⟩ := hP
  have hx := Bd.exec
  have hby := Bd.bytes
  have hml : c.maxLocals = 1 := hml0
  have hown : s.vm.findClass "java/lang/StringLatin1" = some m.cls := findClass_of_methodNamed Bd.named
  have hnm := (name_of_methodNamed Bd.named Bd.method).1
  have X0 : Stand p l e ({ frames := 0, cells := 1, slots := 1, locals := 0 } : Room) s m #[(.int cc)] below meth c s₁ [] 0 0 := Stand.of_body Bd
  have e0 : s₁.heap = h0 := by rw [← hh, Bd.state]; rfl
  have N := Fr.nil n0
  have K : Keep h0 h0 [] := Keep.refl _ _
  refine Go.by (T' := s₁) (f' := (mkF m 0 #[.val (.int cc)] [])) (fun _ k => castTop (ef_tob m cc) k) ?_
  refine Go.by (T' := s₁) (f' := (mkF m 1 #[.val (.int cc)] [(.int (1 : Int32))])) (fun _ k => XS.iconst X0.here hx rfl (hb hby d_tob_0) k) ?_
  obtain ⟨T1, h1, k1, X1, e1, E1, A1, st1⟩ := newP X0 hx hZ (hw _ (List.mem_of_getElem? (i := 15) rfl)) e0 (g := (mkF m 1 #[.val (.int cc)] [(.int (1 : Int32))])) rfl (hb hby d_tob_1) rfl (by decide) (cap := 1) (by decide) (by decide) (by decide) (by decide)
  obtain ⟨b1, g1⟩ : ∃ z, z = h0.size := ⟨_, rfl⟩
  rw [← g1] at A1 st1
  have g_b1 : n0 ≤ b1 := Nat.le_trans (Old.le O) (Nat.le_of_eq g1.symm)
  have sz_b1 : h0.size ≤ b1 := Nat.le_trans K.1 (Nat.le_of_eq g1.symm)
  replace O := O.ext E1
  replace K := K.ext E1
  have V_b1 : Arv Z h1 b1 k1 .byte (1 : Int32) [(.int (0 : Int32))] (.int (0 : Int32)) := (Arv.new A1 (by decide)).pad (pad_rep [] (.int (0 : Int32)) 1)
  refine Go.by (T' := T1) (f' := (mkF m 3 #[.val (.int cc)] [(.ref b1)])) (st1) ?_
  refine Go.by (T' := T1) (f' := (mkF m 4 #[.val (.int cc)] [(.ref b1), (.ref b1)])) (fun _ k => XS.dup X1.here hx rfl (hb hby d_tob_3) rfl rfl k) ?_
  refine Go.by (T' := T1) (f' := (mkF m 5 #[.val (.int cc)] [(.int (0 : Int32)), (.ref b1), (.ref b1)])) (fun _ k => XS.iconst X1.here hx rfl (hb hby d_tob_4) k) ?_
  refine Go.by (T' := T1) (f' := (mkF m 6 #[.val (.int cc)] [(.int cc), (.int (0 : Int32)), (.ref b1), (.ref b1)])) (fun _ k => XS.iloadN X1.here hx rfl (hb hby d_tob_5) rfl k) ?_
  refine Go.by (T' := T1) (f' := (mkF m 7 #[.val (.int cc)] [(.int (cc.toInt8.toInt32)), (.int (0 : Int32)), (.ref b1), (.ref b1)])) (fun _ k => XS.i2b X1.here hx rfl (hb hby d_tob_6) rfl k) ?_
  obtain ⟨cl2, Ar2, q2, S2, N2', H2, G2⟩ := V_b1
  obtain ⟨T2, h2, X2, e2, W2, st2⟩ := stB X1 hx hZ e1 Ar2 (j := (0 : Int32)) (inb_of S2 ⟨by decide, by decide⟩) (g := (mkF m 7 #[.val (.int cc)] [(.int (cc.toInt8.toInt32)), (.int (0 : Int32)), (.ref b1), (.ref b1)])) rfl rfl (hb hby d_tob_7)
  replace V_b1 := Arv.set Ar2 q2 S2 N2' H2 G2 (fits_nar_byte _) W2 0 rfl (Nat.le_of_ble_eq_true rfl)
  change Arv Z h2 b1 k1 .byte (1 : Int32) [(.int (nar .byte (cc.toInt8.toInt32)))] _ at V_b1
  replace O := O.wr W2 g_b1
  replace K := K.wr W2 (Or.inr sz_b1)
  replace N := Fr.snoc X2 N g_b1
  refine Go.by (T' := T2) (f' := (mkF m 8 #[.val (.int cc)] [(.ref b1)])) (st2) ?_
  obtain ⟨fs, hr, hrun, hended, hW, hsame⟩ := X2.leave (v := some (.ref b1)) (fun h => by rw [Bd.returns] at h; cases h)
  refine ⟨_, _, retOut X2 hx Bd.returns rfl (Or.inr (Or.inr (Or.inr (Or.inr ⟨rfl, rfl, rfl⟩)))) (hb hby d_tob_8) hr, hrun, hended, _, _, rfl, ?_, ⟨_, rfl⟩, hW, hsame.mono (by decide) (by decide)⟩
  show Qtb Z h0 n0 (some (.ref b1)) T2.heap _
  rw [e2]
  exact ⟨_, _, _, rfl, N, K, sz_b1, V_b1⟩

theorem d_ibb_0 : decode jdk_42_method_151_code 0 = .ok (.aload_n 0, 1) := by decide +kernel
theorem d_ibb_1 : decode jdk_42_method_151_code 1 = .ok (.invokespecial 1, 3) := by decide +kernel
theorem d_ibb_4 : decode jdk_42_method_151_code 4 = .ok (.aload_n 0, 1) := by decide +kernel
theorem d_ibb_5 : decode jdk_42_method_151_code 5 = .ok (.aload_n 1, 1) := by decide +kernel
theorem d_ibb_6 : decode jdk_42_method_151_code 6 = .ok (.putfield 9, 3) := by decide +kernel
theorem d_ibb_9 : decode jdk_42_method_151_code 9 = .ok (.aload_n 0, 1) := by decide +kernel
theorem d_ibb_10 : decode jdk_42_method_151_code 10 = .ok (.iload_n 2, 1) := by decide +kernel
theorem d_ibb_11 : decode jdk_42_method_151_code 11 = .ok (.putfield 15, 3) := by decide +kernel
theorem d_ibb_14 : decode jdk_42_method_151_code 14 = .ok (.return_, 1) := by decide +kernel
theorem pn_ibb : plainFor (⟨"java/lang/String", "<init>", "([BB)V"⟩ : MethodName) = true := plainFor_of_name (by first | (simp [plainName, overriddenIn]; done) | decide +kernel)
theorem ef_ibb (m : MethodId) (x0 : Addr) (x1 : Addr) : entryFrame m #[(.ref x0), (.ref x1), (.int (0 : Int32))] 3 = mkF m 0 #[.val (.ref x0), .val (.ref x1), .val (.int (0 : Int32))] [] := by first | (simp [entryFrame, mkF, argsToLocals, Value.category]; done) | rfl
set_option maxRecDepth 65536 in
set_option maxHeartbeats 40000000 in
theorem rm_ibb (l : Launch) (Z : State) (a0 : Array Value) (hw : ∀ d ∈ tables_1, d.before a0 Z = true) (ws : List Jvm.Cond) (x r : Addr) (h0 : Heap) (n0 : Nat) (O : Old Z n0 h0) (E_x : Exa Z h0 x "java/lang/String") (Fv_x : Fld Z h0 x "java/lang/String" "value" "[B" .null) (Fc_x : Fld Z h0 x "java/lang/String" "coder" "B" (.int 0)) (g_x : n0 ≤ x) :
    MetFree l (⟨"java/lang/String", "<init>", "([BB)V"⟩ : MethodName) (head1 (Jvm.Cond.code (⟨"java/lang/String", "<init>", "([BB)V"⟩ : MethodName) jdk_42_method_151_code 3 none :: ws) ({ frames := 1, cells := 0, slots := 0, locals := 12 } : Room)) (fun as_ U => as_ = #[(.ref x), (.ref r), (.int (0 : Int32))] ∧ Z.Warmed39 U.vm ∧ U.heap = h0) (fun _ _ _ _ _ => True) (fun _ U o U' => ∃ v L, o = .returned v ∧ Qbb Z x r h0 n0 v U'.heap L ∧ FrameEnd U o U' L ({ frames := 1, cells := 0, slots := 0, locals := 12 } : Room).cells ({ frames := 1, cells := 0, slots := 0, locals := 12 } : Room).slots) := by
  refine MetFree.of_bodySF pn_ibb hisR ?_
  intro p e s m args below meth c s₁ Bd hml0 hP hK
  obtain ⟨rfl, hZ, hh⟩ := hP
  have hx := Bd.exec
  have hby := Bd.bytes
  have hml : c.maxLocals = 3 := hml0
  have hown : s.vm.findClass "java/lang/String" = some m.cls := findClass_of_methodNamed Bd.named
  have hnm := (name_of_methodNamed Bd.named Bd.method).1
  have X0 : Stand p l e ({ frames := 1, cells := 0, slots := 0, locals := 12 } : Room) s m #[(.ref x), (.ref r), (.int (0 : Int32))] below meth c s₁ [] 0 0 := Stand.of_body Bd
  have e0 : s₁.heap = h0 := by rw [← hh, Bd.state]; rfl
  have N := Fr.nil n0
  have K : Keep h0 h0 [x] := Keep.refl _ _
  refine Go.by (T' := s₁) (f' := (mkF m 0 #[.val (.ref x), .val (.ref r), .val (.int (0 : Int32))] [])) (fun _ k => castTop (ef_ibb m x r) k) ?_
  refine Go.by (T' := s₁) (f' := (mkF m 1 #[.val (.ref x), .val (.ref r), .val (.int (0 : Int32))] [(.ref x)])) (fun _ k => XS.aloadN X0.here hx rfl (hb hby d_ibb_0) rfl rfl k) ?_
  obtain ⟨T1, X1, e1, st1⟩ := initO X0 hx hZ hown (hw _ (List.mem_of_getElem? (i := 11) rfl)) (hw _ (List.mem_of_getElem? (i := 12) rfl)) (hw _ (List.mem_of_getElem? (i := 13) rfl)) e0 (g := (mkF m 1 #[.val (.ref x), .val (.ref r), .val (.int (0 : Int32))] [(.ref x)])) rfl (by rw [hml]; rfl) rfl (hb hby d_ibb_1) (by decide) (W := 0) (by show 2 * 0 + _ ≤ _; exact Nat.le_of_eq rfl) (by decide)
  refine Go.by (T' := T1) (f' := (mkF m 4 #[.val (.ref x), .val (.ref r), .val (.int (0 : Int32))] [])) (st1) ?_
  refine Go.by (T' := T1) (f' := (mkF m 5 #[.val (.ref x), .val (.ref r), .val (.int (0 : Int32))] [(.ref x)])) (fun _ k => XS.aloadN X1.here hx rfl (hb hby d_ibb_4) rfl rfl k) ?_
  refine Go.by (T' := T1) (f' := (mkF m 6 #[.val (.ref x), .val (.ref r), .val (.int (0 : Int32))] [(.ref r), (.ref x)])) (fun _ k => XS.aloadN X1.here hx rfl (hb hby d_ibb_5) rfl rfl k) ?_
  obtain ⟨T2, h2, X2, e2, W2, st2⟩ := putF X1 hx hZ hown (host := "") (Or.inl (hw _ (List.mem_of_getElem? (i := 20) rfl))) Via.refl e1 Fv_x E_x (Or.inr ⟨(hw _ (List.mem_of_getElem? (i := 16) rfl)), rfl, hnm⟩) (hw _ (List.mem_of_getElem? (i := 1) rfl)) (ty := (.array .byte)) (by decide) rfl rfl (g := (mkF m 6 #[.val (.ref x), .val (.ref r), .val (.int (0 : Int32))] [(.ref r), (.ref x)])) rfl rfl (hb hby d_ibb_6)
  replace E_x := E_x.wr W2
  replace Fc_x := Fc_x.other W2 (Or.inr (slot_ne (Or.inr (hw _ (List.mem_of_getElem? (i := 17) rfl))) (Or.inr (hw _ (List.mem_of_getElem? (i := 16) rfl))) (by decide) (t := .byte) (t' := (.array .byte)) (by decide) (by decide)))
  replace Fv_x := Fv_x.same W2
  replace O := O.wr W2 g_x
  replace K := K.wr W2 (Or.inl (by simp))
  replace N := Fr.snoc X2 N g_x
  refine Go.by (T' := T2) (f' := (mkF m 9 #[.val (.ref x), .val (.ref r), .val (.int (0 : Int32))] [])) (st2) ?_
  refine Go.by (T' := T2) (f' := (mkF m 10 #[.val (.ref x), .val (.ref r), .val (.int (0 : Int32))] [(.ref x)])) (fun _ k => XS.aloadN X2.here hx rfl (hb hby d_ibb_9) rfl rfl k) ?_
  refine Go.by (T' := T2) (f' := (mkF m 11 #[.val (.ref x), .val (.ref r), .val (.int (0 : Int32))] [(.int (0 : Int32)), (.ref x)])) (fun _ k => XS.iloadN X2.here hx rfl (hb hby d_ibb_10) rfl k) ?_
  obtain ⟨T3, h3, X3, e3, W3, st3⟩ := putFN X2 hx hZ hown (hw _ (List.mem_of_getElem? (i := 21) rfl)) Via.refl e2 Fc_x E_x (Or.inr ⟨(hw _ (List.mem_of_getElem? (i := 17) rfl)), rfl, hnm⟩) (hw _ (List.mem_of_getElem? (i := 1) rfl)) (ty := .byte) (v' := (.int (0 : Int32))) (by decide) rfl rfl (g := (mkF m 11 #[.val (.ref x), .val (.ref r), .val (.int (0 : Int32))] [(.int (0 : Int32)), (.ref x)])) rfl rfl (hb hby d_ibb_11)
  replace E_x := E_x.wr W3
  replace Fv_x := Fv_x.other W3 (Or.inr (slot_ne (Or.inr (hw _ (List.mem_of_getElem? (i := 16) rfl))) (Or.inr (hw _ (List.mem_of_getElem? (i := 17) rfl))) (by decide) (t := (.array .byte)) (t' := .byte) (by decide) (by decide)))
  replace Fc_x := Fc_x.same W3
  replace O := O.wr W3 g_x
  replace K := K.wr W3 (Or.inl (by simp))
  replace N := Fr.snoc X3 N g_x
  refine Go.by (T' := T3) (f' := (mkF m 14 #[.val (.ref x), .val (.ref r), .val (.int (0 : Int32))] [])) (st3) ?_
  obtain ⟨fs, hr, hrun, hended, hW, hsame⟩ := X3.leave (v := none) (fun _ => rfl)
  refine ⟨_, _, X3.returnOut hx Bd.returns (hb hby d_ibb_14) hr, hrun, hended, _, _, rfl, ?_, ⟨_, rfl⟩, hW, hsame.mono (by decide) (by decide)⟩
  show Qbb Z x r h0 n0 (none) T3.heap _
  rw [e3]
  exact ⟨rfl, N, K, Fv_x, Fc_x⟩

theorem d_vo_0 : decode jdk_42_method_139_code 0 = .ok (.getstatic 38, 3) := by decide +kernel
theorem d_vo_3 : decode jdk_42_method_139_code 3 = .ok (.ifCond .eq 23, 3) := by decide +kernel
theorem d_vo_6 : decode jdk_42_method_139_code 6 = .ok (.iload_n 0, 1) := by decide +kernel
theorem d_vo_7 : decode jdk_42_method_139_code 7 = .ok (.invokestatic 1015, 3) := by decide +kernel
theorem d_vo_10 : decode jdk_42_method_139_code 10 = .ok (.ifCond .eq 16, 3) := by decide +kernel
theorem d_vo_13 : decode jdk_42_method_139_code 13 = .ok (.new 10, 3) := by decide +kernel
theorem d_vo_16 : decode jdk_42_method_139_code 16 = .ok (.dup, 1) := by decide +kernel
theorem d_vo_17 : decode jdk_42_method_139_code 17 = .ok (.iload_n 0, 1) := by decide +kernel
theorem d_vo_18 : decode jdk_42_method_139_code 18 = .ok (.invokestatic 1018, 3) := by decide +kernel
theorem d_vo_21 : decode jdk_42_method_139_code 21 = .ok (.iconst 0, 1) := by decide +kernel
theorem d_vo_22 : decode jdk_42_method_139_code 22 = .ok (.invokespecial 209, 3) := by decide +kernel
theorem d_vo_25 : decode jdk_42_method_139_code 25 = .ok (.areturn, 1) := by decide +kernel
theorem pn_vo : plainFor (⟨"java/lang/String", "valueOf", "(C)Ljava/lang/String;"⟩ : MethodName) = true := plainFor_of_name (by first | (simp [plainName, overriddenIn]; done) | decide +kernel)
theorem pd_vo_0 : parseMethodDescriptor "(C)Z" = some ⟨[.char], some .boolean⟩ := by decide +kernel
theorem pd_vo_1 : parseMethodDescriptor "(C)[B" = some ⟨[.char], some (.array .byte)⟩ := by decide +kernel
theorem pd_vo_2 : parseMethodDescriptor "([BB)V" = some ⟨[(.array .byte), .byte], none⟩ := by decide +kernel
theorem ef_vo (m : MethodId) (x0 : Int32) : entryFrame m #[(.int x0)] 1 = mkF m 0 #[.val (.int x0)] [] := by first | (simp [entryFrame, mkF, argsToLocals, Value.category]; done) | rfl
set_option maxRecDepth 65536 in
set_option maxHeartbeats 40000000 in
theorem rm_vo (l : Launch) (Z : State) (a0 : Array Value) (hw : ∀ d ∈ tables_1, d.before a0 Z = true) (ws : List Jvm.Cond) (cc : Int32) (zc : Int32) (ls us ss : Addr) (hS0 : Sf Z zc ls us ss) (h0 : Heap) (n0 : Nat) (O : Old Z n0 h0) (hcc : ¬ (255 : Int32) < cc) :
    MetFree l (⟨"java/lang/String", "valueOf", "(C)Ljava/lang/String;"⟩ : MethodName) (head1 (Jvm.Cond.code (⟨"java/lang/String", "valueOf", "(C)Ljava/lang/String;"⟩ : MethodName) jdk_42_method_139_code 1 (some (.object "java/lang/String")) :: ws) ({ frames := 2, cells := 2, slots := 5, locals := 27 } : Room)) (fun as_ U => as_ = #[(.int cc)] ∧ Z.Warmed39 U.vm ∧ U.heap = h0) (fun _ _ _ _ _ => True) (fun _ U o U' => ∃ v L, o = .returned v ∧ Qt Z 1 h0 n0 v U'.heap L ∧ FrameEnd U o U' L ({ frames := 2, cells := 2, slots := 5, locals := 27 } : Room).cells ({ frames := 2, cells := 2, slots := 5, locals := 27 } : Room).slots) := by
  refine MetFree.of_bodySF pn_vo hisR ?_
  intro p e s m args below meth c s₁ Bd hml0 hP hK
  obtain ⟨rfl, hZ, hh⟩ := hP
  have hx := Bd.exec
  have hby := Bd.bytes
  have hml : c.maxLocals = 1 := hml0
  have hown : s.vm.findClass "java/lang/String" = some m.cls := findClass_of_methodNamed Bd.named
  have hnm := (name_of_methodNamed Bd.named Bd.method).1
  have X0 : Stand p l e ({ frames := 2, cells := 2, slots := 5, locals := 27 } : Room) s m #[(.int cc)] below meth c s₁ [] 0 0 := Stand.of_body Bd
  have e0 : s₁.heap = h0 := by rw [← hh, Bd.state]; rfl
  have N := Fr.nil n0
  have K : Keep h0 h0 [] := Keep.refl _ _
  refine Go.by (T' := s₁) (f' := (mkF m 0 #[.val (.int cc)] [])) (fun _ k => castTop (ef_vo m cc) k) ?_
  obtain ⟨T1, X1, e1, st1⟩ := getS2 X0 hx hZ hown (host := "") (Or.inl (hw _ (List.mem_of_getElem? (i := 70) rfl))) Via.refl e0 (Sta.ext O.2 hS0.1) (g := (mkF m 0 #[.val (.int cc)] [])) rfl (hb hby d_vo_0)
  refine Go.by (T' := T1) (f' := (mkF m 3 #[.val (.int cc)] [(.int zc)])) (st1) ?_
  refine Go.by (T' := T1) (f' := (mkF m 6 #[.val (.int cc)] [])) (fun _ k => XS.ifNo X1.here hx rfl (hb hby d_vo_3) rfl ((if0 _ _).trans (feq hS0.2.1).1) k) ?_
  refine Go.by (T' := T1) (f' := (mkF m 7 #[.val (.int cc)] [(.int cc)])) (fun _ k => XS.iloadN X1.here hx rfl (hb hby d_vo_6) rfl k) ?_
  obtain ⟨v3, _, ⟨T3, L3, k3, n3⟩, -, X3, ⟨Lc3, hQ3, l3, y3, z3⟩, st3⟩ := Jvm.LawKit.callS X1 hx (y := (⟨"java/lang/StringLatin1", "canEncode", "(C)Z"⟩ : MethodName)) hown (mvT hZ (hw _ (List.mem_of_getElem? (i := 262) rfl))) (mvT hZ (hw _ (List.mem_of_getElem? (i := 263) rfl))) (mvT hZ (hw _ (List.mem_of_getElem? (i := 264) rfl))) (mvT hZ (hw _ (List.mem_of_getElem? (i := 265) rfl))) (by decide) (backOf (W := 0) (rm_cenc l Z a0 hw [] cc h0 n0 O hcc) hZ (hw _ (List.mem_of_getElem? (i := 265) rfl)) (hw _ (List.mem_of_getElem? (i := 264) rfl)) (by decide) (by decide)) (g := (mkF m 7 #[.val (.int cc)] [(.int cc)])) rfl (by rw [hml]; rfl) (argsL := [(.int cc)]) (rest := []) (lenOf pd_vo_0 rfl) rfl (by show 2 * 0 + _ ≤ _; exact Nat.le_of_eq rfl) (hb hby d_vo_7) (fun _ _ => ⟨rfl, e1, (by decide : 0 + 0 ≤ _), (by decide : 0 + 0 ≤ _)⟩)
  dsimp only [Pt.U, Pt.locs, Pt.cells, Pt.slots] at X3 l3 y3 z3 st3 hQ3
  subst l3 y3 z3
  obtain ⟨rfl, Nq3, e3⟩ := hQ3
  replace N := Fr.app N Nq3
  refine Go.by (T' := T3) (f' := (mkF m 10 #[.val (.int cc)] [(.int (1 : Int32))])) (st3) ?_
  refine Go.by (T' := T3) (f' := (mkF m 13 #[.val (.int cc)] [])) (fun _ k => XS.ifNo X3.here hx rfl (hb hby d_vo_10) rfl ((if0 _ _).trans (feq (by decide : ¬ ((1 : Int32) = (0 : Int32)))).1) k) ?_
  obtain ⟨T5, h5, X5, e5, E5, A5, D5, -, st5⟩ := newO X3 hx hZ hown (hw _ (List.mem_of_getElem? (i := 266) rfl)) (hw _ (List.mem_of_getElem? (i := 1) rfl)) (hw _ (List.mem_of_getElem? (i := 2) rfl)) e3 (g := (mkF m 13 #[.val (.int cc)] [])) rfl (hb hby d_vo_13) (by decide) (by decide)
  obtain ⟨b5, g5⟩ : ∃ z, z = h0.size := ⟨_, rfl⟩
  rw [← g5] at A5 D5 st5
  have g_b5 : n0 ≤ b5 := Nat.le_trans (Old.le O) (Nat.le_of_eq g5.symm)
  have sz_b5 : h0.size ≤ b5 := Nat.le_trans K.1 (Nat.le_of_eq g5.symm)
  replace O := O.ext E5
  replace K := K.ext E5
  have E_b5 := A5
  have F_value_b5 : Fld Z h5 b5 "java/lang/String" "value" "[B" .null := D5 (Or.inr (hw _ (List.mem_of_getElem? (i := 16) rfl))) (ty := (.array .byte)) (by decide)
  have F_coder_b5 : Fld Z h5 b5 "java/lang/String" "coder" "B" (.int (0 : Int32)) := D5 (Or.inr (hw _ (List.mem_of_getElem? (i := 17) rfl))) (ty := .byte) (by decide)
  refine Go.by (T' := T5) (f' := (mkF m 16 #[.val (.int cc)] [(.ref b5)])) (st5) ?_
  refine Go.by (T' := T5) (f' := (mkF m 17 #[.val (.int cc)] [(.ref b5), (.ref b5)])) (fun _ k => XS.dup X5.here hx rfl (hb hby d_vo_16) rfl rfl k) ?_
  refine Go.by (T' := T5) (f' := (mkF m 18 #[.val (.int cc)] [(.int cc), (.ref b5), (.ref b5)])) (fun _ k => XS.iloadN X5.here hx rfl (hb hby d_vo_17) rfl k) ?_
  obtain ⟨v6, _, ⟨T6, L6, k6, n6⟩, -, X6, ⟨Lc6, hQ6, l6, y6, z6⟩, st6⟩ := Jvm.LawKit.callS X5 hx (y := (⟨"java/lang/StringLatin1", "toBytes", "(C)[B"⟩ : MethodName)) hown (mvT hZ (hw _ (List.mem_of_getElem? (i := 267) rfl))) (mvT hZ (hw _ (List.mem_of_getElem? (i := 268) rfl))) (mvT hZ (hw _ (List.mem_of_getElem? (i := 264) rfl))) (mvT hZ (hw _ (List.mem_of_getElem? (i := 269) rfl))) (by decide) (backOf (W := 2) (rm_tob l Z a0 hw [] cc h5 n0 O) hZ (hw _ (List.mem_of_getElem? (i := 269) rfl)) (hw _ (List.mem_of_getElem? (i := 264) rfl)) (by decide) (by decide)) (g := (mkF m 18 #[.val (.int cc)] [(.int cc), (.ref b5), (.ref b5)])) rfl (by rw [hml]; rfl) (argsL := [(.int cc)]) (rest := [(.ref b5), (.ref b5)]) (lenOf pd_vo_1 rfl) rfl (by show 2 * 0 + _ ≤ _; exact Nat.le_of_eq rfl) (hb hby d_vo_18) (fun _ _ => ⟨rfl, e5, (by decide : 1 + 1 ≤ _), (by decide : 4 + 1 ≤ _)⟩)
  dsimp only [Pt.U, Pt.locs, Pt.cells, Pt.slots] at X6 l6 y6 z6 st6 hQ6
  subst l6 y6 z6
  obtain ⟨r6, k26, vs6, rfl, Nq6, K6, gr6, Vr6⟩ := hQ6
  replace N := Fr.app N Nq6
  have ne_b5_r6 : b5 ≠ r6 := Nat.ne_of_lt (Nat.lt_of_lt_of_le E_b5.lt gr6)
  have g_r6 : n0 ≤ r6 := Nat.le_trans (Old.le O) gr6
  have sz_r6 : h0.size ≤ r6 := Nat.le_trans K.1 gr6
  replace E_b5 := E_b5.keep K6
  replace F_value_b5 := F_value_b5.keep K6 nin0
  replace F_coder_b5 := F_coder_b5.keep K6 nin0
  replace O := O.keep K6 all0
  replace K := K.trans K6 all0
  refine Go.by (T' := T6) (f' := (mkF m 21 #[.val (.int cc)] [(.ref r6), (.ref b5), (.ref b5)])) (st6) ?_
  refine Go.by (T' := T6) (f' := (mkF m 22 #[.val (.int cc)] [(.int (0 : Int32)), (.ref r6), (.ref b5), (.ref b5)])) (fun _ k => XS.iconst X6.here hx rfl (hb hby d_vo_21) k) ?_
  obtain ⟨v7, _, ⟨T7, L7, k7, n7⟩, -, X7, ⟨Lc7, hQ7, l7, y7, z7⟩, st7⟩ := X6.specialBack hx (y := (⟨"java/lang/String", "<init>", "([BB)V"⟩ : MethodName)) rfl hown (mvT hZ (hw _ (List.mem_of_getElem? (i := 270) rfl))) (mvT hZ (hw _ (List.mem_of_getElem? (i := 271) rfl))) (mvT hZ (hw _ (List.mem_of_getElem? (i := 272) rfl))) (by decide) (backOf (W := 1) (rm_ibb l Z a0 hw [] b5 r6 T6.heap n0 O E_b5 F_value_b5 F_coder_b5 g_b5) hZ (hw _ (List.mem_of_getElem? (i := 272) rfl)) (hw _ (List.mem_of_getElem? (i := 2) rfl)) (by decide) (by decide)) (g := (mkF m 22 #[.val (.int cc)] [(.int (0 : Int32)), (.ref r6), (.ref b5), (.ref b5)])) rfl (by rw [hml]; rfl) (Steps.refl _) (a := b5) (argsL := [(.ref r6), (.int (0 : Int32))]) (rest := [(.ref b5)]) (lenOf pd_vo_2 rfl) rfl (by show 2 * 0 + _ ≤ _; exact Nat.le_of_eq rfl) (hb hby d_vo_22) (fun _ _ => ⟨rfl, rfl, (by decide : 2 + 0 ≤ _), (by decide : 5 + 0 ≤ _)⟩)
  dsimp only [Pt.U, Pt.locs, Pt.cells, Pt.slots] at X7 l7 y7 z7 st7 hQ7
  subst l7 y7 z7
  obtain ⟨rfl, Nq7, K7, Gv7, Gc7⟩ := hQ7
  replace N := Fr.app N Nq7
  replace E_b5 := E_b5.keep K7
  replace Vr6 := Vr6.keep K7 (ninS (Ne.symm ne_b5_r6) nin0)
  replace O := O.keep K7 (allS g_b5 all0)
  replace K := K.trans K7 (allS (Or.inr sz_b5) all0)
  refine Go.by (T' := T7) (f' := (mkF m 25 #[.val (.int cc)] [(.ref b5)])) (fun _ k => st7.trans k) ?_
  obtain ⟨fs, hr, hrun, hended, hW, hsame⟩ := X7.leave (v := some (.ref b5)) (fun h => by rw [Bd.returns] at h; cases h)
  refine ⟨_, _, retOut X7 hx Bd.returns rfl (Or.inr (Or.inr (Or.inr (Or.inr ⟨rfl, rfl, rfl⟩)))) (hb hby d_vo_25) hr, hrun, hended, _, _, rfl, ?_, ⟨_, rfl⟩, hW, hsame.mono (by decide) (by decide)⟩
  show Qt Z 1 h0 n0 (some (.ref b5)) T7.heap _
  exact ⟨_, _, _, _, rfl, N, K, sz_b5, sz_r6, E_b5, Gv7, Gc7, Vr6⟩

theorem d_sv0_0 : decode jdk_42_method_149_code 0 = .ok (.aload_n 0, 1) := by decide +kernel
theorem d_sv0_1 : decode jdk_42_method_149_code 1 = .ok (.invokespecial 1, 3) := by decide +kernel
theorem d_sv0_4 : decode jdk_42_method_149_code 4 = .ok (.iload_n 3, 1) := by decide +kernel
theorem d_sv0_5 : decode jdk_42_method_149_code 5 = .ok (.ifCond .ne 22, 3) := by decide +kernel
theorem d_sv0_8 : decode jdk_42_method_149_code 8 = .ok (.aload_n 0, 1) := by decide +kernel
theorem d_sv0_9 : decode jdk_42_method_149_code 9 = .ok (.ldc 7, 2) := by decide +kernel
theorem d_sv0_11 : decode jdk_42_method_149_code 11 = .ok (.getfield 9, 3) := by decide +kernel
theorem d_sv0_14 : decode jdk_42_method_149_code 14 = .ok (.putfield 9, 3) := by decide +kernel
theorem d_sv0_17 : decode jdk_42_method_149_code 17 = .ok (.aload_n 0, 1) := by decide +kernel
theorem d_sv0_18 : decode jdk_42_method_149_code 18 = .ok (.ldc 7, 2) := by decide +kernel
theorem d_sv0_20 : decode jdk_42_method_149_code 20 = .ok (.getfield 15, 3) := by decide +kernel
theorem d_sv0_23 : decode jdk_42_method_149_code 23 = .ok (.putfield 15, 3) := by decide +kernel
theorem d_sv0_26 : decode jdk_42_method_149_code 26 = .ok (.return_, 1) := by decide +kernel
theorem pn_sv0 : plainFor (⟨"java/lang/String", "<init>", "([CIILjava/lang/Void;)V"⟩ : MethodName) = true := plainFor_of_name (by first | (simp [plainName, overriddenIn]; done) | decide +kernel)
theorem ef_sv0 (m : MethodId) (x0 : Addr) (x1 : Addr) : entryFrame m #[(.ref x0), (.ref x1), (.int (0 : Int32)), (.int (0 : Int32)), .null] 6 = mkF m 0 #[.val (.ref x0), .val (.ref x1), .val (.int (0 : Int32)), .val (.int (0 : Int32)), .val .null, .unset] [] := by first | (simp [entryFrame, mkF, argsToLocals, Value.category]; done) | rfl
set_option maxRecDepth 65536 in
set_option maxHeartbeats 40000000 in
theorem rm_sv0 (l : Launch) (Z : State) (a0 : Array Value) (hw : ∀ d ∈ tables_1, d.before a0 Z = true) (ws : List Jvm.Cond) (hEL : EW Z a0 consts_1) (x ca : Addr) (kc : ClassId) (zc : Int32) (ls us ss : Addr) (hS0 : Sf Z zc ls us ss) (h0 : Heap) (n0 : Nat) (O : Old Z n0 h0) (E_x : Exa Z h0 x "java/lang/String") (Fv_x : Fld Z h0 x "java/lang/String" "value" "[B" .null) (Fc_x : Fld Z h0 x "java/lang/String" "coder" "B" (.int 0)) (g_x : n0 ≤ x) (V_c : Arv Z h0 ca kc .char (0 : Int32) [] (.int 0)) :
    MetFree l (⟨"java/lang/String", "<init>", "([CIILjava/lang/Void;)V"⟩ : MethodName) (head1 (Jvm.Cond.code (⟨"java/lang/String", "<init>", "([CIILjava/lang/Void;)V"⟩ : MethodName) jdk_42_method_149_code 6 none :: ws) ({ frames := 1, cells := 4, slots := 8, locals := 12 } : Room)) (fun as_ U => as_ = #[(.ref x), (.ref ca), (.int (0 : Int32)), (.int (0 : Int32)), .null] ∧ Z.Warmed39 U.vm ∧ U.heap = h0 ∧ CHv Z consts_1 U.vm h0) (fun _ _ _ _ _ => True) (fun _ U o U' => ∃ v L, o = .returned v ∧ Qs0 Z x h0 n0 v U'.heap L ∧ CHr Z consts_1 U.vm U.heap U'.vm U'.heap ∧ ReturnedEndW U o U' L ({ frames := 1, cells := 4, slots := 8, locals := 12 } : Room).cells ({ frames := 1, cells := 4, slots := 8, locals := 12 } : Room).slots) := by
  refine MetFree.of_bodySF pn_sv0 hisR ?_
  intro p e s m args below meth c s₁ Bd hml0 hP hK
  obtain ⟨rfl, hZ, hh, H0⟩ := hP
  have hx := Bd.exec
  have hby := Bd.bytes
  have hml : c.maxLocals = 6 := hml0
  have hown : s.vm.findClass "java/lang/String" = some m.cls := findClass_of_methodNamed Bd.named
  have hnm := (name_of_methodNamed Bd.named Bd.method).1
  have X0 : Stand p l e ({ frames := 1, cells := 4, slots := 8, locals := 12 } : Room) (s.setVm s.vm) m #[(.ref x), (.ref ca), (.int (0 : Int32)), (.int (0 : Int32)), .null] below meth c s₁ [] 0 0 := Stand.of_body Bd
  have e0 : s₁.heap = h0 := by rw [← hh, Bd.state]; rfl
  replace hZ : Z.Warmed39 (s.setVm s.vm).vm := hZ
  replace hown : (s.setVm s.vm).vm.findClass "java/lang/String" = some m.cls := hown
  have N := Fr.nil n0
  have hS : s.Since s.vm s.heap.size := (State.WarmedH.refl s).since _
  have hk : s.heap.size ≤ h0.size := Nat.le_of_eq (by rw [hh])
  have C : CHr Z consts_1 s.vm h0 s.vm h0 := CHr.refl H0
  have K : Keep h0 h0 [x] := Keep.refl _ _
  refine Go.by (T' := s₁) (f' := (mkF m 0 #[.val (.ref x), .val (.ref ca), .val (.int (0 : Int32)), .val (.int (0 : Int32)), .val .null, .unset] [])) (fun _ k => castTop (ef_sv0 m x ca) k) ?_
  have Sf_x : Safe Z consts_1 s.vm h0 x := own_safe_null hZ.alike E_x (hw _ (List.mem_of_getElem? (i := 1) rfl)) Fv_x
  refine Go.by (T' := s₁) (f' := (mkF m 1 #[.val (.ref x), .val (.ref ca), .val (.int (0 : Int32)), .val (.int (0 : Int32)), .val .null, .unset] [(.ref x)])) (fun _ k => XS.aloadN X0.here hx rfl (hb hby d_sv0_0) rfl rfl k) ?_
  obtain ⟨T1, X1, e1, st1⟩ := initO X0 hx hZ hown (hw _ (List.mem_of_getElem? (i := 11) rfl)) (hw _ (List.mem_of_getElem? (i := 12) rfl)) (hw _ (List.mem_of_getElem? (i := 13) rfl)) e0 (g := (mkF m 1 #[.val (.ref x), .val (.ref ca), .val (.int (0 : Int32)), .val (.int (0 : Int32)), .val .null, .unset] [(.ref x)])) rfl (by rw [hml]; rfl) rfl (hb hby d_sv0_1) (by decide) (W := 0) (by show 2 * 0 + _ ≤ _; exact Nat.le_of_eq rfl) (by decide)
  refine Go.by (T' := T1) (f' := (mkF m 4 #[.val (.ref x), .val (.ref ca), .val (.int (0 : Int32)), .val (.int (0 : Int32)), .val .null, .unset] [])) (st1) ?_
  refine Go.by (T' := T1) (f' := (mkF m 5 #[.val (.ref x), .val (.ref ca), .val (.int (0 : Int32)), .val (.int (0 : Int32)), .val .null, .unset] [(.int (0 : Int32))])) (fun _ k => XS.iloadN X1.here hx rfl (hb hby d_sv0_4) rfl k) ?_
  refine Go.by (T' := T1) (f' := (mkF m 8 #[.val (.ref x), .val (.ref ca), .val (.int (0 : Int32)), .val (.int (0 : Int32)), .val .null, .unset] [])) (fun _ k => XS.ifNo X1.here hx rfl (hb hby d_sv0_5) rfl ((if0 _ _).trans (teq (by decide : (0 : Int32) = (0 : Int32))).2) k) ?_
  refine Go.by (T' := T1) (f' := (mkF m 9 #[.val (.ref x), .val (.ref ca), .val (.int (0 : Int32)), .val (.int (0 : Int32)), .val .null, .unset] [(.ref x)])) (fun _ k => XS.aloadN X1.here hx rfl (hb hby d_sv0_8) rfl rfl k) ?_
  obtain ⟨sa3, T3, h3, k13, sb3, kc3, X3, e3, E3, hS3, hk3, hZ3, hown3, Es3, Fc3, Fv3, Va3, -, -, C3, -, ne3, st3⟩ := ldcCH X1 hx hZ hown (hw _ (List.mem_of_getElem? (i := 14) rfl)) (fun d hd => hw d (own_wS d hd)) e1 hS hk hEL (by decide +kernel) C.1 (text := "") (z := Int32.ofNat 0) ⟨by decide +kernel, rfl⟩ (by decide) (by decide +kernel) (g := (mkF m 9 #[.val (.ref x), .val (.ref ca), .val (.int (0 : Int32)), .val (.int (0 : Int32)), .val .null, .unset] [(.ref x)])) rfl (hb hby d_sv0_9) (n := 0) (by decide +kernel) (by decide) (by decide) (by decide)
  replace Sf_x := CHr.safe C3 E_x.lt Sf_x
  have nx3_x := ne3 _ Sf_x
  replace E_x := E_x.ext E3
  replace Fv_x := Fv_x.ext E3
  replace Fc_x := Fc_x.ext E3
  replace V_c := V_c.ext E3
  replace O := O.ext E3
  replace K := K.ext E3
  replace C := C.trans C3
  replace hk := hk3
  replace hS := hS3
  replace hZ := hZ3
  replace hown := hown3
  refine Go.by (T' := T3) (f' := (mkF m 11 #[.val (.ref x), .val (.ref ca), .val (.int (0 : Int32)), .val (.int (0 : Int32)), .val .null, .unset] [(.ref sa3), (.ref x)])) (st3) ?_
  obtain ⟨T4, X4, e4, st4⟩ := getF X3 hx hZ hown (host := "") (Or.inl (hw _ (List.mem_of_getElem? (i := 20) rfl))) Via.refl e3 Fv3 (g := (mkF m 11 #[.val (.ref x), .val (.ref ca), .val (.int (0 : Int32)), .val (.int (0 : Int32)), .val .null, .unset] [(.ref sa3), (.ref x)])) rfl rfl (hb hby d_sv0_11)
  refine Go.by (T' := T4) (f' := (mkF m 14 #[.val (.ref x), .val (.ref ca), .val (.int (0 : Int32)), .val (.int (0 : Int32)), .val .null, .unset] [(.ref sb3), (.ref x)])) (st4) ?_
  obtain ⟨T5, h5, X5, e5, W5, st5⟩ := putF X4 hx hZ hown (host := "") (Or.inl (hw _ (List.mem_of_getElem? (i := 20) rfl))) Via.refl e4 Fv_x E_x (Or.inr ⟨(hw _ (List.mem_of_getElem? (i := 16) rfl)), rfl, hnm⟩) (hw _ (List.mem_of_getElem? (i := 1) rfl)) (ty := (.array .byte)) (by decide) rfl rfl (g := (mkF m 14 #[.val (.ref x), .val (.ref ca), .val (.int (0 : Int32)), .val (.int (0 : Int32)), .val .null, .unset] [(.ref sb3), (.ref x)])) rfl rfl (hb hby d_sv0_14)
  have Sa_W5 := Sf_x
  replace Sf_x := Safe.wr W5 Sa_W5 C.1 Sf_x
  have nq6 : ca ≠ x := (Ne.symm (own_nev E_x (hw _ (List.mem_of_getElem? (i := 1) rfl)) V_c))
  replace E_x := E_x.wr W5
  replace Fc_x := Fc_x.other W5 (Or.inr (slot_ne (Or.inr (hw _ (List.mem_of_getElem? (i := 17) rfl))) (Or.inr (hw _ (List.mem_of_getElem? (i := 16) rfl))) (by decide) (t := .byte) (t' := (.array .byte)) (by decide) (by decide)))
  replace V_c := V_c.other W5 nq6
  replace Es3 := Es3.wr W5
  replace Fc3 := Fc3.other W5 (Or.inl (Ne.symm nx3_x.1))
  replace Fv3 := Fv3.other W5 (Or.inl (Ne.symm nx3_x.1))
  replace Va3 := Va3.other W5 (Ne.symm nx3_x.2)
  replace C := C.trans (CHr.wr W5 Sa_W5 C.1)
  replace hk := Nat.le_trans hk (Keep.of_wr W5).1
  replace Fv_x := Fv_x.same W5
  replace O := O.wr W5 g_x
  replace K := K.wr W5 (Or.inl (by simp))
  replace N := Fr.snoc X5 N g_x
  refine Go.by (T' := T5) (f' := (mkF m 17 #[.val (.ref x), .val (.ref ca), .val (.int (0 : Int32)), .val (.int (0 : Int32)), .val .null, .unset] [])) (st5) ?_
  refine Go.by (T' := T5) (f' := (mkF m 18 #[.val (.ref x), .val (.ref ca), .val (.int (0 : Int32)), .val (.int (0 : Int32)), .val .null, .unset] [(.ref x)])) (fun _ k => XS.aloadN X5.here hx rfl (hb hby d_sv0_17) rfl rfl k) ?_
  obtain ⟨sa7, T7, h7, k17, sb7, kc7, X7, e7, E7, hS7, hk7, hZ7, hown7, Es7, Fc7, Fv7, Va7, -, -, C7, -, ne7, st7⟩ := ldcCH X5 hx hZ hown (hw _ (List.mem_of_getElem? (i := 14) rfl)) (fun d hd => hw d (own_wS d hd)) e5 hS hk hEL (by decide +kernel) C.1 (text := "") (z := Int32.ofNat 0) ⟨by decide +kernel, rfl⟩ (by decide) (by decide +kernel) (g := (mkF m 18 #[.val (.ref x), .val (.ref ca), .val (.int (0 : Int32)), .val (.int (0 : Int32)), .val .null, .unset] [(.ref x)])) rfl (hb hby d_sv0_18) (n := 0) (by decide +kernel) (by decide) (by decide) (by decide)
  replace Sf_x := CHr.safe C7 E_x.lt Sf_x
  have nx7_x := ne7 _ Sf_x
  replace E_x := E_x.ext E7
  replace Fv_x := Fv_x.ext E7
  replace Fc_x := Fc_x.ext E7
  replace V_c := V_c.ext E7
  replace Es3 := Es3.ext E7
  replace Fc3 := Fc3.ext E7
  replace Fv3 := Fv3.ext E7
  replace Va3 := Va3.ext E7
  replace O := O.ext E7
  replace K := K.ext E7
  replace C := C.trans C7
  replace hk := hk7
  replace hS := hS7
  replace hZ := hZ7
  replace hown := hown7
  refine Go.by (T' := T7) (f' := (mkF m 20 #[.val (.ref x), .val (.ref ca), .val (.int (0 : Int32)), .val (.int (0 : Int32)), .val .null, .unset] [(.ref sa7), (.ref x)])) (st7) ?_
  obtain ⟨T8, X8, e8, st8⟩ := getF X7 hx hZ hown (host := "") (Or.inl (hw _ (List.mem_of_getElem? (i := 21) rfl))) Via.refl e7 Fc7 (g := (mkF m 20 #[.val (.ref x), .val (.ref ca), .val (.int (0 : Int32)), .val (.int (0 : Int32)), .val .null, .unset] [(.ref sa7), (.ref x)])) rfl rfl (hb hby d_sv0_20)
  refine Go.by (T' := T8) (f' := (mkF m 23 #[.val (.ref x), .val (.ref ca), .val (.int (0 : Int32)), .val (.int (0 : Int32)), .val .null, .unset] [(.int (0 : Int32)), (.ref x)])) (st8) ?_
  obtain ⟨T9, h9, X9, e9, W9, st9⟩ := putFN X8 hx hZ hown (hw _ (List.mem_of_getElem? (i := 21) rfl)) Via.refl e8 Fc_x E_x (Or.inr ⟨(hw _ (List.mem_of_getElem? (i := 17) rfl)), rfl, hnm⟩) (hw _ (List.mem_of_getElem? (i := 1) rfl)) (ty := .byte) (v' := (.int (0 : Int32))) (by decide) rfl rfl (g := (mkF m 23 #[.val (.ref x), .val (.ref ca), .val (.int (0 : Int32)), .val (.int (0 : Int32)), .val .null, .unset] [(.int (0 : Int32)), (.ref x)])) rfl rfl (hb hby d_sv0_23)
  have Sa_W9 := Sf_x
  replace Sf_x := Safe.wr W9 Sa_W9 C.1 Sf_x
  replace E_x := E_x.wr W9
  replace Fv_x := Fv_x.other W9 (Or.inr (slot_ne (Or.inr (hw _ (List.mem_of_getElem? (i := 16) rfl))) (Or.inr (hw _ (List.mem_of_getElem? (i := 17) rfl))) (by decide) (t := (.array .byte)) (t' := .byte) (by decide) (by decide)))
  replace V_c := V_c.other W9 nq6
  replace Es3 := Es3.wr W9
  replace Fc3 := Fc3.other W9 (Or.inl (Ne.symm nx3_x.1))
  replace Fv3 := Fv3.other W9 (Or.inl (Ne.symm nx3_x.1))
  replace Va3 := Va3.other W9 (Ne.symm nx3_x.2)
  replace Es7 := Es7.wr W9
  replace Fc7 := Fc7.other W9 (Or.inl (Ne.symm nx7_x.1))
  replace Fv7 := Fv7.other W9 (Or.inl (Ne.symm nx7_x.1))
  replace Va7 := Va7.other W9 (Ne.symm nx7_x.2)
  replace C := C.trans (CHr.wr W9 Sa_W9 C.1)
  replace hk := Nat.le_trans hk (Keep.of_wr W9).1
  replace Fc_x := Fc_x.same W9
  replace O := O.wr W9 g_x
  replace K := K.wr W9 (Or.inl (by simp))
  replace N := Fr.snoc X9 N g_x
  refine Go.by (T' := T9) (f' := (mkF m 26 #[.val (.ref x), .val (.ref ca), .val (.int (0 : Int32)), .val (.int (0 : Int32)), .val .null, .unset] [])) (st9) ?_
  obtain ⟨fs, hr, hrun, hended, q1, q2, q3, q4⟩ := X9.leaveW hS (by rw [e9]; exact hk) (v := none) (fun _ => rfl)
  refine ⟨_, _, X9.returnOut hx Bd.returns (hb hby d_sv0_26) hr, hrun, hended, _, _, rfl, ?_, ?_, q1, q2, q3, q4.mono (by decide) (by decide)⟩
  · show Qs0 Z x h0 n0 (none) T9.heap _
    rw [e9]
    exact ⟨rfl, N, K, sb3, _, _, Fv_x, Fc_x, Va3⟩
  · show CHr Z consts_1 s.vm s.heap T9.vm T9.heap
    rw [e9, hh]
    exact C.trans (CHv.at X9 hZ hEL C.1)

theorem d_sc0_0 : decode jdk_42_method_3_code 0 = .ok (.aload_n 0, 1) := by decide +kernel
theorem d_sc0_1 : decode jdk_42_method_3_code 1 = .ok (.aload_n 1, 1) := by decide +kernel
theorem d_sc0_2 : decode jdk_42_method_3_code 2 = .ok (.iconst 0, 1) := by decide +kernel
theorem d_sc0_3 : decode jdk_42_method_3_code 3 = .ok (.aload_n 1, 1) := by decide +kernel
theorem d_sc0_4 : decode jdk_42_method_3_code 4 = .ok (.arraylength, 1) := by decide +kernel
theorem d_sc0_5 : decode jdk_42_method_3_code 5 = .ok (.aconst_null, 1) := by decide +kernel
theorem d_sc0_6 : decode jdk_42_method_3_code 6 = .ok (.invokespecial 27, 3) := by decide +kernel
theorem d_sc0_9 : decode jdk_42_method_3_code 9 = .ok (.return_, 1) := by decide +kernel
theorem pn_sc0 : plainFor (⟨"java/lang/String", "<init>", "([C)V"⟩ : MethodName) = true := plainFor_of_name (by first | (simp [plainName, overriddenIn]; done) | decide +kernel)
theorem pd_sc0_0 : parseMethodDescriptor "([CIILjava/lang/Void;)V" = some ⟨[(.array .char), .int, .int, (.object "java/lang/Void")], none⟩ := by decide +kernel
theorem ef_sc0 (m : MethodId) (x0 : Addr) (x1 : Addr) : entryFrame m #[(.ref x0), (.ref x1)] 2 = mkF m 0 #[.val (.ref x0), .val (.ref x1)] [] := by first | (simp [entryFrame, mkF, argsToLocals, Value.category]; done) | rfl
set_option maxRecDepth 65536 in
set_option maxHeartbeats 40000000 in
theorem rm_sc0 (l : Launch) (Z : State) (a0 : Array Value) (hw : ∀ d ∈ tables_1, d.before a0 Z = true) (ws : List Jvm.Cond) (hEL : EW Z a0 consts_1) (x ca : Addr) (kc : ClassId) (zc : Int32) (ls us ss : Addr) (hS0 : Sf Z zc ls us ss) (h0 : Heap) (n0 : Nat) (O : Old Z n0 h0) (E_x : Exa Z h0 x "java/lang/String") (Fv_x : Fld Z h0 x "java/lang/String" "value" "[B" .null) (Fc_x : Fld Z h0 x "java/lang/String" "coder" "B" (.int 0)) (g_x : n0 ≤ x) (V_c : Arv Z h0 ca kc .char (0 : Int32) [] (.int 0)) :
    MetFree l (⟨"java/lang/String", "<init>", "([C)V"⟩ : MethodName) (head1 (Jvm.Cond.code (⟨"java/lang/String", "<init>", "([C)V"⟩ : MethodName) jdk_42_method_3_code 2 none :: ws) ({ frames := 2, cells := 4, slots := 8, locals := 29 } : Room)) (fun as_ U => as_ = #[(.ref x), (.ref ca)] ∧ Z.Warmed39 U.vm ∧ U.heap = h0 ∧ CHv Z consts_1 U.vm h0) (fun _ _ _ _ _ => True) (fun _ U o U' => ∃ v L, o = .returned v ∧ Qs0 Z x h0 n0 v U'.heap L ∧ CHr Z consts_1 U.vm U.heap U'.vm U'.heap ∧ ReturnedEndW U o U' L ({ frames := 2, cells := 4, slots := 8, locals := 29 } : Room).cells ({ frames := 2, cells := 4, slots := 8, locals := 29 } : Room).slots) := by
  refine MetFree.of_bodySF pn_sc0 hisR ?_
  intro p e s m args below meth c s₁ Bd hml0 hP hK
  obtain ⟨rfl, hZ, hh, H0⟩ := hP
  have hx := Bd.exec
  have hby := Bd.bytes
  have hml : c.maxLocals = 2 := hml0
  have hown : s.vm.findClass "java/lang/String" = some m.cls := findClass_of_methodNamed Bd.named
  have hnm := (name_of_methodNamed Bd.named Bd.method).1
  have X0 : Stand p l e ({ frames := 2, cells := 4, slots := 8, locals := 29 } : Room) (s.setVm s.vm) m #[(.ref x), (.ref ca)] below meth c s₁ [] 0 0 := Stand.of_body Bd
  have e0 : s₁.heap = h0 := by rw [← hh, Bd.state]; rfl
  replace hZ : Z.Warmed39 (s.setVm s.vm).vm := hZ
  replace hown : (s.setVm s.vm).vm.findClass "java/lang/String" = some m.cls := hown
  have N := Fr.nil n0
  have hS : s.Since s.vm s.heap.size := (State.WarmedH.refl s).since _
  have hk : s.heap.size ≤ h0.size := Nat.le_of_eq (by rw [hh])
  have C : CHr Z consts_1 s.vm h0 s.vm h0 := CHr.refl H0
  have K : Keep h0 h0 [x] := Keep.refl _ _
  refine Go.by (T' := s₁) (f' := (mkF m 0 #[.val (.ref x), .val (.ref ca)] [])) (fun _ k => castTop (ef_sc0 m x ca) k) ?_
  have Sf_x : Safe Z consts_1 s.vm h0 x := own_safe_null hZ.alike E_x (hw _ (List.mem_of_getElem? (i := 1) rfl)) Fv_x
  refine Go.by (T' := s₁) (f' := (mkF m 1 #[.val (.ref x), .val (.ref ca)] [(.ref x)])) (fun _ k => XS.aloadN X0.here hx rfl (hb hby d_sc0_0) rfl rfl k) ?_
  refine Go.by (T' := s₁) (f' := (mkF m 2 #[.val (.ref x), .val (.ref ca)] [(.ref ca), (.ref x)])) (fun _ k => XS.aloadN X0.here hx rfl (hb hby d_sc0_1) rfl rfl k) ?_
  refine Go.by (T' := s₁) (f' := (mkF m 3 #[.val (.ref x), .val (.ref ca)] [(.int (0 : Int32)), (.ref ca), (.ref x)])) (fun _ k => XS.iconst X0.here hx rfl (hb hby d_sc0_2) k) ?_
  refine Go.by (T' := s₁) (f' := (mkF m 4 #[.val (.ref x), .val (.ref ca)] [(.ref ca), (.int (0 : Int32)), (.ref ca), (.ref x)])) (fun _ k => XS.aloadN X0.here hx rfl (hb hby d_sc0_3) rfl rfl k) ?_
  obtain ⟨cl1, Ar1, q1, S1, N1', H1, G1⟩ := id V_c
  refine Go.by (T' := s₁) (f' := (mkF m 5 #[.val (.ref x), .val (.ref ca)] [(.int (0 : Int32)), (.int (0 : Int32)), (.ref ca), (.ref x)])) (fun t k => X0.arraylength hx (by rw [e0]; exact Ar1.1) (State.isArrayOf_alike hZ.alike Ar1.2.1) (g := (mkF m 4 #[.val (.ref x), .val (.ref ca)] [(.ref ca), (.int (0 : Int32)), (.ref ca), (.ref x)])) rfl rfl (hb hby d_sc0_4) t (by rw [len_of S1 N1']; exact k)) ?_
  refine Go.by (T' := s₁) (f' := (mkF m 6 #[.val (.ref x), .val (.ref ca)] [.null, (.int (0 : Int32)), (.int (0 : Int32)), (.ref ca), (.ref x)])) (fun _ k => XS.aconstNull X0.here hx rfl (hb hby d_sc0_5) k) ?_
  obtain ⟨v2, _, ⟨T2, L2, k2, n2⟩, -, X2, hS2, hg2, ⟨Lc2, hQ2, l2, y2, z2, C2⟩, st2⟩ := X0.specialBackS hx (y := (⟨"java/lang/String", "<init>", "([CIILjava/lang/Void;)V"⟩ : MethodName)) rfl hown (mvT hZ (hw _ (List.mem_of_getElem? (i := 7) rfl))) (mvT hZ (hw _ (List.mem_of_getElem? (i := 8) rfl))) (mvT hZ (hw _ (List.mem_of_getElem? (i := 10) rfl))) (by decide) (backOfSH (W := 0) (s := s) (EL := consts_1) (rm_sv0 l Z a0 hw [] hEL x ca _ zc ls us ss hS0 h0 n0 O E_x Fv_x Fc_x g_x V_c) hZ (hw _ (List.mem_of_getElem? (i := 10) rfl)) (hw _ (List.mem_of_getElem? (i := 2) rfl)) (by decide) (by decide) hEL C.1) (g := (mkF m 6 #[.val (.ref x), .val (.ref ca)] [.null, (.int (0 : Int32)), (.int (0 : Int32)), (.ref ca), (.ref x)])) rfl (by rw [hml]; rfl) (Steps.refl _) (a := x) (argsL := [(.ref ca), (.int (0 : Int32)), (.int (0 : Int32)), .null]) (rest := []) (lenOf pd_sc0_0 rfl) rfl (by show 2 * 0 + _ ≤ _; exact Nat.le_of_eq rfl) (hb hby d_sc0_6) (fun _ _ => ⟨rfl, e0, (by decide : 0 + 4 ≤ _), (by decide : 0 + 8 ≤ _)⟩)
  dsimp only [Pt.U, Pt.locs, Pt.cells, Pt.slots] at X2 l2 y2 z2 st2 hQ2 hS2 hg2 C2
  subst l2 y2 z2
  have hown2 : (s.setVm T2.vm).vm.findClass "java/lang/String" = some m.cls := by rw [show (s.setVm T2.vm).vm = T2.vm from rfl, hS2.1.alike.findClass]; exact hown
  have hZ2 : Z.Warmed39 (s.setVm T2.vm).vm := State.Warmed39.trans (t := s.setVm s.vm) hZ hS2.1
  have ag2 := Stand.againW (s := s) X2 hS hS2 (Nat.le_trans (by rw [e0]; exact hk) hg2)
  replace X2 := ag2.1
  replace hS := ag2.2
  replace Sf_x := CHr.safe C2 E_x.lt Sf_x
  obtain ⟨rfl, Nq2, K2, r2, k22, vs2, Gv2, Gc2, Vr2⟩ := hQ2
  replace N := Fr.app N Nq2
  have nq3 : ca ≠ x := (Ne.symm (own_nev E_x (hw _ (List.mem_of_getElem? (i := 1) rfl)) V_c))
  replace E_x := E_x.keep K2
  replace V_c := V_c.keep K2 (ninS nq3 nin0)
  replace O := O.keep K2 (allS g_x all0)
  replace K := K.trans K2 (allS (Or.inl (by simp)) all0)
  replace C := C.trans C2
  replace hZ := hZ2
  replace hown := hown2
  replace hk := Nat.le_refl T2.heap.size
  refine Go.by (T' := T2) (f' := (mkF m 9 #[.val (.ref x), .val (.ref ca)] [])) (fun _ k => st2.trans k) ?_
  obtain ⟨fs, hr, hrun, hended, q1, q2, q3, q4⟩ := X2.leaveW hS hk (v := none) (fun _ => rfl)
  refine ⟨_, _, X2.returnOut hx Bd.returns (hb hby d_sc0_9) hr, hrun, hended, _, _, rfl, ?_, ?_, q1, q2, q3, q4.mono (by decide) (by decide)⟩
  · show Qs0 Z x h0 n0 (none) T2.heap _
    exact ⟨rfl, N, K, r2, _, _, Gv2, Gc2, Vr2⟩
  · show CHr Z consts_1 s.vm s.heap T2.vm T2.heap
    rw [hh]
    exact C.trans (CHv.at X2 hZ hEL C.1)

theorem pn_rm1 : plainFor (⟨"com/example/swapdeck/swapdeck/swap/CloseOutExceptionNoLossPinLaw", "law", "(IIII)Z"⟩ : MethodName) = true := plainFor_of_name (by first | (simp [plainName, overriddenIn]; done) | decide +kernel)
theorem pd_rm1_0 : parseMethodDescriptor "(Ljava/lang/String;I)Lcom/example/swapdeck/swapdeck/swap/CloseOutException;" = some ⟨[(.object "java/lang/String"), .int], some (.object "com/example/swapdeck/swapdeck/swap/CloseOutException")⟩ := by decide +kernel
theorem pd_rm1_1 : parseMethodDescriptor "()Ljava/lang/String;" = some ⟨[], some (.object "java/lang/String")⟩ := by decide +kernel
theorem pd_rm1_2 : parseMethodDescriptor "()Lcom/example/swapdeck/swapdeck/swap/CloseOutException$Input;" = some ⟨[], some (.object "com/example/swapdeck/swapdeck/swap/CloseOutException$Input")⟩ := by decide +kernel
theorem pd_rm1_3 : parseMethodDescriptor "([C)V" = some ⟨[(.array .char)], none⟩ := by decide +kernel
theorem pd_rm1_4 : parseMethodDescriptor "(C)Ljava/lang/String;" = some ⟨[.char], some (.object "java/lang/String")⟩ := by decide +kernel
theorem ef_rm1 (m : MethodId) (x0 : Int32) (x1 : Int32) (x2 : Int32) (x3 : Int32) : entryFrame m #[(.int x0), (.int x1), (.int x2), (.int x3)] maxLocals = mkF m 0 #[.val (.int x0), .val (.int x1), .val (.int x2), .val (.int x3), .unset, .unset, .unset] [] := by first | (simp [entryFrame, mkF, argsToLocals, Value.category, maxLocals]; done) | rfl
set_option maxRecDepth 65536 in
set_option maxHeartbeats 40000000 in
theorem rm1 (l : Launch) (Z : State) (a0 : Array Value) (hw : ∀ d ∈ tables_1, d.before a0 Z = true) (ws : List Jvm.Cond) (hl : l.stackTraces = true) (hch : Hch Z a0) (hEL : EW Z a0 consts_1) (p0 p1 p2 p3 : Int32) (zc : Int32) (ls us ss : Addr) (hS0 : Sf Z zc ls us ss) (h0 : Heap) (n0 : Nat) (O : Old Z n0 h0)  :
    MetFree l x (head1 (Jvm.Cond.code x code maxLocals ret :: ws) room_1) (fun as_ U => as_ = #[(.int p0), (.int p1), (.int p2), (.int p3)] ∧ Z.Warmed39 U.vm ∧ U.heap = h0 ∧ CHv Z consts_1 U.vm h0) (fun _ _ _ s _ => framesKnown s = true ∧ tablesKnown s = true) (fun _ U o U' => ∃ v L, o = .returned v ∧ Q1 n0 v U'.heap L ∧ CHr Z consts_1 U.vm U.heap U'.vm U'.heap ∧ ReturnedEndW U o U' L 56 12608) := by
  refine MetFree.of_bodySF pn_rm1 hisR ?_
  intro p e s m args below meth c s₁ Bd hml0 hP hK
  obtain ⟨rfl, hZ, hh, H0⟩ := hP
  have hx := Bd.exec
  have hby := Bd.bytes
  have hml : c.maxLocals = 7 := hml0
  have hown : s.vm.findClass "com/example/swapdeck/swapdeck/swap/CloseOutExceptionNoLossPinLaw" = some m.cls := findClass_of_methodNamed Bd.named
  have hnm := (name_of_methodNamed Bd.named Bd.method).1
  have X0 : Stand p l e room_1 (s.setVm s.vm) m #[(.int p0), (.int p1), (.int p2), (.int p3)] below meth c s₁ [] 0 0 := Stand.of_body Bd
  have e0 : s₁.heap = h0 := by rw [← hh, Bd.state]; rfl
  replace hZ : Z.Warmed39 (s.setVm s.vm).vm := hZ
  replace hown : (s.setVm s.vm).vm.findClass "com/example/swapdeck/swapdeck/swap/CloseOutExceptionNoLossPinLaw" = some m.cls := hown
  replace hK : s.vm.MethodsKnown ∧ s.vm.FramesKnown below := Stand.known (s := s) X0 hK.2 hK.1
  have N := Fr.nil n0
  have hS : s.Since s.vm s.heap.size := (State.WarmedH.refl s).since _
  have hk : s.heap.size ≤ h0.size := Nat.le_of_eq (by rw [hh])
  have C : CHr Z consts_1 s.vm h0 s.vm h0 := CHr.refl H0
  have K : Keep h0 h0 [] := Keep.refl _ _
  refine Go.by (T' := s₁) (f' := (mkF m 0 #[.val (.int p0), .val (.int p1), .val (.int p2), .val (.int p3), .unset, .unset, .unset] [])) (fun _ k => castTop (ef_rm1 m p0 p1 p2 p3) k) ?_
  have hws : ∀ d ∈ StrChars.Road.words, d.before a0 Z = true := fun d hd => hw d ((by decide +kernel : ∀ d ∈ StrChars.Road.words, d ∈ tables_1) d hd)
  refine Go.by (T' := s₁) (f' := (mkF m 1 #[.val (.int p0), .val (.int p1), .val (.int p2), .val (.int p3), .unset, .unset, .unset] [(.int p3)])) (fun _ k => XS.iloadN X0.here hx rfl (hb hby at_0) rfl k) ?_
  refine Go.by (T' := s₁) (f' := (mkF m 2 #[.val (.int p0), .val (.int p1), .val (.int p2), .val (.int p3), .unset, .unset, .unset] [(.int (3 : Int32)), (.int p3)])) (fun _ k => XS.iconst X0.here hx rfl (hb hby at_1) k) ?_
  refine Go.by (T' := s₁) (f' := (mkF m 3 #[.val (.int p0), .val (.int p1), .val (.int p2), .val (.int p3), .unset, .unset, .unset] [(.int (p3 &&& (3 : Int32)))])) (fun _ k => XS.iand X0.here hx rfl (hb hby at_2) rfl k) ?_
  refine Go.by (T' := s₁) (f' := (mkF m 5 #[.val (.int p0), .val (.int p1), .val (.int p2), .val (.int p3), .unset, .val (.int (p3 &&& (3 : Int32))), .unset] [])) (fun _ k => XS.istore X0.here hx rfl (hb hby at_3) rfl (l' := #[.val (.int p0), .val (.int p1), .val (.int p2), .val (.int p3), .unset, .val (.int (p3 &&& (3 : Int32))), .unset]) rfl k) ?_
  refine Go.by (T' := s₁) (f' := (mkF m 7 #[.val (.int p0), .val (.int p1), .val (.int p2), .val (.int p3), .unset, .val (.int (p3 &&& (3 : Int32))), .unset] [(.int (p3 &&& (3 : Int32)))])) (fun _ k => XS.iload X0.here hx rfl (hb hby at_5) rfl k) ?_
  by_cases hc7_1 : (p3 &&& (3 : Int32)) = (0 : Int32)
  · skip
    refine Go.by (T' := s₁) (f' := (mkF m 10 #[.val (.int p0), .val (.int p1), .val (.int p2), .val (.int p3), .unset, .val (.int (p3 &&& (3 : Int32))), .unset] [])) (fun _ k => XS.ifNo X0.here hx rfl (hb hby at_7) rfl ((if0 _ _).trans (teq hc7_1).2) k) ?_
    refine Go.by (T' := s₁) (f' := (mkF m 11 #[.val (.int p0), .val (.int p1), .val (.int p2), .val (.int p3), .unset, .val (.int (p3 &&& (3 : Int32))), .unset] [.null])) (fun _ k => XS.aconstNull X0.here hx rfl (hb hby at_10) k) ?_
    refine Go.by (T' := s₁) (f' := (mkF m 13 #[.val (.int p0), .val (.int p1), .val (.int p2), .val (.int p3), .val .null, .val (.int (p3 &&& (3 : Int32))), .unset] [])) (fun _ k => XS.astore X0.here hx rfl (hb hby at_11) rfl rfl (l' := #[.val (.int p0), .val (.int p1), .val (.int p2), .val (.int p3), .val .null, .val (.int (p3 &&& (3 : Int32))), .unset]) rfl k) ?_
    refine Go.by (T' := s₁) (f' := (mkF m 93 #[.val (.int p0), .val (.int p1), .val (.int p2), .val (.int p3), .val .null, .val (.int (p3 &&& (3 : Int32))), .unset] [])) (fun _ k => XS.goto X0.here hx rfl (pc0 := 13) (pc' := 93) rfl (hb hby at_13) (by decide) (by decide) k) ?_
    refine Go.by (T' := s₁) (f' := (mkF m 95 #[.val (.int p0), .val (.int p1), .val (.int p2), .val (.int p3), .val .null, .val (.int (p3 &&& (3 : Int32))), .unset] [.null])) (fun _ k => XS.aload X0.here hx rfl (hb hby at_93) rfl rfl k) ?_
    refine Go.by (T' := s₁) (f' := (mkF m 96 #[.val (.int p0), .val (.int p1), .val (.int p2), .val (.int p3), .val .null, .val (.int (p3 &&& (3 : Int32))), .unset] [(.int p2), .null])) (fun _ k => XS.iloadN X0.here hx rfl (hb hby at_95) rfl k) ?_
    obtain ⟨v2, _, ⟨T2, L2, k2, n2⟩, -, X2, hS2, hg2, ⟨Lc2, hQ2, l2, y2, z2, C2⟩, st2⟩ := callSS X0 hx (y := (⟨"com/example/swapdeck/swapdeck/swap/CloseOutException", "noLoss", "(Ljava/lang/String;I)Lcom/example/swapdeck/swapdeck/swap/CloseOutException;"⟩ : MethodName)) hown (mvT hZ (hw _ (List.mem_of_getElem? (i := 22) rfl))) (mvT hZ (hw _ (List.mem_of_getElem? (i := 23) rfl))) (mvT hZ (hw _ (List.mem_of_getElem? (i := 24) rfl))) (mvT hZ (hw _ (List.mem_of_getElem? (i := 25) rfl))) (by decide) (backOfSKH (W := 0) (s := s) (EL := consts_1) (rm_nl0 l Z a0 hw [] hl hch hEL p2 zc ls us ss hS0 h0 n0 O) hZ (hw _ (List.mem_of_getElem? (i := 25) rfl)) (hw _ (List.mem_of_getElem? (i := 24) rfl)) (by decide) (by decide) hEL C.1 (Vm.MethodsKnown.alikeC hS.1.alike hK.1) (Vm.FramesKnown.alikeC hS.1.alike hK.2)) (g := (mkF m 96 #[.val (.int p0), .val (.int p1), .val (.int p2), .val (.int p3), .val .null, .val (.int (p3 &&& (3 : Int32))), .unset] [(.int p2), .null])) rfl (by rw [hml]; rfl) (argsL := [.null, (.int p2)]) (rest := []) (lenOf pd_rm1_0 rfl) rfl (by show 2 * 0 + _ ≤ _; exact Nat.le_of_eq rfl) (hb hby at_96) (fun _ _ => ⟨rfl, e0, (by decide : 0 + 25 ≤ _), (by decide : 0 + 5728 ≤ _)⟩)
    dsimp only [Pt.U, Pt.locs, Pt.cells, Pt.slots] at X2 l2 y2 z2 st2 hQ2 hS2 hg2 C2
    subst l2 y2 z2
    have hown2 : (s.setVm T2.vm).vm.findClass "com/example/swapdeck/swapdeck/swap/CloseOutExceptionNoLossPinLaw" = some m.cls := by rw [show (s.setVm T2.vm).vm = T2.vm from rfl, hS2.1.alike.findClass]; exact hown
    have hZ2 : Z.Warmed39 (s.setVm T2.vm).vm := State.Warmed39.trans (t := s.setVm s.vm) hZ hS2.1
    have ag2 := Stand.againW (s := s) X2 hS hS2 (Nat.le_trans (by rw [e0]; exact hk) hg2)
    replace X2 := ag2.1
    replace hS := ag2.2
    obtain ⟨ea2, rfl, Nq2, K2, Ea2, Ft2, Fi2⟩ := hQ2
    replace N := Fr.app N Nq2
    replace O := O.keep K2 all0
    replace K := K.trans K2 all0
    replace C := C.trans C2
    replace hZ := hZ2
    replace hown := hown2
    replace hk := Nat.le_refl T2.heap.size
    refine Go.by (T' := T2) (f' := (mkF m 99 #[.val (.int p0), .val (.int p1), .val (.int p2), .val (.int p3), .val .null, .val (.int (p3 &&& (3 : Int32))), .unset] [(.ref ea2)])) (fun _ k => st2.trans k) ?_
    refine Go.by (T' := T2) (f' := (mkF m 101 #[.val (.int p0), .val (.int p1), .val (.int p2), .val (.int p3), .val .null, .val (.int (p3 &&& (3 : Int32))), .val (.ref ea2)] [])) (fun _ k => XS.astore X2.here hx rfl (hb hby at_99) rfl rfl (l' := #[.val (.int p0), .val (.int p1), .val (.int p2), .val (.int p3), .val .null, .val (.int (p3 &&& (3 : Int32))), .val (.ref ea2)]) rfl k) ?_
    refine Go.by (T' := T2) (f' := (mkF m 103 #[.val (.int p0), .val (.int p1), .val (.int p2), .val (.int p3), .val .null, .val (.int (p3 &&& (3 : Int32))), .val (.ref ea2)] [(.ref ea2)])) (fun _ k => XS.aload X2.here hx rfl (hb hby at_101) rfl rfl k) ?_
    refine Go.by (T' := T2) (f' := (mkF m 108 #[.val (.int p0), .val (.int p1), .val (.int p2), .val (.int p3), .val .null, .val (.int (p3 &&& (3 : Int32))), .val (.ref ea2)] [])) (fun _ k => XS.ifnonnullYes X2.here hx rfl (pc0 := 103) (pc' := 108) rfl (hb hby at_103) rfl (by decide) (by decide) k) ?_
    refine Go.by (T' := T2) (f' := (mkF m 110 #[.val (.int p0), .val (.int p1), .val (.int p2), .val (.int p3), .val .null, .val (.int (p3 &&& (3 : Int32))), .val (.ref ea2)] [(.ref ea2)])) (fun _ k => XS.aload X2.here hx rfl (hb hby at_108) rfl rfl k) ?_
    obtain ⟨cq3, kq3, q3a, q3b, q3c⟩ := isOf hZ rfl Ea2
    obtain ⟨v3, _, ⟨T3, L3, k3, n3⟩, -, X3, ⟨Lc3, hQ3, l3, y3, z3⟩, st3⟩ := X2.virtualBack hx (y := (⟨"com/example/swapdeck/swapdeck/swap/CloseOutException", "trade", "()Ljava/lang/String;"⟩ : MethodName)) (z := (⟨"com/example/swapdeck/swapdeck/swap/CloseOutException", "trade", "()Ljava/lang/String;"⟩ : MethodName)) hown (mvT hZ (hw _ (List.mem_of_getElem? (i := 248) rfl))) (mvT hZ (hw _ (List.mem_of_getElem? (i := 249) rfl))) (notFace_of_selects (args := #[]) (mvT hZ (hw _ (List.mem_of_getElem? (i := 251) rfl)))) (mvT hZ (hw _ (List.mem_of_getElem? (i := 251) rfl))) (mvT hZ (hw _ (List.mem_of_getElem? (i := 250) rfl))) (by decide) (backOf (W := 0) (rm_tr0 l Z a0 hw [] ea2  T2.heap n0 O Ft2) hZ (hw _ (List.mem_of_getElem? (i := 252) rfl)) (hw _ (List.mem_of_getElem? (i := 24) rfl)) (by decide) (by decide)) q3a q3c (g := (mkF m 110 #[.val (.int p0), .val (.int p1), .val (.int p2), .val (.int p3), .val .null, .val (.int (p3 &&& (3 : Int32))), .val (.ref ea2)] [(.ref ea2)])) rfl (by rw [hml]; rfl) (Steps.refl _) (argsL := []) (rest := []) (lenOf pd_rm1_1 rfl) rfl (by show 2 * 0 + _ ≤ _; exact Nat.le_of_eq rfl) (hb hby at_110) (fun _ _ => ⟨rfl, rfl, (by decide : 25 + 0 ≤ _), (by decide : 5728 + 0 ≤ _)⟩)
    dsimp only [Pt.U, Pt.locs, Pt.cells, Pt.slots] at X3 l3 y3 z3 st3 hQ3
    subst l3 y3 z3
    obtain ⟨rfl, Nq3, e3⟩ := hQ3
    replace N := Fr.app N Nq3
    refine Go.by (T' := T3) (f' := (mkF m 113 #[.val (.int p0), .val (.int p1), .val (.int p2), .val (.int p3), .val .null, .val (.int (p3 &&& (3 : Int32))), .val (.ref ea2)] [.null])) (fun _ k => st3.trans k) ?_
    refine Go.by (T' := T3) (f' := (mkF m 115 #[.val (.int p0), .val (.int p1), .val (.int p2), .val (.int p3), .val .null, .val (.int (p3 &&& (3 : Int32))), .val (.ref ea2)] [.null, .null])) (fun _ k => XS.aload X3.here hx rfl (hb hby at_113) rfl rfl k) ?_
    refine Go.by (T' := T3) (f' := (mkF m 118 #[.val (.int p0), .val (.int p1), .val (.int p2), .val (.int p3), .val .null, .val (.int (p3 &&& (3 : Int32))), .val (.ref ea2)] [])) (fun _ k => Jvm.RoadKit.acmp (g := (mkF m 115 #[.val (.int p0), .val (.int p1), .val (.int p2), .val (.int p3), .val .null, .val (.int (p3 &&& (3 : Int32))), .val (.ref ea2)] [.null, .null])) X3 hx rfl rfl rfl (pc0 := 115) (pc' := 118) (same := true) rfl (hb hby at_115) rfl (decide_eq_true rfl) (by decide) (by decide) k) ?_
    refine Go.by (T' := T3) (f' := (mkF m 120 #[.val (.int p0), .val (.int p1), .val (.int p2), .val (.int p3), .val .null, .val (.int (p3 &&& (3 : Int32))), .val (.ref ea2)] [(.ref ea2)])) (fun _ k => XS.aload X3.here hx rfl (hb hby at_118) rfl rfl k) ?_
    obtain ⟨cq4, kq4, q4a, q4b, q4c⟩ := isOf hZ e3 Ea2
    obtain ⟨v4, _, ⟨T4, L4, k4, n4⟩, -, X4, ⟨Lc4, hQ4, l4, y4, z4⟩, st4⟩ := X3.virtualBack hx (y := (⟨"com/example/swapdeck/swapdeck/swap/CloseOutException", "input", "()Lcom/example/swapdeck/swapdeck/swap/CloseOutException$Input;"⟩ : MethodName)) (z := (⟨"com/example/swapdeck/swapdeck/swap/CloseOutException", "input", "()Lcom/example/swapdeck/swapdeck/swap/CloseOutException$Input;"⟩ : MethodName)) hown (mvT hZ (hw _ (List.mem_of_getElem? (i := 253) rfl))) (mvT hZ (hw _ (List.mem_of_getElem? (i := 254) rfl))) (notFace_of_selects (args := #[]) (mvT hZ (hw _ (List.mem_of_getElem? (i := 256) rfl)))) (mvT hZ (hw _ (List.mem_of_getElem? (i := 256) rfl))) (mvT hZ (hw _ (List.mem_of_getElem? (i := 255) rfl))) (by decide) (backOf (W := 0) (rm_inp l Z a0 hw [] ea2 ls T2.heap n0 O Fi2) hZ (hw _ (List.mem_of_getElem? (i := 257) rfl)) (hw _ (List.mem_of_getElem? (i := 24) rfl)) (by decide) (by decide)) q4a q4c (g := (mkF m 120 #[.val (.int p0), .val (.int p1), .val (.int p2), .val (.int p3), .val .null, .val (.int (p3 &&& (3 : Int32))), .val (.ref ea2)] [(.ref ea2)])) rfl (by rw [hml]; rfl) (Steps.refl _) (argsL := []) (rest := []) (lenOf pd_rm1_2 rfl) rfl (by show 2 * 0 + _ ≤ _; exact Nat.le_of_eq rfl) (hb hby at_120) (fun _ _ => ⟨rfl, e3, (by decide : 25 + 0 ≤ _), (by decide : 5728 + 0 ≤ _)⟩)
    dsimp only [Pt.U, Pt.locs, Pt.cells, Pt.slots] at X4 l4 y4 z4 st4 hQ4
    subst l4 y4 z4
    obtain ⟨rfl, Nq4, e4⟩ := hQ4
    replace N := Fr.app N Nq4
    refine Go.by (T' := T4) (f' := (mkF m 123 #[.val (.int p0), .val (.int p1), .val (.int p2), .val (.int p3), .val .null, .val (.int (p3 &&& (3 : Int32))), .val (.ref ea2)] [(.ref ls)])) (fun _ k => st4.trans k) ?_
    obtain ⟨T5, X5, e5, st5⟩ := getS2 X4 hx hZ hown (host := "") (Or.inl (hw _ (List.mem_of_getElem? (i := 258) rfl))) Via.refl e4 (Sta.ext O.2 hS0.2.2.1) (g := (mkF m 123 #[.val (.int p0), .val (.int p1), .val (.int p2), .val (.int p3), .val .null, .val (.int (p3 &&& (3 : Int32))), .val (.ref ea2)] [(.ref ls)])) rfl (hb hby at_123)
    refine Go.by (T' := T5) (f' := (mkF m 126 #[.val (.int p0), .val (.int p1), .val (.int p2), .val (.int p3), .val .null, .val (.int (p3 &&& (3 : Int32))), .val (.ref ea2)] [(.ref ls), (.ref ls)])) (st5) ?_
    refine Go.by (T' := T5) (f' := (mkF m 129 #[.val (.int p0), .val (.int p1), .val (.int p2), .val (.int p3), .val .null, .val (.int (p3 &&& (3 : Int32))), .val (.ref ea2)] [])) (fun _ k => Jvm.RoadKit.acmp (g := (mkF m 126 #[.val (.int p0), .val (.int p1), .val (.int p2), .val (.int p3), .val .null, .val (.int (p3 &&& (3 : Int32))), .val (.ref ea2)] [(.ref ls), (.ref ls)])) X5 hx rfl rfl rfl (pc0 := 126) (pc' := 129) (same := true) rfl (hb hby at_126) rfl (decide_eq_true rfl) (by decide) (by decide) k) ?_
    refine Go.by (T' := T5) (f' := (mkF m 130 #[.val (.int p0), .val (.int p1), .val (.int p2), .val (.int p3), .val .null, .val (.int (p3 &&& (3 : Int32))), .val (.ref ea2)] [(.int (1 : Int32))])) (fun _ k => XS.iconst X5.here hx rfl (hb hby at_129) k) ?_
    refine Go.by (T' := T5) (f' := (mkF m 134 #[.val (.int p0), .val (.int p1), .val (.int p2), .val (.int p3), .val .null, .val (.int (p3 &&& (3 : Int32))), .val (.ref ea2)] [(.int (1 : Int32))])) (fun _ k => XS.goto X5.here hx rfl (pc0 := 130) (pc' := 134) rfl (hb hby at_130) (by decide) (by decide) k) ?_
    obtain ⟨fs, hr, hrun, hended, q1, q2, q3, q4⟩ := X5.leaveW hS (by rw [e5]; exact hk) (v := some (.int (1 : Int32))) (fun h => by rw [Bd.returns] at h; cases h)
    refine ⟨_, _, retN X5 hx (t := .boolean) Bd.returns (by simp) (hb hby at_134) hr, hrun, hended, _, _, rfl, ?_, ?_, q1, q2, q3, q4.mono (by decide) (by decide)⟩
    · show Q1 n0 (some (.int (1 : Int32))) T5.heap _
      rw [e5]
      exact ⟨rfl, N⟩
    · show CHr Z consts_1 s.vm s.heap T5.vm T5.heap
      rw [e5, hh]
      exact C.trans (CHv.at X5 hZ hEL C.1)
  · skip
    refine Go.by (T' := s₁) (f' := (mkF m 16 #[.val (.int p0), .val (.int p1), .val (.int p2), .val (.int p3), .unset, .val (.int (p3 &&& (3 : Int32))), .unset] [])) (fun _ k => XS.ifYes X0.here hx rfl (pc0 := 7) (pc' := 16) rfl (hb hby at_7) rfl ((if0 _ _).trans (feq hc7_1).2) (by decide) (by decide) k) ?_
    refine Go.by (T' := s₁) (f' := (mkF m 18 #[.val (.int p0), .val (.int p1), .val (.int p2), .val (.int p3), .unset, .val (.int (p3 &&& (3 : Int32))), .unset] [(.int (p3 &&& (3 : Int32)))])) (fun _ k => XS.iload X0.here hx rfl (hb hby at_16) rfl k) ?_
    refine Go.by (T' := s₁) (f' := (mkF m 19 #[.val (.int p0), .val (.int p1), .val (.int p2), .val (.int p3), .unset, .val (.int (p3 &&& (3 : Int32))), .unset] [(.int (1 : Int32)), (.int (p3 &&& (3 : Int32)))])) (fun _ k => XS.iconst X0.here hx rfl (hb hby at_18) k) ?_
    by_cases hc19_6 : (p3 &&& (3 : Int32)) = (1 : Int32)
    · skip
      refine Go.by (T' := s₁) (f' := (mkF m 22 #[.val (.int p0), .val (.int p1), .val (.int p2), .val (.int p3), .unset, .val (.int (p3 &&& (3 : Int32))), .unset] [])) (fun _ k => XS.icmpNo X0.here hx rfl (hb hby at_19) rfl (teq hc19_6).2 k) ?_
      obtain ⟨T7, h7, X7, e7, E7, A7, D7, -, st7⟩ := newO X0 hx hZ hown (hw _ (List.mem_of_getElem? (i := 0) rfl)) (hw _ (List.mem_of_getElem? (i := 1) rfl)) (hw _ (List.mem_of_getElem? (i := 2) rfl)) e0 (g := (mkF m 22 #[.val (.int p0), .val (.int p1), .val (.int p2), .val (.int p3), .unset, .val (.int (p3 &&& (3 : Int32))), .unset] [])) rfl (hb hby at_22) (by decide) (by decide)
      obtain ⟨b7, g7⟩ : ∃ z, z = h0.size := ⟨_, rfl⟩
      rw [← g7] at A7 D7 st7
      have g_b7 : n0 ≤ b7 := Nat.le_trans (Old.le O) (Nat.le_of_eq g7.symm)
      have sz_b7 : h0.size ≤ b7 := Nat.le_trans K.1 (Nat.le_of_eq g7.symm)
      have Sf_b7 : Safe Z consts_1 s.vm h0 b7 := Safe.new (Nat.le_of_eq g7.symm)
      replace Sf_b7 := Safe.ext E7 C.1 Sf_b7
      replace O := O.ext E7
      replace K := K.ext E7
      replace C := C.trans (CHr.ext E7 C.1)
      replace hk := Nat.le_trans hk E7.1
      have E_b7 := A7
      have F_value_b7 : Fld Z h7 b7 "java/lang/String" "value" "[B" .null := D7 (Or.inr (hw _ (List.mem_of_getElem? (i := 16) rfl))) (ty := (.array .byte)) (by decide)
      have F_coder_b7 : Fld Z h7 b7 "java/lang/String" "coder" "B" (.int (0 : Int32)) := D7 (Or.inr (hw _ (List.mem_of_getElem? (i := 17) rfl))) (ty := .byte) (by decide)
      refine Go.by (T' := T7) (f' := (mkF m 25 #[.val (.int p0), .val (.int p1), .val (.int p2), .val (.int p3), .unset, .val (.int (p3 &&& (3 : Int32))), .unset] [(.ref b7)])) (st7) ?_
      refine Go.by (T' := T7) (f' := (mkF m 26 #[.val (.int p0), .val (.int p1), .val (.int p2), .val (.int p3), .unset, .val (.int (p3 &&& (3 : Int32))), .unset] [(.ref b7), (.ref b7)])) (fun _ k => XS.dup X7.here hx rfl (hb hby at_25) rfl rfl k) ?_
      refine Go.by (T' := T7) (f' := (mkF m 27 #[.val (.int p0), .val (.int p1), .val (.int p2), .val (.int p3), .unset, .val (.int (p3 &&& (3 : Int32))), .unset] [(.int (0 : Int32)), (.ref b7), (.ref b7)])) (fun _ k => XS.iconst X7.here hx rfl (hb hby at_26) k) ?_
      obtain ⟨T8, h8, k8, X8, e8, E8, A8, st8⟩ := newP X7 hx hZ (hw _ (List.mem_of_getElem? (i := 3) rfl)) e7 (g := (mkF m 27 #[.val (.int p0), .val (.int p1), .val (.int p2), .val (.int p3), .unset, .val (.int (p3 &&& (3 : Int32))), .unset] [(.int (0 : Int32)), (.ref b7), (.ref b7)])) rfl (hb hby at_27) rfl (by decide) (cap := 0) (by decide) (by decide) (by decide) (by decide)
      obtain ⟨b8, g8⟩ : ∃ z, z = h7.size := ⟨_, rfl⟩
      rw [← g8] at A8 st8
      have ne_b7_b8 : b7 ≠ b8 := Nat.ne_of_lt (Nat.lt_of_lt_of_le E_b7.lt (Nat.le_of_eq g8.symm))
      have g_b8 : n0 ≤ b8 := Nat.le_trans (Old.le O) (Nat.le_of_eq g8.symm)
      have sz_b8 : h0.size ≤ b8 := Nat.le_trans K.1 (Nat.le_of_eq g8.symm)
      have Sf_b8 : Safe Z consts_1 s.vm h7 b8 := Safe.new (Nat.le_of_eq g8.symm)
      replace Sf_b7 := Safe.ext E8 C.1 Sf_b7
      replace E_b7 := E_b7.ext E8
      replace F_value_b7 := F_value_b7.ext E8
      replace F_coder_b7 := F_coder_b7.ext E8
      replace Sf_b8 := Safe.ext E8 C.1 Sf_b8
      replace O := O.ext E8
      replace K := K.ext E8
      replace C := C.trans (CHr.ext E8 C.1)
      replace hk := Nat.le_trans hk E8.1
      have V_b8 : Arv Z h8 b8 k8 .char (0 : Int32) [] (.int (0 : Int32)) := (Arv.new A8 (by decide)).pad (pad_rep [] (.int (0 : Int32)) 0)
      refine Go.by (T' := T8) (f' := (mkF m 29 #[.val (.int p0), .val (.int p1), .val (.int p2), .val (.int p3), .unset, .val (.int (p3 &&& (3 : Int32))), .unset] [(.ref b8), (.ref b7), (.ref b7)])) (st8) ?_
      obtain ⟨v9, _, ⟨T9, L9, k9, n9⟩, -, X9, hS9, hg9, ⟨Lc9, hQ9, l9, y9, z9, C9⟩, st9⟩ := X8.specialBackS hx (y := (⟨"java/lang/String", "<init>", "([C)V"⟩ : MethodName)) rfl hown (mvT hZ (hw _ (List.mem_of_getElem? (i := 4) rfl))) (mvT hZ (hw _ (List.mem_of_getElem? (i := 5) rfl))) (mvT hZ (hw _ (List.mem_of_getElem? (i := 6) rfl))) (by decide) (backOfSH (W := 1) (s := s) (EL := consts_1) (rm_sc0 l Z a0 hw [] hEL b7 b8 _ zc ls us ss hS0 h8 n0 O E_b7 F_value_b7 F_coder_b7 g_b7 V_b8) hZ (hw _ (List.mem_of_getElem? (i := 6) rfl)) (hw _ (List.mem_of_getElem? (i := 2) rfl)) (by decide) (by decide) hEL C.1) (g := (mkF m 29 #[.val (.int p0), .val (.int p1), .val (.int p2), .val (.int p3), .unset, .val (.int (p3 &&& (3 : Int32))), .unset] [(.ref b8), (.ref b7), (.ref b7)])) rfl (by rw [hml]; rfl) (Steps.refl _) (a := b7) (argsL := [(.ref b8)]) (rest := [(.ref b7)]) (lenOf pd_rm1_3 rfl) rfl (by show 2 * 0 + _ ≤ _; exact Nat.le_of_eq rfl) (hb hby at_29) (fun _ _ => ⟨rfl, e8, (by decide : 2 + 4 ≤ _), (by decide : 4 + 8 ≤ _)⟩)
      dsimp only [Pt.U, Pt.locs, Pt.cells, Pt.slots] at X9 l9 y9 z9 st9 hQ9 hS9 hg9 C9
      subst l9 y9 z9
      have hown9 : (s.setVm T9.vm).vm.findClass "com/example/swapdeck/swapdeck/swap/CloseOutExceptionNoLossPinLaw" = some m.cls := by rw [show (s.setVm T9.vm).vm = T9.vm from rfl, hS9.1.alike.findClass]; exact hown
      have hZ9 : Z.Warmed39 (s.setVm T9.vm).vm := State.Warmed39.trans (t := s.setVm s.vm) hZ hS9.1
      have ag9 := Stand.againW (s := s) X9 hS hS9 (Nat.le_trans (by rw [e8]; exact hk) hg9)
      replace X9 := ag9.1
      replace hS := ag9.2
      replace Sf_b7 := CHr.safe C9 E_b7.lt Sf_b7
      replace Sf_b8 := CHr.safe C9 V_b8.lt Sf_b8
      obtain ⟨rfl, Nq9, K9, r9, k29, vs9, Gv9, Gc9, Vr9⟩ := hQ9
      replace N := Fr.app N Nq9
      replace E_b7 := E_b7.keep K9
      replace V_b8 := V_b8.keep K9 (ninS (Ne.symm ne_b7_b8) nin0)
      replace O := O.keep K9 (allS g_b7 all0)
      replace K := K.trans K9 (allS (Or.inr sz_b7) all0)
      replace C := C.trans C9
      replace hZ := hZ9
      replace hown := hown9
      replace hk := Nat.le_refl T9.heap.size
      refine Go.by (T' := T9) (f' := (mkF m 32 #[.val (.int p0), .val (.int p1), .val (.int p2), .val (.int p3), .unset, .val (.int (p3 &&& (3 : Int32))), .unset] [(.ref b7)])) (fun _ k => st9.trans k) ?_
      refine Go.by (T' := T9) (f' := (mkF m 34 #[.val (.int p0), .val (.int p1), .val (.int p2), .val (.int p3), .val (.ref b7), .val (.int (p3 &&& (3 : Int32))), .unset] [])) (fun _ k => XS.astore X9.here hx rfl (hb hby at_32) rfl rfl (l' := #[.val (.int p0), .val (.int p1), .val (.int p2), .val (.int p3), .val (.ref b7), .val (.int (p3 &&& (3 : Int32))), .unset]) rfl k) ?_
      refine Go.by (T' := T9) (f' := (mkF m 93 #[.val (.int p0), .val (.int p1), .val (.int p2), .val (.int p3), .val (.ref b7), .val (.int (p3 &&& (3 : Int32))), .unset] [])) (fun _ k => XS.goto X9.here hx rfl (pc0 := 34) (pc' := 93) rfl (hb hby at_34) (by decide) (by decide) k) ?_
      refine Go.by (T' := T9) (f' := (mkF m 95 #[.val (.int p0), .val (.int p1), .val (.int p2), .val (.int p3), .val (.ref b7), .val (.int (p3 &&& (3 : Int32))), .unset] [(.ref b7)])) (fun _ k => XS.aload X9.here hx rfl (hb hby at_93) rfl rfl k) ?_
      refine Go.by (T' := T9) (f' := (mkF m 96 #[.val (.int p0), .val (.int p1), .val (.int p2), .val (.int p3), .val (.ref b7), .val (.int (p3 &&& (3 : Int32))), .unset] [(.int p2), (.ref b7)])) (fun _ k => XS.iloadN X9.here hx rfl (hb hby at_95) rfl k) ?_
      have hlx10 : 0 ≤ 2 := by omega
      obtain ⟨v10, _, ⟨T10, L10, k10, n10⟩, -, X10, hS10, hg10, ⟨Lc10, hQ10, l10, y10, z10, C10⟩, st10⟩ := callSS X9 hx (y := (⟨"com/example/swapdeck/swapdeck/swap/CloseOutException", "noLoss", "(Ljava/lang/String;I)Lcom/example/swapdeck/swapdeck/swap/CloseOutException;"⟩ : MethodName)) hown (mvT hZ (hw _ (List.mem_of_getElem? (i := 22) rfl))) (mvT hZ (hw _ (List.mem_of_getElem? (i := 23) rfl))) (mvT hZ (hw _ (List.mem_of_getElem? (i := 24) rfl))) (mvT hZ (hw _ (List.mem_of_getElem? (i := 25) rfl))) (by decide) (backOfSKH (W := 0) (s := s) (EL := consts_1) (rm_nl1 l Z a0 hw [] hl hch hEL b7 r9 _ (0) _ p2 zc ls us ss hS0 T9.heap n0 O E_b7 Gv9 Gc9 Vr9 hlx10) hZ (hw _ (List.mem_of_getElem? (i := 25) rfl)) (hw _ (List.mem_of_getElem? (i := 24) rfl)) (by decide) (by decide) hEL C.1 (Vm.MethodsKnown.alikeC hS.1.alike hK.1) (Vm.FramesKnown.alikeC hS.1.alike hK.2)) (g := (mkF m 96 #[.val (.int p0), .val (.int p1), .val (.int p2), .val (.int p3), .val (.ref b7), .val (.int (p3 &&& (3 : Int32))), .unset] [(.int p2), (.ref b7)])) rfl (by rw [hml]; rfl) (argsL := [(.ref b7), (.int p2)]) (rest := []) (lenOf pd_rm1_0 rfl) rfl (by show 2 * 0 + _ ≤ _; exact Nat.le_of_eq rfl) (hb hby at_96) (fun _ _ => ⟨rfl, rfl, (by decide : 6 + 25 ≤ _), (by decide : 12 + 5728 ≤ _)⟩)
      dsimp only [Pt.U, Pt.locs, Pt.cells, Pt.slots] at X10 l10 y10 z10 st10 hQ10 hS10 hg10 C10
      subst l10 y10 z10
      have hown10 : (s.setVm T10.vm).vm.findClass "com/example/swapdeck/swapdeck/swap/CloseOutExceptionNoLossPinLaw" = some m.cls := by rw [show (s.setVm T10.vm).vm = T10.vm from rfl, hS10.1.alike.findClass]; exact hown
      have hZ10 : Z.Warmed39 (s.setVm T10.vm).vm := State.Warmed39.trans (t := s.setVm T9.vm) hZ hS10.1
      have ag10 := Stand.againW (s := s) X10 hS hS10 (Nat.le_trans hk hg10)
      replace X10 := ag10.1
      replace hS := ag10.2
      replace Sf_b7 := CHr.safe C10 E_b7.lt Sf_b7
      replace Sf_b8 := CHr.safe C10 V_b8.lt Sf_b8
      obtain ⟨ea10, rfl, Nq10, K10, Ea10, Ft10, Fi10⟩ := hQ10
      replace N := Fr.app N Nq10
      replace E_b7 := E_b7.keep K10
      replace V_b8 := V_b8.keep K10 nin0
      replace Gv9 := Gv9.keep K10 nin0
      replace Gc9 := Gc9.keep K10 nin0
      replace Vr9 := Vr9.keep K10 nin0
      replace O := O.keep K10 all0
      replace K := K.trans K10 all0
      replace C := C.trans C10
      replace hZ := hZ10
      replace hown := hown10
      replace hk := Nat.le_refl T10.heap.size
      refine Go.by (T' := T10) (f' := (mkF m 99 #[.val (.int p0), .val (.int p1), .val (.int p2), .val (.int p3), .val (.ref b7), .val (.int (p3 &&& (3 : Int32))), .unset] [(.ref ea10)])) (fun _ k => st10.trans k) ?_
      refine Go.by (T' := T10) (f' := (mkF m 101 #[.val (.int p0), .val (.int p1), .val (.int p2), .val (.int p3), .val (.ref b7), .val (.int (p3 &&& (3 : Int32))), .val (.ref ea10)] [])) (fun _ k => XS.astore X10.here hx rfl (hb hby at_99) rfl rfl (l' := #[.val (.int p0), .val (.int p1), .val (.int p2), .val (.int p3), .val (.ref b7), .val (.int (p3 &&& (3 : Int32))), .val (.ref ea10)]) rfl k) ?_
      refine Go.by (T' := T10) (f' := (mkF m 103 #[.val (.int p0), .val (.int p1), .val (.int p2), .val (.int p3), .val (.ref b7), .val (.int (p3 &&& (3 : Int32))), .val (.ref ea10)] [(.ref ea10)])) (fun _ k => XS.aload X10.here hx rfl (hb hby at_101) rfl rfl k) ?_
      refine Go.by (T' := T10) (f' := (mkF m 108 #[.val (.int p0), .val (.int p1), .val (.int p2), .val (.int p3), .val (.ref b7), .val (.int (p3 &&& (3 : Int32))), .val (.ref ea10)] [])) (fun _ k => XS.ifnonnullYes X10.here hx rfl (pc0 := 103) (pc' := 108) rfl (hb hby at_103) rfl (by decide) (by decide) k) ?_
      refine Go.by (T' := T10) (f' := (mkF m 110 #[.val (.int p0), .val (.int p1), .val (.int p2), .val (.int p3), .val (.ref b7), .val (.int (p3 &&& (3 : Int32))), .val (.ref ea10)] [(.ref ea10)])) (fun _ k => XS.aload X10.here hx rfl (hb hby at_108) rfl rfl k) ?_
      obtain ⟨cq11, kq11, q11a, q11b, q11c⟩ := isOf hZ rfl Ea10
      obtain ⟨v11, _, ⟨T11, L11, k11, n11⟩, -, X11, ⟨Lc11, hQ11, l11, y11, z11⟩, st11⟩ := X10.virtualBack hx (y := (⟨"com/example/swapdeck/swapdeck/swap/CloseOutException", "trade", "()Ljava/lang/String;"⟩ : MethodName)) (z := (⟨"com/example/swapdeck/swapdeck/swap/CloseOutException", "trade", "()Ljava/lang/String;"⟩ : MethodName)) hown (mvT hZ (hw _ (List.mem_of_getElem? (i := 248) rfl))) (mvT hZ (hw _ (List.mem_of_getElem? (i := 249) rfl))) (notFace_of_selects (args := #[]) (mvT hZ (hw _ (List.mem_of_getElem? (i := 251) rfl)))) (mvT hZ (hw _ (List.mem_of_getElem? (i := 251) rfl))) (mvT hZ (hw _ (List.mem_of_getElem? (i := 250) rfl))) (by decide) (backOf (W := 0) (rm_tr1 l Z a0 hw [] ea10 b7 T10.heap n0 O Ft10) hZ (hw _ (List.mem_of_getElem? (i := 252) rfl)) (hw _ (List.mem_of_getElem? (i := 24) rfl)) (by decide) (by decide)) q11a q11c (g := (mkF m 110 #[.val (.int p0), .val (.int p1), .val (.int p2), .val (.int p3), .val (.ref b7), .val (.int (p3 &&& (3 : Int32))), .val (.ref ea10)] [(.ref ea10)])) rfl (by rw [hml]; rfl) (Steps.refl _) (argsL := []) (rest := []) (lenOf pd_rm1_1 rfl) rfl (by show 2 * 0 + _ ≤ _; exact Nat.le_of_eq rfl) (hb hby at_110) (fun _ _ => ⟨rfl, rfl, (by decide : 31 + 0 ≤ _), (by decide : 5740 + 0 ≤ _)⟩)
      dsimp only [Pt.U, Pt.locs, Pt.cells, Pt.slots] at X11 l11 y11 z11 st11 hQ11
      subst l11 y11 z11
      obtain ⟨rfl, Nq11, e11⟩ := hQ11
      replace N := Fr.app N Nq11
      refine Go.by (T' := T11) (f' := (mkF m 113 #[.val (.int p0), .val (.int p1), .val (.int p2), .val (.int p3), .val (.ref b7), .val (.int (p3 &&& (3 : Int32))), .val (.ref ea10)] [(.ref b7)])) (fun _ k => st11.trans k) ?_
      refine Go.by (T' := T11) (f' := (mkF m 115 #[.val (.int p0), .val (.int p1), .val (.int p2), .val (.int p3), .val (.ref b7), .val (.int (p3 &&& (3 : Int32))), .val (.ref ea10)] [(.ref b7), (.ref b7)])) (fun _ k => XS.aload X11.here hx rfl (hb hby at_113) rfl rfl k) ?_
      refine Go.by (T' := T11) (f' := (mkF m 118 #[.val (.int p0), .val (.int p1), .val (.int p2), .val (.int p3), .val (.ref b7), .val (.int (p3 &&& (3 : Int32))), .val (.ref ea10)] [])) (fun _ k => Jvm.RoadKit.acmp (g := (mkF m 115 #[.val (.int p0), .val (.int p1), .val (.int p2), .val (.int p3), .val (.ref b7), .val (.int (p3 &&& (3 : Int32))), .val (.ref ea10)] [(.ref b7), (.ref b7)])) X11 hx rfl rfl rfl (pc0 := 115) (pc' := 118) (same := true) rfl (hb hby at_115) rfl (decide_eq_true rfl) (by decide) (by decide) k) ?_
      refine Go.by (T' := T11) (f' := (mkF m 120 #[.val (.int p0), .val (.int p1), .val (.int p2), .val (.int p3), .val (.ref b7), .val (.int (p3 &&& (3 : Int32))), .val (.ref ea10)] [(.ref ea10)])) (fun _ k => XS.aload X11.here hx rfl (hb hby at_118) rfl rfl k) ?_
      obtain ⟨cq12, kq12, q12a, q12b, q12c⟩ := isOf hZ e11 Ea10
      obtain ⟨v12, _, ⟨T12, L12, k12, n12⟩, -, X12, ⟨Lc12, hQ12, l12, y12, z12⟩, st12⟩ := X11.virtualBack hx (y := (⟨"com/example/swapdeck/swapdeck/swap/CloseOutException", "input", "()Lcom/example/swapdeck/swapdeck/swap/CloseOutException$Input;"⟩ : MethodName)) (z := (⟨"com/example/swapdeck/swapdeck/swap/CloseOutException", "input", "()Lcom/example/swapdeck/swapdeck/swap/CloseOutException$Input;"⟩ : MethodName)) hown (mvT hZ (hw _ (List.mem_of_getElem? (i := 253) rfl))) (mvT hZ (hw _ (List.mem_of_getElem? (i := 254) rfl))) (notFace_of_selects (args := #[]) (mvT hZ (hw _ (List.mem_of_getElem? (i := 256) rfl)))) (mvT hZ (hw _ (List.mem_of_getElem? (i := 256) rfl))) (mvT hZ (hw _ (List.mem_of_getElem? (i := 255) rfl))) (by decide) (backOf (W := 0) (rm_inp l Z a0 hw [] ea10 ls T10.heap n0 O Fi10) hZ (hw _ (List.mem_of_getElem? (i := 257) rfl)) (hw _ (List.mem_of_getElem? (i := 24) rfl)) (by decide) (by decide)) q12a q12c (g := (mkF m 120 #[.val (.int p0), .val (.int p1), .val (.int p2), .val (.int p3), .val (.ref b7), .val (.int (p3 &&& (3 : Int32))), .val (.ref ea10)] [(.ref ea10)])) rfl (by rw [hml]; rfl) (Steps.refl _) (argsL := []) (rest := []) (lenOf pd_rm1_2 rfl) rfl (by show 2 * 0 + _ ≤ _; exact Nat.le_of_eq rfl) (hb hby at_120) (fun _ _ => ⟨rfl, e11, (by decide : 31 + 0 ≤ _), (by decide : 5740 + 0 ≤ _)⟩)
      dsimp only [Pt.U, Pt.locs, Pt.cells, Pt.slots] at X12 l12 y12 z12 st12 hQ12
      subst l12 y12 z12
      obtain ⟨rfl, Nq12, e12⟩ := hQ12
      replace N := Fr.app N Nq12
      refine Go.by (T' := T12) (f' := (mkF m 123 #[.val (.int p0), .val (.int p1), .val (.int p2), .val (.int p3), .val (.ref b7), .val (.int (p3 &&& (3 : Int32))), .val (.ref ea10)] [(.ref ls)])) (fun _ k => st12.trans k) ?_
      obtain ⟨T13, X13, e13, st13⟩ := getS2 X12 hx hZ hown (host := "") (Or.inl (hw _ (List.mem_of_getElem? (i := 258) rfl))) Via.refl e12 (Sta.ext O.2 hS0.2.2.1) (g := (mkF m 123 #[.val (.int p0), .val (.int p1), .val (.int p2), .val (.int p3), .val (.ref b7), .val (.int (p3 &&& (3 : Int32))), .val (.ref ea10)] [(.ref ls)])) rfl (hb hby at_123)
      refine Go.by (T' := T13) (f' := (mkF m 126 #[.val (.int p0), .val (.int p1), .val (.int p2), .val (.int p3), .val (.ref b7), .val (.int (p3 &&& (3 : Int32))), .val (.ref ea10)] [(.ref ls), (.ref ls)])) (st13) ?_
      refine Go.by (T' := T13) (f' := (mkF m 129 #[.val (.int p0), .val (.int p1), .val (.int p2), .val (.int p3), .val (.ref b7), .val (.int (p3 &&& (3 : Int32))), .val (.ref ea10)] [])) (fun _ k => Jvm.RoadKit.acmp (g := (mkF m 126 #[.val (.int p0), .val (.int p1), .val (.int p2), .val (.int p3), .val (.ref b7), .val (.int (p3 &&& (3 : Int32))), .val (.ref ea10)] [(.ref ls), (.ref ls)])) X13 hx rfl rfl rfl (pc0 := 126) (pc' := 129) (same := true) rfl (hb hby at_126) rfl (decide_eq_true rfl) (by decide) (by decide) k) ?_
      refine Go.by (T' := T13) (f' := (mkF m 130 #[.val (.int p0), .val (.int p1), .val (.int p2), .val (.int p3), .val (.ref b7), .val (.int (p3 &&& (3 : Int32))), .val (.ref ea10)] [(.int (1 : Int32))])) (fun _ k => XS.iconst X13.here hx rfl (hb hby at_129) k) ?_
      refine Go.by (T' := T13) (f' := (mkF m 134 #[.val (.int p0), .val (.int p1), .val (.int p2), .val (.int p3), .val (.ref b7), .val (.int (p3 &&& (3 : Int32))), .val (.ref ea10)] [(.int (1 : Int32))])) (fun _ k => XS.goto X13.here hx rfl (pc0 := 130) (pc' := 134) rfl (hb hby at_130) (by decide) (by decide) k) ?_
      obtain ⟨fs, hr, hrun, hended, q1, q2, q3, q4⟩ := X13.leaveW hS (by rw [e13]; exact hk) (v := some (.int (1 : Int32))) (fun h => by rw [Bd.returns] at h; cases h)
      refine ⟨_, _, retN X13 hx (t := .boolean) Bd.returns (by simp) (hb hby at_134) hr, hrun, hended, _, _, rfl, ?_, ?_, q1, q2, q3, q4.mono (by decide) (by decide)⟩
      · show Q1 n0 (some (.int (1 : Int32))) T13.heap _
        rw [e13]
        exact ⟨rfl, N⟩
      · show CHr Z consts_1 s.vm s.heap T13.vm T13.heap
        rw [e13, hh]
        exact C.trans (CHv.at X13 hZ hEL C.1)
    · skip
      refine Go.by (T' := s₁) (f' := (mkF m 37 #[.val (.int p0), .val (.int p1), .val (.int p2), .val (.int p3), .unset, .val (.int (p3 &&& (3 : Int32))), .unset] [])) (fun _ k => XS.icmpYes X0.here hx rfl (pc0 := 19) (pc' := 37) rfl (hb hby at_19) rfl (feq hc19_6).2 (by decide) (by decide) k) ?_
      refine Go.by (T' := s₁) (f' := (mkF m 39 #[.val (.int p0), .val (.int p1), .val (.int p2), .val (.int p3), .unset, .val (.int (p3 &&& (3 : Int32))), .unset] [(.int (p3 &&& (3 : Int32)))])) (fun _ k => XS.iload X0.here hx rfl (hb hby at_37) rfl k) ?_
      refine Go.by (T' := s₁) (f' := (mkF m 40 #[.val (.int p0), .val (.int p1), .val (.int p2), .val (.int p3), .unset, .val (.int (p3 &&& (3 : Int32))), .unset] [(.int (2 : Int32)), (.int (p3 &&& (3 : Int32)))])) (fun _ k => XS.iconst X0.here hx rfl (hb hby at_39) k) ?_
      by_cases hc40_14 : (p3 &&& (3 : Int32)) = (2 : Int32)
      · skip
        refine Go.by (T' := s₁) (f' := (mkF m 43 #[.val (.int p0), .val (.int p1), .val (.int p2), .val (.int p3), .unset, .val (.int (p3 &&& (3 : Int32))), .unset] [])) (fun _ k => XS.icmpNo X0.here hx rfl (hb hby at_40) rfl (teq hc40_14).2 k) ?_
        refine Go.by (T' := s₁) (f' := (mkF m 44 #[.val (.int p0), .val (.int p1), .val (.int p2), .val (.int p3), .unset, .val (.int (p3 &&& (3 : Int32))), .unset] [(.int p0)])) (fun _ k => XS.iloadN X0.here hx rfl (hb hby at_43) rfl k) ?_
        refine Go.by (T' := s₁) (f' := (mkF m 47 #[.val (.int p0), .val (.int p1), .val (.int p2), .val (.int p3), .unset, .val (.int (p3 &&& (3 : Int32))), .unset] [(.int (255 : Int32)), (.int p0)])) (fun _ k => XS.sipush X0.here hx rfl (hb hby at_44) k) ?_
        refine Go.by (T' := s₁) (f' := (mkF m 48 #[.val (.int p0), .val (.int p1), .val (.int p2), .val (.int p3), .unset, .val (.int (p3 &&& (3 : Int32))), .unset] [(.int (p0 &&& (255 : Int32)))])) (fun _ k => XS.iand X0.here hx rfl (hb hby at_47) rfl k) ?_
        refine Go.by (T' := s₁) (f' := (mkF m 49 #[.val (.int p0), .val (.int p1), .val (.int p2), .val (.int p3), .unset, .val (.int (p3 &&& (3 : Int32))), .unset] [(.int ((p0 &&& (255 : Int32)).toUInt32.toUInt16.toUInt32.toInt32))])) (fun _ k => XS.i2c X0.here hx rfl (hb hby at_48) rfl k) ?_
        obtain ⟨v15, _, ⟨T15, L15, k15, n15⟩, -, X15, ⟨Lc15, hQ15, l15, y15, z15⟩, st15⟩ := Jvm.LawKit.callS X0 hx (y := (⟨"java/lang/String", "valueOf", "(C)Ljava/lang/String;"⟩ : MethodName)) hown (mvT hZ (hw _ (List.mem_of_getElem? (i := 259) rfl))) (mvT hZ (hw _ (List.mem_of_getElem? (i := 260) rfl))) (mvT hZ (hw _ (List.mem_of_getElem? (i := 2) rfl))) (mvT hZ (hw _ (List.mem_of_getElem? (i := 261) rfl))) (by decide) (backOf (W := 0) (rm_vo l Z a0 hw [] ((p0 &&& (255 : Int32)).toUInt32.toUInt16.toUInt32.toInt32) zc ls us ss hS0 h0 n0 O (by rw [own_i2c0 _ (own_and255 _)]; exact (own_and255 _).2)) hZ (hw _ (List.mem_of_getElem? (i := 261) rfl)) (hw _ (List.mem_of_getElem? (i := 2) rfl)) (by decide) (by decide)) (g := (mkF m 49 #[.val (.int p0), .val (.int p1), .val (.int p2), .val (.int p3), .unset, .val (.int (p3 &&& (3 : Int32))), .unset] [(.int ((p0 &&& (255 : Int32)).toUInt32.toUInt16.toUInt32.toInt32))])) rfl (by rw [hml]; rfl) (argsL := [(.int ((p0 &&& (255 : Int32)).toUInt32.toUInt16.toUInt32.toInt32))]) (rest := []) (lenOf pd_rm1_4 rfl) rfl (by show 2 * 0 + _ ≤ _; exact Nat.le_of_eq rfl) (hb hby at_49) (fun _ _ => ⟨rfl, e0, (by decide : 0 + 2 ≤ _), (by decide : 0 + 5 ≤ _)⟩)
        dsimp only [Pt.U, Pt.locs, Pt.cells, Pt.slots] at X15 l15 y15 z15 st15 hQ15
        subst l15 y15 z15
        obtain ⟨x15, r15, k215, vs15, rfl, Nq15, K15, gx15, gr15, Ex15, Gv15, Gc15, Vr15⟩ := hQ15
        replace N := Fr.app N Nq15
        have g_x15 : n0 ≤ x15 := Nat.le_trans (Old.le O) gx15
        have sz_x15 : h0.size ≤ x15 := Nat.le_trans K.1 gx15
        have g_r15 : n0 ≤ r15 := Nat.le_trans (Old.le O) gr15
        have sz_r15 : h0.size ≤ r15 := Nat.le_trans K.1 gr15
        have hs_K15 : ∀ x ∈ ([] : List Addr), Safe Z consts_1 s.vm h0 x := sf0
        have Sk_K15 := CHr.keep (Z := Z) (EL := consts_1) (vm := s.vm) K15 hs_K15 C.1
        replace C := C.trans Sk_K15
        replace hk := Nat.le_trans hk K15.1
        replace O := O.keep K15 all0
        replace K := K.trans K15 all0
        refine Go.by (T' := T15) (f' := (mkF m 52 #[.val (.int p0), .val (.int p1), .val (.int p2), .val (.int p3), .unset, .val (.int (p3 &&& (3 : Int32))), .unset] [(.ref x15)])) (st15) ?_
        refine Go.by (T' := T15) (f' := (mkF m 54 #[.val (.int p0), .val (.int p1), .val (.int p2), .val (.int p3), .val (.ref x15), .val (.int (p3 &&& (3 : Int32))), .unset] [])) (fun _ k => XS.astore X15.here hx rfl (hb hby at_52) rfl rfl (l' := #[.val (.int p0), .val (.int p1), .val (.int p2), .val (.int p3), .val (.ref x15), .val (.int (p3 &&& (3 : Int32))), .unset]) rfl k) ?_
        refine Go.by (T' := T15) (f' := (mkF m 93 #[.val (.int p0), .val (.int p1), .val (.int p2), .val (.int p3), .val (.ref x15), .val (.int (p3 &&& (3 : Int32))), .unset] [])) (fun _ k => XS.goto X15.here hx rfl (pc0 := 54) (pc' := 93) rfl (hb hby at_54) (by decide) (by decide) k) ?_
        refine Go.by (T' := T15) (f' := (mkF m 95 #[.val (.int p0), .val (.int p1), .val (.int p2), .val (.int p3), .val (.ref x15), .val (.int (p3 &&& (3 : Int32))), .unset] [(.ref x15)])) (fun _ k => XS.aload X15.here hx rfl (hb hby at_93) rfl rfl k) ?_
        refine Go.by (T' := T15) (f' := (mkF m 96 #[.val (.int p0), .val (.int p1), .val (.int p2), .val (.int p3), .val (.ref x15), .val (.int (p3 &&& (3 : Int32))), .unset] [(.int p2), (.ref x15)])) (fun _ k => XS.iloadN X15.here hx rfl (hb hby at_95) rfl k) ?_
        have hlx16 : 1 ≤ 2 := by omega
        obtain ⟨v16, _, ⟨T16, L16, k16, n16⟩, -, X16, hS16, hg16, ⟨Lc16, hQ16, l16, y16, z16, C16⟩, st16⟩ := callSS X15 hx (y := (⟨"com/example/swapdeck/swapdeck/swap/CloseOutException", "noLoss", "(Ljava/lang/String;I)Lcom/example/swapdeck/swapdeck/swap/CloseOutException;"⟩ : MethodName)) hown (mvT hZ (hw _ (List.mem_of_getElem? (i := 22) rfl))) (mvT hZ (hw _ (List.mem_of_getElem? (i := 23) rfl))) (mvT hZ (hw _ (List.mem_of_getElem? (i := 24) rfl))) (mvT hZ (hw _ (List.mem_of_getElem? (i := 25) rfl))) (by decide) (backOfSKH (W := 0) (s := s) (EL := consts_1) (rm_nl1 l Z a0 hw [] hl hch hEL x15 r15 _ (1) _ p2 zc ls us ss hS0 T15.heap n0 O Ex15 Gv15 Gc15 Vr15 hlx16) hZ (hw _ (List.mem_of_getElem? (i := 25) rfl)) (hw _ (List.mem_of_getElem? (i := 24) rfl)) (by decide) (by decide) hEL C.1 (Vm.MethodsKnown.alikeC hS.1.alike hK.1) (Vm.FramesKnown.alikeC hS.1.alike hK.2)) (g := (mkF m 96 #[.val (.int p0), .val (.int p1), .val (.int p2), .val (.int p3), .val (.ref x15), .val (.int (p3 &&& (3 : Int32))), .unset] [(.int p2), (.ref x15)])) rfl (by rw [hml]; rfl) (argsL := [(.ref x15), (.int p2)]) (rest := []) (lenOf pd_rm1_0 rfl) rfl (by show 2 * 0 + _ ≤ _; exact Nat.le_of_eq rfl) (hb hby at_96) (fun _ _ => ⟨rfl, rfl, (by decide : 2 + 25 ≤ _), (by decide : 5 + 5728 ≤ _)⟩)
        dsimp only [Pt.U, Pt.locs, Pt.cells, Pt.slots] at X16 l16 y16 z16 st16 hQ16 hS16 hg16 C16
        subst l16 y16 z16
        have hown16 : (s.setVm T16.vm).vm.findClass "com/example/swapdeck/swapdeck/swap/CloseOutExceptionNoLossPinLaw" = some m.cls := by rw [show (s.setVm T16.vm).vm = T16.vm from rfl, hS16.1.alike.findClass]; exact hown
        have hZ16 : Z.Warmed39 (s.setVm T16.vm).vm := State.Warmed39.trans (t := s.setVm s.vm) hZ hS16.1
        have ag16 := Stand.againW (s := s) X16 hS hS16 (Nat.le_trans hk hg16)
        replace X16 := ag16.1
        replace hS := ag16.2
        obtain ⟨ea16, rfl, Nq16, K16, Ea16, Ft16, Fi16⟩ := hQ16
        replace N := Fr.app N Nq16
        replace Ex15 := Ex15.keep K16
        replace Gv15 := Gv15.keep K16 nin0
        replace Gc15 := Gc15.keep K16 nin0
        replace Vr15 := Vr15.keep K16 nin0
        replace O := O.keep K16 all0
        replace K := K.trans K16 all0
        replace C := C.trans C16
        replace hZ := hZ16
        replace hown := hown16
        replace hk := Nat.le_refl T16.heap.size
        refine Go.by (T' := T16) (f' := (mkF m 99 #[.val (.int p0), .val (.int p1), .val (.int p2), .val (.int p3), .val (.ref x15), .val (.int (p3 &&& (3 : Int32))), .unset] [(.ref ea16)])) (fun _ k => st16.trans k) ?_
        refine Go.by (T' := T16) (f' := (mkF m 101 #[.val (.int p0), .val (.int p1), .val (.int p2), .val (.int p3), .val (.ref x15), .val (.int (p3 &&& (3 : Int32))), .val (.ref ea16)] [])) (fun _ k => XS.astore X16.here hx rfl (hb hby at_99) rfl rfl (l' := #[.val (.int p0), .val (.int p1), .val (.int p2), .val (.int p3), .val (.ref x15), .val (.int (p3 &&& (3 : Int32))), .val (.ref ea16)]) rfl k) ?_
        refine Go.by (T' := T16) (f' := (mkF m 103 #[.val (.int p0), .val (.int p1), .val (.int p2), .val (.int p3), .val (.ref x15), .val (.int (p3 &&& (3 : Int32))), .val (.ref ea16)] [(.ref ea16)])) (fun _ k => XS.aload X16.here hx rfl (hb hby at_101) rfl rfl k) ?_
        refine Go.by (T' := T16) (f' := (mkF m 108 #[.val (.int p0), .val (.int p1), .val (.int p2), .val (.int p3), .val (.ref x15), .val (.int (p3 &&& (3 : Int32))), .val (.ref ea16)] [])) (fun _ k => XS.ifnonnullYes X16.here hx rfl (pc0 := 103) (pc' := 108) rfl (hb hby at_103) rfl (by decide) (by decide) k) ?_
        refine Go.by (T' := T16) (f' := (mkF m 110 #[.val (.int p0), .val (.int p1), .val (.int p2), .val (.int p3), .val (.ref x15), .val (.int (p3 &&& (3 : Int32))), .val (.ref ea16)] [(.ref ea16)])) (fun _ k => XS.aload X16.here hx rfl (hb hby at_108) rfl rfl k) ?_
        obtain ⟨cq17, kq17, q17a, q17b, q17c⟩ := isOf hZ rfl Ea16
        obtain ⟨v17, _, ⟨T17, L17, k17, n17⟩, -, X17, ⟨Lc17, hQ17, l17, y17, z17⟩, st17⟩ := X16.virtualBack hx (y := (⟨"com/example/swapdeck/swapdeck/swap/CloseOutException", "trade", "()Ljava/lang/String;"⟩ : MethodName)) (z := (⟨"com/example/swapdeck/swapdeck/swap/CloseOutException", "trade", "()Ljava/lang/String;"⟩ : MethodName)) hown (mvT hZ (hw _ (List.mem_of_getElem? (i := 248) rfl))) (mvT hZ (hw _ (List.mem_of_getElem? (i := 249) rfl))) (notFace_of_selects (args := #[]) (mvT hZ (hw _ (List.mem_of_getElem? (i := 251) rfl)))) (mvT hZ (hw _ (List.mem_of_getElem? (i := 251) rfl))) (mvT hZ (hw _ (List.mem_of_getElem? (i := 250) rfl))) (by decide) (backOf (W := 0) (rm_tr1 l Z a0 hw [] ea16 x15 T16.heap n0 O Ft16) hZ (hw _ (List.mem_of_getElem? (i := 252) rfl)) (hw _ (List.mem_of_getElem? (i := 24) rfl)) (by decide) (by decide)) q17a q17c (g := (mkF m 110 #[.val (.int p0), .val (.int p1), .val (.int p2), .val (.int p3), .val (.ref x15), .val (.int (p3 &&& (3 : Int32))), .val (.ref ea16)] [(.ref ea16)])) rfl (by rw [hml]; rfl) (Steps.refl _) (argsL := []) (rest := []) (lenOf pd_rm1_1 rfl) rfl (by show 2 * 0 + _ ≤ _; exact Nat.le_of_eq rfl) (hb hby at_110) (fun _ _ => ⟨rfl, rfl, (by decide : 27 + 0 ≤ _), (by decide : 5733 + 0 ≤ _)⟩)
        dsimp only [Pt.U, Pt.locs, Pt.cells, Pt.slots] at X17 l17 y17 z17 st17 hQ17
        subst l17 y17 z17
        obtain ⟨rfl, Nq17, e17⟩ := hQ17
        replace N := Fr.app N Nq17
        refine Go.by (T' := T17) (f' := (mkF m 113 #[.val (.int p0), .val (.int p1), .val (.int p2), .val (.int p3), .val (.ref x15), .val (.int (p3 &&& (3 : Int32))), .val (.ref ea16)] [(.ref x15)])) (fun _ k => st17.trans k) ?_
        refine Go.by (T' := T17) (f' := (mkF m 115 #[.val (.int p0), .val (.int p1), .val (.int p2), .val (.int p3), .val (.ref x15), .val (.int (p3 &&& (3 : Int32))), .val (.ref ea16)] [(.ref x15), (.ref x15)])) (fun _ k => XS.aload X17.here hx rfl (hb hby at_113) rfl rfl k) ?_
        refine Go.by (T' := T17) (f' := (mkF m 118 #[.val (.int p0), .val (.int p1), .val (.int p2), .val (.int p3), .val (.ref x15), .val (.int (p3 &&& (3 : Int32))), .val (.ref ea16)] [])) (fun _ k => Jvm.RoadKit.acmp (g := (mkF m 115 #[.val (.int p0), .val (.int p1), .val (.int p2), .val (.int p3), .val (.ref x15), .val (.int (p3 &&& (3 : Int32))), .val (.ref ea16)] [(.ref x15), (.ref x15)])) X17 hx rfl rfl rfl (pc0 := 115) (pc' := 118) (same := true) rfl (hb hby at_115) rfl (decide_eq_true rfl) (by decide) (by decide) k) ?_
        refine Go.by (T' := T17) (f' := (mkF m 120 #[.val (.int p0), .val (.int p1), .val (.int p2), .val (.int p3), .val (.ref x15), .val (.int (p3 &&& (3 : Int32))), .val (.ref ea16)] [(.ref ea16)])) (fun _ k => XS.aload X17.here hx rfl (hb hby at_118) rfl rfl k) ?_
        obtain ⟨cq18, kq18, q18a, q18b, q18c⟩ := isOf hZ e17 Ea16
        obtain ⟨v18, _, ⟨T18, L18, k18, n18⟩, -, X18, ⟨Lc18, hQ18, l18, y18, z18⟩, st18⟩ := X17.virtualBack hx (y := (⟨"com/example/swapdeck/swapdeck/swap/CloseOutException", "input", "()Lcom/example/swapdeck/swapdeck/swap/CloseOutException$Input;"⟩ : MethodName)) (z := (⟨"com/example/swapdeck/swapdeck/swap/CloseOutException", "input", "()Lcom/example/swapdeck/swapdeck/swap/CloseOutException$Input;"⟩ : MethodName)) hown (mvT hZ (hw _ (List.mem_of_getElem? (i := 253) rfl))) (mvT hZ (hw _ (List.mem_of_getElem? (i := 254) rfl))) (notFace_of_selects (args := #[]) (mvT hZ (hw _ (List.mem_of_getElem? (i := 256) rfl)))) (mvT hZ (hw _ (List.mem_of_getElem? (i := 256) rfl))) (mvT hZ (hw _ (List.mem_of_getElem? (i := 255) rfl))) (by decide) (backOf (W := 0) (rm_inp l Z a0 hw [] ea16 ls T16.heap n0 O Fi16) hZ (hw _ (List.mem_of_getElem? (i := 257) rfl)) (hw _ (List.mem_of_getElem? (i := 24) rfl)) (by decide) (by decide)) q18a q18c (g := (mkF m 120 #[.val (.int p0), .val (.int p1), .val (.int p2), .val (.int p3), .val (.ref x15), .val (.int (p3 &&& (3 : Int32))), .val (.ref ea16)] [(.ref ea16)])) rfl (by rw [hml]; rfl) (Steps.refl _) (argsL := []) (rest := []) (lenOf pd_rm1_2 rfl) rfl (by show 2 * 0 + _ ≤ _; exact Nat.le_of_eq rfl) (hb hby at_120) (fun _ _ => ⟨rfl, e17, (by decide : 27 + 0 ≤ _), (by decide : 5733 + 0 ≤ _)⟩)
        dsimp only [Pt.U, Pt.locs, Pt.cells, Pt.slots] at X18 l18 y18 z18 st18 hQ18
        subst l18 y18 z18
        obtain ⟨rfl, Nq18, e18⟩ := hQ18
        replace N := Fr.app N Nq18
        refine Go.by (T' := T18) (f' := (mkF m 123 #[.val (.int p0), .val (.int p1), .val (.int p2), .val (.int p3), .val (.ref x15), .val (.int (p3 &&& (3 : Int32))), .val (.ref ea16)] [(.ref ls)])) (fun _ k => st18.trans k) ?_
        obtain ⟨T19, X19, e19, st19⟩ := getS2 X18 hx hZ hown (host := "") (Or.inl (hw _ (List.mem_of_getElem? (i := 258) rfl))) Via.refl e18 (Sta.ext O.2 hS0.2.2.1) (g := (mkF m 123 #[.val (.int p0), .val (.int p1), .val (.int p2), .val (.int p3), .val (.ref x15), .val (.int (p3 &&& (3 : Int32))), .val (.ref ea16)] [(.ref ls)])) rfl (hb hby at_123)
        refine Go.by (T' := T19) (f' := (mkF m 126 #[.val (.int p0), .val (.int p1), .val (.int p2), .val (.int p3), .val (.ref x15), .val (.int (p3 &&& (3 : Int32))), .val (.ref ea16)] [(.ref ls), (.ref ls)])) (st19) ?_
        refine Go.by (T' := T19) (f' := (mkF m 129 #[.val (.int p0), .val (.int p1), .val (.int p2), .val (.int p3), .val (.ref x15), .val (.int (p3 &&& (3 : Int32))), .val (.ref ea16)] [])) (fun _ k => Jvm.RoadKit.acmp (g := (mkF m 126 #[.val (.int p0), .val (.int p1), .val (.int p2), .val (.int p3), .val (.ref x15), .val (.int (p3 &&& (3 : Int32))), .val (.ref ea16)] [(.ref ls), (.ref ls)])) X19 hx rfl rfl rfl (pc0 := 126) (pc' := 129) (same := true) rfl (hb hby at_126) rfl (decide_eq_true rfl) (by decide) (by decide) k) ?_
        refine Go.by (T' := T19) (f' := (mkF m 130 #[.val (.int p0), .val (.int p1), .val (.int p2), .val (.int p3), .val (.ref x15), .val (.int (p3 &&& (3 : Int32))), .val (.ref ea16)] [(.int (1 : Int32))])) (fun _ k => XS.iconst X19.here hx rfl (hb hby at_129) k) ?_
        refine Go.by (T' := T19) (f' := (mkF m 134 #[.val (.int p0), .val (.int p1), .val (.int p2), .val (.int p3), .val (.ref x15), .val (.int (p3 &&& (3 : Int32))), .val (.ref ea16)] [(.int (1 : Int32))])) (fun _ k => XS.goto X19.here hx rfl (pc0 := 130) (pc' := 134) rfl (hb hby at_130) (by decide) (by decide) k) ?_
        obtain ⟨fs, hr, hrun, hended, q1, q2, q3, q4⟩ := X19.leaveW hS (by rw [e19]; exact hk) (v := some (.int (1 : Int32))) (fun h => by rw [Bd.returns] at h; cases h)
        refine ⟨_, _, retN X19 hx (t := .boolean) Bd.returns (by simp) (hb hby at_134) hr, hrun, hended, _, _, rfl, ?_, ?_, q1, q2, q3, q4.mono (by decide) (by decide)⟩
        · show Q1 n0 (some (.int (1 : Int32))) T19.heap _
          rw [e19]
          exact ⟨rfl, N⟩
        · show CHr Z consts_1 s.vm s.heap T19.vm T19.heap
          rw [e19, hh]
          exact C.trans (CHv.at X19 hZ hEL C.1)
      · skip
        refine Go.by (T' := s₁) (f' := (mkF m 57 #[.val (.int p0), .val (.int p1), .val (.int p2), .val (.int p3), .unset, .val (.int (p3 &&& (3 : Int32))), .unset] [])) (fun _ k => XS.icmpYes X0.here hx rfl (pc0 := 40) (pc' := 57) rfl (hb hby at_40) rfl (feq hc40_14).2 (by decide) (by decide) k) ?_
        refine Go.by (T' := s₁) (f' := (mkF m 58 #[.val (.int p0), .val (.int p1), .val (.int p2), .val (.int p3), .unset, .val (.int (p3 &&& (3 : Int32))), .unset] [(.int (2 : Int32))])) (fun _ k => XS.iconst X0.here hx rfl (hb hby at_57) k) ?_
        obtain ⟨T20, h20, k20, X20, e20, E20, A20, st20⟩ := newP X0 hx hZ (hw _ (List.mem_of_getElem? (i := 3) rfl)) e0 (g := (mkF m 58 #[.val (.int p0), .val (.int p1), .val (.int p2), .val (.int p3), .unset, .val (.int (p3 &&& (3 : Int32))), .unset] [(.int (2 : Int32))])) rfl (hb hby at_58) rfl (by decide) (cap := 2) (by decide) (by decide) (by decide) (by decide)
        obtain ⟨b20, g20⟩ : ∃ z, z = h0.size := ⟨_, rfl⟩
        rw [← g20] at A20 st20
        have g_b20 : n0 ≤ b20 := Nat.le_trans (Old.le O) (Nat.le_of_eq g20.symm)
        have sz_b20 : h0.size ≤ b20 := Nat.le_trans K.1 (Nat.le_of_eq g20.symm)
        have Sf_b20 : Safe Z consts_1 s.vm h0 b20 := Safe.new (Nat.le_of_eq g20.symm)
        replace Sf_b20 := Safe.ext E20 C.1 Sf_b20
        replace O := O.ext E20
        replace K := K.ext E20
        replace C := C.trans (CHr.ext E20 C.1)
        replace hk := Nat.le_trans hk E20.1
        have V_b20 : Arv Z h20 b20 k20 .char (2 : Int32) [(.int (0 : Int32)), (.int (0 : Int32))] (.int (0 : Int32)) := (Arv.new A20 (by decide)).pad (pad_rep [] (.int (0 : Int32)) 2)
        refine Go.by (T' := T20) (f' := (mkF m 60 #[.val (.int p0), .val (.int p1), .val (.int p2), .val (.int p3), .unset, .val (.int (p3 &&& (3 : Int32))), .unset] [(.ref b20)])) (st20) ?_
        refine Go.by (T' := T20) (f' := (mkF m 62 #[.val (.int p0), .val (.int p1), .val (.int p2), .val (.int p3), .unset, .val (.int (p3 &&& (3 : Int32))), .val (.ref b20)] [])) (fun _ k => XS.astore X20.here hx rfl (hb hby at_60) rfl rfl (l' := #[.val (.int p0), .val (.int p1), .val (.int p2), .val (.int p3), .unset, .val (.int (p3 &&& (3 : Int32))), .val (.ref b20)]) rfl k) ?_
        refine Go.by (T' := T20) (f' := (mkF m 64 #[.val (.int p0), .val (.int p1), .val (.int p2), .val (.int p3), .unset, .val (.int (p3 &&& (3 : Int32))), .val (.ref b20)] [(.ref b20)])) (fun _ k => XS.aload X20.here hx rfl (hb hby at_62) rfl rfl k) ?_
        refine Go.by (T' := T20) (f' := (mkF m 65 #[.val (.int p0), .val (.int p1), .val (.int p2), .val (.int p3), .unset, .val (.int (p3 &&& (3 : Int32))), .val (.ref b20)] [(.int (0 : Int32)), (.ref b20)])) (fun _ k => XS.iconst X20.here hx rfl (hb hby at_64) k) ?_
        refine Go.by (T' := T20) (f' := (mkF m 66 #[.val (.int p0), .val (.int p1), .val (.int p2), .val (.int p3), .unset, .val (.int (p3 &&& (3 : Int32))), .val (.ref b20)] [(.int p0), (.int (0 : Int32)), (.ref b20)])) (fun _ k => XS.iloadN X20.here hx rfl (hb hby at_65) rfl k) ?_
        refine Go.by (T' := T20) (f' := (mkF m 69 #[.val (.int p0), .val (.int p1), .val (.int p2), .val (.int p3), .unset, .val (.int (p3 &&& (3 : Int32))), .val (.ref b20)] [(.int (255 : Int32)), (.int p0), (.int (0 : Int32)), (.ref b20)])) (fun _ k => XS.sipush X20.here hx rfl (hb hby at_66) k) ?_
        refine Go.by (T' := T20) (f' := (mkF m 70 #[.val (.int p0), .val (.int p1), .val (.int p2), .val (.int p3), .unset, .val (.int (p3 &&& (3 : Int32))), .val (.ref b20)] [(.int (p0 &&& (255 : Int32))), (.int (0 : Int32)), (.ref b20)])) (fun _ k => XS.iand X20.here hx rfl (hb hby at_69) rfl k) ?_
        refine Go.by (T' := T20) (f' := (mkF m 71 #[.val (.int p0), .val (.int p1), .val (.int p2), .val (.int p3), .unset, .val (.int (p3 &&& (3 : Int32))), .val (.ref b20)] [(.int ((p0 &&& (255 : Int32)).toUInt32.toUInt16.toUInt32.toInt32)), (.int (0 : Int32)), (.ref b20)])) (fun _ k => XS.i2c X20.here hx rfl (hb hby at_70) rfl k) ?_
        obtain ⟨cl21, Ar21, q21, S21, N21', H21, G21⟩ := V_b20
        obtain ⟨T21, h21, X21, e21, W21, st21⟩ := stC X20 hx hZ e20 Ar21 (j := (0 : Int32)) (inb_of S21 ⟨by decide, by decide⟩) (g := (mkF m 71 #[.val (.int p0), .val (.int p1), .val (.int p2), .val (.int p3), .unset, .val (.int (p3 &&& (3 : Int32))), .val (.ref b20)] [(.int ((p0 &&& (255 : Int32)).toUInt32.toUInt16.toUInt32.toInt32)), (.int (0 : Int32)), (.ref b20)])) rfl rfl (hb hby at_71)
        have Sa_W21 := Sf_b20
        replace Sf_b20 := Safe.wr W21 Sa_W21 C.1 Sf_b20
        replace C := C.trans (CHr.wr W21 Sa_W21 C.1)
        replace hk := Nat.le_trans hk (Keep.of_wr W21).1
        replace V_b20 := Arv.set Ar21 q21 S21 N21' H21 G21 (fits_nar_char _) W21 0 rfl (Nat.le_of_ble_eq_true rfl)
        change Arv Z h21 b20 k20 .char (2 : Int32) [(.int (nar .char ((p0 &&& (255 : Int32)).toUInt32.toUInt16.toUInt32.toInt32))), (.int (0 : Int32))] _ at V_b20
        rw [own_nar ((p0 &&& (255 : Int32)).toUInt32.toUInt16.toUInt32.toInt32) (by rw [own_i2c0 _ (own_and255 p0)]; exact own_and255 p0)] at V_b20
        replace O := O.wr W21 g_b20
        replace K := K.wr W21 (Or.inr sz_b20)
        replace N := Fr.snoc X21 N g_b20
        refine Go.by (T' := T21) (f' := (mkF m 72 #[.val (.int p0), .val (.int p1), .val (.int p2), .val (.int p3), .unset, .val (.int (p3 &&& (3 : Int32))), .val (.ref b20)] [])) (st21) ?_
        refine Go.by (T' := T21) (f' := (mkF m 74 #[.val (.int p0), .val (.int p1), .val (.int p2), .val (.int p3), .unset, .val (.int (p3 &&& (3 : Int32))), .val (.ref b20)] [(.ref b20)])) (fun _ k => XS.aload X21.here hx rfl (hb hby at_72) rfl rfl k) ?_
        refine Go.by (T' := T21) (f' := (mkF m 75 #[.val (.int p0), .val (.int p1), .val (.int p2), .val (.int p3), .unset, .val (.int (p3 &&& (3 : Int32))), .val (.ref b20)] [(.int (1 : Int32)), (.ref b20)])) (fun _ k => XS.iconst X21.here hx rfl (hb hby at_74) k) ?_
        refine Go.by (T' := T21) (f' := (mkF m 76 #[.val (.int p0), .val (.int p1), .val (.int p2), .val (.int p3), .unset, .val (.int (p3 &&& (3 : Int32))), .val (.ref b20)] [(.int p1), (.int (1 : Int32)), (.ref b20)])) (fun _ k => XS.iloadN X21.here hx rfl (hb hby at_75) rfl k) ?_
        refine Go.by (T' := T21) (f' := (mkF m 79 #[.val (.int p0), .val (.int p1), .val (.int p2), .val (.int p3), .unset, .val (.int (p3 &&& (3 : Int32))), .val (.ref b20)] [(.int (255 : Int32)), (.int p1), (.int (1 : Int32)), (.ref b20)])) (fun _ k => XS.sipush X21.here hx rfl (hb hby at_76) k) ?_
        refine Go.by (T' := T21) (f' := (mkF m 80 #[.val (.int p0), .val (.int p1), .val (.int p2), .val (.int p3), .unset, .val (.int (p3 &&& (3 : Int32))), .val (.ref b20)] [(.int (p1 &&& (255 : Int32))), (.int (1 : Int32)), (.ref b20)])) (fun _ k => XS.iand X21.here hx rfl (hb hby at_79) rfl k) ?_
        refine Go.by (T' := T21) (f' := (mkF m 81 #[.val (.int p0), .val (.int p1), .val (.int p2), .val (.int p3), .unset, .val (.int (p3 &&& (3 : Int32))), .val (.ref b20)] [(.int ((p1 &&& (255 : Int32)).toUInt32.toUInt16.toUInt32.toInt32)), (.int (1 : Int32)), (.ref b20)])) (fun _ k => XS.i2c X21.here hx rfl (hb hby at_80) rfl k) ?_
        obtain ⟨cl22, Ar22, q22, S22, N22', H22, G22⟩ := V_b20
        obtain ⟨T22, h22, X22, e22, W22, st22⟩ := stC X21 hx hZ e21 Ar22 (j := (1 : Int32)) (inb_of S22 ⟨by decide, by decide⟩) (g := (mkF m 81 #[.val (.int p0), .val (.int p1), .val (.int p2), .val (.int p3), .unset, .val (.int (p3 &&& (3 : Int32))), .val (.ref b20)] [(.int ((p1 &&& (255 : Int32)).toUInt32.toUInt16.toUInt32.toInt32)), (.int (1 : Int32)), (.ref b20)])) rfl rfl (hb hby at_81)
        have Sa_W22 := Sf_b20
        replace Sf_b20 := Safe.wr W22 Sa_W22 C.1 Sf_b20
        replace C := C.trans (CHr.wr W22 Sa_W22 C.1)
        replace hk := Nat.le_trans hk (Keep.of_wr W22).1
        replace V_b20 := Arv.set Ar22 q22 S22 N22' H22 G22 (fits_nar_char _) W22 1 rfl (Nat.le_of_ble_eq_true rfl)
        change Arv Z h22 b20 k20 .char (2 : Int32) [(.int ((p0 &&& (255 : Int32)).toUInt32.toUInt16.toUInt32.toInt32)), (.int (nar .char ((p1 &&& (255 : Int32)).toUInt32.toUInt16.toUInt32.toInt32)))] _ at V_b20
        rw [own_nar ((p1 &&& (255 : Int32)).toUInt32.toUInt16.toUInt32.toInt32) (by rw [own_i2c0 _ (own_and255 p1)]; exact own_and255 p1)] at V_b20
        replace O := O.wr W22 g_b20
        replace K := K.wr W22 (Or.inr sz_b20)
        replace N := Fr.snoc X22 N g_b20
        refine Go.by (T' := T22) (f' := (mkF m 82 #[.val (.int p0), .val (.int p1), .val (.int p2), .val (.int p3), .unset, .val (.int (p3 &&& (3 : Int32))), .val (.ref b20)] [])) (st22) ?_
        obtain ⟨T23, h23, X23, e23, E23, A23, D23, -, st23⟩ := newO X22 hx hZ hown (hw _ (List.mem_of_getElem? (i := 0) rfl)) (hw _ (List.mem_of_getElem? (i := 1) rfl)) (hw _ (List.mem_of_getElem? (i := 2) rfl)) e22 (g := (mkF m 82 #[.val (.int p0), .val (.int p1), .val (.int p2), .val (.int p3), .unset, .val (.int (p3 &&& (3 : Int32))), .val (.ref b20)] [])) rfl (hb hby at_82) (by decide) (by decide)
        obtain ⟨b23, g23⟩ : ∃ z, z = h22.size := ⟨_, rfl⟩
        rw [← g23] at A23 D23 st23
        have ne_b20_b23 : b20 ≠ b23 := Nat.ne_of_lt (Nat.lt_of_lt_of_le V_b20.lt (Nat.le_of_eq g23.symm))
        have g_b23 : n0 ≤ b23 := Nat.le_trans (Old.le O) (Nat.le_of_eq g23.symm)
        have sz_b23 : h0.size ≤ b23 := Nat.le_trans K.1 (Nat.le_of_eq g23.symm)
        have Sf_b23 : Safe Z consts_1 s.vm h22 b23 := Safe.new (Nat.le_of_eq g23.symm)
        replace Sf_b20 := Safe.ext E23 C.1 Sf_b20
        replace V_b20 := V_b20.ext E23
        replace Sf_b23 := Safe.ext E23 C.1 Sf_b23
        replace O := O.ext E23
        replace K := K.ext E23
        replace C := C.trans (CHr.ext E23 C.1)
        replace hk := Nat.le_trans hk E23.1
        have E_b23 := A23
        have F_value_b23 : Fld Z h23 b23 "java/lang/String" "value" "[B" .null := D23 (Or.inr (hw _ (List.mem_of_getElem? (i := 16) rfl))) (ty := (.array .byte)) (by decide)
        have F_coder_b23 : Fld Z h23 b23 "java/lang/String" "coder" "B" (.int (0 : Int32)) := D23 (Or.inr (hw _ (List.mem_of_getElem? (i := 17) rfl))) (ty := .byte) (by decide)
        refine Go.by (T' := T23) (f' := (mkF m 85 #[.val (.int p0), .val (.int p1), .val (.int p2), .val (.int p3), .unset, .val (.int (p3 &&& (3 : Int32))), .val (.ref b20)] [(.ref b23)])) (st23) ?_
        refine Go.by (T' := T23) (f' := (mkF m 86 #[.val (.int p0), .val (.int p1), .val (.int p2), .val (.int p3), .unset, .val (.int (p3 &&& (3 : Int32))), .val (.ref b20)] [(.ref b23), (.ref b23)])) (fun _ k => XS.dup X23.here hx rfl (hb hby at_85) rfl rfl k) ?_
        refine Go.by (T' := T23) (f' := (mkF m 88 #[.val (.int p0), .val (.int p1), .val (.int p2), .val (.int p3), .unset, .val (.int (p3 &&& (3 : Int32))), .val (.ref b20)] [(.ref b20), (.ref b23), (.ref b23)])) (fun _ k => XS.aload X23.here hx rfl (hb hby at_86) rfl rfl k) ?_
        have hp24 : ∀ c ∈ ([((p0 &&& (255 : Int32)).toUInt32.toUInt16.toUInt32.toInt32), ((p1 &&& (255 : Int32)).toUInt32.toUInt16.toUInt32.toInt32)] : List Int32), ¬ c < 0 ∧ ¬ (255 : Int32) < c := by
          intro c hc; simp only [List.mem_cons, List.not_mem_nil, or_false] at hc
          rcases hc with rfl | rfl
          · exact (by rw [own_i2c0 _ (own_and255 p0)]; exact own_and255 p0)
          · exact (by rw [own_i2c0 _ (own_and255 p1)]; exact own_and255 p1)
        obtain ⟨v24, _, ⟨T24, L24, k24, n24⟩, -, X24, ⟨Lc24, hQ24, l24, y24, z24⟩, st24⟩ := X23.specialBack hx (y := (⟨"java/lang/String", "<init>", "([C)V"⟩ : MethodName)) rfl hown (mvT hZ (hw _ (List.mem_of_getElem? (i := 4) rfl))) (mvT hZ (hw _ (List.mem_of_getElem? (i := 5) rfl))) (mvT hZ (hw _ (List.mem_of_getElem? (i := 6) rfl))) (by decide) (StrChars.Road.backV (W := 1) hZ hws (kI := 4) (hw _ (List.mem_of_getElem? (i := 1) rfl)) (cs := ([((p0 &&& (255 : Int32)).toUInt32.toUInt16.toUInt32.toInt32), ((p1 &&& (255 : Int32)).toUInt32.toUInt16.toUInt32.toInt32)] : List Int32)) (bs := ([((p0 &&& (255 : Int32)).toUInt32.toUInt16.toUInt32.toInt32), ((p1 &&& (255 : Int32)).toUInt32.toUInt16.toUInt32.toInt32)] : List Int32).map (fun c => c.toInt8.toInt32)) (n := 2) g_b23 (Old.le O) E_b23 F_value_b23 F_coder_b23 V_b20 (Sta.ext O.2 hS0.1) hS0.2.1 rfl rfl (by decide) (by decide) hp24 rfl (by decide) (by decide)) (g := (mkF m 88 #[.val (.int p0), .val (.int p1), .val (.int p2), .val (.int p3), .unset, .val (.int (p3 &&& (3 : Int32))), .val (.ref b20)] [(.ref b20), (.ref b23), (.ref b23)])) rfl (by rw [hml]; rfl) (Steps.refl _) (a := b23) (argsL := [(.ref b20)]) (rest := [(.ref b23)]) (lenOf pd_rm1_3 rfl) rfl (by show 2 * 0 + _ ≤ _; exact Nat.le_of_eq rfl) (hb hby at_88) (fun _ _ => ⟨rfl, e23, (by decide : 2 + 1 ≤ _), (by decide : 6 + 2 ≤ _)⟩)
        dsimp only [Pt.U, Pt.locs, Pt.cells, Pt.slots] at X24 l24 y24 z24 st24 hQ24
        subst l24 y24 z24
        obtain ⟨rfl, Nq24, K24, -, Gc24, t24, kb24, gt24, szt24, net24, Gv24, Vt24⟩ := hQ24
        replace N := Fr.app N Nq24
        have ne_b20_t24 : b20 ≠ t24 := Nat.ne_of_lt (Nat.lt_of_lt_of_le V_b20.lt szt24)
        have ne_b23_t24 : b23 ≠ t24 := Nat.ne_of_lt (Nat.lt_of_lt_of_le E_b23.lt szt24)
        have g_t24 : n0 ≤ t24 := Nat.le_trans (Old.le O) szt24
        have sz_t24 : h0.size ≤ t24 := Nat.le_trans K.1 szt24
        have hs_K24 : ∀ x ∈ ([b23] : List Addr), Safe Z consts_1 s.vm h23 x := (sfS Sf_b23 sf0)
        have Sk_K24 := CHr.keep (Z := Z) (EL := consts_1) (vm := s.vm) K24 hs_K24 C.1
        replace Sf_b20 := Safe.keep K24 hs_K24 C.1 Sf_b20
        replace Sf_b23 := Safe.keep K24 hs_K24 C.1 Sf_b23
        replace V_b20 := V_b20.keep K24 (ninS ne_b20_b23 nin0)
        replace E_b23 := E_b23.keep K24
        replace C := C.trans Sk_K24
        replace hk := Nat.le_trans hk K24.1
        replace O := O.keep K24 (allS g_b23 all0)
        replace K := K.trans K24 (allS (Or.inr sz_b23) all0)
        refine Go.by (T' := T24) (f' := (mkF m 91 #[.val (.int p0), .val (.int p1), .val (.int p2), .val (.int p3), .unset, .val (.int (p3 &&& (3 : Int32))), .val (.ref b20)] [(.ref b23)])) (fun _ k => st24.trans k) ?_
        refine Go.by (T' := T24) (f' := (mkF m 93 #[.val (.int p0), .val (.int p1), .val (.int p2), .val (.int p3), .val (.ref b23), .val (.int (p3 &&& (3 : Int32))), .val (.ref b20)] [])) (fun _ k => XS.astore X24.here hx rfl (hb hby at_91) rfl rfl (l' := #[.val (.int p0), .val (.int p1), .val (.int p2), .val (.int p3), .val (.ref b23), .val (.int (p3 &&& (3 : Int32))), .val (.ref b20)]) rfl k) ?_
        refine Go.by (T' := T24) (f' := (mkF m 95 #[.val (.int p0), .val (.int p1), .val (.int p2), .val (.int p3), .val (.ref b23), .val (.int (p3 &&& (3 : Int32))), .val (.ref b20)] [(.ref b23)])) (fun _ k => XS.aload X24.here hx rfl (hb hby at_93) rfl rfl k) ?_
        refine Go.by (T' := T24) (f' := (mkF m 96 #[.val (.int p0), .val (.int p1), .val (.int p2), .val (.int p3), .val (.ref b23), .val (.int (p3 &&& (3 : Int32))), .val (.ref b20)] [(.int p2), (.ref b23)])) (fun _ k => XS.iloadN X24.here hx rfl (hb hby at_95) rfl k) ?_
        have hlx25 : 2 ≤ 2 := by omega
        obtain ⟨v25, _, ⟨T25, L25, k25, n25⟩, -, X25, hS25, hg25, ⟨Lc25, hQ25, l25, y25, z25, C25⟩, st25⟩ := callSS X24 hx (y := (⟨"com/example/swapdeck/swapdeck/swap/CloseOutException", "noLoss", "(Ljava/lang/String;I)Lcom/example/swapdeck/swapdeck/swap/CloseOutException;"⟩ : MethodName)) hown (mvT hZ (hw _ (List.mem_of_getElem? (i := 22) rfl))) (mvT hZ (hw _ (List.mem_of_getElem? (i := 23) rfl))) (mvT hZ (hw _ (List.mem_of_getElem? (i := 24) rfl))) (mvT hZ (hw _ (List.mem_of_getElem? (i := 25) rfl))) (by decide) (backOfSKH (W := 0) (s := s) (EL := consts_1) (rm_nl1 l Z a0 hw [] hl hch hEL b23 t24 _ (2) _ p2 zc ls us ss hS0 T24.heap n0 O E_b23 Gv24 Gc24 Vt24 hlx25) hZ (hw _ (List.mem_of_getElem? (i := 25) rfl)) (hw _ (List.mem_of_getElem? (i := 24) rfl)) (by decide) (by decide) hEL C.1 (Vm.MethodsKnown.alikeC hS.1.alike hK.1) (Vm.FramesKnown.alikeC hS.1.alike hK.2)) (g := (mkF m 96 #[.val (.int p0), .val (.int p1), .val (.int p2), .val (.int p3), .val (.ref b23), .val (.int (p3 &&& (3 : Int32))), .val (.ref b20)] [(.int p2), (.ref b23)])) rfl (by rw [hml]; rfl) (argsL := [(.ref b23), (.int p2)]) (rest := []) (lenOf pd_rm1_0 rfl) rfl (by show 2 * 0 + _ ≤ _; exact Nat.le_of_eq rfl) (hb hby at_96) (fun _ _ => ⟨rfl, rfl, (by decide : 3 + 25 ≤ _), (by decide : 8 + 5728 ≤ _)⟩)
        dsimp only [Pt.U, Pt.locs, Pt.cells, Pt.slots] at X25 l25 y25 z25 st25 hQ25 hS25 hg25 C25
        subst l25 y25 z25
        have hown25 : (s.setVm T25.vm).vm.findClass "com/example/swapdeck/swapdeck/swap/CloseOutExceptionNoLossPinLaw" = some m.cls := by rw [show (s.setVm T25.vm).vm = T25.vm from rfl, hS25.1.alike.findClass]; exact hown
        have hZ25 : Z.Warmed39 (s.setVm T25.vm).vm := State.Warmed39.trans (t := s.setVm s.vm) hZ hS25.1
        have ag25 := Stand.againW (s := s) X25 hS hS25 (Nat.le_trans hk hg25)
        replace X25 := ag25.1
        replace hS := ag25.2
        replace Sf_b20 := CHr.safe C25 V_b20.lt Sf_b20
        replace Sf_b23 := CHr.safe C25 E_b23.lt Sf_b23
        obtain ⟨ea25, rfl, Nq25, K25, Ea25, Ft25, Fi25⟩ := hQ25
        replace N := Fr.app N Nq25
        replace V_b20 := V_b20.keep K25 nin0
        replace E_b23 := E_b23.keep K25
        replace Gc24 := Gc24.keep K25 nin0
        replace Gv24 := Gv24.keep K25 nin0
        replace Vt24 := Vt24.keep K25 nin0
        replace O := O.keep K25 all0
        replace K := K.trans K25 all0
        replace C := C.trans C25
        replace hZ := hZ25
        replace hown := hown25
        replace hk := Nat.le_refl T25.heap.size
        refine Go.by (T' := T25) (f' := (mkF m 99 #[.val (.int p0), .val (.int p1), .val (.int p2), .val (.int p3), .val (.ref b23), .val (.int (p3 &&& (3 : Int32))), .val (.ref b20)] [(.ref ea25)])) (fun _ k => st25.trans k) ?_
        refine Go.by (T' := T25) (f' := (mkF m 101 #[.val (.int p0), .val (.int p1), .val (.int p2), .val (.int p3), .val (.ref b23), .val (.int (p3 &&& (3 : Int32))), .val (.ref ea25)] [])) (fun _ k => XS.astore X25.here hx rfl (hb hby at_99) rfl rfl (l' := #[.val (.int p0), .val (.int p1), .val (.int p2), .val (.int p3), .val (.ref b23), .val (.int (p3 &&& (3 : Int32))), .val (.ref ea25)]) rfl k) ?_
        refine Go.by (T' := T25) (f' := (mkF m 103 #[.val (.int p0), .val (.int p1), .val (.int p2), .val (.int p3), .val (.ref b23), .val (.int (p3 &&& (3 : Int32))), .val (.ref ea25)] [(.ref ea25)])) (fun _ k => XS.aload X25.here hx rfl (hb hby at_101) rfl rfl k) ?_
        refine Go.by (T' := T25) (f' := (mkF m 108 #[.val (.int p0), .val (.int p1), .val (.int p2), .val (.int p3), .val (.ref b23), .val (.int (p3 &&& (3 : Int32))), .val (.ref ea25)] [])) (fun _ k => XS.ifnonnullYes X25.here hx rfl (pc0 := 103) (pc' := 108) rfl (hb hby at_103) rfl (by decide) (by decide) k) ?_
        refine Go.by (T' := T25) (f' := (mkF m 110 #[.val (.int p0), .val (.int p1), .val (.int p2), .val (.int p3), .val (.ref b23), .val (.int (p3 &&& (3 : Int32))), .val (.ref ea25)] [(.ref ea25)])) (fun _ k => XS.aload X25.here hx rfl (hb hby at_108) rfl rfl k) ?_
        obtain ⟨cq26, kq26, q26a, q26b, q26c⟩ := isOf hZ rfl Ea25
        obtain ⟨v26, _, ⟨T26, L26, k26, n26⟩, -, X26, ⟨Lc26, hQ26, l26, y26, z26⟩, st26⟩ := X25.virtualBack hx (y := (⟨"com/example/swapdeck/swapdeck/swap/CloseOutException", "trade", "()Ljava/lang/String;"⟩ : MethodName)) (z := (⟨"com/example/swapdeck/swapdeck/swap/CloseOutException", "trade", "()Ljava/lang/String;"⟩ : MethodName)) hown (mvT hZ (hw _ (List.mem_of_getElem? (i := 248) rfl))) (mvT hZ (hw _ (List.mem_of_getElem? (i := 249) rfl))) (notFace_of_selects (args := #[]) (mvT hZ (hw _ (List.mem_of_getElem? (i := 251) rfl)))) (mvT hZ (hw _ (List.mem_of_getElem? (i := 251) rfl))) (mvT hZ (hw _ (List.mem_of_getElem? (i := 250) rfl))) (by decide) (backOf (W := 0) (rm_tr1 l Z a0 hw [] ea25 b23 T25.heap n0 O Ft25) hZ (hw _ (List.mem_of_getElem? (i := 252) rfl)) (hw _ (List.mem_of_getElem? (i := 24) rfl)) (by decide) (by decide)) q26a q26c (g := (mkF m 110 #[.val (.int p0), .val (.int p1), .val (.int p2), .val (.int p3), .val (.ref b23), .val (.int (p3 &&& (3 : Int32))), .val (.ref ea25)] [(.ref ea25)])) rfl (by rw [hml]; rfl) (Steps.refl _) (argsL := []) (rest := []) (lenOf pd_rm1_1 rfl) rfl (by show 2 * 0 + _ ≤ _; exact Nat.le_of_eq rfl) (hb hby at_110) (fun _ _ => ⟨rfl, rfl, (by decide : 28 + 0 ≤ _), (by decide : 5736 + 0 ≤ _)⟩)
        dsimp only [Pt.U, Pt.locs, Pt.cells, Pt.slots] at X26 l26 y26 z26 st26 hQ26
        subst l26 y26 z26
        obtain ⟨rfl, Nq26, e26⟩ := hQ26
        replace N := Fr.app N Nq26
        refine Go.by (T' := T26) (f' := (mkF m 113 #[.val (.int p0), .val (.int p1), .val (.int p2), .val (.int p3), .val (.ref b23), .val (.int (p3 &&& (3 : Int32))), .val (.ref ea25)] [(.ref b23)])) (fun _ k => st26.trans k) ?_
        refine Go.by (T' := T26) (f' := (mkF m 115 #[.val (.int p0), .val (.int p1), .val (.int p2), .val (.int p3), .val (.ref b23), .val (.int (p3 &&& (3 : Int32))), .val (.ref ea25)] [(.ref b23), (.ref b23)])) (fun _ k => XS.aload X26.here hx rfl (hb hby at_113) rfl rfl k) ?_
        refine Go.by (T' := T26) (f' := (mkF m 118 #[.val (.int p0), .val (.int p1), .val (.int p2), .val (.int p3), .val (.ref b23), .val (.int (p3 &&& (3 : Int32))), .val (.ref ea25)] [])) (fun _ k => Jvm.RoadKit.acmp (g := (mkF m 115 #[.val (.int p0), .val (.int p1), .val (.int p2), .val (.int p3), .val (.ref b23), .val (.int (p3 &&& (3 : Int32))), .val (.ref ea25)] [(.ref b23), (.ref b23)])) X26 hx rfl rfl rfl (pc0 := 115) (pc' := 118) (same := true) rfl (hb hby at_115) rfl (decide_eq_true rfl) (by decide) (by decide) k) ?_
        refine Go.by (T' := T26) (f' := (mkF m 120 #[.val (.int p0), .val (.int p1), .val (.int p2), .val (.int p3), .val (.ref b23), .val (.int (p3 &&& (3 : Int32))), .val (.ref ea25)] [(.ref ea25)])) (fun _ k => XS.aload X26.here hx rfl (hb hby at_118) rfl rfl k) ?_
        obtain ⟨cq27, kq27, q27a, q27b, q27c⟩ := isOf hZ e26 Ea25
        obtain ⟨v27, _, ⟨T27, L27, k27, n27⟩, -, X27, ⟨Lc27, hQ27, l27, y27, z27⟩, st27⟩ := X26.virtualBack hx (y := (⟨"com/example/swapdeck/swapdeck/swap/CloseOutException", "input", "()Lcom/example/swapdeck/swapdeck/swap/CloseOutException$Input;"⟩ : MethodName)) (z := (⟨"com/example/swapdeck/swapdeck/swap/CloseOutException", "input", "()Lcom/example/swapdeck/swapdeck/swap/CloseOutException$Input;"⟩ : MethodName)) hown (mvT hZ (hw _ (List.mem_of_getElem? (i := 253) rfl))) (mvT hZ (hw _ (List.mem_of_getElem? (i := 254) rfl))) (notFace_of_selects (args := #[]) (mvT hZ (hw _ (List.mem_of_getElem? (i := 256) rfl)))) (mvT hZ (hw _ (List.mem_of_getElem? (i := 256) rfl))) (mvT hZ (hw _ (List.mem_of_getElem? (i := 255) rfl))) (by decide) (backOf (W := 0) (rm_inp l Z a0 hw [] ea25 ls T25.heap n0 O Fi25) hZ (hw _ (List.mem_of_getElem? (i := 257) rfl)) (hw _ (List.mem_of_getElem? (i := 24) rfl)) (by decide) (by decide)) q27a q27c (g := (mkF m 120 #[.val (.int p0), .val (.int p1), .val (.int p2), .val (.int p3), .val (.ref b23), .val (.int (p3 &&& (3 : Int32))), .val (.ref ea25)] [(.ref ea25)])) rfl (by rw [hml]; rfl) (Steps.refl _) (argsL := []) (rest := []) (lenOf pd_rm1_2 rfl) rfl (by show 2 * 0 + _ ≤ _; exact Nat.le_of_eq rfl) (hb hby at_120) (fun _ _ => ⟨rfl, e26, (by decide : 28 + 0 ≤ _), (by decide : 5736 + 0 ≤ _)⟩)
        dsimp only [Pt.U, Pt.locs, Pt.cells, Pt.slots] at X27 l27 y27 z27 st27 hQ27
        subst l27 y27 z27
        obtain ⟨rfl, Nq27, e27⟩ := hQ27
        replace N := Fr.app N Nq27
        refine Go.by (T' := T27) (f' := (mkF m 123 #[.val (.int p0), .val (.int p1), .val (.int p2), .val (.int p3), .val (.ref b23), .val (.int (p3 &&& (3 : Int32))), .val (.ref ea25)] [(.ref ls)])) (fun _ k => st27.trans k) ?_
        obtain ⟨T28, X28, e28, st28⟩ := getS2 X27 hx hZ hown (host := "") (Or.inl (hw _ (List.mem_of_getElem? (i := 258) rfl))) Via.refl e27 (Sta.ext O.2 hS0.2.2.1) (g := (mkF m 123 #[.val (.int p0), .val (.int p1), .val (.int p2), .val (.int p3), .val (.ref b23), .val (.int (p3 &&& (3 : Int32))), .val (.ref ea25)] [(.ref ls)])) rfl (hb hby at_123)
        refine Go.by (T' := T28) (f' := (mkF m 126 #[.val (.int p0), .val (.int p1), .val (.int p2), .val (.int p3), .val (.ref b23), .val (.int (p3 &&& (3 : Int32))), .val (.ref ea25)] [(.ref ls), (.ref ls)])) (st28) ?_
        refine Go.by (T' := T28) (f' := (mkF m 129 #[.val (.int p0), .val (.int p1), .val (.int p2), .val (.int p3), .val (.ref b23), .val (.int (p3 &&& (3 : Int32))), .val (.ref ea25)] [])) (fun _ k => Jvm.RoadKit.acmp (g := (mkF m 126 #[.val (.int p0), .val (.int p1), .val (.int p2), .val (.int p3), .val (.ref b23), .val (.int (p3 &&& (3 : Int32))), .val (.ref ea25)] [(.ref ls), (.ref ls)])) X28 hx rfl rfl rfl (pc0 := 126) (pc' := 129) (same := true) rfl (hb hby at_126) rfl (decide_eq_true rfl) (by decide) (by decide) k) ?_
        refine Go.by (T' := T28) (f' := (mkF m 130 #[.val (.int p0), .val (.int p1), .val (.int p2), .val (.int p3), .val (.ref b23), .val (.int (p3 &&& (3 : Int32))), .val (.ref ea25)] [(.int (1 : Int32))])) (fun _ k => XS.iconst X28.here hx rfl (hb hby at_129) k) ?_
        refine Go.by (T' := T28) (f' := (mkF m 134 #[.val (.int p0), .val (.int p1), .val (.int p2), .val (.int p3), .val (.ref b23), .val (.int (p3 &&& (3 : Int32))), .val (.ref ea25)] [(.int (1 : Int32))])) (fun _ k => XS.goto X28.here hx rfl (pc0 := 130) (pc' := 134) rfl (hb hby at_130) (by decide) (by decide) k) ?_
        obtain ⟨fs, hr, hrun, hended, q1, q2, q3, q4⟩ := X28.leaveW hS (by rw [e28]; exact hk) (v := some (.int (1 : Int32))) (fun h => by rw [Bd.returns] at h; cases h)
        refine ⟨_, _, retN X28 hx (t := .boolean) Bd.returns (by simp) (hb hby at_134) hr, hrun, hended, _, _, rfl, ?_, ?_, q1, q2, q3, q4.mono (by decide) (by decide)⟩
        · show Q1 n0 (some (.int (1 : Int32))) T28.heap _
          rw [e28]
          exact ⟨rfl, N⟩
        · show CHr Z consts_1 s.vm s.heap T28.vm T28.heap
          rw [e28, hh]
          exact C.trans (CHv.at X28 hZ hEL C.1)

open Jvm.Free.SBG in
theorem own_tbl {a : Array Value} {s : State} {name : String} (hF : heapFits' s = true) (hw : (Cond.laysStatic "java/lang/Integer" name "[B").before a s = true ∧ (Cond.exactly (Tof name) "[B").before a s = true ∧ (Cond.eq (.length (Tof name)) (.int 100)).before a s = true) (hini : (Cond.initialized "java/lang/Integer").before a s = true) (harr : (Cond.arrayClass .byte).before a s = true) :
    ∃ (c : ClassId) (k : Class) (st d : Addr) (D : Cell), s.vm.findClass "java/lang/Integer" = some c ∧ s.vm.classes[c]? = some k ∧ k.statics = some st ∧ Tbl s name st d D := by
  obtain ⟨w1, w2, w3⟩ := hw
  refine tbl_of_words (fun w hq => ?_) hini harr
  simp only [tblW, List.mem_cons, List.not_mem_nil, or_false] at hq
  rcases hq with rfl | rfl | rfl | rfl
  · exact w1
  · exact w2
  · exact w3
  · obtain ⟨d, cB, D, kB, hev, hfcB, hcellD, hkB, hstatD, hclsD, -⟩ := Cond.exactly_spec w2
    have hl := Cond.eq_int w3 rfl
    obtain ⟨d', D', hev', harrAt, hlen⟩ := Term.length_spec hl
    cases hev.symm.trans hev'
    obtain ⟨hcellD', hknD, -, -⟩ := State.arrayAt?_spec harrAt
    cases hcellD.symm.trans hcellD'
    have h31 := length_lt hev harrAt hl
    obtain ⟨cB', kB', comp, hnameB, hkB', hkindB⟩ := Cond.arrayClass_spec harr
    have eBA : ("[" ++ FieldType.toString .byte) = "[B" := by decide
    rw [eBA] at hnameB
    cases hfcB.symm.trans hnameB
    cases hkB.symm.trans hkB'
    exact Cond.all_range_of_fit (show Jvm.heapFits' s = true from hF) (ty := .byte) (fun v h => fits_byte h) (t := Tof name) (fun idx => by have q : (Tof name).eval a s none idx s = (Tof name).eval a s none [] s := by {simp only [Tof, Term.eval]}; rw [q]; exact hev) harrAt h31 ⟨(fun q h => by rw [h] at hstatD; cases hstatD), kB, (by rw [hclsD]; exact hkB), comp, hkindB⟩
set_option maxRecDepth 65536 in
set_option maxHeartbeats 40000000 in
theorem comes_1 {Post : Tables → Env → Array Value → State → Outcome → State → Prop} (hpost : ∀ tb e args s v u, (limb_1_1.after args s (.returned v) u = true ∧ limb_1_2.after args s (.returned v) u = true ∧ True) → ReturnedEndW s (.returned v) u (Jvm.fieldLocs frame_1_writes args s ++ Jvm.arrayLocs frame_1_arrays args s ++ Jvm.staticLocs frame_1_statics s) 56 12608 → Post tb e args s (.returned v) u) :
    ArmFor flags0 classFile x code maxLocals ret World_1 tables_1 room_1 Calls_1 rest_1 Pre_1 Post := by
  intro l hfl _ _ p e ha hc hk s m args below hf hA hF happ hP
  obtain ⟨hcalls, hrest, hpre⟩ := hP
  obtain ⟨-, -, -, hnamed, -, -, -, hat⟩ := (Spec.applies_iff hf).mp happ
  obtain ⟨hg, hn⟩ := and_e (Cond.before_iff.mp (show (Jvm.Cond.and given_1 narrow_1).before args s = true from hpre))
  obtain ⟨hcount, hg⟩ := and_e hg
  obtain ⟨w0, w1, w2, w3, rfl⟩ : ∃ w0 w1 w2 w3 : Value, args = #[w0, w1, w2, w3] := by
    have hs : args.size = 4 := by simpa [Cond.value, given_1] using hcount
    obtain ⟨L⟩ := args
    match L, hs with
    | [w0, w1, w2, w3], _ => exact ⟨w0, w1, w2, w3, rfl⟩
  have hw := fun d (hd : d ∈ tables_1) => atoms_spec (ws := Jvm.Cond.code x code maxLocals ret :: tables_1) hat d (List.mem_cons_of_mem _ hd)
  have hfit : Fit s := fun {y c} hc i hi => by
    obtain ⟨ha, rfl⟩ := Array.getElem?_eq_some_iff.mp hc
    have q := List.all_eq_true.mp ((Array.all_eq_true_iff_forall_mem.mp hF) _ (Array.getElem_mem ha)) i (List.mem_range.mpr hi)
    simpa [Array.getElem?_eq_getElem hi] using q
  obtain ⟨hg0, hg⟩ := and_e hg
  obtain ⟨i0, ei0⟩ := is_v hg0
  obtain rfl : w0 = (.int i0) := Option.some.inj ei0
  obtain ⟨hg1, hg⟩ := and_e hg
  obtain ⟨i1, ei1⟩ := is_v hg1
  obtain rfl : w1 = (.int i1) := Option.some.inj ei1
  obtain ⟨hg2, hg⟩ := and_e hg
  obtain ⟨i2, ei2⟩ := is_v hg2
  obtain rfl : w2 = (.int i2) := Option.some.inj ei2
  have hg3 := hg
  obtain ⟨i3, ei3⟩ := is_v hg3
  obtain rfl : w3 = (.int i3) := Option.some.inj ei3
  have hs : ∀ d ∈ jdkStatics_1, d.before #[.int i0, .int i1, .int i2, .int i3] s = true := (atoms_of jdkStatics_1 (own := restOwn_1) (rest_1_c_eq ▸ hrest)).1
  obtain ⟨zc, ezc⟩ := is_v (Cond.before_iff.mp (hs _ (List.mem_of_getElem? (i := 1) rfl)))
  have S_z : Sta s s.heap "java/lang/String" "COMPACT_STRINGS" "Z" (.int zc) := Sta.start ezc (Or.inl (hs _ (List.mem_of_getElem? (i := 0) rfl)))
  have H_z : ¬ zc = 0 := fun q => by have h := not_v (Cond.before_iff.mp (hs _ (List.mem_of_getElem? (i := 2) rfl))); rw [Jvm.Cond.eq_ints ezc (Term.int_eval 0)] at h; simp [q] at h
  obtain ⟨ls, els⟩ := exa_v hn
  have S_l : Sta s s.heap "com/example/swapdeck/swapdeck/swap/CloseOutException$Input" "LOSS" "Lcom/example/swapdeck/swapdeck/swap/CloseOutException$Input;" (.ref ls) := Sta.start els (Or.inr ⟨(hw _ (List.mem_of_getElem? (i := 29) rfl)), (hw _ (List.mem_of_getElem? (i := 30) rfl))⟩)
  have E_l := Exa.start els hn
  have hEL : EW s #[.int i0, .int i1, .int i2, .int i3] consts_1 := (EW.cons (hw _ (List.mem_of_getElem? (i := 49) rfl)) (by decide +kernel) (EW.cons (hw _ (List.mem_of_getElem? (i := 98) rfl)) (by decide +kernel) (EW.cons (hw _ (List.mem_of_getElem? (i := 183) rfl)) (by decide +kernel) (EW.cons (hw _ (List.mem_of_getElem? (i := 289) rfl)) (by decide +kernel) (EW.cons (hw _ (List.mem_of_getElem? (i := 124) rfl)) (by decide +kernel) (EW.cons (hw _ (List.mem_of_getElem? (i := 14) rfl)) (by decide +kernel) EW.nil))))))
  have CH0 : CHv s consts_1 s.vm s.heap := CHv.start hEL (fun p hp => hcalls.2.2.1 p hp) (show Jvm.Lit.compactW.before #[.int i0, .int i1, .int i2, .int i3] s = true from (hs _ (List.mem_of_getElem? (i := 2) rfl))) (hw _ (List.mem_of_getElem? (i := 15) rfl)) (hw _ (List.mem_of_getElem? (i := 1) rfl))
  obtain ⟨us, eus⟩ := arr_v (Cond.before_iff.mp (hs _ (List.mem_of_getElem? (i := 28) rfl)))
  have S_us : Sta s s.heap "java/lang/Throwable" "UNASSIGNED_STACK" "[Ljava/lang/StackTraceElement;" (.ref us) := Sta.start eus (Or.inl (hs _ (List.mem_of_getElem? (i := 26) rfl)))
  obtain ⟨ss, ess⟩ := exa_v (Cond.before_iff.mp (hs _ (List.mem_of_getElem? (i := 33) rfl)))
  have S_ss : Sta s s.heap "java/lang/Throwable" "SUPPRESSED_SENTINEL" "Ljava/util/List;" (.ref ss) := Sta.start ess (Or.inl (hs _ (List.mem_of_getElem? (i := 31) rfl)))
  have hch : Hch s #[.int i0, .int i1, .int i2, .int i3] := fun d hd hn => (List.mem_append.mp (own_c2 d hd hn)).elim (hw d) (hs d)
  have hl : l.stackTraces = true := by unfold Launch.stackTraces; rw [hfl]; decide
  have T1 := own_tbl (name := "DigitOnes") hF ⟨(hs _ (List.mem_of_getElem? (i := 10) rfl)), (hs _ (List.mem_of_getElem? (i := 12) rfl)), (hs _ (List.mem_of_getElem? (i := 13) rfl))⟩ (hs _ (List.mem_of_getElem? (i := 9) rfl)) (hw _ (List.mem_of_getElem? (i := 15) rfl))
  have T2 := own_tbl (name := "DigitTens") hF ⟨(hs _ (List.mem_of_getElem? (i := 15) rfl)), (hs _ (List.mem_of_getElem? (i := 17) rfl)), (hs _ (List.mem_of_getElem? (i := 18) rfl))⟩ (hs _ (List.mem_of_getElem? (i := 9) rfl)) (hw _ (List.mem_of_getElem? (i := 15) rfl))
  obtain ⟨c1, k1, st1, d1, D1, z1, z2, z3, Tb1⟩ := T1
  obtain ⟨c2, k2, st2, d2, D2, y1, y2, y3, Tb2⟩ := T2
  cases z1.symm.trans y1
  cases z2.symm.trans y2
  cases z3.symm.trans y3
  have hS0 : Sf s zc ls us ss := ⟨S_z, H_z, S_l, E_l, S_us, S_ss, st1, d1, d2, D1, D2, Tb1, Tb2⟩
  obtain ⟨n, o, h1, h2, h3, _, L, rfl, ⟨rfl, N⟩, -, hq1, hq2, hq3, hq4⟩ := rm1 l s _ hw tables_1 hl hch hEL i0 i1 i2 i3 zc ls us ss hS0 s.heap s.heap.size (Old.start s) p e ha hc hk s m _ below hf ((Spec.applies_iff_loose hf).mp happ).1 ⟨rfl, State.Warmed39.refl s, rfl, CH0⟩ ⟨hcalls.1, hcalls.2.1⟩
  refine ⟨n, _, h1, h2, h3, hpost _ _ _ _ _ _ ⟨Cond.after_iff.mpr rfl, Cond.after_iff.mpr (eq_i res_at (Term.int_eval (1)) rfl), trivial⟩ ⟨hq1, hq2, hq3, (hq4.sift fun y hy => Or.inr (N y hy)).mono (by decide) (by decide)⟩⟩
theorem main_1_1 : Claimed_1_1 := comes_1 fun _ _ _ _ _ _ h hF => ⟨h.1, hF⟩
theorem main_1_2 : Claimed_1_2 := comes_1 fun _ _ _ _ _ _ h hF => ⟨h.2.1, hF⟩
end Jvm.Pilot.@@N@@
namespace Jvm.Pilot.@@N@@
open Jvm Jvm.ClassFile Sem Op Lib Jvm.Free Jvm.Stand Jvm.Pilot.@@N@@.Jvm.D
/-! MADE BY PROGRAM (witnessworld.py) out of the Statement's table words and the real class files: 45 classes; the members and pool entries that the words name. The judged class is class 1, her method 1. -/
namespace start1
open Jvm.ClassFile
def u (s : String) : CpInfo := .utf8 (stringToUtf16 s)
/-- a pool by its gaps: so many unusable entries, then the entry; so many at the end -/
def gap : Nat → List CpInfo → List CpInfo
  | 0, r => r
  | n + 1, r => .unusable :: gap n r
def poolList (es : List (Nat × CpInfo)) (last : Nat) : List CpInfo := es.foldr (fun e r => gap e.1 (e.2 :: r)) (gap last [])
def pool (es : List (Nat × CpInfo)) (last : Nat) : Array CpInfo := ⟨poolList es last⟩
def fileOf (pool : Array CpInfo) (this : Nat) (attrs : Array Attribute := #[]) (ms : Array MethodInfo := #[]) (fl : Nat := 33) (sup : Nat := 0) (ifs : Array Nat := #[]) (fds : Array FieldInfo := #[]) : ClassFile where
  minorVersion := 0
  majorVersion := 65
  constantPool := pool
  accessFlags := fl
  thisClass := this
  superClass := sup
  interfaces := ifs
  fields := fds
  methods := ms
  attributes := attrs
def plain (name : String) (sup : Option ClassId) : Class where
  name := name
  kind := .ordinary
  loader := none
  accessFlags := 33
  super := sup
  interfaces := #[]
  cf := none
  fields := #[]
  methods := #[]
  instanceTypes := #[]
  staticTypes := #[]
  resolved := #[]
  callSites := []
  init := .initialized
  statics := none
  mirror := none

def pool0 : Array CpInfo := pool [(5, u "<init>"), (0, u "()V"), (1, .class_ 10), (1, u "java/lang/Object"), (85, u "clone"), (0, u "()Ljava/lang/Object;")] 26

def k0c0 : Code := { maxStack := 0, maxLocals := 1, code := object_method_1_code, exceptionTable := #[], attributes := #[] }
def k0m0 : Method := { name := "<init>", desc := "()V", sig := { parameters := [], returnType := none }, accessFlags := 1, code := some k0c0 }
def k0m1 : Method := { name := "clone", desc := "()Ljava/lang/Object;", sig := { parameters := [], returnType := some (.object "java/lang/Object") }, accessFlags := 260, code := none }
/-- java/lang/Object -/
def k0 : Class := { plain "java/lang/Object" none with
  accessFlags := 33
  interfaces := #[]
  cf := some (fileOf pool0 8 #[] #[{ accessFlags := 1, nameIndex := 5, descriptorIndex := 6, attributes := #[] }, { accessFlags := 260, nameIndex := 96, descriptorIndex := 97, attributes := #[] }] 33 0 #[] #[])
  fields := #[]
  methods := #[k0m0, k0m1]
  instanceTypes := #[]
  staticTypes := #[]
  resolved := Array.replicate 124 none
  statics := none }

def pool1 : Array CpInfo := pool [(2, .class_ 4), (1, u "java/lang/Object"), (0, u "<init>"), (0, u "()V"), (0, .class_ 8), (0, u "java/lang/String"), (0, .methodref 7 10), (0, .nameAndType 5 11), (0, u "([C)V"), (0, .methodref 7 13), (0, .nameAndType 14 15), (0, u "valueOf"), (0, u "(C)Ljava/lang/String;"), (0, .methodref 17 18), (0, .class_ 19), (0, .nameAndType 20 21), (0, u "com/example/swapdeck/swapdeck/swap/CloseOutException"), (0, u "noLoss"), (0, u "(Ljava/lang/String;I)Lcom/example/swapdeck/swapdeck/swap/CloseOutException;"), (0, .methodref 17 23), (0, .nameAndType 24 25), (0, u "trade"), (0, u "()Ljava/lang/String;"), (0, .methodref 17 27), (0, .nameAndType 28 29), (0, u "input"), (0, u "()Lcom/example/swapdeck/swapdeck/swap/CloseOutException$Input;"), (0, .fieldref 31 32), (0, .class_ 33), (0, .nameAndType 34 35), (0, u "com/example/swapdeck/swapdeck/swap/CloseOutException$Input"), (0, u "LOSS"), (0, u "Lcom/example/swapdeck/swapdeck/swap/CloseOutException$Input;"), (0, .class_ 37), (0, u "com/example/swapdeck/swapdeck/swap/CloseOutExceptionNoLossPinLaw"), (2, u "law"), (0, u "(IIII)Z")] 5

def k1m0 : Method := { name := "<init>", desc := "()V", sig := { parameters := [], returnType := none }, accessFlags := 2, code := none }
def k1c1 : Code := { maxStack := 4, maxLocals := 7, code := code, exceptionTable := #[], attributes := #[] }
def k1m1 : Method := { name := "law", desc := "(IIII)Z", sig := { parameters := [.int, .int, .int, .int], returnType := some .boolean }, accessFlags := 9, code := some k1c1 }
/-- com/example/swapdeck/swapdeck/swap/CloseOutExceptionNoLossPinLaw -/
def k1 : Class := { plain "com/example/swapdeck/swapdeck/swap/CloseOutExceptionNoLossPinLaw" (some 0) with
  accessFlags := 49
  interfaces := #[]
  cf := some (fileOf pool1 36 #[] #[{ accessFlags := 2, nameIndex := 5, descriptorIndex := 6, attributes := #[] }, { accessFlags := 9, nameIndex := 40, descriptorIndex := 41, attributes := #[] }] 49 2 #[] #[])
  fields := #[]
  methods := #[k1m0, k1m1]
  instanceTypes := #[]
  staticTypes := #[]
  resolved := Array.replicate 47 none
  statics := none }

def pool2 : Array CpInfo := pool [(1, .class_ 2), (0, u "java/io/Serializable"), (0, .class_ 4), (0, u "java/lang/Object")] 2

/-- java/io/Serializable -/
def k2 : Class := { plain "java/io/Serializable" (some 0) with
  accessFlags := 1537
  interfaces := #[]
  cf := some (fileOf pool2 1 #[] #[] 1537 3 #[] #[])
  fields := #[]
  methods := #[]
  instanceTypes := #[]
  staticTypes := #[]
  resolved := Array.replicate 7 none
  statics := none }

def pool3 : Array CpInfo := pool [(1, .class_ 2), (0, u "java/lang/Comparable"), (0, .class_ 4), (0, u "java/lang/Object")] 7

/-- java/lang/Comparable -/
def k3 : Class := { plain "java/lang/Comparable" (some 0) with
  accessFlags := 1537
  interfaces := #[]
  cf := some (fileOf pool3 1 #[] #[] 1537 3 #[] #[])
  fields := #[]
  methods := #[]
  instanceTypes := #[]
  staticTypes := #[]
  resolved := Array.replicate 12 none
  statics := none }

def pool4 : Array CpInfo := pool [(2, .class_ 4), (1, u "java/lang/CharSequence"), (42, .class_ 48), (0, u "java/lang/CharSequence$1CodePointIterator"), (10, .class_ 60), (0, u "java/lang/CharSequence$1CharIterator"), (5, .class_ 67), (0, u "java/lang/Object")] 63

/-- java/lang/CharSequence -/
def k4 : Class := { plain "java/lang/CharSequence" (some 0) with
  accessFlags := 1537
  interfaces := #[]
  cf := some (fileOf pool4 2 #[.nestMembers #[47, 59]] #[] 1537 66 #[] #[])
  fields := #[]
  methods := #[]
  instanceTypes := #[]
  staticTypes := #[]
  resolved := Array.replicate 131 none
  statics := none }

def pool5 : Array CpInfo := pool [(1, .class_ 2), (0, u "java/lang/constant/Constable"), (0, .class_ 4), (0, u "java/lang/Object")] 6

/-- java/lang/constant/Constable -/
def k5 : Class := { plain "java/lang/constant/Constable" (some 0) with
  accessFlags := 1537
  interfaces := #[]
  cf := some (fileOf pool5 1 #[] #[] 1537 3 #[] #[])
  fields := #[]
  methods := #[]
  instanceTypes := #[]
  staticTypes := #[]
  resolved := Array.replicate 11 none
  statics := none }

def pool6 : Array CpInfo := pool [(1, .class_ 2), (0, u "java/lang/constant/ConstantDesc"), (0, .class_ 4), (0, u "java/lang/Object")] 32

/-- java/lang/constant/ConstantDesc -/
def k6 : Class := { plain "java/lang/constant/ConstantDesc" (some 0) with
  accessFlags := 1537
  interfaces := #[]
  cf := some (fileOf pool6 1 #[] #[] 1537 3 #[] #[])
  fields := #[]
  methods := #[]
  instanceTypes := #[]
  staticTypes := #[]
  resolved := Array.replicate 37 none
  statics := none }

def pool7 : Array CpInfo := pool [(1, .methodref 2 3), (0, .class_ 4), (0, .nameAndType 5 6), (0, u "java/lang/Object"), (0, u "<init>"), (0, u "()V"), (0, .string 8), (0, u ""), (0, .fieldref 10 11), (0, .class_ 12), (0, .nameAndType 13 14), (0, u "java/lang/String"), (0, u "value"), (0, u "[B"), (0, .fieldref 10 16), (0, .nameAndType 17 18), (0, u "coder"), (0, u "B"), (2, u "hash"), (0, u "I"), (2, u "hashIsZero"), (0, u "Z"), (0, .methodref 10 28), (0, .nameAndType 5 29), (0, u "([CIILjava/lang/Void;)V"), (8, .fieldref 10 39), (0, .nameAndType 40 26), (0, u "COMPACT_STRINGS"), (1, .class_ 44), (1, u "java/lang/StringUTF16"), (0, u "compress"), (1, .methodref 42 48), (0, .nameAndType 49 50), (0, u "coderFromArrayLen"), (0, u "([BI)B"), (2, u "toBytes"), (0, .methodref 55 56), (0, .class_ 57), (0, .nameAndType 58 59), (0, u "java/util/Arrays"), (0, u "copyOfRange"), (0, u "([BII)[B"), (47, .class_ 109), (1, u "java/lang/StringLatin1"), (32, u "()Z"), (34, .methodref 42 178), (0, .nameAndType 45 179), (0, u "([CII)[B"), (13, .class_ 195), (1, u "java/lang/System"), (13, .methodref 10 210), (0, .nameAndType 5 211), (0, u "([BB)V"), (0, .methodref 193 213), (0, .nameAndType 214 215), (0, u "arraycopy"), (0, u "(Ljava/lang/Object;ILjava/lang/Object;II)V"), (118, u "()I"), (0, .methodref 10 336), (0, .nameAndType 17 337), (0, u "()B"), (2, u "()[B"), (28, u "(C)Z"), (119, .methodref 10 490), (0, .nameAndType 5 491), (0, u "(Ljava/lang/AbstractStringBuilder;Ljava/lang/Void;)V"), (1, .nameAndType 494 142), (0, u "isLatin1"), (11, .nameAndType 507 334), (0, u "length"), (24, u "getBytes"), (16, .methodref 550 506), (0, .class_ 551), (0, u "java/lang/AbstractStringBuilder"), (0, .methodref 550 553), (0, .nameAndType 554 340), (0, u "getValue"), (20, .class_ 576), (0, u "java/lang/CharSequence"), (22, u "CASE_INSENSITIVE_ORDER"), (0, u "Ljava/util/Comparator;"), (181, u "valueOf"), (0, u "(C)Ljava/lang/String;"), (37, u "([BIB)V"), (188, u "([C)V"), (4, .methodref 107 1016), (0, .nameAndType 1017 369), (0, u "canEncode"), (0, .methodref 107 1019), (0, .nameAndType 53 1020), (0, u "(C)[B"), (26, .methodref 550 493), (53, u "serialPersistentFields"), (0, u "[Ljava/io/ObjectStreamField;"), (0, .class_ 1104), (0, u "java/lang/String$CaseInsensitiveComparator"), (1, .class_ 1107), (0, u "java/io/Serializable"), (0, .class_ 1109), (0, u "java/lang/Comparable"), (0, .class_ 1111), (0, u "java/lang/constant/Constable"), (0, .class_ 1113), (0, u "java/lang/constant/ConstantDesc"), (2, u "serialVersionUID"), (0, u "J"), (3, u "REPL"), (0, u "C"), (2, u "LATIN1"), (1, u "UTF16"), (105, u "(Ljava/lang/StringBuilder;)V")] 217

def k7m0 : Method := { name := "<init>", desc := "()V", sig := { parameters := [], returnType := none }, accessFlags := 1, code := none }
def k7c1 : Code := { maxStack := 5, maxLocals := 2, code := jdk_42_method_3_code, exceptionTable := #[], attributes := #[] }
def k7m1 : Method := { name := "<init>", desc := "([C)V", sig := { parameters := [(.array .char)], returnType := none }, accessFlags := 1, code := some k7c1 }
def k7c2 : Code := { maxStack := 3, maxLocals := 2, code := jdk_42_method_53_code, exceptionTable := #[], attributes := #[] }
def k7m2 : Method := { name := "<init>", desc := "(Ljava/lang/StringBuilder;)V", sig := { parameters := [(.object "java/lang/StringBuilder")], returnType := none }, accessFlags := 1, code := some k7c2 }
def k7c3 : Code := { maxStack := 2, maxLocals := 1, code := jdk_42_method_54_code, exceptionTable := #[], attributes := #[] }
def k7m3 : Method := { name := "length", desc := "()I", sig := { parameters := [], returnType := some .int }, accessFlags := 1, code := some k7c3 }
def k7c4 : Code := { maxStack := 4, maxLocals := 1, code := jdk_42_method_139_code, exceptionTable := #[], attributes := #[] }
def k7m4 : Method := { name := "valueOf", desc := "(C)Ljava/lang/String;", sig := { parameters := [.char], returnType := some (.object "java/lang/String") }, accessFlags := 9, code := some k7c4 }
def k7c5 : Code := { maxStack := 5, maxLocals := 4, code := jdk_42_method_147_code, exceptionTable := #[], attributes := #[] }
def k7m5 : Method := { name := "getBytes", desc := "([BIB)V", sig := { parameters := [(.array .byte), .int, .byte], returnType := none }, accessFlags := 0, code := some k7c5 }
def k7c6 : Code := { maxStack := 4, maxLocals := 6, code := jdk_42_method_149_code, exceptionTable := #[], attributes := #[] }
def k7m6 : Method := { name := "<init>", desc := "([CIILjava/lang/Void;)V", sig := { parameters := [(.array .char), .int, .int, (.object "java/lang/Void")], returnType := none }, accessFlags := 2, code := some k7c6 }
def k7c7 : Code := { maxStack := 5, maxLocals := 5, code := jdk_42_method_150_code, exceptionTable := #[], attributes := #[] }
def k7m7 : Method := { name := "<init>", desc := "(Ljava/lang/AbstractStringBuilder;Ljava/lang/Void;)V", sig := { parameters := [(.object "java/lang/AbstractStringBuilder"), (.object "java/lang/Void")], returnType := none }, accessFlags := 0, code := some k7c7 }
def k7c8 : Code := { maxStack := 2, maxLocals := 3, code := jdk_42_method_151_code, exceptionTable := #[], attributes := #[] }
def k7m8 : Method := { name := "<init>", desc := "([BB)V", sig := { parameters := [(.array .byte), .byte], returnType := none }, accessFlags := 0, code := some k7c8 }
def k7c9 : Code := { maxStack := 1, maxLocals := 1, code := jdk_42_method_152_code, exceptionTable := #[], attributes := #[] }
def k7m9 : Method := { name := "coder", desc := "()B", sig := { parameters := [], returnType := some .byte }, accessFlags := 0, code := some k7c9 }
/-- java/lang/String -/
def k7 : Class := { plain "java/lang/String" (some 0) with
  accessFlags := 49
  interfaces := #[2, 3, 4, 5, 6]
  cf := some (fileOf pool7 10 #[.nestMembers #[1103]] #[{ accessFlags := 1, nameIndex := 5, descriptorIndex := 6, attributes := #[] }, { accessFlags := 1, nameIndex := 5, descriptorIndex := 1010, attributes := #[] }, { accessFlags := 1, nameIndex := 5, descriptorIndex := 1233, attributes := #[] }, { accessFlags := 1, nameIndex := 507, descriptorIndex := 334, attributes := #[] }, { accessFlags := 9, nameIndex := 782, descriptorIndex := 783, attributes := #[] }, { accessFlags := 0, nameIndex := 532, descriptorIndex := 821, attributes := #[] }, { accessFlags := 2, nameIndex := 5, descriptorIndex := 29, attributes := #[] }, { accessFlags := 0, nameIndex := 5, descriptorIndex := 491, attributes := #[] }, { accessFlags := 0, nameIndex := 5, descriptorIndex := 211, attributes := #[] }, { accessFlags := 0, nameIndex := 17, descriptorIndex := 337, attributes := #[] }] 49 2 #[1106, 1108, 575, 1110, 1112] #[{ accessFlags := 18, nameIndex := 13, descriptorIndex := 14, attributes := #[] }, { accessFlags := 18, nameIndex := 17, descriptorIndex := 18, attributes := #[] }, { accessFlags := 2, nameIndex := 21, descriptorIndex := 22, attributes := #[] }, { accessFlags := 2, nameIndex := 25, descriptorIndex := 26, attributes := #[] }, { accessFlags := 26, nameIndex := 1116, descriptorIndex := 1117, attributes := #[] }, { accessFlags := 24, nameIndex := 40, descriptorIndex := 26, attributes := #[] }, { accessFlags := 26, nameIndex := 1101, descriptorIndex := 1102, attributes := #[] }, { accessFlags := 26, nameIndex := 1121, descriptorIndex := 1122, attributes := #[] }, { accessFlags := 25, nameIndex := 599, descriptorIndex := 600, attributes := #[] }, { accessFlags := 24, nameIndex := 1125, descriptorIndex := 18, attributes := #[] }, { accessFlags := 24, nameIndex := 1127, descriptorIndex := 18, attributes := #[] }])
  fields := #[{ name := "value", type := (.array .byte), accessFlags := 18, slot := 0, constantValue := 0 }, { name := "coder", type := .byte, accessFlags := 18, slot := 1, constantValue := 0 }, { name := "hash", type := .int, accessFlags := 2, slot := 2, constantValue := 0 }, { name := "hashIsZero", type := .boolean, accessFlags := 2, slot := 3, constantValue := 0 }, { name := "serialVersionUID", type := .long, accessFlags := 26, slot := 0, constantValue := 0 }, { name := "COMPACT_STRINGS", type := .boolean, accessFlags := 24, slot := 1, constantValue := 0 }, { name := "serialPersistentFields", type := (.array (.object "java/io/ObjectStreamField")), accessFlags := 26, slot := 2, constantValue := 0 }, { name := "REPL", type := .char, accessFlags := 26, slot := 3, constantValue := 0 }, { name := "CASE_INSENSITIVE_ORDER", type := (.object "java/util/Comparator"), accessFlags := 25, slot := 4, constantValue := 0 }, { name := "LATIN1", type := .byte, accessFlags := 24, slot := 5, constantValue := 0 }, { name := "UTF16", type := .byte, accessFlags := 24, slot := 6, constantValue := 0 }]
  methods := #[k7m0, k7m1, k7m2, k7m3, k7m4, k7m5, k7m6, k7m7, k7m8, k7m9]
  instanceTypes := #[(.array .byte), .byte, .int, .boolean]
  staticTypes := #[.long, .boolean, (.array (.object "java/io/ObjectStreamField")), .char, (.object "java/util/Comparator"), .byte, .byte]
  resolved := Array.replicate 1451 none
  statics := some 0 }

def pool8 : Array CpInfo := pool [(1, .methodref 2 3), (0, .class_ 4), (0, .nameAndType 5 6), (0, u "java/lang/Object"), (0, u "<init>"), (0, u "()V"), (0, .fieldref 8 9), (0, .class_ 10), (0, .nameAndType 11 12), (0, u "java/lang/Throwable"), (0, u "cause"), (0, u "Ljava/lang/Throwable;"), (0, .fieldref 8 14), (0, .nameAndType 15 16), (0, u "UNASSIGNED_STACK"), (0, u "[Ljava/lang/StackTraceElement;"), (0, .fieldref 8 18), (0, .nameAndType 19 16), (0, u "stackTrace"), (0, .fieldref 8 21), (0, .nameAndType 22 23), (0, u "SUPPRESSED_SENTINEL"), (0, u "Ljava/util/List;"), (0, .fieldref 8 25), (0, .nameAndType 26 23), (0, u "suppressedExceptions"), (0, .methodref 8 28), (0, .nameAndType 29 30), (0, u "fillInStackTrace"), (0, u "()Ljava/lang/Throwable;"), (0, .fieldref 8 32), (0, .nameAndType 33 34), (0, u "detailMessage"), (0, u "Ljava/lang/String;"), (58, .class_ 94), (0, u "java/lang/Throwable$WrappedPrintStream"), (6, .class_ 103), (1, u "java/lang/Throwable$PrintStreamOrWriter"), (61, u "$assertionsDisabled"), (0, u "Z"), (26, .class_ 194), (0, u "java/lang/Throwable$WrappedPrintWriter"), (3, .fieldref 8 199), (0, .nameAndType 200 201), (0, u "backtrace"), (0, u "Ljava/lang/Object;"), (0, .methodref 8 203), (0, .nameAndType 29 204), (0, u "(I)Ljava/lang/Throwable;"), (6, u "depth"), (0, u "I"), (10, u "(Ljava/lang/String;)V"), (45, .class_ 271), (1, u "java/lang/Throwable$SentinelHolder"), (32, u "EMPTY_THROWABLE_ARRAY"), (0, u "[Ljava/lang/Throwable;"), (12, .class_ 319), (0, u "java/io/Serializable"), (0, u "serialVersionUID"), (0, u "J"), (5, u "NULL_CAUSE_MESSAGE"), (0, u "SELF_SUPPRESSION_MESSAGE"), (0, u "CAUSE_CAPTION"), (0, u "SUPPRESSED_CAPTION")] 73

def k8c0 : Code := { maxStack := 2, maxLocals := 1, code := jdk_78_method_1_code, exceptionTable := #[], attributes := #[] }
def k8m0 : Method := { name := "<init>", desc := "()V", sig := { parameters := [], returnType := none }, accessFlags := 1, code := some k8c0 }
def k8c1 : Code := { maxStack := 2, maxLocals := 2, code := jdk_78_method_2_code, exceptionTable := #[], attributes := #[] }
def k8m1 : Method := { name := "<init>", desc := "(Ljava/lang/String;)V", sig := { parameters := [(.object "java/lang/String")], returnType := none }, accessFlags := 1, code := some k8c1 }
def k8c2 : Code := { maxStack := 2, maxLocals := 1, code := ⟨#[0x2a, 0xb4, 0x00, 0x11, 0xc7, 0x00, 0x0a, 0x2a, 0xb4, 0x00, 0xc6, 0xc6, 0x00, 0x10, 0x2a, 0x03, 0xb6, 0x00, 0xca, 0x57, 0x2a, 0xb2, 0x00, 0x0d, 0xb5, 0x00, 0x11, 0x2a, 0xb0]⟩, exceptionTable := #[], attributes := #[] }
def k8m2 : Method := { name := "fillInStackTrace", desc := "()Ljava/lang/Throwable;", sig := { parameters := [], returnType := some (.object "java/lang/Throwable") }, accessFlags := 33, code := some k8c2 }
def k8m3 : Method := { name := "fillInStackTrace", desc := "(I)Ljava/lang/Throwable;", sig := { parameters := [.int], returnType := some (.object "java/lang/Throwable") }, accessFlags := 258, code := none }
/-- java/lang/Throwable -/
def k8 : Class := { plain "java/lang/Throwable" (some 0) with
  accessFlags := 33
  interfaces := #[2]
  cf := some (fileOf pool8 8 #[.nestMembers #[193, 93, 101, 269]] #[{ accessFlags := 1, nameIndex := 5, descriptorIndex := 6, attributes := #[] }, { accessFlags := 1, nameIndex := 5, descriptorIndex := 223, attributes := #[] }, { accessFlags := 33, nameIndex := 29, descriptorIndex := 30, attributes := #[] }, { accessFlags := 258, nameIndex := 29, descriptorIndex := 204, attributes := #[] }] 33 2 #[318] #[{ accessFlags := 26, nameIndex := 320, descriptorIndex := 321, attributes := #[] }, { accessFlags := 130, nameIndex := 200, descriptorIndex := 201, attributes := #[] }, { accessFlags := 2, nameIndex := 33, descriptorIndex := 34, attributes := #[] }, { accessFlags := 26, nameIndex := 15, descriptorIndex := 16, attributes := #[] }, { accessFlags := 2, nameIndex := 11, descriptorIndex := 12, attributes := #[] }, { accessFlags := 2, nameIndex := 19, descriptorIndex := 16, attributes := #[] }, { accessFlags := 130, nameIndex := 211, descriptorIndex := 212, attributes := #[] }, { accessFlags := 26, nameIndex := 22, descriptorIndex := 23, attributes := #[] }, { accessFlags := 2, nameIndex := 26, descriptorIndex := 23, attributes := #[] }, { accessFlags := 26, nameIndex := 327, descriptorIndex := 34, attributes := #[] }, { accessFlags := 26, nameIndex := 328, descriptorIndex := 34, attributes := #[] }, { accessFlags := 26, nameIndex := 329, descriptorIndex := 34, attributes := #[] }, { accessFlags := 26, nameIndex := 330, descriptorIndex := 34, attributes := #[] }, { accessFlags := 26, nameIndex := 304, descriptorIndex := 305, attributes := #[] }, { accessFlags := 4120, nameIndex := 165, descriptorIndex := 166, attributes := #[] }])
  fields := #[{ name := "serialVersionUID", type := .long, accessFlags := 26, slot := 0, constantValue := 0 }, { name := "backtrace", type := (.object "java/lang/Object"), accessFlags := 130, slot := 0, constantValue := 0 }, { name := "detailMessage", type := (.object "java/lang/String"), accessFlags := 2, slot := 1, constantValue := 0 }, { name := "UNASSIGNED_STACK", type := (.array (.object "java/lang/StackTraceElement")), accessFlags := 26, slot := 1, constantValue := 0 }, { name := "cause", type := (.object "java/lang/Throwable"), accessFlags := 2, slot := 2, constantValue := 0 }, { name := "stackTrace", type := (.array (.object "java/lang/StackTraceElement")), accessFlags := 2, slot := 3, constantValue := 0 }, { name := "depth", type := .int, accessFlags := 130, slot := 4, constantValue := 0 }, { name := "SUPPRESSED_SENTINEL", type := (.object "java/util/List"), accessFlags := 26, slot := 2, constantValue := 0 }, { name := "suppressedExceptions", type := (.object "java/util/List"), accessFlags := 2, slot := 5, constantValue := 0 }, { name := "NULL_CAUSE_MESSAGE", type := (.object "java/lang/String"), accessFlags := 26, slot := 3, constantValue := 0 }, { name := "SELF_SUPPRESSION_MESSAGE", type := (.object "java/lang/String"), accessFlags := 26, slot := 4, constantValue := 0 }, { name := "CAUSE_CAPTION", type := (.object "java/lang/String"), accessFlags := 26, slot := 5, constantValue := 0 }, { name := "SUPPRESSED_CAPTION", type := (.object "java/lang/String"), accessFlags := 26, slot := 6, constantValue := 0 }, { name := "EMPTY_THROWABLE_ARRAY", type := (.array (.object "java/lang/Throwable")), accessFlags := 26, slot := 7, constantValue := 0 }, { name := "$assertionsDisabled", type := .boolean, accessFlags := 4120, slot := 8, constantValue := 0 }]
  methods := #[k8m0, k8m1, k8m2, k8m3]
  instanceTypes := #[(.object "java/lang/Object"), (.object "java/lang/String"), (.object "java/lang/Throwable"), (.array (.object "java/lang/StackTraceElement")), .int, (.object "java/util/List")]
  staticTypes := #[.long, (.array (.object "java/lang/StackTraceElement")), (.object "java/util/List"), (.object "java/lang/String"), (.object "java/lang/String"), (.object "java/lang/String"), (.object "java/lang/String"), (.array (.object "java/lang/Throwable")), .boolean]
  resolved := Array.replicate 404 none
  statics := some 1 }

def pool9 : Array CpInfo := pool [(2, .class_ 4), (1, u "java/lang/Throwable"), (0, u "<init>"), (0, u "()V"), (0, .methodref 2 8), (0, .nameAndType 5 9), (0, u "(Ljava/lang/String;)V"), (9, .class_ 20), (0, u "java/lang/Exception"), (0, u "serialVersionUID"), (0, u "J")] 17

def k9m0 : Method := { name := "<init>", desc := "()V", sig := { parameters := [], returnType := none }, accessFlags := 1, code := none }
def k9c1 : Code := { maxStack := 2, maxLocals := 2, code := jdk_59_method_2_code, exceptionTable := #[], attributes := #[] }
def k9m1 : Method := { name := "<init>", desc := "(Ljava/lang/String;)V", sig := { parameters := [(.object "java/lang/String")], returnType := none }, accessFlags := 1, code := some k9c1 }
/-- java/lang/Exception -/
def k9 : Class := { plain "java/lang/Exception" (some 8) with
  accessFlags := 33
  interfaces := #[]
  cf := some (fileOf pool9 19 #[] #[{ accessFlags := 1, nameIndex := 5, descriptorIndex := 6, attributes := #[] }, { accessFlags := 1, nameIndex := 5, descriptorIndex := 9, attributes := #[] }] 33 2 #[] #[{ accessFlags := 24, nameIndex := 21, descriptorIndex := 22, attributes := #[] }])
  fields := #[{ name := "serialVersionUID", type := .long, accessFlags := 24, slot := 0, constantValue := 0 }]
  methods := #[k9m0, k9m1]
  instanceTypes := #[(.object "java/lang/Object"), (.object "java/lang/String"), (.object "java/lang/Throwable"), (.array (.object "java/lang/StackTraceElement")), .int, (.object "java/util/List")]
  staticTypes := #[.long]
  resolved := Array.replicate 40 none
  statics := none }

def pool10 : Array CpInfo := pool [(1, .methodref 2 3), (0, .class_ 4), (0, .nameAndType 5 6), (0, u "java/lang/Exception"), (0, u "<init>"), (0, u "(Ljava/lang/String;)V"), (0, .fieldref 8 9), (0, .class_ 10), (0, .nameAndType 11 12), (0, u "com/example/swapdeck/swapdeck/swap/CloseOutException"), (0, u "trade"), (0, u "Ljava/lang/String;"), (0, .fieldref 8 14), (0, .nameAndType 15 16), (0, u "input"), (0, u "Lcom/example/swapdeck/swapdeck/swap/CloseOutException$Input;"), (0, .fieldref 18 19), (0, .class_ 20), (0, .nameAndType 21 16), (0, u "com/example/swapdeck/swapdeck/swap/CloseOutException$Input"), (0, u "LOSS"), (0, .class_ 23), (0, u "java/lang/StringBuilder"), (0, .methodref 22 25), (0, .nameAndType 5 26), (0, u "()V"), (0, .string 28), (0, u "trade "), (0, .methodref 22 30), (0, .nameAndType 31 32), (0, u "append"), (0, u "(Ljava/lang/String;)Ljava/lang/StringBuilder;"), (0, .string 34), (0, u " has "), (0, .methodref 8 36), (0, .nameAndType 37 38), (0, u "quotations"), (0, u "(I)Ljava/lang/String;"), (0, .string 40), (0, u ", fewer than three, so its Market Quotation cannot be determined and its Loss is used, but none is given"), (0, .methodref 22 42), (0, .nameAndType 43 44), (0, u "toString"), (0, u "()Ljava/lang/String;"), (0, .methodref 8 46), (0, .nameAndType 5 47), (0, u "(Ljava/lang/String;Lcom/example/swapdeck/swapdeck/swap/CloseOutException$Input;Ljava/lang/String;)V"), (5, .string 54), (0, u "1 quotation"), (0, .methodref 22 56), (0, .nameAndType 31 57), (0, u "(I)Ljava/lang/StringBuilder;"), (0, .string 59), (0, u " quotations"), (0, u "serialVersionUID"), (0, u "J"), (5, u "noLoss"), (0, u "(Ljava/lang/String;I)Lcom/example/swapdeck/swapdeck/swap/CloseOutException;"), (1, u "()Lcom/example/swapdeck/swapdeck/swap/CloseOutException$Input;")] 8

def k10c0 : Code := { maxStack := 2, maxLocals := 4, code := prog_72_method_1_code, exceptionTable := #[], attributes := #[] }
def k10m0 : Method := { name := "<init>", desc := "(Ljava/lang/String;Lcom/example/swapdeck/swapdeck/swap/CloseOutException$Input;Ljava/lang/String;)V", sig := { parameters := [(.object "java/lang/String"), (.object "com/example/swapdeck/swapdeck/swap/CloseOutException$Input"), (.object "java/lang/String")], returnType := none }, accessFlags := 2, code := some k10c0 }
def k10c1 : Code := { maxStack := 6, maxLocals := 2, code := prog_72_method_2_code, exceptionTable := #[], attributes := #[] }
def k10m1 : Method := { name := "noLoss", desc := "(Ljava/lang/String;I)Lcom/example/swapdeck/swapdeck/swap/CloseOutException;", sig := { parameters := [(.object "java/lang/String"), .int], returnType := some (.object "com/example/swapdeck/swapdeck/swap/CloseOutException") }, accessFlags := 8, code := some k10c1 }
def k10c2 : Code := { maxStack := 1, maxLocals := 1, code := prog_72_method_4_code, exceptionTable := #[], attributes := #[] }
def k10m2 : Method := { name := "trade", desc := "()Ljava/lang/String;", sig := { parameters := [], returnType := some (.object "java/lang/String") }, accessFlags := 1, code := some k10c2 }
def k10c3 : Code := { maxStack := 1, maxLocals := 1, code := prog_72_method_5_code, exceptionTable := #[], attributes := #[] }
def k10m3 : Method := { name := "input", desc := "()Lcom/example/swapdeck/swapdeck/swap/CloseOutException$Input;", sig := { parameters := [], returnType := some (.object "com/example/swapdeck/swapdeck/swap/CloseOutException$Input") }, accessFlags := 1, code := some k10c3 }
def k10c4 : Code := { maxStack := 2, maxLocals := 1, code := prog_72_method_6_code, exceptionTable := #[], attributes := #[] }
def k10m4 : Method := { name := "quotations", desc := "(I)Ljava/lang/String;", sig := { parameters := [.int], returnType := some (.object "java/lang/String") }, accessFlags := 10, code := some k10c4 }
/-- com/example/swapdeck/swapdeck/swap/CloseOutException -/
def k10 : Class := { plain "com/example/swapdeck/swapdeck/swap/CloseOutException" (some 9) with
  accessFlags := 49
  interfaces := #[]
  cf := some (fileOf pool10 8 #[.nestMembers #[18]] #[{ accessFlags := 2, nameIndex := 5, descriptorIndex := 47, attributes := #[] }, { accessFlags := 8, nameIndex := 67, descriptorIndex := 68, attributes := #[] }, { accessFlags := 1, nameIndex := 11, descriptorIndex := 44, attributes := #[] }, { accessFlags := 1, nameIndex := 15, descriptorIndex := 70, attributes := #[] }, { accessFlags := 10, nameIndex := 37, descriptorIndex := 38, attributes := #[] }] 49 2 #[] #[{ accessFlags := 26, nameIndex := 60, descriptorIndex := 61, attributes := #[] }, { accessFlags := 18, nameIndex := 11, descriptorIndex := 12, attributes := #[] }, { accessFlags := 18, nameIndex := 15, descriptorIndex := 16, attributes := #[] }])
  fields := #[{ name := "serialVersionUID", type := .long, accessFlags := 26, slot := 0, constantValue := 0 }, { name := "trade", type := (.object "java/lang/String"), accessFlags := 18, slot := 6, constantValue := 0 }, { name := "input", type := (.object "com/example/swapdeck/swapdeck/swap/CloseOutException$Input"), accessFlags := 18, slot := 7, constantValue := 0 }]
  methods := #[k10m0, k10m1, k10m2, k10m3, k10m4]
  instanceTypes := #[(.object "java/lang/Object"), (.object "java/lang/String"), (.object "java/lang/Throwable"), (.array (.object "java/lang/StackTraceElement")), .int, (.object "java/util/List"), (.object "java/lang/String"), (.object "com/example/swapdeck/swapdeck/swap/CloseOutException$Input")]
  staticTypes := #[.long]
  resolved := Array.replicate 79 none
  statics := none }

def pool11 : Array CpInfo := pool [(2, .class_ 4), (1, u "java/lang/Enum"), (0, u "name"), (0, u "Ljava/lang/String;"), (2, u "ordinal"), (0, u "I"), (1, .class_ 14), (1, u "java/lang/Object"), (4, u "hash"), (86, .class_ 108), (1, u "java/lang/Enum$EnumDesc"), (2, .class_ 112), (0, u "java/lang/constant/Constable"), (0, .class_ 114), (0, u "java/lang/Comparable"), (0, .class_ 116), (0, u "java/io/Serializable")] 87

/-- java/lang/Enum -/
def k11 : Class := { plain "java/lang/Enum" (some 0) with
  accessFlags := 1057
  interfaces := #[5, 3, 2]
  cf := some (fileOf pool11 2 #[.nestMembers #[106]] #[] 1057 12 #[111, 113, 115] #[{ accessFlags := 18, nameIndex := 5, descriptorIndex := 6, attributes := #[] }, { accessFlags := 18, nameIndex := 9, descriptorIndex := 10, attributes := #[] }, { accessFlags := 2, nameIndex := 19, descriptorIndex := 10, attributes := #[] }])
  fields := #[{ name := "name", type := (.object "java/lang/String"), accessFlags := 18, slot := 0, constantValue := 0 }, { name := "ordinal", type := .int, accessFlags := 18, slot := 1, constantValue := 0 }, { name := "hash", type := .int, accessFlags := 2, slot := 2, constantValue := 0 }]
  methods := #[]
  instanceTypes := #[(.object "java/lang/String"), .int, .int]
  staticTypes := #[]
  resolved := Array.replicate 204 none
  statics := none }

def pool12 : Array CpInfo := pool [(1, .class_ 2), (0, u "com/example/swapdeck/swapdeck/swap/CloseOutException$Input"), (2, u "QUOTATIONS"), (0, u "Lcom/example/swapdeck/swapdeck/swap/CloseOutException$Input;"), (2, u "LOSS"), (2, u "$VALUES"), (0, u "[Lcom/example/swapdeck/swapdeck/swap/CloseOutException$Input;"), (6, .class_ 22), (1, u "java/lang/Enum"), (25, .class_ 49), (0, u "com/example/swapdeck/swapdeck/swap/CloseOutException")] 2

/-- com/example/swapdeck/swapdeck/swap/CloseOutException$Input -/
def k12 : Class := { plain "com/example/swapdeck/swapdeck/swap/CloseOutException$Input" (some 11) with
  accessFlags := 16433
  interfaces := #[]
  cf := some (fileOf pool12 1 #[.nestHost 48] #[] 16433 20 #[] #[{ accessFlags := 16409, nameIndex := 5, descriptorIndex := 6, attributes := #[] }, { accessFlags := 16409, nameIndex := 9, descriptorIndex := 6, attributes := #[] }, { accessFlags := 4122, nameIndex := 12, descriptorIndex := 13, attributes := #[] }])
  fields := #[{ name := "QUOTATIONS", type := (.object "com/example/swapdeck/swapdeck/swap/CloseOutException$Input"), accessFlags := 16409, slot := 0, constantValue := 0 }, { name := "LOSS", type := (.object "com/example/swapdeck/swapdeck/swap/CloseOutException$Input"), accessFlags := 16409, slot := 1, constantValue := 0 }, { name := "$VALUES", type := (.array (.object "com/example/swapdeck/swapdeck/swap/CloseOutException$Input")), accessFlags := 4122, slot := 2, constantValue := 0 }]
  methods := #[]
  instanceTypes := #[(.object "java/lang/String"), .int, .int]
  staticTypes := #[(.object "com/example/swapdeck/swapdeck/swap/CloseOutException$Input"), (.object "com/example/swapdeck/swapdeck/swap/CloseOutException$Input"), (.array (.object "com/example/swapdeck/swapdeck/swap/CloseOutException$Input"))]
  resolved := Array.replicate 52 none
  statics := some 2 }

def pool13 : Array CpInfo := pool [(1, .class_ 2), (0, u "java/lang/Appendable"), (0, .class_ 4), (0, u "java/lang/Object")] 9

/-- java/lang/Appendable -/
def k13 : Class := { plain "java/lang/Appendable" (some 0) with
  accessFlags := 1537
  interfaces := #[]
  cf := some (fileOf pool13 1 #[] #[] 1537 3 #[] #[])
  fields := #[]
  methods := #[]
  instanceTypes := #[]
  staticTypes := #[]
  resolved := Array.replicate 14 none
  statics := none }

def pool14 : Array CpInfo := pool [(1, .class_ 2), (0, u "java/lang/String"), (0, .methodref 4 5), (0, .class_ 6), (0, .nameAndType 7 8), (0, u "java/lang/Object"), (0, u "<init>"), (0, u "()V"), (1, .class_ 12), (1, u "java/lang/AbstractStringBuilder"), (0, u "EMPTYVALUE"), (0, u "[B"), (0, .fieldref 10 16), (0, .nameAndType 17 14), (0, u "value"), (0, .fieldref 1 19), (0, .nameAndType 20 21), (0, u "COMPACT_STRINGS"), (0, u "Z"), (0, .fieldref 10 23), (0, .nameAndType 24 25), (0, u "coder"), (0, u "B"), (6, .methodref 1 33), (0, .nameAndType 34 35), (0, u "length"), (0, u "()I"), (0, .class_ 37), (0, u "java/lang/Integer"), (1, .integer 2147483647), (0, .methodref 1 41), (0, .nameAndType 24 42), (0, u "()B"), (2, u "append"), (0, u "(Ljava/lang/String;)Ljava/lang/AbstractStringBuilder;"), (1, .class_ 49), (0, u "java/lang/CharSequence"), (19, u "(Ljava/lang/String;)V"), (5, u "maybeLatin1"), (3, .fieldref 10 80), (0, .nameAndType 81 82), (0, u "count"), (0, u "I"), (0, .methodref 10 84), (0, .nameAndType 85 86), (0, u "isLatin1"), (0, u "()Z"), (13, .methodref 10 101), (0, .nameAndType 102 103), (0, u "ensureCapacityInternal"), (0, u "(I)V"), (0, .methodref 10 105), (0, .nameAndType 106 107), (0, u "newCapacity"), (0, u "(I)I"), (0, .methodref 109 110), (0, .class_ 111), (0, .nameAndType 112 113), (0, u "java/util/Arrays"), (0, u "copyOf"), (0, u "([BI)[B"), (0, .methodref 115 116), (0, .class_ 117), (0, .nameAndType 118 119), (0, u "jdk/internal/util/ArraysSupport"), (0, u "newLength"), (0, u "(III)I"), (68, u "getChars"), (15, .methodref 10 205), (0, .nameAndType 206 207), (0, u "appendNull"), (0, u "()Ljava/lang/AbstractStringBuilder;"), (0, .methodref 10 209), (0, .nameAndType 210 211), (0, u "putStringAt"), (0, u "(ILjava/lang/String;)V"), (5, u "inflateIfNeededFor"), (2, .nameAndType 221 222), (0, u "getBytes"), (0, u "([BIB)V"), (22, .methodref 36 246), (0, .nameAndType 247 107), (0, u "stringSize"), (0, .methodref 36 249), (0, .nameAndType 188 250), (0, u "(II[B)I"), (146, .methodref 10 398), (0, .nameAndType 217 69), (0, .methodref 1 220), (3, u "()[B"), (40, .class_ 445), (0, u "java/lang/Appendable"), (65, u "(I)Ljava/lang/AbstractStringBuilder;"), (40, u "getValue")] 56

def k14m0 : Method := { name := "<init>", desc := "()V", sig := { parameters := [], returnType := none }, accessFlags := 0, code := none }
def k14c1 : Code := { maxStack := 2, maxLocals := 2, code := jdk_68_method_2_code, exceptionTable := #[], attributes := #[] }
def k14m1 : Method := { name := "<init>", desc := "(I)V", sig := { parameters := [.int], returnType := none }, accessFlags := 0, code := some k14c1 }
def k14c2 : Code := { maxStack := 1, maxLocals := 1, code := jdk_68_method_6_code, exceptionTable := #[], attributes := #[] }
def k14m2 : Method := { name := "length", desc := "()I", sig := { parameters := [], returnType := some .int }, accessFlags := 1, code := some k14c2 }
def k14c3 : Code := { maxStack := 4, maxLocals := 3, code := jdk_68_method_9_code, exceptionTable := #[], attributes := #[] }
def k14m3 : Method := { name := "ensureCapacityInternal", desc := "(I)V", sig := { parameters := [.int], returnType := none }, accessFlags := 2, code := some k14c3 }
def k14c4 : Code := { maxStack := 5, maxLocals := 6, code := jdk_68_method_10_code, exceptionTable := #[], attributes := #[] }
def k14m4 : Method := { name := "newCapacity", desc := "(I)I", sig := { parameters := [.int], returnType := some .int }, accessFlags := 2, code := some k14c4 }
def k14c5 : Code := { maxStack := 3, maxLocals := 3, code := jdk_68_method_22_code, exceptionTable := #[], attributes := #[] }
def k14m5 : Method := { name := "append", desc := "(Ljava/lang/String;)Ljava/lang/AbstractStringBuilder;", sig := { parameters := [(.object "java/lang/String")], returnType := some (.object "java/lang/AbstractStringBuilder") }, accessFlags := 1, code := some k14c5 }
def k14c6 : Code := { maxStack := 6, maxLocals := 3, code := jdk_68_method_26_code, exceptionTable := #[], attributes := #[] }
def k14m6 : Method := { name := "appendNull", desc := "()Ljava/lang/AbstractStringBuilder;", sig := { parameters := [], returnType := some (.object "java/lang/AbstractStringBuilder") }, accessFlags := 2, code := some k14c6 }
def k14c7 : Code := { maxStack := 4, maxLocals := 4, code := jdk_68_method_32_code, exceptionTable := #[], attributes := #[] }
def k14m7 : Method := { name := "append", desc := "(I)Ljava/lang/AbstractStringBuilder;", sig := { parameters := [.int], returnType := some (.object "java/lang/AbstractStringBuilder") }, accessFlags := 1, code := some k14c7 }
def k14c8 : Code := { maxStack := 1, maxLocals := 1, code := jdk_68_method_64_code, exceptionTable := #[], attributes := #[] }
def k14m8 : Method := { name := "getValue", desc := "()[B", sig := { parameters := [], returnType := some (.array .byte) }, accessFlags := 16, code := some k14c8 }
def k14c9 : Code := { maxStack := 1, maxLocals := 1, code := jdk_68_method_68_code, exceptionTable := #[], attributes := #[] }
def k14m9 : Method := { name := "isLatin1", desc := "()Z", sig := { parameters := [], returnType := some .boolean }, accessFlags := 16, code := some k14c9 }
def k14c10 : Code := { maxStack := 2, maxLocals := 2, code := jdk_68_method_71_code, exceptionTable := #[], attributes := #[] }
def k14m10 : Method := { name := "inflateIfNeededFor", desc := "(Ljava/lang/String;)V", sig := { parameters := [(.object "java/lang/String")], returnType := none }, accessFlags := 2, code := some k14c10 }
def k14c11 : Code := { maxStack := 4, maxLocals := 3, code := jdk_68_method_73_code, exceptionTable := #[], attributes := #[] }
def k14m11 : Method := { name := "putStringAt", desc := "(ILjava/lang/String;)V", sig := { parameters := [.int, (.object "java/lang/String")], returnType := none }, accessFlags := 2, code := some k14c11 }
/-- java/lang/AbstractStringBuilder -/
def k14 : Class := { plain "java/lang/AbstractStringBuilder" (some 0) with
  accessFlags := 1056
  interfaces := #[13, 4]
  cf := some (fileOf pool14 10 #[] #[{ accessFlags := 0, nameIndex := 7, descriptorIndex := 8, attributes := #[] }, { accessFlags := 0, nameIndex := 7, descriptorIndex := 103, attributes := #[] }, { accessFlags := 1, nameIndex := 34, descriptorIndex := 35, attributes := #[] }, { accessFlags := 2, nameIndex := 102, descriptorIndex := 103, attributes := #[] }, { accessFlags := 2, nameIndex := 106, descriptorIndex := 107, attributes := #[] }, { accessFlags := 1, nameIndex := 45, descriptorIndex := 46, attributes := #[] }, { accessFlags := 2, nameIndex := 206, descriptorIndex := 207, attributes := #[] }, { accessFlags := 1, nameIndex := 45, descriptorIndex := 511, attributes := #[] }, { accessFlags := 16, nameIndex := 552, descriptorIndex := 403, attributes := #[] }, { accessFlags := 16, nameIndex := 85, descriptorIndex := 86, attributes := #[] }, { accessFlags := 2, nameIndex := 217, descriptorIndex := 69, attributes := #[] }, { accessFlags := 2, nameIndex := 210, descriptorIndex := 211, attributes := #[] }] 1056 4 #[444, 48] #[{ accessFlags := 0, nameIndex := 17, descriptorIndex := 14, attributes := #[] }, { accessFlags := 0, nameIndex := 24, descriptorIndex := 25, attributes := #[] }, { accessFlags := 0, nameIndex := 75, descriptorIndex := 21, attributes := #[] }, { accessFlags := 0, nameIndex := 81, descriptorIndex := 82, attributes := #[] }, { accessFlags := 26, nameIndex := 13, descriptorIndex := 14, attributes := #[] }])
  fields := #[{ name := "value", type := (.array .byte), accessFlags := 0, slot := 0, constantValue := 0 }, { name := "coder", type := .byte, accessFlags := 0, slot := 1, constantValue := 0 }, { name := "maybeLatin1", type := .boolean, accessFlags := 0, slot := 2, constantValue := 0 }, { name := "count", type := .int, accessFlags := 0, slot := 3, constantValue := 0 }, { name := "EMPTYVALUE", type := (.array .byte), accessFlags := 26, slot := 0, constantValue := 0 }]
  methods := #[k14m0, k14m1, k14m2, k14m3, k14m4, k14m5, k14m6, k14m7, k14m8, k14m9, k14m10, k14m11]
  instanceTypes := #[(.array .byte), .byte, .boolean, .int]
  staticTypes := #[(.array .byte)]
  resolved := Array.replicate 609 none
  statics := none }

def pool15 : Array CpInfo := pool [(1, .methodref 2 3), (0, .class_ 4), (0, .nameAndType 5 6), (0, u "java/lang/AbstractStringBuilder"), (0, u "<init>"), (0, u "(I)V"), (11, .class_ 20), (1, u "java/lang/String"), (3, .class_ 26), (1, u "java/lang/StringBuilder"), (0, u "append"), (0, u "(Ljava/lang/String;)Ljava/lang/StringBuilder;"), (0, .methodref 2 30), (0, .nameAndType 27 31), (0, u "(Ljava/lang/String;)Ljava/lang/AbstractStringBuilder;"), (21, .methodref 2 54), (0, .nameAndType 27 55), (0, u "(I)Ljava/lang/AbstractStringBuilder;"), (81, .methodref 18 138), (0, .nameAndType 5 139), (0, u "(Ljava/lang/StringBuilder;)V"), (5, u "()V"), (10, u "()I"), (111, u "(I)Ljava/lang/StringBuilder;"), (74, .methodref 2 344), (0, .nameAndType 345 156), (0, u "length"), (3, .class_ 350), (0, u "java/lang/Appendable"), (0, .class_ 352), (0, u "java/io/Serializable"), (0, .class_ 354), (0, u "java/lang/Comparable"), (0, .class_ 356), (0, u "java/lang/CharSequence"), (0, u "serialVersionUID"), (0, u "J"), (40, u "toString"), (0, u "()Ljava/lang/String;")] 21

def k15c0 : Code := { maxStack := 2, maxLocals := 1, code := jdk_67_method_1_code, exceptionTable := #[], attributes := #[] }
def k15m0 : Method := { name := "<init>", desc := "()V", sig := { parameters := [], returnType := none }, accessFlags := 1, code := some k15c0 }
def k15c1 : Code := { maxStack := 2, maxLocals := 2, code := jdk_67_method_7_code, exceptionTable := #[], attributes := #[] }
def k15m1 : Method := { name := "append", desc := "(Ljava/lang/String;)Ljava/lang/StringBuilder;", sig := { parameters := [(.object "java/lang/String")], returnType := some (.object "java/lang/StringBuilder") }, accessFlags := 1, code := some k15c1 }
def k15c2 : Code := { maxStack := 2, maxLocals := 2, code := jdk_67_method_15_code, exceptionTable := #[], attributes := #[] }
def k15m2 : Method := { name := "append", desc := "(I)Ljava/lang/StringBuilder;", sig := { parameters := [.int], returnType := some (.object "java/lang/StringBuilder") }, accessFlags := 1, code := some k15c2 }
def k15c3 : Code := { maxStack := 3, maxLocals := 1, code := jdk_67_method_42_code, exceptionTable := #[], attributes := #[] }
def k15m3 : Method := { name := "toString", desc := "()Ljava/lang/String;", sig := { parameters := [], returnType := some (.object "java/lang/String") }, accessFlags := 1, code := some k15c3 }
def k15c4 : Code := { maxStack := 1, maxLocals := 1, code := jdk_67_method_93_code, exceptionTable := #[], attributes := #[] }
def k15m4 : Method := { name := "length", desc := "()I", sig := { parameters := [], returnType := some .int }, accessFlags := 4161, code := some k15c4 }
/-- java/lang/StringBuilder -/
def k15 : Class := { plain "java/lang/StringBuilder" (some 14) with
  accessFlags := 49
  interfaces := #[13, 2, 3, 4]
  cf := some (fileOf pool15 24 #[] #[{ accessFlags := 1, nameIndex := 5, descriptorIndex := 145, attributes := #[] }, { accessFlags := 1, nameIndex := 27, descriptorIndex := 28, attributes := #[] }, { accessFlags := 1, nameIndex := 27, descriptorIndex := 268, attributes := #[] }, { accessFlags := 1, nameIndex := 399, descriptorIndex := 400, attributes := #[] }, { accessFlags := 4161, nameIndex := 345, descriptorIndex := 156, attributes := #[] }] 49 2 #[349, 351, 353, 355] #[{ accessFlags := 24, nameIndex := 357, descriptorIndex := 358, attributes := #[] }])
  fields := #[{ name := "serialVersionUID", type := .long, accessFlags := 24, slot := 0, constantValue := 0 }]
  methods := #[k15m0, k15m1, k15m2, k15m3, k15m4]
  instanceTypes := #[(.array .byte), .byte, .boolean, .int]
  staticTypes := #[.long]
  resolved := Array.replicate 422 none
  statics := none }

def pool16 : Array CpInfo := pool [(2, .class_ 4), (1, u "java/lang/Object"), (0, u "<init>"), (0, u "()V"), (1, .class_ 10), (1, u "java/lang/System"), (0, u "allowSecurityManager"), (0, u "I"), (16, u "cons"), (0, u "Ljava/io/Console;"), (77, .class_ 110), (1, u "java/lang/System$CallersHolder"), (43, u "initialErrStream"), (0, u "Ljava/io/PrintStream;"), (19, u "security"), (0, u "Ljava/lang/SecurityManager;"), (31, .class_ 209), (0, u "java/lang/System$1"), (7, u "props"), (0, u "Ljava/util/Properties;"), (2, u "lineSeparator"), (0, u "Ljava/lang/String;"), (96, .class_ 321), (1, u "java/lang/System$LoggerFinder"), (5, .class_ 328), (0, u "java/lang/System$Logger"), (67, u "err"), (2, u "out"), (91, u "notSupportedJnuEncoding"), (15, u "in"), (17, u "initialIn"), (0, u "Ljava/io/InputStream;"), (35, u "bootLayer"), (0, u "Ljava/lang/ModuleLayer;"), (99, .class_ 664), (0, u "java/lang/System$2"), (9, u "NEVER"), (2, u "MAYBE"), (49, u "arraycopy"), (0, u "(Ljava/lang/Object;ILjava/lang/Object;II)V"), (72, .class_ 802), (0, u "java/lang/System$Logger$Level")] 31

def k16m0 : Method := { name := "<init>", desc := "()V", sig := { parameters := [], returnType := none }, accessFlags := 2, code := none }
def k16m1 : Method := { name := "arraycopy", desc := "(Ljava/lang/Object;ILjava/lang/Object;II)V", sig := { parameters := [(.object "java/lang/Object"), .int, (.object "java/lang/Object"), .int, .int], returnType := none }, accessFlags := 265, code := none }
/-- java/lang/System -/
def k16 : Class := { plain "java/lang/System" (some 0) with
  accessFlags := 49
  interfaces := #[]
  cf := some (fileOf pool16 8 #[.nestMembers #[319, 327, 801, 108, 663, 208]] #[{ accessFlags := 2, nameIndex := 5, descriptorIndex := 6, attributes := #[] }, { accessFlags := 265, nameIndex := 727, descriptorIndex := 728, attributes := #[] }] 49 2 #[] #[{ accessFlags := 25, nameIndex := 507, descriptorIndex := 526, attributes := #[] }, { accessFlags := 25, nameIndex := 399, descriptorIndex := 155, attributes := #[] }, { accessFlags := 25, nameIndex := 396, descriptorIndex := 155, attributes := #[] }, { accessFlags := 10, nameIndex := 525, descriptorIndex := 526, attributes := #[] }, { accessFlags := 26, nameIndex := 674, descriptorIndex := 12, attributes := #[] }, { accessFlags := 26, nameIndex := 677, descriptorIndex := 12, attributes := #[] }, { accessFlags := 10, nameIndex := 11, descriptorIndex := 12, attributes := #[] }, { accessFlags := 74, nameIndex := 175, descriptorIndex := 176, attributes := #[] }, { accessFlags := 10, nameIndex := 491, descriptorIndex := 222, attributes := #[] }, { accessFlags := 74, nameIndex := 29, descriptorIndex := 30, attributes := #[] }, { accessFlags := 74, nameIndex := 154, descriptorIndex := 155, attributes := #[] }, { accessFlags := 10, nameIndex := 217, descriptorIndex := 218, attributes := #[] }, { accessFlags := 10, nameIndex := 221, descriptorIndex := 222, attributes := #[] }, { accessFlags := 8, nameIndex := 562, descriptorIndex := 563, attributes := #[] }])
  fields := #[{ name := "in", type := (.object "java/io/InputStream"), accessFlags := 25, slot := 0, constantValue := 0 }, { name := "out", type := (.object "java/io/PrintStream"), accessFlags := 25, slot := 1, constantValue := 0 }, { name := "err", type := (.object "java/io/PrintStream"), accessFlags := 25, slot := 2, constantValue := 0 }, { name := "initialIn", type := (.object "java/io/InputStream"), accessFlags := 10, slot := 3, constantValue := 0 }, { name := "NEVER", type := .int, accessFlags := 26, slot := 4, constantValue := 0 }, { name := "MAYBE", type := .int, accessFlags := 26, slot := 5, constantValue := 0 }, { name := "allowSecurityManager", type := .int, accessFlags := 10, slot := 6, constantValue := 0 }, { name := "security", type := (.object "java/lang/SecurityManager"), accessFlags := 74, slot := 7, constantValue := 0 }, { name := "notSupportedJnuEncoding", type := (.object "java/lang/String"), accessFlags := 10, slot := 8, constantValue := 0 }, { name := "cons", type := (.object "java/io/Console"), accessFlags := 74, slot := 9, constantValue := 0 }, { name := "initialErrStream", type := (.object "java/io/PrintStream"), accessFlags := 74, slot := 10, constantValue := 0 }, { name := "props", type := (.object "java/util/Properties"), accessFlags := 10, slot := 11, constantValue := 0 }, { name := "lineSeparator", type := (.object "java/lang/String"), accessFlags := 10, slot := 12, constantValue := 0 }, { name := "bootLayer", type := (.object "java/lang/ModuleLayer"), accessFlags := 8, slot := 13, constantValue := 0 }]
  methods := #[k16m0, k16m1]
  instanceTypes := #[]
  staticTypes := #[(.object "java/io/InputStream"), (.object "java/io/PrintStream"), (.object "java/io/PrintStream"), (.object "java/io/InputStream"), .int, .int, .int, (.object "java/lang/SecurityManager"), (.object "java/lang/String"), (.object "java/io/Console"), (.object "java/io/PrintStream"), (.object "java/util/Properties"), (.object "java/lang/String"), (.object "java/lang/ModuleLayer")]
  resolved := Array.replicate 834 none
  statics := none }

def pool17 : Array CpInfo := pool [(2, .class_ 4), (1, u "java/lang/Object"), (0, u "<init>"), (0, u "()V"), (1, .class_ 10), (1, u "java/lang/Number"), (2, .class_ 14), (0, u "java/io/Serializable"), (0, u "serialVersionUID"), (0, u "J")] 20

def k17m0 : Method := { name := "<init>", desc := "()V", sig := { parameters := [], returnType := none }, accessFlags := 1, code := none }
/-- java/lang/Number -/
def k17 : Class := { plain "java/lang/Number" (some 0) with
  accessFlags := 1057
  interfaces := #[2]
  cf := some (fileOf pool17 8 #[] #[{ accessFlags := 1, nameIndex := 5, descriptorIndex := 6, attributes := #[] }] 1057 2 #[13] #[{ accessFlags := 26, nameIndex := 15, descriptorIndex := 16, attributes := #[] }])
  fields := #[{ name := "serialVersionUID", type := .long, accessFlags := 26, slot := 0, constantValue := 0 }]
  methods := #[k17m0]
  instanceTypes := #[]
  staticTypes := #[.long]
  resolved := Array.replicate 37 none
  statics := none }

def pool18 : Array CpInfo := pool [(1, .class_ 2), (0, u "java/lang/Integer"), (16, u "digits"), (0, u "[C"), (33, u "(I)I"), (19, u "stringSize"), (2, u "getChars"), (0, u "(II[B)I"), (4, .fieldref 1 84), (0, .nameAndType 85 86), (0, u "DigitOnes"), (0, u "[B"), (0, .fieldref 1 88), (0, .nameAndType 89 86), (0, u "DigitTens"), (99, .class_ 190), (0, u "java/lang/Integer$IntegerCache"), (3, u "I"), (8, .class_ 204), (0, u "java/lang/Number"), (2, u "value"), (94, u "TYPE"), (0, u "Ljava/lang/Class;"), (0, .class_ 305), (0, u "java/lang/Comparable"), (0, .class_ 307), (0, u "java/lang/constant/Constable"), (0, .class_ 309), (0, u "java/lang/constant/ConstantDesc"), (0, u "MIN_VALUE"), (1, u "MAX_VALUE"), (3, u "SIZE"), (1, u "BYTES"), (1, u "serialVersionUID"), (0, u "J")] 131

def k18c0 : Code := { maxStack := 4, maxLocals := 7, code := jdk_33_method_12_code, exceptionTable := #[], attributes := #[] }
def k18m0 : Method := { name := "getChars", desc := "(II[B)I", sig := { parameters := [.int, .int, (.array .byte)], returnType := some .int }, accessFlags := 8, code := some k18c0 }
def k18c1 : Code := { maxStack := 2, maxLocals := 4, code := jdk_33_method_13_code, exceptionTable := #[], attributes := #[] }
def k18m1 : Method := { name := "stringSize", desc := "(I)I", sig := { parameters := [.int], returnType := some .int }, accessFlags := 8, code := some k18c1 }
/-- java/lang/Integer -/
def k18 : Class := { plain "java/lang/Integer" (some 17) with
  accessFlags := 49
  interfaces := #[3, 5, 6]
  cf := some (fileOf pool18 1 #[.nestMembers #[189]] #[{ accessFlags := 8, nameIndex := 77, descriptorIndex := 78, attributes := #[] }, { accessFlags := 8, nameIndex := 74, descriptorIndex := 54, attributes := #[] }] 49 203 #[304, 306, 308] #[{ accessFlags := 25, nameIndex := 310, descriptorIndex := 194, attributes := #[] }, { accessFlags := 25, nameIndex := 312, descriptorIndex := 194, attributes := #[] }, { accessFlags := 25, nameIndex := 302, descriptorIndex := 303, attributes := #[] }, { accessFlags := 24, nameIndex := 19, descriptorIndex := 20, attributes := #[] }, { accessFlags := 24, nameIndex := 89, descriptorIndex := 86, attributes := #[] }, { accessFlags := 24, nameIndex := 85, descriptorIndex := 86, attributes := #[] }, { accessFlags := 18, nameIndex := 207, descriptorIndex := 194, attributes := #[] }, { accessFlags := 25, nameIndex := 316, descriptorIndex := 194, attributes := #[] }, { accessFlags := 25, nameIndex := 318, descriptorIndex := 194, attributes := #[] }, { accessFlags := 26, nameIndex := 320, descriptorIndex := 321, attributes := #[] }])
  fields := #[{ name := "MIN_VALUE", type := .int, accessFlags := 25, slot := 0, constantValue := 0 }, { name := "MAX_VALUE", type := .int, accessFlags := 25, slot := 1, constantValue := 0 }, { name := "TYPE", type := (.object "java/lang/Class"), accessFlags := 25, slot := 2, constantValue := 0 }, { name := "digits", type := (.array .char), accessFlags := 24, slot := 3, constantValue := 0 }, { name := "DigitTens", type := (.array .byte), accessFlags := 24, slot := 4, constantValue := 0 }, { name := "DigitOnes", type := (.array .byte), accessFlags := 24, slot := 5, constantValue := 0 }, { name := "value", type := .int, accessFlags := 18, slot := 0, constantValue := 0 }, { name := "SIZE", type := .int, accessFlags := 25, slot := 6, constantValue := 0 }, { name := "BYTES", type := .int, accessFlags := 25, slot := 7, constantValue := 0 }, { name := "serialVersionUID", type := .long, accessFlags := 26, slot := 8, constantValue := 0 }]
  methods := #[k18m0, k18m1]
  instanceTypes := #[.int]
  staticTypes := #[.int, .int, (.object "java/lang/Class"), (.array .char), (.array .byte), (.array .byte), .int, .int, .long]
  resolved := Array.replicate 453 none
  statics := some 3 }

def pool19 : Array CpInfo := pool [(2, .class_ 4), (1, u "java/lang/Object"), (0, u "<init>"), (0, u "()V"), (7, .class_ 16), (1, u "java/util/Arrays"), (57, .class_ 76), (1, u "java/util/Arrays$NaturalOrder"), (32, u "()Ljava/lang/Object;"), (3, .class_ 115), (1, u "java/util/Arrays$LegacyMergeSort"), (1, u "Z"), (10, .nameAndType 129 109), (0, u "clone"), (9, u "copyOfRange"), (10, .methodref 151 152), (0, .class_ 153), (0, .nameAndType 154 155), (0, u "java/lang/System"), (0, u "arraycopy"), (0, u "(Ljava/lang/Object;ILjava/lang/Object;II)V"), (146, u "copyOf"), (1, .methodref 305 306), (0, .class_ 307), (0, .nameAndType 308 309), (0, u "java/lang/Math"), (0, u "min"), (0, u "(II)I"), (0, .methodref 311 128), (0, .class_ 312), (0, u "[B"), (26, .methodref 14 340), (0, .nameAndType 341 342), (0, u "copyOfRangeByte"), (0, u "([BII)[B"), (0, .methodref 14 344), (0, .nameAndType 345 346), (0, u "checkLength"), (0, u "(II)V"), (28, .class_ 376), (0, u "java/util/Arrays$ArrayList"), (68, u "$assertionsDisabled"), (269, u "MIN_ARRAY_SORT_GRAN"), (0, u "I"), (2, u "INSERTIONSORT_THRESHOLD"), (149, u "([BI)[B"), (105, .class_ 976), (0, u "java/util/Arrays$ArrayItr")] 52

def k19m0 : Method := { name := "<init>", desc := "()V", sig := { parameters := [], returnType := none }, accessFlags := 2, code := none }
def k19c1 : Code := { maxStack := 6, maxLocals := 3, code := jdk_65_method_121_code, exceptionTable := #[], attributes := #[] }
def k19m1 : Method := { name := "copyOf", desc := "([BI)[B", sig := { parameters := [(.array .byte), .int], returnType := some (.array .byte) }, accessFlags := 9, code := some k19c1 }
def k19c2 : Code := { maxStack := 4, maxLocals := 2, code := jdk_65_method_131_code, exceptionTable := #[], attributes := #[] }
def k19m2 : Method := { name := "checkLength", desc := "(II)V", sig := { parameters := [.int, .int], returnType := none }, accessFlags := 10, code := some k19c2 }
def k19c3 : Code := { maxStack := 3, maxLocals := 3, code := jdk_65_method_132_code, exceptionTable := #[], attributes := #[] }
def k19m3 : Method := { name := "copyOfRange", desc := "([BII)[B", sig := { parameters := [(.array .byte), .int, .int], returnType := some (.array .byte) }, accessFlags := 9, code := some k19c3 }
def k19c4 : Code := { maxStack := 6, maxLocals := 5, code := jdk_65_method_133_code, exceptionTable := #[], attributes := #[] }
def k19m4 : Method := { name := "copyOfRangeByte", desc := "([BII)[B", sig := { parameters := [(.array .byte), .int, .int], returnType := some (.array .byte) }, accessFlags := 10, code := some k19c4 }
/-- java/util/Arrays -/
def k19 : Class := { plain "java/util/Arrays" (some 0) with
  accessFlags := 49
  interfaces := #[]
  cf := some (fileOf pool19 14 #[.nestMembers #[975, 375, 113, 74]] #[{ accessFlags := 2, nameIndex := 5, descriptorIndex := 6, attributes := #[] }, { accessFlags := 9, nameIndex := 302, descriptorIndex := 869, attributes := #[] }, { accessFlags := 10, nameIndex := 345, descriptorIndex := 346, attributes := #[] }, { accessFlags := 9, nameIndex := 139, descriptorIndex := 342, attributes := #[] }, { accessFlags := 10, nameIndex := 341, descriptorIndex := 342, attributes := #[] }] 49 2 #[] #[{ accessFlags := 26, nameIndex := 715, descriptorIndex := 716, attributes := #[] }, { accessFlags := 26, nameIndex := 719, descriptorIndex := 716, attributes := #[] }, { accessFlags := 4120, nameIndex := 445, descriptorIndex := 117, attributes := #[] }])
  fields := #[{ name := "MIN_ARRAY_SORT_GRAN", type := .int, accessFlags := 26, slot := 0, constantValue := 0 }, { name := "INSERTIONSORT_THRESHOLD", type := .int, accessFlags := 26, slot := 1, constantValue := 0 }, { name := "$assertionsDisabled", type := .boolean, accessFlags := 4120, slot := 2, constantValue := 0 }]
  methods := #[k19m0, k19m1, k19m2, k19m3, k19m4]
  instanceTypes := #[]
  staticTypes := #[.int, .int, .boolean]
  resolved := Array.replicate 1029 none
  statics := none }

def pool20 : Array CpInfo := pool [(1, .class_ 2), (0, u "java/lang/Math"), (1, .class_ 6), (1, u "java/lang/Object"), (0, u "<init>"), (0, u "()V"), (89, .class_ 100), (1, u "java/lang/Math$RandomNumberGeneratorHolder"), (71, u "negativeZeroFloatBits"), (0, u "J"), (2, u "negativeZeroDoubleBits"), (21, u "max"), (2, u "min"), (43, u "$assertionsDisabled"), (0, u "Z"), (88, u "(II)I"), (2, u "twoToTheDoubleScaleDown"), (0, u "D"), (4, u "twoToTheDoubleScaleUp"), (9, u "E"), (3, u "PI"), (2, u "TAU"), (2, u "DEGREES_TO_RADIANS"), (0, u "RADIANS_TO_DEGREES")] 94

def k20m0 : Method := { name := "<init>", desc := "()V", sig := { parameters := [], returnType := none }, accessFlags := 2, code := none }
def k20c1 : Code := { maxStack := 2, maxLocals := 2, code := jdk_29_method_65_code, exceptionTable := #[], attributes := #[] }
def k20m1 : Method := { name := "max", desc := "(II)I", sig := { parameters := [.int, .int], returnType := some .int }, accessFlags := 9, code := some k20c1 }
def k20c2 : Code := { maxStack := 2, maxLocals := 2, code := jdk_29_method_69_code, exceptionTable := #[], attributes := #[] }
def k20m2 : Method := { name := "min", desc := "(II)I", sig := { parameters := [.int, .int], returnType := some .int }, accessFlags := 9, code := some k20c2 }
/-- java/lang/Math -/
def k20 : Class := { plain "java/lang/Math" (some 0) with
  accessFlags := 49
  interfaces := #[]
  cf := some (fileOf pool20 1 #[.nestMembers #[98]] #[{ accessFlags := 2, nameIndex := 7, descriptorIndex := 8, attributes := #[] }, { accessFlags := 9, nameIndex := 198, descriptorIndex := 335, attributes := #[] }, { accessFlags := 9, nameIndex := 201, descriptorIndex := 335, attributes := #[] }] 49 4 #[] #[{ accessFlags := 25, nameIndex := 354, descriptorIndex := 339, attributes := #[] }, { accessFlags := 25, nameIndex := 358, descriptorIndex := 339, attributes := #[] }, { accessFlags := 25, nameIndex := 361, descriptorIndex := 339, attributes := #[] }, { accessFlags := 26, nameIndex := 364, descriptorIndex := 339, attributes := #[] }, { accessFlags := 26, nameIndex := 365, descriptorIndex := 339, attributes := #[] }, { accessFlags := 26, nameIndex := 172, descriptorIndex := 173, attributes := #[] }, { accessFlags := 26, nameIndex := 176, descriptorIndex := 173, attributes := #[] }, { accessFlags := 8, nameIndex := 344, descriptorIndex := 339, attributes := #[] }, { accessFlags := 8, nameIndex := 338, descriptorIndex := 339, attributes := #[] }, { accessFlags := 4120, nameIndex := 245, descriptorIndex := 246, attributes := #[] }])
  fields := #[{ name := "E", type := .double, accessFlags := 25, slot := 0, constantValue := 0 }, { name := "PI", type := .double, accessFlags := 25, slot := 1, constantValue := 0 }, { name := "TAU", type := .double, accessFlags := 25, slot := 2, constantValue := 0 }, { name := "DEGREES_TO_RADIANS", type := .double, accessFlags := 26, slot := 3, constantValue := 0 }, { name := "RADIANS_TO_DEGREES", type := .double, accessFlags := 26, slot := 4, constantValue := 0 }, { name := "negativeZeroFloatBits", type := .long, accessFlags := 26, slot := 5, constantValue := 0 }, { name := "negativeZeroDoubleBits", type := .long, accessFlags := 26, slot := 6, constantValue := 0 }, { name := "twoToTheDoubleScaleUp", type := .double, accessFlags := 8, slot := 7, constantValue := 0 }, { name := "twoToTheDoubleScaleDown", type := .double, accessFlags := 8, slot := 8, constantValue := 0 }, { name := "$assertionsDisabled", type := .boolean, accessFlags := 4120, slot := 9, constantValue := 0 }]
  methods := #[k20m0, k20m1, k20m2]
  instanceTypes := #[]
  staticTypes := #[.double, .double, .double, .double, .double, .long, .long, .double, .double, .boolean]
  resolved := Array.replicate 460 none
  statics := none }

def pool21 : Array CpInfo := pool [(9, u "<init>"), (6, .class_ 18), (1, u "java/lang/Object"), (0, u "()V"), (1, .class_ 23), (1, u "jdk/internal/util/ArraysSupport"), (0, u "LOG2_ARRAY_LONG_INDEX_SCALE"), (0, u "I"), (2, u "U"), (0, u "Ljdk/internal/misc/Unsafe;"), (8, u "BIG_ENDIAN"), (0, u "Z"), (8, u "LOG2_BYTE_BIT_SIZE"), (4, u "LOG2_ARRAY_INT_INDEX_SCALE"), (54, u "JLA"), (0, u "Ljdk/internal/access/JavaLangAccess;"), (11, u "LOG2_ARRAY_BOOLEAN_INDEX_SCALE"), (9, u "LOG2_ARRAY_BYTE_INDEX_SCALE"), (5, u "LOG2_ARRAY_CHAR_INDEX_SCALE"), (5, u "LOG2_ARRAY_SHORT_INDEX_SCALE"), (18, u "LOG2_ARRAY_FLOAT_INDEX_SCALE"), (24, u "LOG2_ARRAY_DOUBLE_INDEX_SCALE"), (6, .methodref 195 196), (0, .class_ 197), (0, .nameAndType 198 199), (0, u "java/lang/Math"), (0, u "max"), (0, u "(II)I"), (0, .integer 2147483639), (76, u "T_BOOLEAN"), (2, u "T_CHAR"), (1, u "T_FLOAT"), (1, u "T_DOUBLE"), (1, u "T_BYTE"), (1, u "T_SHORT"), (1, u "T_INT"), (1, u "T_LONG"), (1, u "SOFT_MAX_ARRAY_LENGTH"), (56, u "newLength"), (0, u "(III)I")] 25

def k21m0 : Method := { name := "<init>", desc := "()V", sig := { parameters := [], returnType := none }, accessFlags := 2, code := none }
def k21c1 : Code := { maxStack := 3, maxLocals := 4, code := jdk_48_method_27_code, exceptionTable := #[], attributes := #[] }
def k21m1 : Method := { name := "newLength", desc := "(III)I", sig := { parameters := [.int, .int, .int], returnType := some .int }, accessFlags := 9, code := some k21c1 }
/-- jdk/internal/util/ArraysSupport -/
def k21 : Class := { plain "jdk/internal/util/ArraysSupport" (some 0) with
  accessFlags := 33
  interfaces := #[]
  cf := some (fileOf pool21 21 #[] #[{ accessFlags := 2, nameIndex := 9, descriptorIndex := 19, attributes := #[] }, { accessFlags := 9, nameIndex := 351, descriptorIndex := 352, attributes := #[] }] 33 16 #[] #[{ accessFlags := 24, nameIndex := 28, descriptorIndex := 29, attributes := #[] }, { accessFlags := 26, nameIndex := 38, descriptorIndex := 39, attributes := #[] }, { accessFlags := 25, nameIndex := 121, descriptorIndex := 25, attributes := #[] }, { accessFlags := 25, nameIndex := 131, descriptorIndex := 25, attributes := #[] }, { accessFlags := 25, nameIndex := 137, descriptorIndex := 25, attributes := #[] }, { accessFlags := 25, nameIndex := 143, descriptorIndex := 25, attributes := #[] }, { accessFlags := 25, nameIndex := 53, descriptorIndex := 25, attributes := #[] }, { accessFlags := 25, nameIndex := 24, descriptorIndex := 25, attributes := #[] }, { accessFlags := 25, nameIndex := 162, descriptorIndex := 25, attributes := #[] }, { accessFlags := 25, nameIndex := 187, descriptorIndex := 25, attributes := #[] }, { accessFlags := 26, nameIndex := 48, descriptorIndex := 25, attributes := #[] }, { accessFlags := 25, nameIndex := 277, descriptorIndex := 25, attributes := #[] }, { accessFlags := 25, nameIndex := 280, descriptorIndex := 25, attributes := #[] }, { accessFlags := 25, nameIndex := 282, descriptorIndex := 25, attributes := #[] }, { accessFlags := 25, nameIndex := 284, descriptorIndex := 25, attributes := #[] }, { accessFlags := 25, nameIndex := 286, descriptorIndex := 25, attributes := #[] }, { accessFlags := 25, nameIndex := 288, descriptorIndex := 25, attributes := #[] }, { accessFlags := 25, nameIndex := 290, descriptorIndex := 25, attributes := #[] }, { accessFlags := 25, nameIndex := 292, descriptorIndex := 25, attributes := #[] }, { accessFlags := 26, nameIndex := 108, descriptorIndex := 109, attributes := #[] }, { accessFlags := 25, nameIndex := 294, descriptorIndex := 25, attributes := #[] }])
  fields := #[{ name := "U", type := (.object "jdk/internal/misc/Unsafe"), accessFlags := 24, slot := 0, constantValue := 0 }, { name := "BIG_ENDIAN", type := .boolean, accessFlags := 26, slot := 1, constantValue := 0 }, { name := "LOG2_ARRAY_BOOLEAN_INDEX_SCALE", type := .int, accessFlags := 25, slot := 2, constantValue := 0 }, { name := "LOG2_ARRAY_BYTE_INDEX_SCALE", type := .int, accessFlags := 25, slot := 3, constantValue := 0 }, { name := "LOG2_ARRAY_CHAR_INDEX_SCALE", type := .int, accessFlags := 25, slot := 4, constantValue := 0 }, { name := "LOG2_ARRAY_SHORT_INDEX_SCALE", type := .int, accessFlags := 25, slot := 5, constantValue := 0 }, { name := "LOG2_ARRAY_INT_INDEX_SCALE", type := .int, accessFlags := 25, slot := 6, constantValue := 0 }, { name := "LOG2_ARRAY_LONG_INDEX_SCALE", type := .int, accessFlags := 25, slot := 7, constantValue := 0 }, { name := "LOG2_ARRAY_FLOAT_INDEX_SCALE", type := .int, accessFlags := 25, slot := 8, constantValue := 0 }, { name := "LOG2_ARRAY_DOUBLE_INDEX_SCALE", type := .int, accessFlags := 25, slot := 9, constantValue := 0 }, { name := "LOG2_BYTE_BIT_SIZE", type := .int, accessFlags := 26, slot := 10, constantValue := 0 }, { name := "T_BOOLEAN", type := .int, accessFlags := 25, slot := 11, constantValue := 0 }, { name := "T_CHAR", type := .int, accessFlags := 25, slot := 12, constantValue := 0 }, { name := "T_FLOAT", type := .int, accessFlags := 25, slot := 13, constantValue := 0 }, { name := "T_DOUBLE", type := .int, accessFlags := 25, slot := 14, constantValue := 0 }, { name := "T_BYTE", type := .int, accessFlags := 25, slot := 15, constantValue := 0 }, { name := "T_SHORT", type := .int, accessFlags := 25, slot := 16, constantValue := 0 }, { name := "T_INT", type := .int, accessFlags := 25, slot := 17, constantValue := 0 }, { name := "T_LONG", type := .int, accessFlags := 25, slot := 18, constantValue := 0 }, { name := "JLA", type := (.object "jdk/internal/access/JavaLangAccess"), accessFlags := 26, slot := 19, constantValue := 0 }, { name := "SOFT_MAX_ARRAY_LENGTH", type := .int, accessFlags := 25, slot := 20, constantValue := 0 }]
  methods := #[k21m0, k21m1]
  instanceTypes := #[]
  staticTypes := #[(.object "jdk/internal/misc/Unsafe"), .boolean, .int, .int, .int, .int, .int, .int, .int, .int, .int, .int, .int, .int, .int, .int, .int, .int, .int, (.object "jdk/internal/access/JavaLangAccess"), .int]
  resolved := Array.replicate 378 none
  statics := none }

def pool22 : Array CpInfo := pool [(1, .class_ 2), (0, u "java/lang/Cloneable"), (0, .class_ 4), (0, u "java/lang/Object")] 2

/-- java/lang/Cloneable -/
def k22 : Class := { plain "java/lang/Cloneable" (some 0) with
  accessFlags := 1537
  interfaces := #[]
  cf := some (fileOf pool22 1 #[] #[] 1537 3 #[] #[])
  fields := #[]
  methods := #[]
  instanceTypes := #[]
  staticTypes := #[]
  resolved := Array.replicate 7 none
  statics := none }

def pool23 : Array CpInfo := pool [(4, .class_ 6), (1, u "java/lang/Object"), (0, u "<init>"), (0, u "()V"), (5, .class_ 16), (1, u "java/lang/StringLatin1"), (73, u "canEncode"), (14, u "(C)Z"), (15, u "$assertionsDisabled"), (0, u "Z"), (98, .class_ 223), (1, u "java/lang/StringLatin1$LinesSpliterator"), (156, u "toBytes"), (1, u "(C)[B"), (7, .class_ 391), (0, u "java/lang/StringLatin1$CharsSpliterator")] 3

def k23m0 : Method := { name := "<init>", desc := "()V", sig := { parameters := [], returnType := none }, accessFlags := 0, code := none }
def k23c1 : Code := { maxStack := 2, maxLocals := 1, code := jdk_43_method_3_code, exceptionTable := #[], attributes := #[] }
def k23m1 : Method := { name := "canEncode", desc := "(C)Z", sig := { parameters := [.char], returnType := some .boolean }, accessFlags := 9, code := some k23c1 }
def k23c2 : Code := { maxStack := 4, maxLocals := 1, code := jdk_43_method_46_code, exceptionTable := #[], attributes := #[] }
def k23m2 : Method := { name := "toBytes", desc := "(C)[B", sig := { parameters := [.char], returnType := some (.array .byte) }, accessFlags := 9, code := some k23c2 }
/-- java/lang/StringLatin1 -/
def k23 : Class := { plain "java/lang/StringLatin1" (some 0) with
  accessFlags := 48
  interfaces := #[]
  cf := some (fileOf pool23 14 #[.nestMembers #[390, 221]] #[{ accessFlags := 0, nameIndex := 7, descriptorIndex := 8, attributes := #[] }, { accessFlags := 9, nameIndex := 90, descriptorIndex := 105, attributes := #[] }, { accessFlags := 9, nameIndex := 380, descriptorIndex := 382, attributes := #[] }] 48 4 #[] #[{ accessFlags := 4120, nameIndex := 121, descriptorIndex := 122, attributes := #[] }])
  fields := #[{ name := "$assertionsDisabled", type := .boolean, accessFlags := 4120, slot := 0, constantValue := 0 }]
  methods := #[k23m0, k23m1, k23m2]
  instanceTypes := #[]
  staticTypes := #[.boolean]
  resolved := Array.replicate 395 none
  statics := none }

def pool24 : Array CpInfo := pool [(6, .class_ 8), (1, u "java/lang/Object"), (0, u "<init>"), (0, u "()V"), (1, .class_ 14), (1, u "java/lang/StringUTF16"), (31, u "$assertionsDisabled"), (0, u "Z"), (13, u "HI_BYTE_SHIFT"), (0, u "I"), (2, u "LO_BYTE_SHIFT"), (49, .methodref 12 116), (0, .nameAndType 117 118), (0, u "compress"), (0, u "([CI[BII)I"), (3, u "([CII)[B"), (138, u "coderFromArrayLen"), (0, u "([BI)B"), (106, .class_ 371), (1, u "java/lang/StringUTF16$LinesSpliterator"), (58, u "MAX_LENGTH"), (196, .class_ 628), (0, u "java/lang/StringUTF16$CodePointsSpliterator"), (0, .class_ 630), (0, u "java/lang/StringUTF16$CharsSpliterator")] 4

def k24m0 : Method := { name := "<init>", desc := "()V", sig := { parameters := [], returnType := none }, accessFlags := 0, code := none }
def k24c1 : Code := { maxStack := 2, maxLocals := 2, code := jdk_52_method_15_code, exceptionTable := #[], attributes := #[] }
def k24m1 : Method := { name := "coderFromArrayLen", desc := "([BI)B", sig := { parameters := [(.array .byte), .int], returnType := some .byte }, accessFlags := 8, code := some k24c1 }
def k24c2 : Code := { maxStack := 5, maxLocals := 6, code := jdk_52_method_16_code, exceptionTable := #[], attributes := #[] }
def k24m2 : Method := { name := "compress", desc := "([CII)[B", sig := { parameters := [(.array .char), .int, .int], returnType := some (.array .byte) }, accessFlags := 9, code := some k24c2 }
def k24c3 : Code := { maxStack := 3, maxLocals := 7, code := jdk_52_method_21_code, exceptionTable := #[], attributes := #[] }
def k24m3 : Method := { name := "compress", desc := "([CI[BII)I", sig := { parameters := [(.array .char), .int, (.array .byte), .int, .int], returnType := some .int }, accessFlags := 9, code := some k24c3 }
/-- java/lang/StringUTF16 -/
def k24 : Class := { plain "java/lang/StringUTF16" (some 0) with
  accessFlags := 48
  interfaces := #[]
  cf := some (fileOf pool24 12 #[.nestMembers #[627, 629, 369]] #[{ accessFlags := 0, nameIndex := 9, descriptorIndex := 10, attributes := #[] }, { accessFlags := 8, nameIndex := 261, descriptorIndex := 262, attributes := #[] }, { accessFlags := 9, nameIndex := 117, descriptorIndex := 122, attributes := #[] }, { accessFlags := 9, nameIndex := 117, descriptorIndex := 118, attributes := #[] }] 48 6 #[] #[{ accessFlags := 26, nameIndex := 61, descriptorIndex := 62, attributes := #[] }, { accessFlags := 26, nameIndex := 65, descriptorIndex := 62, attributes := #[] }, { accessFlags := 24, nameIndex := 430, descriptorIndex := 62, attributes := #[] }, { accessFlags := 4120, nameIndex := 46, descriptorIndex := 47, attributes := #[] }])
  fields := #[{ name := "HI_BYTE_SHIFT", type := .int, accessFlags := 26, slot := 0, constantValue := 0 }, { name := "LO_BYTE_SHIFT", type := .int, accessFlags := 26, slot := 1, constantValue := 0 }, { name := "MAX_LENGTH", type := .int, accessFlags := 24, slot := 2, constantValue := 0 }, { name := "$assertionsDisabled", type := .boolean, accessFlags := 4120, slot := 3, constantValue := 0 }]
  methods := #[k24m0, k24m1, k24m2, k24m3]
  instanceTypes := #[]
  staticTypes := #[.int, .int, .int, .boolean]
  resolved := Array.replicate 635 none
  statics := none }

def pool25 : Array CpInfo := pool [(2, .class_ 4), (1, u "java/lang/Object"), (0, u "<init>"), (0, u "()V"), (17, .class_ 26), (1, u "jdk/internal/util/Preconditions"), (28, .class_ 56), (0, u "jdk/internal/util/Preconditions$4"), (57, .class_ 115), (0, u "jdk/internal/util/Preconditions$1"), (7, u "SIOOBE_FORMATTER"), (0, u "Ljava/util/function/BiFunction;"), (0, .class_ 126), (0, u "jdk/internal/util/Preconditions$2"), (3, u "AIOOBE_FORMATTER"), (0, .class_ 132), (0, u "jdk/internal/util/Preconditions$3"), (3, u "IOOBE_FORMATTER")] 57

def k25m0 : Method := { name := "<init>", desc := "()V", sig := { parameters := [], returnType := none }, accessFlags := 1, code := none }
/-- jdk/internal/util/Preconditions -/
def k25 : Class := { plain "jdk/internal/util/Preconditions" (some 0) with
  accessFlags := 33
  interfaces := #[]
  cf := some (fileOf pool25 24 #[.nestMembers #[55, 131, 125, 114]] #[{ accessFlags := 1, nameIndex := 5, descriptorIndex := 6, attributes := #[] }] 33 2 #[] #[{ accessFlags := 25, nameIndex := 123, descriptorIndex := 124, attributes := #[] }, { accessFlags := 25, nameIndex := 130, descriptorIndex := 124, attributes := #[] }, { accessFlags := 25, nameIndex := 136, descriptorIndex := 124, attributes := #[] }])
  fields := #[{ name := "SIOOBE_FORMATTER", type := (.object "java/util/function/BiFunction"), accessFlags := 25, slot := 0, constantValue := 0 }, { name := "AIOOBE_FORMATTER", type := (.object "java/util/function/BiFunction"), accessFlags := 25, slot := 1, constantValue := 0 }, { name := "IOOBE_FORMATTER", type := (.object "java/util/function/BiFunction"), accessFlags := 25, slot := 2, constantValue := 0 }]
  methods := #[k25m0]
  instanceTypes := #[]
  staticTypes := #[(.object "java/util/function/BiFunction"), (.object "java/util/function/BiFunction"), (.object "java/util/function/BiFunction")]
  resolved := Array.replicate 194 none
  statics := some 4 }

def pool26 : Array CpInfo := pool [(2, .class_ 4), (1, u "java/lang/Object"), (0, u "<init>"), (0, u "()V"), (12, .class_ 20), (0, u "java/util/Collections"), (63, u "r"), (0, u "Ljava/util/Random;"), (80, .class_ 167), (0, u "java/util/Collections$UnmodifiableCollection"), (6, .class_ 175), (0, u "java/util/Collections$UnmodifiableSequencedCollection"), (6, .class_ 183), (0, u "java/util/Collections$UnmodifiableSet"), (6, .class_ 191), (0, u "java/util/Collections$UnmodifiableSequencedSet"), (6, .class_ 199), (0, u "java/util/Collections$UnmodifiableSortedSet"), (6, .class_ 207), (0, u "java/util/Collections$UnmodifiableNavigableSet"), (4, .class_ 213), (0, u "java/util/Collections$UnmodifiableList"), (1, .class_ 216), (0, u "java/util/Collections$UnmodifiableRandomAccessList"), (6, .class_ 224), (0, u "java/util/Collections$UnmodifiableMap"), (6, .class_ 232), (0, u "java/util/Collections$UnmodifiableSequencedMap"), (4, .class_ 238), (0, u "java/util/Collections$UnmodifiableSortedMap"), (6, .class_ 246), (0, u "java/util/Collections$UnmodifiableNavigableMap"), (3, .class_ 251), (0, u "java/util/Collections$SynchronizedCollection"), (4, .class_ 257), (0, u "java/util/Collections$SynchronizedSet"), (4, .class_ 263), (0, u "java/util/Collections$SynchronizedSortedSet"), (1, .class_ 266), (0, u "java/util/Collections$SynchronizedNavigableSet"), (1, .class_ 269), (0, u "java/util/Collections$SynchronizedRandomAccessList"), (1, .class_ 272), (0, u "java/util/Collections$SynchronizedList"), (5, .class_ 279), (0, u "java/util/Collections$SynchronizedMap"), (1, .class_ 282), (0, u "java/util/Collections$SynchronizedSortedMap"), (1, .class_ 285), (0, u "java/util/Collections$SynchronizedNavigableMap"), (1, .class_ 288), (0, u "java/util/Collections$CheckedCollection"), (11, .class_ 301), (0, u "java/util/Collections$CheckedQueue"), (3, .class_ 306), (0, u "java/util/Collections$CheckedSet"), (3, .class_ 311), (0, u "java/util/Collections$CheckedSortedSet"), (3, .class_ 316), (0, u "java/util/Collections$CheckedNavigableSet"), (3, .class_ 321), (0, u "java/util/Collections$CheckedRandomAccessList"), (3, .class_ 326), (0, u "java/util/Collections$CheckedList"), (1, .class_ 329), (0, u "java/util/Collections$CheckedMap"), (3, .class_ 334), (0, u "java/util/Collections$CheckedSortedMap"), (3, .class_ 339), (0, u "java/util/Collections$CheckedNavigableMap"), (4, .class_ 346), (1, u "java/util/Collections$EmptyIterator"), (3, .class_ 352), (1, u "java/util/Collections$EmptyListIterator"), (2, .class_ 357), (1, u "java/util/Collections$EmptyEnumeration"), (4, u "EMPTY_SET"), (0, u "Ljava/util/Set;"), (6, u "EMPTY_LIST"), (0, u "Ljava/util/List;"), (2, u "EMPTY_MAP"), (0, u "Ljava/util/Map;"), (4, .class_ 381), (0, u "java/util/Collections$SingletonSet"), (2, .class_ 385), (0, u "java/util/Collections$1"), (1, .class_ 388), (0, u "java/util/Collections$2"), (1, .class_ 391), (0, u "java/util/Collections$SingletonList"), (1, .class_ 394), (0, u "java/util/Collections$SingletonMap"), (22, .class_ 418), (0, u "java/util/Collections$CopiesList"), (4, .class_ 425), (1, u "java/util/Collections$ReverseComparator"), (8, .class_ 435), (0, u "java/util/Collections$ReverseComparator2"), (6, .class_ 443), (0, u "java/util/Collections$3"), (25, .class_ 470), (0, u "java/util/Collections$SetFromMap"), (2, .class_ 474), (0, u "java/util/Collections$SequencedSetFromMap"), (3, .class_ 479), (0, u "java/util/Collections$AsLIFOQueue"), (11, .class_ 492), (0, u "java/util/Collections$EmptySet"), (1, .class_ 495), (0, u "java/util/Collections$EmptyList"), (1, .class_ 498), (0, u "java/util/Collections$EmptyMap"), (1, u "BINARYSEARCH_THRESHOLD"), (0, u "I"), (2, u "REVERSE_THRESHOLD"), (1, u "SHUFFLE_THRESHOLD"), (1, u "FILL_THRESHOLD"), (1, u "ROTATE_THRESHOLD"), (1, u "COPY_THRESHOLD"), (1, u "REPLACEALL_THRESHOLD"), (1, u "INDEXOFSUBLIST_THRESHOLD"), (333, .class_ 851), (0, u "java/util/Collections$CheckedMap$CheckedEntrySet"), (0, .class_ 853), (0, u "java/util/Collections$CheckedMap$CheckedEntrySet$CheckedEntry"), (0, .class_ 855), (0, u "java/util/Collections$CheckedMap$CheckedEntrySet$1"), (0, .class_ 857), (0, u "java/util/Collections$CheckedList$1"), (0, .class_ 859), (0, u "java/util/Collections$CheckedCollection$1"), (0, .class_ 861), (0, u "java/util/Collections$UnmodifiableNavigableMap$EmptyNavigableMap"), (0, .class_ 863), (0, u "java/util/Collections$UnmodifiableMap$UnmodifiableEntrySet"), (0, .class_ 865), (0, u "java/util/Collections$UnmodifiableMap$UnmodifiableEntrySet$UnmodifiableEntry"), (0, .class_ 867), (0, u "java/util/Collections$UnmodifiableMap$UnmodifiableEntrySet$UnmodifiableEntrySetSpliterator"), (0, .class_ 869), (0, u "java/util/Collections$UnmodifiableMap$UnmodifiableEntrySet$1"), (0, .class_ 871), (0, u "java/util/Collections$UnmodifiableList$1"), (0, .class_ 873), (0, u "java/util/Collections$UnmodifiableNavigableSet$EmptyNavigableSet"), (0, .class_ 875), (0, u "java/util/Collections$UnmodifiableCollection$1")] 57

def k26m0 : Method := { name := "<init>", desc := "()V", sig := { parameters := [], returnType := none }, accessFlags := 2, code := none }
/-- java/util/Collections -/
def k26 : Class := { plain "java/util/Collections" (some 0) with
  accessFlags := 33
  interfaces := #[]
  cf := some (fileOf pool26 19 #[.nestMembers #[478, 473, 469, 434, 423, 417, 393, 390, 380, 497, 494, 491, 355, 350, 344, 338, 333, 328, 850, 852, 854, 320, 325, 856, 315, 310, 305, 300, 287, 858, 284, 281, 278, 268, 271, 265, 262, 256, 250, 245, 860, 237, 231, 223, 862, 864, 866, 868, 215, 212, 870, 206, 872, 198, 190, 182, 174, 166, 874, 442, 387, 384]] #[{ accessFlags := 2, nameIndex := 5, descriptorIndex := 6, attributes := #[] }] 33 2 #[] #[{ accessFlags := 26, nameIndex := 500, descriptorIndex := 501, attributes := #[] }, { accessFlags := 26, nameIndex := 504, descriptorIndex := 501, attributes := #[] }, { accessFlags := 26, nameIndex := 506, descriptorIndex := 501, attributes := #[] }, { accessFlags := 26, nameIndex := 508, descriptorIndex := 501, attributes := #[] }, { accessFlags := 26, nameIndex := 510, descriptorIndex := 501, attributes := #[] }, { accessFlags := 26, nameIndex := 512, descriptorIndex := 501, attributes := #[] }, { accessFlags := 26, nameIndex := 514, descriptorIndex := 501, attributes := #[] }, { accessFlags := 26, nameIndex := 516, descriptorIndex := 501, attributes := #[] }, { accessFlags := 10, nameIndex := 84, descriptorIndex := 85, attributes := #[] }, { accessFlags := 25, nameIndex := 362, descriptorIndex := 363, attributes := #[] }, { accessFlags := 25, nameIndex := 370, descriptorIndex := 371, attributes := #[] }, { accessFlags := 25, nameIndex := 374, descriptorIndex := 375, attributes := #[] }])
  fields := #[{ name := "BINARYSEARCH_THRESHOLD", type := .int, accessFlags := 26, slot := 0, constantValue := 0 }, { name := "REVERSE_THRESHOLD", type := .int, accessFlags := 26, slot := 1, constantValue := 0 }, { name := "SHUFFLE_THRESHOLD", type := .int, accessFlags := 26, slot := 2, constantValue := 0 }, { name := "FILL_THRESHOLD", type := .int, accessFlags := 26, slot := 3, constantValue := 0 }, { name := "ROTATE_THRESHOLD", type := .int, accessFlags := 26, slot := 4, constantValue := 0 }, { name := "COPY_THRESHOLD", type := .int, accessFlags := 26, slot := 5, constantValue := 0 }, { name := "REPLACEALL_THRESHOLD", type := .int, accessFlags := 26, slot := 6, constantValue := 0 }, { name := "INDEXOFSUBLIST_THRESHOLD", type := .int, accessFlags := 26, slot := 7, constantValue := 0 }, { name := "r", type := (.object "java/util/Random"), accessFlags := 10, slot := 8, constantValue := 0 }, { name := "EMPTY_SET", type := (.object "java/util/Set"), accessFlags := 25, slot := 9, constantValue := 0 }, { name := "EMPTY_LIST", type := (.object "java/util/List"), accessFlags := 25, slot := 10, constantValue := 0 }, { name := "EMPTY_MAP", type := (.object "java/util/Map"), accessFlags := 25, slot := 11, constantValue := 0 }]
  methods := #[k26m0]
  instanceTypes := #[]
  staticTypes := #[.int, .int, .int, .int, .int, .int, .int, .int, (.object "java/util/Random"), (.object "java/util/Set"), (.object "java/util/List"), (.object "java/util/Map")]
  resolved := Array.replicate 933 none
  statics := some 5 }

def pool27 : Array CpInfo := pool [(8, .class_ 10), (1, u "java/lang/Iterable"), (24, .class_ 36), (0, u "java/lang/Object")] 25

/-- java/lang/Iterable -/
def k27 : Class := { plain "java/lang/Iterable" (some 0) with
  accessFlags := 1537
  interfaces := #[]
  cf := some (fileOf pool27 8 #[] #[] 1537 35 #[] #[])
  fields := #[]
  methods := #[]
  instanceTypes := #[]
  staticTypes := #[]
  resolved := Array.replicate 62 none
  statics := none }

def pool28 : Array CpInfo := pool [(10, .class_ 12), (1, u "java/util/Collection"), (47, .class_ 61), (0, u "java/lang/Object"), (0, .class_ 63), (0, u "java/lang/Iterable")] 51

/-- java/util/Collection -/
def k28 : Class := { plain "java/util/Collection" (some 0) with
  accessFlags := 1537
  interfaces := #[27]
  cf := some (fileOf pool28 10 #[] #[] 1537 60 #[62] #[])
  fields := #[]
  methods := #[]
  instanceTypes := #[]
  staticTypes := #[]
  resolved := Array.replicate 115 none
  statics := none }

def pool29 : Array CpInfo := pool [(2, .class_ 4), (1, u "java/lang/Object"), (0, u "<init>"), (0, u "()V"), (1, .class_ 10), (1, u "java/util/AbstractCollection"), (66, .class_ 78), (0, u "java/util/Collection")] 81

def k29m0 : Method := { name := "<init>", desc := "()V", sig := { parameters := [], returnType := none }, accessFlags := 4, code := none }
/-- java/util/AbstractCollection -/
def k29 : Class := { plain "java/util/AbstractCollection" (some 0) with
  accessFlags := 1057
  interfaces := #[28]
  cf := some (fileOf pool29 8 #[] #[{ accessFlags := 4, nameIndex := 5, descriptorIndex := 6, attributes := #[] }] 1057 2 #[77] #[])
  fields := #[]
  methods := #[k29m0]
  instanceTypes := #[]
  staticTypes := #[]
  resolved := Array.replicate 160 none
  statics := none }

def pool30 : Array CpInfo := pool [(8, .class_ 10), (1, u "java/util/SequencedCollection"), (15, .class_ 27), (0, u "java/lang/Object"), (0, .class_ 29), (0, u "java/util/Collection")] 27

/-- java/util/SequencedCollection -/
def k30 : Class := { plain "java/util/SequencedCollection" (some 0) with
  accessFlags := 1537
  interfaces := #[28]
  cf := some (fileOf pool30 8 #[] #[] 1537 26 #[28] #[])
  fields := #[]
  methods := #[]
  instanceTypes := #[]
  staticTypes := #[]
  resolved := Array.replicate 57 none
  statics := none }

def pool31 : Array CpInfo := pool [(8, .class_ 10), (1, u "java/util/List"), (92, .class_ 104), (0, u "java/lang/Object"), (15, .class_ 121), (0, u "java/util/SequencedCollection")] 129

/-- java/util/List -/
def k31 : Class := { plain "java/util/List" (some 0) with
  accessFlags := 1537
  interfaces := #[30]
  cf := some (fileOf pool31 8 #[] #[] 1537 103 #[120] #[])
  fields := #[]
  methods := #[]
  instanceTypes := #[]
  staticTypes := #[]
  resolved := Array.replicate 251 none
  statics := none }

def pool32 : Array CpInfo := pool [(2, .class_ 4), (1, u "java/util/AbstractCollection"), (0, u "<init>"), (0, u "()V"), (1, .class_ 10), (1, u "java/util/AbstractList"), (0, u "modCount"), (0, u "I"), (64, .class_ 78), (0, u "java/util/AbstractList$Itr"), (3, .class_ 83), (0, u "java/util/AbstractList$ListItr"), (9, .class_ 94), (0, u "java/util/AbstractList$RandomAccessSubList"), (3, .class_ 99), (0, u "java/util/AbstractList$SubList"), (33, .class_ 134), (0, u "java/util/List"), (73, .class_ 209), (0, u "java/util/AbstractList$SubList$1"), (0, .class_ 211), (0, u "java/util/AbstractList$RandomAccessSpliterator")] 6

def k32m0 : Method := { name := "<init>", desc := "()V", sig := { parameters := [], returnType := none }, accessFlags := 4, code := none }
/-- java/util/AbstractList -/
def k32 : Class := { plain "java/util/AbstractList" (some 29) with
  accessFlags := 1057
  interfaces := #[31]
  cf := some (fileOf pool32 8 #[.nestMembers #[93, 98, 208, 210, 82, 77]] #[{ accessFlags := 4, nameIndex := 5, descriptorIndex := 6, attributes := #[] }] 1057 2 #[133] #[{ accessFlags := 132, nameIndex := 11, descriptorIndex := 12, attributes := #[] }])
  fields := #[{ name := "modCount", type := .int, accessFlags := 132, slot := 0, constantValue := 0 }]
  methods := #[k32m0]
  instanceTypes := #[.int]
  staticTypes := #[]
  resolved := Array.replicate 218 none
  statics := none }

def pool33 : Array CpInfo := pool [(1, .class_ 2), (0, u "java/util/RandomAccess"), (0, .class_ 4), (0, u "java/lang/Object")] 2

/-- java/util/RandomAccess -/
def k33 : Class := { plain "java/util/RandomAccess" (some 0) with
  accessFlags := 1537
  interfaces := #[]
  cf := some (fileOf pool33 1 #[] #[] 1537 3 #[] #[])
  fields := #[]
  methods := #[]
  instanceTypes := #[]
  staticTypes := #[]
  resolved := Array.replicate 7 none
  statics := none }

def pool34 : Array CpInfo := pool [(2, .class_ 4), (1, u "java/util/AbstractList"), (0, u "<init>"), (0, u "()V"), (1, .class_ 10), (1, u "java/util/Collections"), (54, .class_ 66), (0, u "java/util/Collections$EmptyList"), (0, .class_ 68), (0, u "java/util/RandomAccess"), (0, .class_ 70), (0, u "java/io/Serializable"), (0, u "serialVersionUID"), (0, u "J")] 77

def k34m0 : Method := { name := "<init>", desc := "()V", sig := { parameters := [], returnType := none }, accessFlags := 2, code := none }
/-- java/util/Collections$EmptyList -/
def k34 : Class := { plain "java/util/Collections$EmptyList" (some 32) with
  accessFlags := 32
  interfaces := #[33, 2]
  cf := some (fileOf pool34 65 #[.nestHost 8] #[{ accessFlags := 2, nameIndex := 5, descriptorIndex := 6, attributes := #[] }] 32 2 #[67, 69] #[{ accessFlags := 26, nameIndex := 71, descriptorIndex := 72, attributes := #[] }])
  fields := #[{ name := "serialVersionUID", type := .long, accessFlags := 26, slot := 0, constantValue := 0 }]
  methods := #[k34m0]
  instanceTypes := #[.int]
  staticTypes := #[.long]
  resolved := Array.replicate 150 none
  statics := none }

def pool35 : Array CpInfo := pool [(2, .class_ 4), (1, u "java/lang/StackTraceElement"), (0, u "<init>"), (2, .class_ 10), (1, u "java/lang/Object"), (0, u "()V"), (2, u "format"), (0, u "B"), (2, u "classLoaderName"), (0, u "Ljava/lang/String;"), (2, u "moduleName"), (2, u "moduleVersion"), (12, u "declaringClass"), (4, u "methodName"), (2, u "fileName"), (2, u "lineNumber"), (0, u "I"), (65, u "declaringClassObject"), (0, u "Ljava/lang/Class;"), (33, .class_ 153), (1, u "java/lang/StackTraceElement$HashedModules"), (17, .class_ 172), (0, u "java/io/Serializable"), (0, u "NATIVE_METHOD"), (1, u "UNKNOWN_SOURCE"), (2, u "BUILTIN_CLASS_LOADER"), (1, u "JDK_NON_UPGRADEABLE_MODULE"), (1, u "serialVersionUID"), (0, u "J")] 51

def k35m0 : Method := { name := "<init>", desc := "()V", sig := { parameters := [], returnType := none }, accessFlags := 2, code := none }
/-- java/lang/StackTraceElement -/
def k35 : Class := { plain "java/lang/StackTraceElement" (some 0) with
  accessFlags := 49
  interfaces := #[2]
  cf := some (fileOf pool35 2 #[.nestMembers #[151]] #[{ accessFlags := 2, nameIndex := 5, descriptorIndex := 11, attributes := #[] }] 49 8 #[171] #[{ accessFlags := 26, nameIndex := 173, descriptorIndex := 19, attributes := #[] }, { accessFlags := 26, nameIndex := 175, descriptorIndex := 19, attributes := #[] }, { accessFlags := 130, nameIndex := 116, descriptorIndex := 117, attributes := #[] }, { accessFlags := 2, nameIndex := 18, descriptorIndex := 19, attributes := #[] }, { accessFlags := 2, nameIndex := 22, descriptorIndex := 19, attributes := #[] }, { accessFlags := 2, nameIndex := 25, descriptorIndex := 19, attributes := #[] }, { accessFlags := 2, nameIndex := 38, descriptorIndex := 19, attributes := #[] }, { accessFlags := 2, nameIndex := 43, descriptorIndex := 19, attributes := #[] }, { accessFlags := 2, nameIndex := 46, descriptorIndex := 19, attributes := #[] }, { accessFlags := 2, nameIndex := 49, descriptorIndex := 50, attributes := #[] }, { accessFlags := 2, nameIndex := 14, descriptorIndex := 15, attributes := #[] }, { accessFlags := 26, nameIndex := 178, descriptorIndex := 15, attributes := #[] }, { accessFlags := 26, nameIndex := 180, descriptorIndex := 15, attributes := #[] }, { accessFlags := 26, nameIndex := 182, descriptorIndex := 183, attributes := #[] }])
  fields := #[{ name := "NATIVE_METHOD", type := (.object "java/lang/String"), accessFlags := 26, slot := 0, constantValue := 0 }, { name := "UNKNOWN_SOURCE", type := (.object "java/lang/String"), accessFlags := 26, slot := 1, constantValue := 0 }, { name := "declaringClassObject", type := (.object "java/lang/Class"), accessFlags := 130, slot := 0, constantValue := 0 }, { name := "classLoaderName", type := (.object "java/lang/String"), accessFlags := 2, slot := 1, constantValue := 0 }, { name := "moduleName", type := (.object "java/lang/String"), accessFlags := 2, slot := 2, constantValue := 0 }, { name := "moduleVersion", type := (.object "java/lang/String"), accessFlags := 2, slot := 3, constantValue := 0 }, { name := "declaringClass", type := (.object "java/lang/String"), accessFlags := 2, slot := 4, constantValue := 0 }, { name := "methodName", type := (.object "java/lang/String"), accessFlags := 2, slot := 5, constantValue := 0 }, { name := "fileName", type := (.object "java/lang/String"), accessFlags := 2, slot := 6, constantValue := 0 }, { name := "lineNumber", type := .int, accessFlags := 2, slot := 7, constantValue := 0 }, { name := "format", type := .byte, accessFlags := 2, slot := 8, constantValue := 0 }, { name := "BUILTIN_CLASS_LOADER", type := .byte, accessFlags := 26, slot := 2, constantValue := 0 }, { name := "JDK_NON_UPGRADEABLE_MODULE", type := .byte, accessFlags := 26, slot := 3, constantValue := 0 }, { name := "serialVersionUID", type := .long, accessFlags := 26, slot := 4, constantValue := 0 }]
  methods := #[k35m0]
  instanceTypes := #[(.object "java/lang/Class"), (.object "java/lang/String"), (.object "java/lang/String"), (.object "java/lang/String"), (.object "java/lang/String"), (.object "java/lang/String"), (.object "java/lang/String"), .int, .byte]
  staticTypes := #[(.object "java/lang/String"), (.object "java/lang/String"), .byte, .byte, .long]
  resolved := Array.replicate 235 none
  statics := none }

/-- the primitive byte -/
def k36 : Class := { plain "byte" none with kind := .primitive 'B', accessFlags := 0x411 }
/-- [B -/
def k37 : Class := { plain "[B" (some 0) with kind := .array 36 .byte, interfaces := #[22, 2], accessFlags := 1041 }

/-- the primitive char -/
def k38 : Class := { plain "char" none with kind := .primitive 'C', accessFlags := 0x411 }
/-- [C -/
def k39 : Class := { plain "[C" (some 0) with kind := .array 38 .char, interfaces := #[22, 2], accessFlags := 1041 }

/-- the primitive int -/
def k40 : Class := { plain "int" none with kind := .primitive 'I', accessFlags := 0x411 }
/-- [I -/
def k41 : Class := { plain "[I" (some 0) with kind := .array 40 .int, interfaces := #[22, 2], accessFlags := 1041 }

/-- [Ljava/lang/Object; -/
def k42 : Class := { plain "[Ljava/lang/Object;" (some 0) with kind := .array 0 (.object "java/lang/Object"), interfaces := #[22, 2], accessFlags := 1041 }

/-- [Ljava/lang/StackTraceElement; -/
def k43 : Class := { plain "[Ljava/lang/StackTraceElement;" (some 0) with kind := .array 35 (.object "java/lang/StackTraceElement"), interfaces := #[22, 2], accessFlags := 1041 }

/-- [Ljava/lang/Throwable; -/
def k44 : Class := { plain "[Ljava/lang/Throwable;" (some 0) with kind := .array 8 (.object "java/lang/Throwable"), interfaces := #[22, 2], accessFlags := 1041 }

def heap : Heap := #[{ cls := 7, slots := #[.long 0, .int 1, .null, .int 0, .null, .int 0, .int 0], vm := .statics 7 },
  { cls := 8, slots := #[.long 0, .ref 6, .ref 10, .null, .null, .null, .null, .ref 7, .int 1], vm := .statics 8 },
  { cls := 12, slots := #[.null, .ref 11, .null], vm := .statics 12 },
  { cls := 18, slots := #[.int 0, .int 0, .null, .null, .ref 9, .ref 8, .int 0, .int 0, .long 0], vm := .statics 18 },
  { cls := 25, slots := #[.null, .null, .null], vm := .statics 25 },
  { cls := 26, slots := #[.int 0, .int 0, .int 0, .int 0, .int 0, .int 0, .int 0, .int 0, .null, .null, .ref 10, .null], vm := .statics 26 },
  { cls := 43, slots := #[], vm := .none },
  { cls := 44, slots := #[], vm := .none },
  { cls := 37, slots := #[.int 48, .int 49, .int 50, .int 51, .int 52, .int 53, .int 54, .int 55, .int 56, .int 57, .int 48, .int 49, .int 50, .int 51, .int 52, .int 53, .int 54, .int 55, .int 56, .int 57, .int 48, .int 49, .int 50, .int 51, .int 52, .int 53, .int 54, .int 55, .int 56, .int 57, .int 48, .int 49, .int 50, .int 51, .int 52, .int 53, .int 54, .int 55, .int 56, .int 57, .int 48, .int 49, .int 50, .int 51, .int 52, .int 53, .int 54, .int 55, .int 56, .int 57, .int 48, .int 49, .int 50, .int 51, .int 52, .int 53, .int 54, .int 55, .int 56, .int 57, .int 48, .int 49, .int 50, .int 51, .int 52, .int 53, .int 54, .int 55, .int 56, .int 57, .int 48, .int 49, .int 50, .int 51, .int 52, .int 53, .int 54, .int 55, .int 56, .int 57, .int 48, .int 49, .int 50, .int 51, .int 52, .int 53, .int 54, .int 55, .int 56, .int 57, .int 48, .int 49, .int 50, .int 51, .int 52, .int 53, .int 54, .int 55, .int 56, .int 57], vm := .none },
  { cls := 37, slots := #[.int 48, .int 48, .int 48, .int 48, .int 48, .int 48, .int 48, .int 48, .int 48, .int 48, .int 49, .int 49, .int 49, .int 49, .int 49, .int 49, .int 49, .int 49, .int 49, .int 49, .int 50, .int 50, .int 50, .int 50, .int 50, .int 50, .int 50, .int 50, .int 50, .int 50, .int 51, .int 51, .int 51, .int 51, .int 51, .int 51, .int 51, .int 51, .int 51, .int 51, .int 52, .int 52, .int 52, .int 52, .int 52, .int 52, .int 52, .int 52, .int 52, .int 52, .int 53, .int 53, .int 53, .int 53, .int 53, .int 53, .int 53, .int 53, .int 53, .int 53, .int 54, .int 54, .int 54, .int 54, .int 54, .int 54, .int 54, .int 54, .int 54, .int 54, .int 55, .int 55, .int 55, .int 55, .int 55, .int 55, .int 55, .int 55, .int 55, .int 55, .int 56, .int 56, .int 56, .int 56, .int 56, .int 56, .int 56, .int 56, .int 56, .int 56, .int 57, .int 57, .int 57, .int 57, .int 57, .int 57, .int 57, .int 57, .int 57, .int 57], vm := .none },
  { cls := 34, slots := #[.int 0], vm := .none },
  { cls := 12, slots := #[.null, .int 0, .int 0], vm := .none }]
def classes : Array Class := #[k0, k1, k2, k3, k4, k5, k6, k7, k8, k9, k10, k11, k12, k13, k14, k15, k16, k17, k18, k19, k20, k21, k22, k23, k24, k25, k26, k27, k28, k29, k30, k31, k32, k33, k34, k35, k36, k37, k38, k39, k40, k41, k42, k43, k44]
def interned : List (Array UInt16 × Addr) := []
def slotsUsed : Nat := 247
def theMethod : MethodId := ⟨1, 1⟩
def args0 : Array Value := #[.int 5, .int 6, .int 7, .int 8]
def aboutOver (below : List Frame) : State where
  vm := { classes := classes, interned := interned.toArray }
  heap := heap
  slotsUsed := slotsUsed
  threads := #[{ frames := .invoking theMethod args0 :: below }]
def below0 : List Frame := [.native { method := ⟨0, 0⟩, args := #[] }]
def about1 : State := aboutOver below0
def p0 : Program := .bare "" "" ""
def e0 : Env := launch0.env 0 0 0
theorem w_frames : about1.frames = Frame.invoking theMethod args0 :: below0 := rfl
set_option maxRecDepth 65536 in
theorem w_args : argsFit about1.vm theMethod args0 = true := by decide +kernel
set_option maxRecDepth 65536 in
theorem w_heap : heapFits about1 = true := by decide +kernel
set_option maxRecDepth 65536 in
theorem w_runnable : about1.curStatus? = some .runnable := by decide +kernel
set_option maxRecDepth 65536 in
theorem w_alone : about1.alone = true := by decide +kernel
set_option maxRecDepth 65536 in
theorem w_named : about1.methodNamed? x = some theMethod := by decide +kernel
set_option maxRecDepth 65536 in
theorem w_hears : about1.hears theMethod below0 = true := by decide +kernel
set_option maxRecDepth 65536 in
theorem w_ripe : about1.ripe theMethod args0 below0 = true := by decide +kernel
theorem w_running : about1.status = .running := rfl
set_option maxRecDepth 65536 in
theorem w_room : about1.hasRoom e0.platform room_1 = true :=
  launch0.hasRoom_least _ room_1 (by decide +kernel) (by decide +kernel) (by decide +kernel) (by decide +kernel) (by decide +kernel) (by decide +kernel)
theorem allAtoms_all (ts : List Jvm.Cond) (a : Array Jvm.Value) (st : Jvm.State) : (allAtoms ts).before a st = ts.all (fun c => c.before a st) := by
  induction ts with
  | nil => rfl
  | cons c t ih =>
    show (Jvm.Cond.and c (allAtoms t)).before a st = _
    rw [Jvm.Cond.before_and, ih, List.all_cons]
def words1 : List Jvm.Cond := Jvm.Cond.code x code maxLocals ret :: tables_1
/-- a 'code' word, met by the world's own term for the bytes: nothing is compared byte by byte -/
theorem code_word {y : MethodName} {bytes : ByteArray} {mx : Nat} {rt : Option FieldType} {a : Array Value} {s : State} {m : MethodId} {meth : Method} {c : Code} (h1 : s.methodNamed? y = some m) (h2 : s.vm.method? m = some meth) (h3 : meth.code = some c) (h4 : c.code = bytes)
    (h5 : (c.maxLocals == mx && c.exceptionTable.isEmpty && decide (c.maxStack ≤ mostOperands) && decide (meth.sig.returnType = rt) && !meth.locks && decide (parseMethodDescriptor y.desc = some meth.sig)) = true) : (Jvm.Cond.code y bytes mx rt).before a s = true := by
  simp only [Bool.and_eq_true, beq_iff_eq, Bool.not_eq_true', decide_eq_true_eq] at h5
  obtain ⟨⟨⟨⟨⟨g1, g2⟩, g3⟩, g4⟩, g5⟩, g6⟩ := h5
  simp [Cond.before, Cond.holds, Cond.value, h1, h2, h3, h4, g1, g2, g3, g4, g5, g6]
def isCode : Jvm.Cond → Bool
  | .code _ _ _ _ => true
  | _ => false
theorem all_split {L : List Jvm.Cond} {P : Jvm.Cond → Bool} (h1 : L.all (fun c => isCode c || P c) = true) (h2 : ∀ c ∈ L.filter isCode, P c = true) : L.all P = true := by
  refine List.all_eq_true.mpr fun c hc => ?_
  have h := List.all_eq_true.mp h1 c hc
  rcases Bool.eq_false_or_eq_true (isCode c) with hi | hi
  · exact h2 c (List.mem_filter.mpr ⟨hc, hi⟩)
  · simpa [hi] using h
set_option maxRecDepth 65536 in
theorem w_c0 : (Jvm.Cond.code x code maxLocals ret).before args0 about1 = true := code_word (m := ⟨1, 1⟩) (meth := k1m1) (c := k1c1) (by decide +kernel) rfl rfl rfl (by decide +kernel)
set_option maxRecDepth 65536 in
theorem w_c1 : (Jvm.Cond.code ({ cls := "java/lang/String", name := "<init>", desc := "([C)V" } : Jvm.MethodName) jdk_42_method_3_code (2 : Nat) (Option.none : Option Jvm.ClassFile.FieldType)).before args0 about1 = true := code_word (m := ⟨7, 1⟩) (meth := k7m1) (c := k7c1) (by decide +kernel) rfl rfl rfl (by decide +kernel)
set_option maxRecDepth 65536 in
theorem w_c2 : (Jvm.Cond.code ({ cls := "java/lang/String", name := "<init>", desc := "([CIILjava/lang/Void;)V" } : Jvm.MethodName) jdk_42_method_149_code (6 : Nat) (Option.none : Option Jvm.ClassFile.FieldType)).before args0 about1 = true := code_word (m := ⟨7, 6⟩) (meth := k7m6) (c := k7c6) (by decide +kernel) rfl rfl rfl (by decide +kernel)
set_option maxRecDepth 65536 in
theorem w_c3 : (Jvm.Cond.code ({ cls := "java/lang/Object", name := "<init>", desc := "()V" } : Jvm.MethodName) object_method_1_code (1 : Nat) (Option.none : Option Jvm.ClassFile.FieldType)).before args0 about1 = true := code_word (m := ⟨0, 0⟩) (meth := k0m0) (c := k0c0) (by decide +kernel) rfl rfl rfl (by decide +kernel)
set_option maxRecDepth 65536 in
theorem w_c4 : (Jvm.Cond.code ({ cls := "com/example/swapdeck/swapdeck/swap/CloseOutException", name := "noLoss", desc := "(Ljava/lang/String;I)Lcom/example/swapdeck/swapdeck/swap/CloseOutException;" } : Jvm.MethodName) prog_72_method_2_code (2 : Nat) (Option.some (Jvm.ClassFile.FieldType.object "com/example/swapdeck/swapdeck/swap/CloseOutException"))).before args0 about1 = true := code_word (m := ⟨10, 1⟩) (meth := k10m1) (c := k10c1) (by decide +kernel) rfl rfl rfl (by decide +kernel)
set_option maxRecDepth 65536 in
theorem w_c5 : (Jvm.Cond.code ({ cls := "java/lang/StringBuilder", name := "<init>", desc := "()V" } : Jvm.MethodName) jdk_67_method_1_code (1 : Nat) (Option.none : Option Jvm.ClassFile.FieldType)).before args0 about1 = true := code_word (m := ⟨15, 0⟩) (meth := k15m0) (c := k15c0) (by decide +kernel) rfl rfl rfl (by decide +kernel)
set_option maxRecDepth 65536 in
theorem w_c6 : (Jvm.Cond.code ({ cls := "java/lang/AbstractStringBuilder", name := "<init>", desc := "(I)V" } : Jvm.MethodName) jdk_68_method_2_code (2 : Nat) (Option.none : Option Jvm.ClassFile.FieldType)).before args0 about1 = true := code_word (m := ⟨14, 1⟩) (meth := k14m1) (c := k14c1) (by decide +kernel) rfl rfl rfl (by decide +kernel)
set_option maxRecDepth 65536 in
theorem w_c7 : (Jvm.Cond.code ({ cls := "java/lang/StringBuilder", name := "append", desc := "(Ljava/lang/String;)Ljava/lang/StringBuilder;" } : Jvm.MethodName) jdk_67_method_7_code (2 : Nat) (Option.some (Jvm.ClassFile.FieldType.object "java/lang/StringBuilder"))).before args0 about1 = true := code_word (m := ⟨15, 1⟩) (meth := k15m1) (c := k15c1) (by decide +kernel) rfl rfl rfl (by decide +kernel)
set_option maxRecDepth 65536 in
theorem w_c8 : (Jvm.Cond.code ({ cls := "java/lang/AbstractStringBuilder", name := "append", desc := "(Ljava/lang/String;)Ljava/lang/AbstractStringBuilder;" } : Jvm.MethodName) jdk_68_method_22_code (3 : Nat) (Option.some (Jvm.ClassFile.FieldType.object "java/lang/AbstractStringBuilder"))).before args0 about1 = true := code_word (m := ⟨14, 5⟩) (meth := k14m5) (c := k14c5) (by decide +kernel) rfl rfl rfl (by decide +kernel)
set_option maxRecDepth 65536 in
theorem w_c9 : (Jvm.Cond.code ({ cls := "java/lang/String", name := "length", desc := "()I" } : Jvm.MethodName) jdk_42_method_54_code (1 : Nat) (Option.some Jvm.ClassFile.FieldType.int)).before args0 about1 = true := code_word (m := ⟨7, 3⟩) (meth := k7m3) (c := k7c3) (by decide +kernel) rfl rfl rfl (by decide +kernel)
set_option maxRecDepth 65536 in
theorem w_c10 : (Jvm.Cond.code ({ cls := "java/lang/String", name := "coder", desc := "()B" } : Jvm.MethodName) jdk_42_method_152_code (1 : Nat) (Option.some Jvm.ClassFile.FieldType.byte)).before args0 about1 = true := code_word (m := ⟨7, 9⟩) (meth := k7m9) (c := k7c9) (by decide +kernel) rfl rfl rfl (by decide +kernel)
set_option maxRecDepth 65536 in
theorem w_c11 : (Jvm.Cond.code ({ cls := "java/lang/AbstractStringBuilder", name := "ensureCapacityInternal", desc := "(I)V" } : Jvm.MethodName) jdk_68_method_9_code (3 : Nat) (Option.none : Option Jvm.ClassFile.FieldType)).before args0 about1 = true := code_word (m := ⟨14, 3⟩) (meth := k14m3) (c := k14c3) (by decide +kernel) rfl rfl rfl (by decide +kernel)
set_option maxRecDepth 65536 in
theorem w_c12 : (Jvm.Cond.code ({ cls := "java/lang/AbstractStringBuilder", name := "putStringAt", desc := "(ILjava/lang/String;)V" } : Jvm.MethodName) jdk_68_method_73_code (3 : Nat) (Option.none : Option Jvm.ClassFile.FieldType)).before args0 about1 = true := code_word (m := ⟨14, 11⟩) (meth := k14m11) (c := k14c11) (by decide +kernel) rfl rfl rfl (by decide +kernel)
set_option maxRecDepth 65536 in
theorem w_c13 : (Jvm.Cond.code ({ cls := "java/lang/AbstractStringBuilder", name := "inflateIfNeededFor", desc := "(Ljava/lang/String;)V" } : Jvm.MethodName) jdk_68_method_71_code (2 : Nat) (Option.none : Option Jvm.ClassFile.FieldType)).before args0 about1 = true := code_word (m := ⟨14, 10⟩) (meth := k14m10) (c := k14c10) (by decide +kernel) rfl rfl rfl (by decide +kernel)
set_option maxRecDepth 65536 in
theorem w_c14 : (Jvm.Cond.code ({ cls := "java/lang/String", name := "getBytes", desc := "([BIB)V" } : Jvm.MethodName) jdk_42_method_147_code (4 : Nat) (Option.none : Option Jvm.ClassFile.FieldType)).before args0 about1 = true := code_word (m := ⟨7, 5⟩) (meth := k7m5) (c := k7c5) (by decide +kernel) rfl rfl rfl (by decide +kernel)
set_option maxRecDepth 65536 in
theorem w_c15 : (Jvm.Cond.code ({ cls := "com/example/swapdeck/swapdeck/swap/CloseOutException", name := "quotations", desc := "(I)Ljava/lang/String;" } : Jvm.MethodName) prog_72_method_6_code (1 : Nat) (Option.some (Jvm.ClassFile.FieldType.object "java/lang/String"))).before args0 about1 = true := code_word (m := ⟨10, 4⟩) (meth := k10m4) (c := k10c4) (by decide +kernel) rfl rfl rfl (by decide +kernel)
set_option maxRecDepth 65536 in
theorem w_c16 : (Jvm.Cond.code ({ cls := "java/lang/StringBuilder", name := "append", desc := "(I)Ljava/lang/StringBuilder;" } : Jvm.MethodName) jdk_67_method_15_code (2 : Nat) (Option.some (Jvm.ClassFile.FieldType.object "java/lang/StringBuilder"))).before args0 about1 = true := code_word (m := ⟨15, 2⟩) (meth := k15m2) (c := k15c2) (by decide +kernel) rfl rfl rfl (by decide +kernel)
set_option maxRecDepth 65536 in
theorem w_c17 : (Jvm.Cond.code ({ cls := "java/lang/AbstractStringBuilder", name := "append", desc := "(I)Ljava/lang/AbstractStringBuilder;" } : Jvm.MethodName) jdk_68_method_32_code (4 : Nat) (Option.some (Jvm.ClassFile.FieldType.object "java/lang/AbstractStringBuilder"))).before args0 about1 = true := code_word (m := ⟨14, 7⟩) (meth := k14m7) (c := k14c7) (by decide +kernel) rfl rfl rfl (by decide +kernel)
set_option maxRecDepth 65536 in
theorem w_c18 : (Jvm.Cond.code ({ cls := "java/lang/Integer", name := "stringSize", desc := "(I)I" } : Jvm.MethodName) jdk_33_method_13_code (4 : Nat) (Option.some Jvm.ClassFile.FieldType.int)).before args0 about1 = true := code_word (m := ⟨18, 1⟩) (meth := k18m1) (c := k18c1) (by decide +kernel) rfl rfl rfl (by decide +kernel)
set_option maxRecDepth 65536 in
theorem w_c19 : (Jvm.Cond.code ({ cls := "java/lang/AbstractStringBuilder", name := "isLatin1", desc := "()Z" } : Jvm.MethodName) jdk_68_method_68_code (1 : Nat) (Option.some Jvm.ClassFile.FieldType.boolean)).before args0 about1 = true := code_word (m := ⟨14, 9⟩) (meth := k14m9) (c := k14c9) (by decide +kernel) rfl rfl rfl (by decide +kernel)
set_option maxRecDepth 65536 in
theorem w_c20 : (Jvm.Cond.code ({ cls := "java/lang/Integer", name := "getChars", desc := "(II[B)I" } : Jvm.MethodName) jdk_33_method_12_code (7 : Nat) (Option.some Jvm.ClassFile.FieldType.int)).before args0 about1 = true := code_word (m := ⟨18, 0⟩) (meth := k18m0) (c := k18c0) (by decide +kernel) rfl rfl rfl (by decide +kernel)
set_option maxRecDepth 65536 in
theorem w_c21 : (Jvm.Cond.code ({ cls := "java/lang/StringBuilder", name := "toString", desc := "()Ljava/lang/String;" } : Jvm.MethodName) jdk_67_method_42_code (1 : Nat) (Option.some (Jvm.ClassFile.FieldType.object "java/lang/String"))).before args0 about1 = true := code_word (m := ⟨15, 3⟩) (meth := k15m3) (c := k15c3) (by decide +kernel) rfl rfl rfl (by decide +kernel)
set_option maxRecDepth 65536 in
theorem w_c22 : (Jvm.Cond.code ({ cls := "java/lang/String", name := "<init>", desc := "(Ljava/lang/StringBuilder;)V" } : Jvm.MethodName) jdk_42_method_53_code (2 : Nat) (Option.none : Option Jvm.ClassFile.FieldType)).before args0 about1 = true := code_word (m := ⟨7, 2⟩) (meth := k7m2) (c := k7c2) (by decide +kernel) rfl rfl rfl (by decide +kernel)
set_option maxRecDepth 65536 in
theorem w_c23 : (Jvm.Cond.code ({ cls := "java/lang/String", name := "<init>", desc := "(Ljava/lang/AbstractStringBuilder;Ljava/lang/Void;)V" } : Jvm.MethodName) jdk_42_method_150_code (5 : Nat) (Option.none : Option Jvm.ClassFile.FieldType)).before args0 about1 = true := code_word (m := ⟨7, 7⟩) (meth := k7m7) (c := k7c7) (by decide +kernel) rfl rfl rfl (by decide +kernel)
set_option maxRecDepth 65536 in
theorem w_c24 : (Jvm.Cond.code ({ cls := "java/lang/AbstractStringBuilder", name := "getValue", desc := "()[B" } : Jvm.MethodName) jdk_68_method_64_code (1 : Nat) (Option.some (Jvm.ClassFile.FieldType.array Jvm.ClassFile.FieldType.byte))).before args0 about1 = true := code_word (m := ⟨14, 8⟩) (meth := k14m8) (c := k14c8) (by decide +kernel) rfl rfl rfl (by decide +kernel)
set_option maxRecDepth 65536 in
theorem w_c25 : (Jvm.Cond.code ({ cls := "java/lang/StringBuilder", name := "length", desc := "()I" } : Jvm.MethodName) jdk_67_method_93_code (1 : Nat) (Option.some Jvm.ClassFile.FieldType.int)).before args0 about1 = true := code_word (m := ⟨15, 4⟩) (meth := k15m4) (c := k15c4) (by decide +kernel) rfl rfl rfl (by decide +kernel)
set_option maxRecDepth 65536 in
theorem w_c26 : (Jvm.Cond.code ({ cls := "java/lang/AbstractStringBuilder", name := "length", desc := "()I" } : Jvm.MethodName) jdk_68_method_6_code (1 : Nat) (Option.some Jvm.ClassFile.FieldType.int)).before args0 about1 = true := code_word (m := ⟨14, 2⟩) (meth := k14m2) (c := k14c2) (by decide +kernel) rfl rfl rfl (by decide +kernel)
set_option maxRecDepth 65536 in
theorem w_c27 : (Jvm.Cond.code ({ cls := "java/util/Arrays", name := "copyOfRange", desc := "([BII)[B" } : Jvm.MethodName) jdk_65_method_132_code (3 : Nat) (Option.some (Jvm.ClassFile.FieldType.array Jvm.ClassFile.FieldType.byte))).before args0 about1 = true := code_word (m := ⟨19, 3⟩) (meth := k19m3) (c := k19c3) (by decide +kernel) rfl rfl rfl (by decide +kernel)
set_option maxRecDepth 65536 in
theorem w_c28 : (Jvm.Cond.code ({ cls := "java/util/Arrays", name := "copyOfRangeByte", desc := "([BII)[B" } : Jvm.MethodName) jdk_65_method_133_code (5 : Nat) (Option.some (Jvm.ClassFile.FieldType.array Jvm.ClassFile.FieldType.byte))).before args0 about1 = true := code_word (m := ⟨19, 4⟩) (meth := k19m4) (c := k19c4) (by decide +kernel) rfl rfl rfl (by decide +kernel)
set_option maxRecDepth 65536 in
theorem w_c29 : (Jvm.Cond.code ({ cls := "java/util/Arrays", name := "checkLength", desc := "(II)V" } : Jvm.MethodName) jdk_65_method_131_code (2 : Nat) (Option.none : Option Jvm.ClassFile.FieldType)).before args0 about1 = true := code_word (m := ⟨19, 2⟩) (meth := k19m2) (c := k19c2) (by decide +kernel) rfl rfl rfl (by decide +kernel)
set_option maxRecDepth 65536 in
theorem w_c30 : (Jvm.Cond.code ({ cls := "java/lang/Math", name := "min", desc := "(II)I" } : Jvm.MethodName) jdk_29_method_69_code (2 : Nat) (Option.some Jvm.ClassFile.FieldType.int)).before args0 about1 = true := code_word (m := ⟨20, 2⟩) (meth := k20m2) (c := k20c2) (by decide +kernel) rfl rfl rfl (by decide +kernel)
set_option maxRecDepth 65536 in
theorem w_c31 : (Jvm.Cond.code ({ cls := "java/lang/AbstractStringBuilder", name := "newCapacity", desc := "(I)I" } : Jvm.MethodName) jdk_68_method_10_code (6 : Nat) (Option.some Jvm.ClassFile.FieldType.int)).before args0 about1 = true := code_word (m := ⟨14, 4⟩) (meth := k14m4) (c := k14c4) (by decide +kernel) rfl rfl rfl (by decide +kernel)
set_option maxRecDepth 65536 in
theorem w_c32 : (Jvm.Cond.code ({ cls := "jdk/internal/util/ArraysSupport", name := "newLength", desc := "(III)I" } : Jvm.MethodName) jdk_48_method_27_code (4 : Nat) (Option.some Jvm.ClassFile.FieldType.int)).before args0 about1 = true := code_word (m := ⟨21, 1⟩) (meth := k21m1) (c := k21c1) (by decide +kernel) rfl rfl rfl (by decide +kernel)
set_option maxRecDepth 65536 in
theorem w_c33 : (Jvm.Cond.code ({ cls := "java/lang/Math", name := "max", desc := "(II)I" } : Jvm.MethodName) jdk_29_method_65_code (2 : Nat) (Option.some Jvm.ClassFile.FieldType.int)).before args0 about1 = true := code_word (m := ⟨20, 1⟩) (meth := k20m1) (c := k20c1) (by decide +kernel) rfl rfl rfl (by decide +kernel)
set_option maxRecDepth 65536 in
theorem w_c34 : (Jvm.Cond.code ({ cls := "java/util/Arrays", name := "copyOf", desc := "([BI)[B" } : Jvm.MethodName) jdk_65_method_121_code (3 : Nat) (Option.some (Jvm.ClassFile.FieldType.array Jvm.ClassFile.FieldType.byte))).before args0 about1 = true := code_word (m := ⟨19, 1⟩) (meth := k19m1) (c := k19c1) (by decide +kernel) rfl rfl rfl (by decide +kernel)
set_option maxRecDepth 65536 in
theorem w_c35 : (Jvm.Cond.code ({ cls := "com/example/swapdeck/swapdeck/swap/CloseOutException", name := "<init>", desc := "(Ljava/lang/String;Lcom/example/swapdeck/swapdeck/swap/CloseOutException$Input;Ljava/lang/String;)V" } : Jvm.MethodName) prog_72_method_1_code (4 : Nat) (Option.none : Option Jvm.ClassFile.FieldType)).before args0 about1 = true := code_word (m := ⟨10, 0⟩) (meth := k10m0) (c := k10c0) (by decide +kernel) rfl rfl rfl (by decide +kernel)
set_option maxRecDepth 65536 in
theorem w_c36 : (Jvm.Cond.code ({ cls := "java/lang/Exception", name := "<init>", desc := "(Ljava/lang/String;)V" } : Jvm.MethodName) jdk_59_method_2_code (2 : Nat) (Option.none : Option Jvm.ClassFile.FieldType)).before args0 about1 = true := code_word (m := ⟨9, 1⟩) (meth := k9m1) (c := k9c1) (by decide +kernel) rfl rfl rfl (by decide +kernel)
set_option maxRecDepth 65536 in
theorem w_c37 : (Jvm.Cond.code ({ cls := "java/lang/Throwable", name := "<init>", desc := "(Ljava/lang/String;)V" } : Jvm.MethodName) jdk_78_method_2_code (2 : Nat) (Option.none : Option Jvm.ClassFile.FieldType)).before args0 about1 = true := code_word (m := ⟨8, 1⟩) (meth := k8m1) (c := k8c1) (by decide +kernel) rfl rfl rfl (by decide +kernel)
set_option maxRecDepth 65536 in
theorem w_c38 : (Jvm.Cond.code ({ cls := "java/lang/Throwable", name := "<init>", desc := "()V" } : Jvm.MethodName) jdk_78_method_1_code (1 : Nat) (Option.none : Option Jvm.ClassFile.FieldType)).before args0 about1 = true := code_word (m := ⟨8, 0⟩) (meth := k8m0) (c := k8c0) (by decide +kernel) rfl rfl rfl (by decide +kernel)
set_option maxRecDepth 65536 in
theorem w_c39 : (Jvm.Cond.code ({ cls := "com/example/swapdeck/swapdeck/swap/CloseOutException", name := "trade", desc := "()Ljava/lang/String;" } : Jvm.MethodName) prog_72_method_4_code (1 : Nat) (Option.some (Jvm.ClassFile.FieldType.object "java/lang/String"))).before args0 about1 = true := code_word (m := ⟨10, 2⟩) (meth := k10m2) (c := k10c2) (by decide +kernel) rfl rfl rfl (by decide +kernel)
set_option maxRecDepth 65536 in
theorem w_c40 : (Jvm.Cond.code ({ cls := "com/example/swapdeck/swapdeck/swap/CloseOutException", name := "input", desc := "()Lcom/example/swapdeck/swapdeck/swap/CloseOutException$Input;" } : Jvm.MethodName) prog_72_method_5_code (1 : Nat) (Option.some (Jvm.ClassFile.FieldType.object "com/example/swapdeck/swapdeck/swap/CloseOutException$Input"))).before args0 about1 = true := code_word (m := ⟨10, 3⟩) (meth := k10m3) (c := k10c3) (by decide +kernel) rfl rfl rfl (by decide +kernel)
set_option maxRecDepth 65536 in
theorem w_c41 : (Jvm.Cond.code ({ cls := "java/lang/String", name := "valueOf", desc := "(C)Ljava/lang/String;" } : Jvm.MethodName) jdk_42_method_139_code (1 : Nat) (Option.some (Jvm.ClassFile.FieldType.object "java/lang/String"))).before args0 about1 = true := code_word (m := ⟨7, 4⟩) (meth := k7m4) (c := k7c4) (by decide +kernel) rfl rfl rfl (by decide +kernel)
set_option maxRecDepth 65536 in
theorem w_c42 : (Jvm.Cond.code ({ cls := "java/lang/StringLatin1", name := "canEncode", desc := "(C)Z" } : Jvm.MethodName) jdk_43_method_3_code (1 : Nat) (Option.some Jvm.ClassFile.FieldType.boolean)).before args0 about1 = true := code_word (m := ⟨23, 1⟩) (meth := k23m1) (c := k23c1) (by decide +kernel) rfl rfl rfl (by decide +kernel)
set_option maxRecDepth 65536 in
theorem w_c43 : (Jvm.Cond.code ({ cls := "java/lang/StringLatin1", name := "toBytes", desc := "(C)[B" } : Jvm.MethodName) jdk_43_method_46_code (1 : Nat) (Option.some (Jvm.ClassFile.FieldType.array Jvm.ClassFile.FieldType.byte))).before args0 about1 = true := code_word (m := ⟨23, 2⟩) (meth := k23m2) (c := k23c2) (by decide +kernel) rfl rfl rfl (by decide +kernel)
set_option maxRecDepth 65536 in
theorem w_c44 : (Jvm.Cond.code ({ cls := "java/lang/String", name := "<init>", desc := "([BB)V" } : Jvm.MethodName) jdk_42_method_151_code (3 : Nat) (Option.none : Option Jvm.ClassFile.FieldType)).before args0 about1 = true := code_word (m := ⟨7, 8⟩) (meth := k7m8) (c := k7c8) (by decide +kernel) rfl rfl rfl (by decide +kernel)
set_option maxRecDepth 65536 in
theorem w_c45 : (Jvm.Cond.code ({ cls := "java/lang/AbstractStringBuilder", name := "appendNull", desc := "()Ljava/lang/AbstractStringBuilder;" } : Jvm.MethodName) jdk_68_method_26_code (3 : Nat) (Option.some (Jvm.ClassFile.FieldType.object "java/lang/AbstractStringBuilder"))).before args0 about1 = true := code_word (m := ⟨14, 6⟩) (meth := k14m6) (c := k14c6) (by decide +kernel) rfl rfl rfl (by decide +kernel)
set_option maxRecDepth 65536 in
theorem w_c46 : (Jvm.Cond.code ({ cls := "java/lang/StringUTF16", name := "compress", desc := "([CII)[B" } : Jvm.MethodName) jdk_52_method_16_code (6 : Nat) (Option.some (Jvm.ClassFile.FieldType.array Jvm.ClassFile.FieldType.byte))).before args0 about1 = true := code_word (m := ⟨24, 2⟩) (meth := k24m2) (c := k24c2) (by decide +kernel) rfl rfl rfl (by decide +kernel)
set_option maxRecDepth 65536 in
theorem w_c47 : (Jvm.Cond.code ({ cls := "java/lang/StringUTF16", name := "compress", desc := "([CI[BII)I" } : Jvm.MethodName) jdk_52_method_21_code (7 : Nat) (Option.some Jvm.ClassFile.FieldType.int)).before args0 about1 = true := code_word (m := ⟨24, 3⟩) (meth := k24m3) (c := k24c3) (by decide +kernel) rfl rfl rfl (by decide +kernel)
set_option maxRecDepth 65536 in
theorem w_c48 : (Jvm.Cond.code ({ cls := "java/lang/StringUTF16", name := "coderFromArrayLen", desc := "([BI)B" } : Jvm.MethodName) jdk_52_method_15_code (2 : Nat) (Option.some Jvm.ClassFile.FieldType.byte)).before args0 about1 = true := code_word (m := ⟨24, 1⟩) (meth := k24m1) (c := k24c1) (by decide +kernel) rfl rfl rfl (by decide +kernel)
def codes1 : List Jvm.Cond := [Jvm.Cond.code x code maxLocals ret, Jvm.Cond.code ({ cls := "java/lang/String", name := "<init>", desc := "([C)V" } : Jvm.MethodName) jdk_42_method_3_code (2 : Nat) (Option.none : Option Jvm.ClassFile.FieldType), Jvm.Cond.code ({ cls := "java/lang/String", name := "<init>", desc := "([CIILjava/lang/Void;)V" } : Jvm.MethodName) jdk_42_method_149_code (6 : Nat) (Option.none : Option Jvm.ClassFile.FieldType), Jvm.Cond.code ({ cls := "java/lang/Object", name := "<init>", desc := "()V" } : Jvm.MethodName) object_method_1_code (1 : Nat) (Option.none : Option Jvm.ClassFile.FieldType), Jvm.Cond.code ({ cls := "com/example/swapdeck/swapdeck/swap/CloseOutException", name := "noLoss", desc := "(Ljava/lang/String;I)Lcom/example/swapdeck/swapdeck/swap/CloseOutException;" } : Jvm.MethodName) prog_72_method_2_code (2 : Nat) (Option.some (Jvm.ClassFile.FieldType.object "com/example/swapdeck/swapdeck/swap/CloseOutException")), Jvm.Cond.code ({ cls := "java/lang/StringBuilder", name := "<init>", desc := "()V" } : Jvm.MethodName) jdk_67_method_1_code (1 : Nat) (Option.none : Option Jvm.ClassFile.FieldType), Jvm.Cond.code ({ cls := "java/lang/AbstractStringBuilder", name := "<init>", desc := "(I)V" } : Jvm.MethodName) jdk_68_method_2_code (2 : Nat) (Option.none : Option Jvm.ClassFile.FieldType), Jvm.Cond.code ({ cls := "java/lang/StringBuilder", name := "append", desc := "(Ljava/lang/String;)Ljava/lang/StringBuilder;" } : Jvm.MethodName) jdk_67_method_7_code (2 : Nat) (Option.some (Jvm.ClassFile.FieldType.object "java/lang/StringBuilder")), Jvm.Cond.code ({ cls := "java/lang/AbstractStringBuilder", name := "append", desc := "(Ljava/lang/String;)Ljava/lang/AbstractStringBuilder;" } : Jvm.MethodName) jdk_68_method_22_code (3 : Nat) (Option.some (Jvm.ClassFile.FieldType.object "java/lang/AbstractStringBuilder")), Jvm.Cond.code ({ cls := "java/lang/String", name := "length", desc := "()I" } : Jvm.MethodName) jdk_42_method_54_code (1 : Nat) (Option.some Jvm.ClassFile.FieldType.int), Jvm.Cond.code ({ cls := "java/lang/String", name := "coder", desc := "()B" } : Jvm.MethodName) jdk_42_method_152_code (1 : Nat) (Option.some Jvm.ClassFile.FieldType.byte), Jvm.Cond.code ({ cls := "java/lang/AbstractStringBuilder", name := "ensureCapacityInternal", desc := "(I)V" } : Jvm.MethodName) jdk_68_method_9_code (3 : Nat) (Option.none : Option Jvm.ClassFile.FieldType), Jvm.Cond.code ({ cls := "java/lang/AbstractStringBuilder", name := "putStringAt", desc := "(ILjava/lang/String;)V" } : Jvm.MethodName) jdk_68_method_73_code (3 : Nat) (Option.none : Option Jvm.ClassFile.FieldType), Jvm.Cond.code ({ cls := "java/lang/AbstractStringBuilder", name := "inflateIfNeededFor", desc := "(Ljava/lang/String;)V" } : Jvm.MethodName) jdk_68_method_71_code (2 : Nat) (Option.none : Option Jvm.ClassFile.FieldType), Jvm.Cond.code ({ cls := "java/lang/String", name := "getBytes", desc := "([BIB)V" } : Jvm.MethodName) jdk_42_method_147_code (4 : Nat) (Option.none : Option Jvm.ClassFile.FieldType), Jvm.Cond.code ({ cls := "com/example/swapdeck/swapdeck/swap/CloseOutException", name := "quotations", desc := "(I)Ljava/lang/String;" } : Jvm.MethodName) prog_72_method_6_code (1 : Nat) (Option.some (Jvm.ClassFile.FieldType.object "java/lang/String")), Jvm.Cond.code ({ cls := "java/lang/StringBuilder", name := "append", desc := "(I)Ljava/lang/StringBuilder;" } : Jvm.MethodName) jdk_67_method_15_code (2 : Nat) (Option.some (Jvm.ClassFile.FieldType.object "java/lang/StringBuilder")), Jvm.Cond.code ({ cls := "java/lang/AbstractStringBuilder", name := "append", desc := "(I)Ljava/lang/AbstractStringBuilder;" } : Jvm.MethodName) jdk_68_method_32_code (4 : Nat) (Option.some (Jvm.ClassFile.FieldType.object "java/lang/AbstractStringBuilder")), Jvm.Cond.code ({ cls := "java/lang/Integer", name := "stringSize", desc := "(I)I" } : Jvm.MethodName) jdk_33_method_13_code (4 : Nat) (Option.some Jvm.ClassFile.FieldType.int), Jvm.Cond.code ({ cls := "java/lang/AbstractStringBuilder", name := "isLatin1", desc := "()Z" } : Jvm.MethodName) jdk_68_method_68_code (1 : Nat) (Option.some Jvm.ClassFile.FieldType.boolean), Jvm.Cond.code ({ cls := "java/lang/Integer", name := "getChars", desc := "(II[B)I" } : Jvm.MethodName) jdk_33_method_12_code (7 : Nat) (Option.some Jvm.ClassFile.FieldType.int), Jvm.Cond.code ({ cls := "java/lang/StringBuilder", name := "toString", desc := "()Ljava/lang/String;" } : Jvm.MethodName) jdk_67_method_42_code (1 : Nat) (Option.some (Jvm.ClassFile.FieldType.object "java/lang/String")), Jvm.Cond.code ({ cls := "java/lang/String", name := "<init>", desc := "(Ljava/lang/StringBuilder;)V" } : Jvm.MethodName) jdk_42_method_53_code (2 : Nat) (Option.none : Option Jvm.ClassFile.FieldType), Jvm.Cond.code ({ cls := "java/lang/String", name := "<init>", desc := "(Ljava/lang/AbstractStringBuilder;Ljava/lang/Void;)V" } : Jvm.MethodName) jdk_42_method_150_code (5 : Nat) (Option.none : Option Jvm.ClassFile.FieldType), Jvm.Cond.code ({ cls := "java/lang/AbstractStringBuilder", name := "getValue", desc := "()[B" } : Jvm.MethodName) jdk_68_method_64_code (1 : Nat) (Option.some (Jvm.ClassFile.FieldType.array Jvm.ClassFile.FieldType.byte)), Jvm.Cond.code ({ cls := "java/lang/StringBuilder", name := "length", desc := "()I" } : Jvm.MethodName) jdk_67_method_93_code (1 : Nat) (Option.some Jvm.ClassFile.FieldType.int), Jvm.Cond.code ({ cls := "java/lang/AbstractStringBuilder", name := "length", desc := "()I" } : Jvm.MethodName) jdk_68_method_6_code (1 : Nat) (Option.some Jvm.ClassFile.FieldType.int), Jvm.Cond.code ({ cls := "java/util/Arrays", name := "copyOfRange", desc := "([BII)[B" } : Jvm.MethodName) jdk_65_method_132_code (3 : Nat) (Option.some (Jvm.ClassFile.FieldType.array Jvm.ClassFile.FieldType.byte)), Jvm.Cond.code ({ cls := "java/util/Arrays", name := "copyOfRangeByte", desc := "([BII)[B" } : Jvm.MethodName) jdk_65_method_133_code (5 : Nat) (Option.some (Jvm.ClassFile.FieldType.array Jvm.ClassFile.FieldType.byte)), Jvm.Cond.code ({ cls := "java/util/Arrays", name := "checkLength", desc := "(II)V" } : Jvm.MethodName) jdk_65_method_131_code (2 : Nat) (Option.none : Option Jvm.ClassFile.FieldType), Jvm.Cond.code ({ cls := "java/lang/Math", name := "min", desc := "(II)I" } : Jvm.MethodName) jdk_29_method_69_code (2 : Nat) (Option.some Jvm.ClassFile.FieldType.int), Jvm.Cond.code ({ cls := "java/lang/AbstractStringBuilder", name := "newCapacity", desc := "(I)I" } : Jvm.MethodName) jdk_68_method_10_code (6 : Nat) (Option.some Jvm.ClassFile.FieldType.int), Jvm.Cond.code ({ cls := "jdk/internal/util/ArraysSupport", name := "newLength", desc := "(III)I" } : Jvm.MethodName) jdk_48_method_27_code (4 : Nat) (Option.some Jvm.ClassFile.FieldType.int), Jvm.Cond.code ({ cls := "java/lang/Math", name := "max", desc := "(II)I" } : Jvm.MethodName) jdk_29_method_65_code (2 : Nat) (Option.some Jvm.ClassFile.FieldType.int), Jvm.Cond.code ({ cls := "java/util/Arrays", name := "copyOf", desc := "([BI)[B" } : Jvm.MethodName) jdk_65_method_121_code (3 : Nat) (Option.some (Jvm.ClassFile.FieldType.array Jvm.ClassFile.FieldType.byte)), Jvm.Cond.code ({ cls := "com/example/swapdeck/swapdeck/swap/CloseOutException", name := "<init>", desc := "(Ljava/lang/String;Lcom/example/swapdeck/swapdeck/swap/CloseOutException$Input;Ljava/lang/String;)V" } : Jvm.MethodName) prog_72_method_1_code (4 : Nat) (Option.none : Option Jvm.ClassFile.FieldType), Jvm.Cond.code ({ cls := "java/lang/Exception", name := "<init>", desc := "(Ljava/lang/String;)V" } : Jvm.MethodName) jdk_59_method_2_code (2 : Nat) (Option.none : Option Jvm.ClassFile.FieldType), Jvm.Cond.code ({ cls := "java/lang/Throwable", name := "<init>", desc := "(Ljava/lang/String;)V" } : Jvm.MethodName) jdk_78_method_2_code (2 : Nat) (Option.none : Option Jvm.ClassFile.FieldType), Jvm.Cond.code ({ cls := "java/lang/Throwable", name := "<init>", desc := "()V" } : Jvm.MethodName) jdk_78_method_1_code (1 : Nat) (Option.none : Option Jvm.ClassFile.FieldType), Jvm.Cond.code ({ cls := "com/example/swapdeck/swapdeck/swap/CloseOutException", name := "trade", desc := "()Ljava/lang/String;" } : Jvm.MethodName) prog_72_method_4_code (1 : Nat) (Option.some (Jvm.ClassFile.FieldType.object "java/lang/String")), Jvm.Cond.code ({ cls := "com/example/swapdeck/swapdeck/swap/CloseOutException", name := "input", desc := "()Lcom/example/swapdeck/swapdeck/swap/CloseOutException$Input;" } : Jvm.MethodName) prog_72_method_5_code (1 : Nat) (Option.some (Jvm.ClassFile.FieldType.object "com/example/swapdeck/swapdeck/swap/CloseOutException$Input")), Jvm.Cond.code ({ cls := "java/lang/String", name := "valueOf", desc := "(C)Ljava/lang/String;" } : Jvm.MethodName) jdk_42_method_139_code (1 : Nat) (Option.some (Jvm.ClassFile.FieldType.object "java/lang/String")), Jvm.Cond.code ({ cls := "java/lang/StringLatin1", name := "canEncode", desc := "(C)Z" } : Jvm.MethodName) jdk_43_method_3_code (1 : Nat) (Option.some Jvm.ClassFile.FieldType.boolean), Jvm.Cond.code ({ cls := "java/lang/StringLatin1", name := "toBytes", desc := "(C)[B" } : Jvm.MethodName) jdk_43_method_46_code (1 : Nat) (Option.some (Jvm.ClassFile.FieldType.array Jvm.ClassFile.FieldType.byte)), Jvm.Cond.code ({ cls := "java/lang/String", name := "<init>", desc := "([BB)V" } : Jvm.MethodName) jdk_42_method_151_code (3 : Nat) (Option.none : Option Jvm.ClassFile.FieldType), Jvm.Cond.code ({ cls := "java/lang/AbstractStringBuilder", name := "appendNull", desc := "()Ljava/lang/AbstractStringBuilder;" } : Jvm.MethodName) jdk_68_method_26_code (3 : Nat) (Option.some (Jvm.ClassFile.FieldType.object "java/lang/AbstractStringBuilder")), Jvm.Cond.code ({ cls := "java/lang/StringUTF16", name := "compress", desc := "([CII)[B" } : Jvm.MethodName) jdk_52_method_16_code (6 : Nat) (Option.some (Jvm.ClassFile.FieldType.array Jvm.ClassFile.FieldType.byte)), Jvm.Cond.code ({ cls := "java/lang/StringUTF16", name := "compress", desc := "([CI[BII)I" } : Jvm.MethodName) jdk_52_method_21_code (7 : Nat) (Option.some Jvm.ClassFile.FieldType.int), Jvm.Cond.code ({ cls := "java/lang/StringUTF16", name := "coderFromArrayLen", desc := "([BI)B" } : Jvm.MethodName) jdk_52_method_15_code (2 : Nat) (Option.some Jvm.ClassFile.FieldType.byte)]
set_option maxRecDepth 65536 in
theorem codes_eq : words1.filter isCode = codes1 := rfl
theorem w_codes : ∀ c ∈ words1.filter isCode, c.before args0 about1 = true := by
  rw [codes_eq]
  intro c hc
  simp only [codes1, List.mem_cons, List.not_mem_nil, or_false] at hc
  rcases hc with rfl | rfl | rfl | rfl | rfl | rfl | rfl | rfl | rfl | rfl | rfl | rfl | rfl | rfl | rfl | rfl | rfl | rfl | rfl | rfl | rfl | rfl | rfl | rfl | rfl | rfl | rfl | rfl | rfl | rfl | rfl | rfl | rfl | rfl | rfl | rfl | rfl | rfl | rfl | rfl | rfl | rfl | rfl | rfl | rfl | rfl | rfl | rfl | rfl
  · exact w_c0
  · exact w_c1
  · exact w_c2
  · exact w_c3
  · exact w_c4
  · exact w_c5
  · exact w_c6
  · exact w_c7
  · exact w_c8
  · exact w_c9
  · exact w_c10
  · exact w_c11
  · exact w_c12
  · exact w_c13
  · exact w_c14
  · exact w_c15
  · exact w_c16
  · exact w_c17
  · exact w_c18
  · exact w_c19
  · exact w_c20
  · exact w_c21
  · exact w_c22
  · exact w_c23
  · exact w_c24
  · exact w_c25
  · exact w_c26
  · exact w_c27
  · exact w_c28
  · exact w_c29
  · exact w_c30
  · exact w_c31
  · exact w_c32
  · exact w_c33
  · exact w_c34
  · exact w_c35
  · exact w_c36
  · exact w_c37
  · exact w_c38
  · exact w_c39
  · exact w_c40
  · exact w_c41
  · exact w_c42
  · exact w_c43
  · exact w_c44
  · exact w_c45
  · exact w_c46
  · exact w_c47
  · exact w_c48
set_option maxRecDepth 65536 in
theorem w_t1 : (words1.take 24).all (fun c => isCode c || c.before args0 about1) = true := by decide +kernel
set_option maxRecDepth 65536 in
theorem w_t2 : ((words1.drop 24).take 24).all (fun c => isCode c || c.before args0 about1) = true := by decide +kernel
set_option maxRecDepth 65536 in
theorem w_t3 : (((words1.drop 24).drop 24).take 24).all (fun c => isCode c || c.before args0 about1) = true := by decide +kernel
set_option maxRecDepth 65536 in
theorem w_t4 : ((((words1.drop 24).drop 24).drop 24).take 24).all (fun c => isCode c || c.before args0 about1) = true := by decide +kernel
set_option maxRecDepth 65536 in
theorem w_t5 : (((((words1.drop 24).drop 24).drop 24).drop 24).take 24).all (fun c => isCode c || c.before args0 about1) = true := by decide +kernel
set_option maxRecDepth 65536 in
theorem w_t6 : ((((((words1.drop 24).drop 24).drop 24).drop 24).drop 24).take 24).all (fun c => isCode c || c.before args0 about1) = true := by decide +kernel
set_option maxRecDepth 65536 in
theorem w_t7 : (((((((words1.drop 24).drop 24).drop 24).drop 24).drop 24).drop 24).take 24).all (fun c => isCode c || c.before args0 about1) = true := by decide +kernel
set_option maxRecDepth 65536 in
theorem w_t8 : ((((((((words1.drop 24).drop 24).drop 24).drop 24).drop 24).drop 24).drop 24).take 24).all (fun c => isCode c || c.before args0 about1) = true := by decide +kernel
set_option maxRecDepth 65536 in
theorem w_t9 : (((((((((words1.drop 24).drop 24).drop 24).drop 24).drop 24).drop 24).drop 24).drop 24).take 24).all (fun c => isCode c || c.before args0 about1) = true := by decide +kernel
set_option maxRecDepth 65536 in
theorem w_t10 : ((((((((((words1.drop 24).drop 24).drop 24).drop 24).drop 24).drop 24).drop 24).drop 24).drop 24).take 24).all (fun c => isCode c || c.before args0 about1) = true := by decide +kernel
set_option maxRecDepth 65536 in
theorem w_t11 : (((((((((((words1.drop 24).drop 24).drop 24).drop 24).drop 24).drop 24).drop 24).drop 24).drop 24).drop 24).take 24).all (fun c => isCode c || c.before args0 about1) = true := by decide +kernel
set_option maxRecDepth 65536 in
theorem w_t12 : ((((((((((((words1.drop 24).drop 24).drop 24).drop 24).drop 24).drop 24).drop 24).drop 24).drop 24).drop 24).drop 24).take 24).all (fun c => isCode c || c.before args0 about1) = true := by decide +kernel
set_option maxRecDepth 65536 in
theorem w_t13 : ((((((((((((words1.drop 24).drop 24).drop 24).drop 24).drop 24).drop 24).drop 24).drop 24).drop 24).drop 24).drop 24).drop 24).all (fun c => isCode c || c.before args0 about1) = true := by decide +kernel
theorem w_tables : (allAtoms (Jvm.Cond.code x code maxLocals ret :: tables_1)).before args0 about1 = true := by
  rw [allAtoms_all]
  show words1.all (fun c => c.before args0 about1) = true
  refine all_split ?_ w_codes
  rw [← List.take_append_drop 24 words1, List.all_append, w_t1, ← List.take_append_drop 24 (words1.drop 24), List.all_append, w_t2, ← List.take_append_drop 24 ((words1.drop 24).drop 24), List.all_append, w_t3, ← List.take_append_drop 24 (((words1.drop 24).drop 24).drop 24), List.all_append, w_t4, ← List.take_append_drop 24 ((((words1.drop 24).drop 24).drop 24).drop 24), List.all_append, w_t5, ← List.take_append_drop 24 (((((words1.drop 24).drop 24).drop 24).drop 24).drop 24), List.all_append, w_t6, ← List.take_append_drop 24 ((((((words1.drop 24).drop 24).drop 24).drop 24).drop 24).drop 24), List.all_append, w_t7, ← List.take_append_drop 24 (((((((words1.drop 24).drop 24).drop 24).drop 24).drop 24).drop 24).drop 24), List.all_append, w_t8, ← List.take_append_drop 24 ((((((((words1.drop 24).drop 24).drop 24).drop 24).drop 24).drop 24).drop 24).drop 24), List.all_append, w_t9, ← List.take_append_drop 24 (((((((((words1.drop 24).drop 24).drop 24).drop 24).drop 24).drop 24).drop 24).drop 24).drop 24), List.all_append, w_t10, ← List.take_append_drop 24 ((((((((((words1.drop 24).drop 24).drop 24).drop 24).drop 24).drop 24).drop 24).drop 24).drop 24).drop 24), List.all_append, w_t11, ← List.take_append_drop 24 (((((((((((words1.drop 24).drop 24).drop 24).drop 24).drop 24).drop 24).drop 24).drop 24).drop 24).drop 24).drop 24), List.all_append, w_t12, w_t13]
  rfl
set_option maxRecDepth 65536 in
theorem w_rest : rest_1_c.before args0 about1 = true := by decide +kernel
set_option maxRecDepth 65536 in
theorem w_case : (Jvm.Cond.and given_1 narrow_1).before args0 about1 = true := by decide +kernel
set_option maxRecDepth 65536 in
theorem w_consts : constsHeld consts_1 about1 := Jvm.Lit.constsHeldB_iff.mp (by decide +kernel)
theorem w_applies : (headSpec (Jvm.Cond.code x code maxLocals ret :: tables_1) room_1).applies x e0.platform about1 = true :=
  (Spec.applies_iff w_frames).mpr ⟨w_running, w_runnable, w_alone, w_named, w_hears, w_ripe, w_room, w_tables⟩
theorem atStart : AtStart classFile x code maxLocals ret World_1 tables_1 room_1 Calls_1 rest_1 Pre_1 launch0 p0 e0 about1 theMethod args0 below0 :=
  ⟨lists_1, trivial, launch0.admits_env _ _ _, launch0.least_env, fairChoices_fair.cas, fairChoices_fair.clock, w_frames, w_args, w_heap, w_applies, ⟨(by decide +kernel : framesKnown about1 = true), ⟨(by decide +kernel : tablesKnown about1 = true), ⟨w_consts, trivial⟩⟩⟩, w_rest, w_case⟩
end start1
theorem witness_1 : WitnessClaimed_1 := ⟨start1.p0, start1.e0, start1.about1, start1.theMethod, start1.args0, start1.below0, start1.atStart⟩
end Jvm.Pilot.@@N@@
